import JvmDerived
import JvmDerived.Pilot.@@N@@Statement
import JvmDerived.Pilot.@@N@@Code
@@BLOCK:TracedD.lean.txt@@
set_option linter.unusedVariables false
set_option linter.unusedSimpArgs false
set_option maxRecDepth 65536
set_option maxHeartbeats 40000000
namespace Jvm.Pilot.@@N@@
open Jvm Jvm.ClassFile Sem Op Lib Jvm.Free Jvm.Stand Jvm.LawKit Jvm.RoadKit Bundle Jvm.Pilot.@@N@@.Jvm.D
section Own
variable {p : Program} {l : Launch} {e : Env} {R : Room} {s : State} {m : MethodId} {args : Array Value} {below : List Frame} {meth : Method} {c : Code} {T T' : State} {locs : List Loc} {cells slots C N : Nat} {Z : State} {h h' : Heap} {n0 : Nat}
/-- from the frame g over T the run comes to a state of which P holds -/
def own_Rch (p : Program) (e : Env) (below : List Frame) (P : State → Prop) (T : State) (g : JFrame) : Prop := ∃ U, Steps p.tables e below (T.setTop g) U ∧ P U
/-- the body has ended as Q says -/
def own_End (s : State) (below : List Frame) (Q : Option Value → Heap → List Loc → Prop) (C N : Nat) (U : State) : Prop := U.status = .running ∧ ∃ v L, Ended U below (.returned v) ∧ Q v U.heap L ∧ FrameEnd s (.returned v) U L C N
theorem own_st {P : State → Prop} {g g' : JFrame} (h : ∀ t, Steps p.tables e below (T'.setTop g') t → Steps p.tables e below (T.setTop g) t) (k : own_Rch p e below P T' g') : own_Rch p e below P T g := by
  obtain ⟨U, h1, h2⟩ := k
  exact ⟨U, h U h1, h2⟩
theorem own_close {Q : Option Value → Heap → List Loc → Prop} {g : JFrame} (k : own_Rch p e below (own_End s below Q C N) T g) : ∃ U o, Steps p.tables e below (T.setTop g) U ∧ U.status = .running ∧ Ended U below o ∧ ∃ v L, o = .returned v ∧ Q v U.heap L ∧ FrameEnd s o U L C N := by
  obtain ⟨U, h1, h2, v, L, h3, h4, h5⟩ := k
  exact ⟨U, _, h1, h2, h3, v, L, rfl, h4, h5⟩
theorem own_retN {Q : Option Value → Heap → List Loc → Prop} {pc : Nat} {Ls : Array Slot} {z : Int32} {t : FieldType} {rest : List Value} (ht : t = .boolean ∨ t = .byte ∨ t = .char ∨ t = .short) (X : Stand p l e R s m args below meth c T locs cells slots) (hx : p.tables.exec = Jvm.exec) (hlk : meth.locks = false) (hret : meth.sig.returnType = some t) (hd : decode c.code pc = .ok (.ireturn, 1)) (hc : cells ≤ C) (hn : slots ≤ N)
    (hq : Q (some (.int (nar t z))) T.heap locs) : own_Rch p e below (own_End s below Q C N) T (mkF m pc Ls (.int z :: rest)) := by
  obtain ⟨fs, hr, hrun, hended, hW, hsame⟩ := X.leave (v := some (.int (nar t z))) (fun h => by rw [hret] at h; cases h) hlk
  exact ⟨_, retN X hx hret ht hd hr, hrun, _, _, hended, hq, ⟨_, rfl⟩, hW, hsame.mono hc hn⟩
theorem own_retI {Q : Option Value → Heap → List Loc → Prop} {pc : Nat} {Ls : Array Slot} {z : Int32} {rest : List Value} (X : Stand p l e R s m args below meth c T locs cells slots) (hx : p.tables.exec = Jvm.exec) (hlk : meth.locks = false) (hret : meth.sig.returnType = some .int) (hd : decode c.code pc = .ok (.ireturn, 1)) (hc : cells ≤ C) (hn : slots ≤ N)
    (hq : Q (some (.int z)) T.heap locs) : own_Rch p e below (own_End s below Q C N) T (mkF m pc Ls (.int z :: rest)) := by
  obtain ⟨fs, hr, hrun, hended, hW, hsame⟩ := X.leave (v := some (.int z)) (fun h => by rw [hret] at h; cases h) hlk
  exact ⟨_, retOut X hx hret rfl (Or.inl ⟨rfl, Or.inl rfl, z, rfl⟩) hd hr, hrun, _, _, hended, hq, ⟨_, rfl⟩, hW, hsame.mono hc hn⟩
theorem own_narref {t : FieldType} {w : Value} (ht : t.isReference = true) : narrow t w = w := by cases t <;> first | rfl | (cases ht; done)
theorem own_retA {Q : Option Value → Heap → List Loc → Prop} {pc : Nat} {Ls : Array Slot} {w : Value} {t : FieldType} {rest : List Value} (ht : t.isReference = true) (hw : w.isRef = true) (X : Stand p l e R s m args below meth c T locs cells slots) (hx : p.tables.exec = Jvm.exec) (hlk : meth.locks = false) (hret : meth.sig.returnType = some t) (hd : decode c.code pc = .ok (.areturn, 1)) (hc : cells ≤ C) (hn : slots ≤ N)
    (hq : Q (some w) T.heap locs) : own_Rch p e below (own_End s below Q C N) T (mkF m pc Ls (w :: rest)) := by
  obtain ⟨fs, hr, hrun, hended, hW, hsame⟩ := X.leave (v := some w) (fun h => by rw [hret] at h; cases h) hlk
  exact ⟨_, retOut X hx hret (own_narref ht) (Or.inr (Or.inr (Or.inr (Or.inr ⟨rfl, ht, hw⟩)))) hd hr, hrun, _, _, hended, hq, ⟨_, rfl⟩, hW, hsame.mono hc hn⟩
theorem own_retV {Q : Option Value → Heap → List Loc → Prop} {pc : Nat} {Ls : Array Slot} (X : Stand p l e R s m args below meth c T locs cells slots) (hx : p.tables.exec = Jvm.exec) (hlk : meth.locks = false) (hret : meth.sig.returnType = none) (hd : decode c.code pc = .ok (.return_, 1)) (hc : cells ≤ C) (hn : slots ≤ N)
    (hq : Q none T.heap locs) : own_Rch p e below (own_End s below Q C N) T (mkF m pc Ls []) := by
  obtain ⟨fs, hr, hrun, hended, hW, hsame⟩ := X.leave (v := none) (fun _ => rfl) hlk
  exact ⟨_, X.returnOut hx hret hd hr, hrun, _, _, hended, hq, ⟨_, rfl⟩, hW, hsame.mono hc hn⟩
theorem own_since (s : State) : s.Since s.vm 0 := (State.WarmedH.refl s).since 0
def own_EndH (Z : State) (EL : List (String × Nat)) (s : State) (below : List Frame) (Q : Option Value → Heap → List Loc → Prop) (C N : Nat) (U : State) : Prop := U.status = .running ∧ ∃ v L, Ended U below (.returned v) ∧ Q v U.heap L ∧ CHr Z EL s.vm s.heap U.vm U.heap ∧ ReturnedEndW s (.returned v) U L C N
theorem own_closeH {EL : List (String × Nat)} {Q : Option Value → Heap → List Loc → Prop} {g : JFrame} (k : own_Rch p e below (own_EndH Z EL s below Q C N) T g) : ∃ U o, Steps p.tables e below (T.setTop g) U ∧ U.status = .running ∧ Ended U below o ∧ ∃ v L, o = .returned v ∧ Q v U.heap L ∧ CHr Z EL s.vm s.heap U.vm U.heap ∧ ReturnedEndW s o U L C N := by
  obtain ⟨U, h1, h2, v, L, h3, h4, h5⟩ := k
  exact ⟨U, _, h1, h2, h3, v, L, rfl, h4, h5⟩
theorem own_retNH {EL : List (String × Nat)} {vm0 : Vm} {k0 : Nat} {Q : Option Value → Heap → List Loc → Prop} {pc : Nat} {Ls : Array Slot} {z : Int32} {t : FieldType} {rest : List Value} (ht : t = .boolean ∨ t = .byte ∨ t = .char ∨ t = .short) (hcr : CHr Z EL s.vm s.heap T.vm T.heap) (hS : s.Since vm0 k0) (hk : k0 ≤ T.heap.size) (X : Stand p l e R (s.setVm vm0) m args below meth c T locs cells slots) (hx : p.tables.exec = Jvm.exec) (hlk : meth.locks = false) (hret : meth.sig.returnType = some t) (hd : decode c.code pc = .ok (.ireturn, 1)) (hc : cells ≤ C) (hn : slots ≤ N)
    (hq : Q (some (.int (nar t z))) T.heap locs) : own_Rch p e below (own_EndH Z EL s below Q C N) T (mkF m pc Ls (.int z :: rest)) := by
  obtain ⟨fs, hr, hrun, hended, h1, h2, h3, h4⟩ := X.leaveW hS hk (v := some (.int (nar t z))) (fun h => by rw [hret] at h; cases h) hlk
  exact ⟨_, retN X hx hret ht hd hr, hrun, _, _, hended, hq, hcr, h1, h2, h3, h4.mono hc hn⟩
theorem own_retAH {EL : List (String × Nat)} {vm0 : Vm} {k0 : Nat} {Q : Option Value → Heap → List Loc → Prop} {pc : Nat} {Ls : Array Slot} {w : Value} {t : FieldType} {rest : List Value} (ht : t.isReference = true) (hw : w.isRef = true) (hcr : CHr Z EL s.vm s.heap T.vm T.heap) (hS : s.Since vm0 k0) (hk : k0 ≤ T.heap.size) (X : Stand p l e R (s.setVm vm0) m args below meth c T locs cells slots) (hx : p.tables.exec = Jvm.exec) (hlk : meth.locks = false) (hret : meth.sig.returnType = some t) (hd : decode c.code pc = .ok (.areturn, 1)) (hc : cells ≤ C) (hn : slots ≤ N)
    (hq : Q (some w) T.heap locs) : own_Rch p e below (own_EndH Z EL s below Q C N) T (mkF m pc Ls (w :: rest)) := by
  obtain ⟨fs, hr, hrun, hended, h1, h2, h3, h4⟩ := X.leaveW hS hk (v := some w) (fun h => by rw [hret] at h; cases h) hlk
  exact ⟨_, retOut X hx hret (own_narref ht) (Or.inr (Or.inr (Or.inr (Or.inr ⟨rfl, ht, hw⟩)))) hd hr, hrun, _, _, hended, hq, hcr, h1, h2, h3, h4.mono hc hn⟩
theorem own_old_le (O : Old Z n0 h) : n0 ≤ h.size := O.1 ▸ O.2.1
theorem own_m {L : List Jvm.Cond} {d : Jvm.Cond} (i : Nat) (h : L[i]? = some d) : d ∈ L := List.mem_of_getElem? h
theorem own_aloadN {P : State → Prop} {g : JFrame} (X : Stand p l e R s m args below meth c T locs cells slots) (hx : p.tables.exec = Jvm.exec) {b : ByteArray} (hby : c.code = b) {k : Fin 4} {v : Value} (d : decode b g.pc = .ok (.aload_n k, 1)) (hl : g.locals[k.val]? = some (.val v)) (hv : v.isRef = true) (hg : g.method = m) (q : own_Rch p e below P T { g with pc := g.pc + 1, stack := v :: g.stack }) : own_Rch p e below P T g := own_st (fun _ => XS.aloadN X.here hx hg (by rw [hby]; exact d) hl hv) q
theorem own_aload {P : State → Prop} {g : JFrame} (X : Stand p l e R s m args below meth c T locs cells slots) (hx : p.tables.exec = Jvm.exec) {b : ByteArray} (hby : c.code = b) {k : Nat} {v : Value} (d : decode b g.pc = .ok (.aload k, 2)) (hl : g.locals[k]? = some (.val v)) (hv : v.isRef = true) (hg : g.method = m) (q : own_Rch p e below P T { g with pc := g.pc + 2, stack := v :: g.stack }) : own_Rch p e below P T g := own_st (fun _ => XS.aload X.here hx hg (by rw [hby]; exact d) hl hv) q
theorem own_iloadN {P : State → Prop} {g : JFrame} (X : Stand p l e R s m args below meth c T locs cells slots) (hx : p.tables.exec = Jvm.exec) {b : ByteArray} (hby : c.code = b) {k : Fin 4} {v : Int32} (d : decode b g.pc = .ok (.iload_n k, 1)) (hl : g.locals[k.val]? = some (.val (.int v))) (hg : g.method = m) (q : own_Rch p e below P T { g with pc := g.pc + 1, stack := (.int v) :: g.stack }) : own_Rch p e below P T g := own_st (fun _ => XS.iloadN X.here hx hg (by rw [hby]; exact d) hl) q
theorem own_iload {P : State → Prop} {g : JFrame} (X : Stand p l e R s m args below meth c T locs cells slots) (hx : p.tables.exec = Jvm.exec) {b : ByteArray} (hby : c.code = b) {k : Nat} {v : Int32} (d : decode b g.pc = .ok (.iload k, 2)) (hl : g.locals[k]? = some (.val (.int v))) (hg : g.method = m) (q : own_Rch p e below P T { g with pc := g.pc + 2, stack := (.int v) :: g.stack }) : own_Rch p e below P T g := own_st (fun _ => XS.iload X.here hx hg (by rw [hby]; exact d) hl) q
theorem own_iconst {P : State → Prop} {g : JFrame} (X : Stand p l e R s m args below meth c T locs cells slots) (hx : p.tables.exec = Jvm.exec) {b : ByteArray} (hby : c.code = b) {i : Int} (d : decode b g.pc = .ok (.iconst i, 1)) (hg : g.method = m) (q : own_Rch p e below P T { g with pc := g.pc + 1, stack := .int (Int32.ofInt i) :: g.stack }) : own_Rch p e below P T g := own_st (fun _ => XS.iconst X.here hx hg (by rw [hby]; exact d)) q
theorem own_dup {P : State → Prop} {g : JFrame} (X : Stand p l e R s m args below meth c T locs cells slots) (hx : p.tables.exec = Jvm.exec) {b : ByteArray} (hby : c.code = b) {x : Value} {rest : List Value} (d : decode b g.pc = .ok (.dup, 1)) (hs : g.stack = x :: rest) (hc : x.category = 1) (hg : g.method = m) (q : own_Rch p e below P T { g with pc := g.pc + 1, stack := x :: x :: rest }) : own_Rch p e below P T g := own_st (fun _ => XS.dup X.here hx hg (by rw [hby]; exact d) hs hc) q
theorem own_gF (X : Stand p l e R s m args below meth c T locs cells slots) (hx : p.tables.exec = Jvm.exec) (hZ : Z.Warmed39 s.vm) {a0 : Array Value} {own C n d : String} {index : Nat} (hown : s.vm.findClass own = some m.cls) (w : (Jvm.Cond.fieldLink own index C n d).before a0 Z = true) (eT : T.heap = h) {a : Addr} {v : Value} (F : Fld Z h a C n d v) {g : JFrame} (hg : g.method = m) {rest : List Value} (hs : g.stack = .ref a :: rest) (hd : decode c.code g.pc = .ok (.getfield index, 3)) : ∃ T', Stand p l e R s m args below meth c T' locs cells slots ∧ T'.heap = h ∧ ∀ target, Steps p.tables e below (T'.setTop { g with pc := g.pc + 3, stack := v :: rest }) target → Steps p.tables e below (T.setTop g) target := getF X hx hZ hown (host := "") (Or.inl w) Via.refl eT F hg hs hd
abbrev own_vi (x : Int32) : Slot := .val (.int x)
abbrev own_vl (x : Int64) : Slot := .val (.long x)
abbrev own_vr (x : Addr) : Slot := .val (.ref x)
abbrev own_r (f c s l : Nat) : Room := { frames := f, cells := c, slots := s, locals := l }
abbrev own_Mt (l : Launch) (y : MethodName) (b : ByteArray) (n : Nat) (r : Option FieldType) (ws : List Jvm.Cond) (R : Room) (A : Array Value) (Z : State) (h0 : Heap) (Q : Option Value → Heap → List Loc → Prop) : Prop := MetFree l y (head1 (Jvm.Cond.code y b n r :: ws) R) (fun args_ U => args_ = A ∧ Z.Warmed39 U.vm ∧ U.heap = h0) (fun _ _ _ _ _ => True) (fun _ U o U' => ∃ v L, o = .returned v ∧ Q v U'.heap L ∧ FrameEnd U o U' L R.cells R.slots)
abbrev own_MtK (l : Launch) (y : MethodName) (b : ByteArray) (n : Nat) (r : Option FieldType) (ws : List Jvm.Cond) (R : Room) (A : Array Value) (Z : State) (h0 : Heap) (Q : Option Value → Heap → List Loc → Prop) : Prop := MetFree l y (head1 (Jvm.Cond.code y b n r :: ws) R) (fun args_ U => args_ = A ∧ Z.Warmed39 U.vm ∧ U.heap = h0) (fun _ _ bl s _ => s.vm.MethodsKnown ∧ s.vm.FramesKnown bl) (fun _ U o U' => ∃ v L, o = .returned v ∧ Q v U'.heap L ∧ FrameEnd U o U' L R.cells R.slots)
end Own
theorem own_cmp0 {args : Array Value} {Z : State} {t : Term} {c : Int32} (ht : t.eval args Z none [] Z = some (.int c)) (h : (Jvm.Cond.not (.eq t (.int 0))).value args Z none Z [] = some true) : ¬ c = 0 := by
  simp [Cond.value, ht, Term.eval] at h
  exact h
theorem own_char (p : Int32) : ¬ ((255 : Int32) < ((p &&& (255 : Int32)).toUInt32.toUInt16.toUInt32.toInt32)) := by
  have h1 := c_i2c (p &&& (255 : Int32))
  have h2 := c_and p (255 : Int32) (by decide)
  have h3 : (255 : Int32).toInt = 255 := by decide
  rw [Int32.lt_iff_toInt_lt]
  omega
def own_b (c : Int32) : Int32 := nar .byte ((nar .char c).toInt8.toInt32)
def own_ch (c : Int32) : Prop := 0 ≤ c.toInt ∧ c.toInt ≤ 255
theorem own_chc (p : Int32) : own_ch ((p &&& (255 : Int32)).toUInt32.toUInt16.toUInt32.toInt32) := by
  have h1 := c_i2c (p &&& (255 : Int32))
  have h2 := c_and p (255 : Int32) (by decide)
  have h3 : (255 : Int32).toInt = 255 := by decide
  unfold own_ch
  omega
theorem own_narc {c : Int32} (h : own_ch c) : (nar .char c).toInt = c.toInt := by
  have h1 := c_i2c c
  unfold own_ch at h
  show (c.toUInt32.toUInt16.toUInt32.toInt32).toInt = _
  omega
theorem own_big {c : Int32} (h : own_ch c) : ¬ ((255 : Int32) < nar .char c) := by
  rw [Int32.lt_iff_toInt_lt, own_narc h]
  have h3 : (255 : Int32).toInt = 255 := by decide
  unfold own_ch at h
  omega
theorem own_and3 (p : Int32) : (p &&& (3 : Int32)) = 0 ∨ (p &&& (3 : Int32)) = 1 ∨ (p &&& (3 : Int32)) = 2 ∨ (p &&& (3 : Int32)) = 3 := by
  have h := c_and p (3 : Int32) (by decide)
  have e3 : (3 : Int32).toInt = 3 := by decide
  have e0 : (0 : Int32).toInt = 0 := by decide
  have e1 : (1 : Int32).toInt = 1 := by decide
  have e2 : (2 : Int32).toInt = 2 := by decide
  simp only [← Int32.toInt_inj]
  omega
theorem own_ishr0 (x : Int32) : x >>> ((0 : Int32) &&& 31) = x := by simp
theorem own_ishl0 (x : Int32) : x <<< ((0 : Int32) &&& 31) = x := by simp
theorem own_sub0 (x : Int32) : x - (0 : Int32) = x := by simp
theorem own_decl {Z : State} {a0 : Array Value} {y : MethodName} {bytes : ByteArray} {maxL : Nat} {ret : Option FieldType} (w3 : (Jvm.Cond.instanceMethod y).before a0 Z = true) (wc : (Jvm.Cond.code y bytes maxL ret).before a0 Z = true) : (Jvm.Cond.declares y).before a0 Z = true := by
  obtain ⟨mk, methM, hnamed, hmethM, hstM, habM⟩ := Cond.instanceMethod_spec w3
  obtain ⟨m2, cM, q1, -, -, -, -, -, -, hsig⟩ := Cond.code_spec hnamed wc
  cases hmethM.symm.trans q1
  simp [Cond.before, Cond.holds, Cond.value, hnamed, hmethM, hstM, hsig]
theorem own_face {Z : State} {a0 : Array Value} {C : String} {y w z : MethodName} (hs : (Jvm.Cond.selects C w z).before a0 Z = true) (he : z.cls = y.cls) : NotFace Z y := fun r0 h0 => by
  obtain ⟨c2, r2, m2, q1, q2, q3, q4, kP, hkP, hkPi⟩ := Cond.selects_spec hs
  have e1 := findClass_of_methodNamed h0
  have e2 := findClass_of_methodNamed q3
  rw [he] at e2
  have e3 : m2.cls = r0.cls := Option.some.inj (e2.symm.trans e1)
  exact ⟨kP, e3 ▸ hkP, hkPi⟩
theorem own_same {Z : State} {a0 : Array Value} {C : String} {y w z : MethodName} (hd : (Jvm.Cond.instanceMethod y).before a0 Z = true) (hs : (Jvm.Cond.selects C w z).before a0 Z = true) (he : z.cls = y.cls) (hy : y.cls ≠ "java/lang/invoke/MethodHandle" ∧ y.cls ≠ "java/lang/invoke/VarHandle") : (Jvm.Cond.sameMethod y.cls y.cls y.name y.desc).before a0 Z = true := by
  obtain ⟨m, meth, h1, -⟩ := Cond.instanceMethod_spec hd
  have hc := findClass_of_methodNamed h1
  have hf := State.methodFound?_of_named h1 hy
  obtain ⟨k, hk, hi⟩ := own_face (y := y) hs he m h1
  have h1' : Z.methodNamed? ⟨y.cls, y.name, y.desc⟩ = some m := h1
  simp [Cond.before, Cond.holds, Cond.value, hc, hf, h1', hk, hi]
theorem own_n32 {n : Nat} (h : n < 2147483648) : (Int32.ofNat n).toNatClampNeg = n := Jvm.Free.XT.n32 h
theorem own_nneg {n : Nat} (h : n < 2147483648) : ¬ Int32.ofNat n < 0 := by
  have := Jvm.Free.XT.nlt32 (a := n) (b := 0) h (Nat.zero_le _)
  exact this
theorem own_nsub {m n : Nat} (h : m ≤ n) (hn : n < 2147483648) : ¬ (0 : Int32) < Int32.ofNat m - Int32.ofNat n := by
  rw [Int32.lt_iff_toInt_lt, Int32.toInt_sub, Int32.toInt_ofNat_small (by omega), Int32.toInt_ofNat_small hn, Int.bmod_eq_of_le (by omega) (by omega)]
  have : (0 : Int32).toInt = 0 := by decide
  omega
theorem own_psub {m : Nat} (h : 16 < m) (hn : m ≤ 33) : (0 : Int32) < Int32.ofNat m - (16 : Int32) ∧ Int32.ofNat m - (16 : Int32) < 18 := by
  have e16 : (16 : Int32).toInt = 16 := by decide
  have e18 : (18 : Int32).toInt = 18 := by decide
  have e0 : (0 : Int32).toInt = 0 := by decide
  have e : (Int32.ofNat m - (16 : Int32)).toInt = (m : Int) - 16 := by
    rw [Int32.toInt_sub, Int32.toInt_ofNat_small (by omega), e16, Int.bmod_eq_of_le (by omega) (by omega)]
  rw [Int32.lt_iff_toInt_lt, Int32.lt_iff_toInt_lt, e, e18, e0]
  omega
/-- a row of values with us laid into it from q on -/
def own_put (w : List Value) (q : Nat) (us : List Value) : List Value := w.take q ++ us ++ w.drop (q + us.length)
theorem own_put_len {w us : List Value} {q : Nat} (h : q + us.length ≤ w.length) : (own_put w q us).length = w.length := by
  unfold own_put; rw [List.length_append, List.length_append, List.length_take, List.length_drop]; omega
theorem own_put_all {n : Nat} {us : List Value} {d : Value} (h : us.length = n) : own_put (List.replicate n d) 0 us = us := by
  unfold own_put
  rw [List.take_zero, List.nil_append, Nat.zero_add, List.drop_of_length_le (by rw [List.length_replicate, h]; exact Nat.le_refl _), List.append_nil]
theorem own_rng (vs : List Value) (d : Value) {n : Nat} (h : n ≤ vs.length) : ((List.range n).map fun i => vs.getD (0 + i) d) = vs.take n := by
  apply List.ext_getElem?
  intro i
  rw [List.getElem?_map]
  by_cases hi : i < n
  · have hv : i < vs.length := by omega
    rw [List.getElem?_range hi, List.getElem?_take_of_lt hi, List.getElem?_eq_getElem hv]
    simp [List.getD_eq_getElem?_getD, List.getElem?_eq_getElem hv]
  · rw [List.getElem?_eq_none (by rw [List.length_range]; omega), List.getElem?_eq_none (by rw [List.length_take]; omega)]
    rfl
section OwnA
variable {p : Program} {l : Launch} {e : Env} {R : Room} {s : State} {m : MethodId} {args : Array Value} {below : List Frame} {meth : Method} {c : Code} {T T' : State} {locs : List Loc} {cells slots : Nat} {Z : State} {h h' : Heap} {a b : Addr} {k k' : ClassId} {z z' : Int32} {vs vd us : List Value}
/-- System.arraycopy of bytes, from the beginning of a -/
theorem own_cp (X : Stand p l e R s m args below meth c T locs cells slots) (hx : p.tables.exec = Jvm.exec) (hZ : Z.Warmed39 s.vm) {a0 : Array Value} {own : String} {index : Nat} (hown : s.vm.findClass own = some m.cls)
    (w1 : (Jvm.Cond.methodLink own index Jvm.Stand.acN).before a0 Z = true) (w2 : (Jvm.Cond.native Jvm.Stand.acN).before a0 Z = true) (w3 : (Jvm.Cond.static Jvm.Stand.acN).before a0 Z = true) (w4 : (Jvm.Cond.initialized "java/lang/System").before a0 Z = true) (eT : T.heap = h)
    (A : Arv Z h a k .byte z vs (.int 0)) (B : Arv Z h b k' .byte z' vd (.int 0)) (ez : z = Int32.ofNat vs.length) (ez' : z' = Int32.ofNat vd.length) (l1 : vs.length < 2147483648) (l2 : vd.length < 2147483648) {q n : Nat} (h4 : n ≤ vs.length) (h5 : q + n ≤ vd.length) (hu : vs.take n = us)
    {n0 : Nat} (N : Fr n0 locs) (ge : n0 ≤ b) {jn jq : Int32} (en : jn = Int32.ofNat n) (eq : jq = Int32.ofNat q)
    {g : JFrame} (hg : g.method = m) (hsize : g.locals.size = c.maxLocals) {rest : List Value} (hs : g.stack = .int jn :: .int jq :: .ref b :: .int 0 :: .ref a :: rest) (hd : decode c.code g.pc = .ok (.invokestatic index, 3))
    (hf : 1 ≤ R.frames) {W : Nat} (hW : 2 * g.monitorRoom + (rest.map fun v => v.category).sum ≤ W) (hlo : W + (nativeFrameWords "java/lang/System" "arraycopy" 5 + 11) ≤ R.locals) :
    ∃ T' h' L, Stand p l e R s m args below meth c T' L cells slots ∧ T'.heap = h' ∧ Fr n0 L ∧ Keep h h' [b] ∧ Arv Z h' b k' .byte (Int32.ofNat (own_put vd q us).length) (own_put vd q us) (.int 0) ∧
      ∀ target, Steps p.tables e below (T'.setTop { g with pc := g.pc + 3, stack := rest }) target → Steps p.tables e below (T.setTop g) target := by
  subst ez ez' en eq hu
  have c1 : (Int32.ofNat n).toNatClampNeg = n := own_n32 (by omega)
  have c2 : (Int32.ofNat q).toNatClampNeg = q := own_n32 (by omega)
  have c3 : (Int32.ofNat vs.length).toNatClampNeg = vs.length := own_n32 l1
  have c4 : (Int32.ofNat vd.length).toNatClampNeg = vd.length := own_n32 l2
  have c0 : (0 : Int32).toNatClampNeg = 0 := by decide
  obtain ⟨T1, h1, L1, X1, e1, N1, K1, V1, st⟩ := cpA X hx hZ hown w1 w2 w3 w4 eT A B (us := (List.range (Int32.ofNat n).toNatClampNeg).map fun i => vs.getD ((0 : Int32).toNatClampNeg + i) (.int 0)) (Or.inl ⟨rfl, rfl⟩) (sp := 0) (dp := Int32.ofNat q) (nn := Int32.ofNat n) (by decide) (own_nneg (by omega)) (own_nneg (by omega)) (by rw [c0, c1, c3]; omega) (by rw [c2, c1, c4]; omega) rfl (by rw [c2, c1]; omega) N ge hg hsize hs hd hf hW hlo
  refine ⟨T1, h1, L1, X1, e1, N1, K1, ?_, st⟩
  rw [c0, c1, c2, own_rng vs _ h4] at V1
  have hl : (vs.take n).length = n := by rw [List.length_take]; omega
  have e2 : own_put vd q (vs.take n) = vd.take q ++ vs.take n ++ vd.drop (q + n) := by unfold own_put; rw [hl]
  rw [own_put_len (by rw [hl]; exact h5), e2]
  exact V1
theorem own_cl (X : Stand p l e R s m args below meth c T locs cells slots) (hx : p.tables.exec = Jvm.exec) (hZ : Z.Warmed39 s.vm) {a0 : Array Value} {own ad : String} {index : Nat} (hown : s.vm.findClass own = some m.cls)
    (w1 : (Jvm.Cond.methodLink own index ⟨ad, "clone", "()Ljava/lang/Object;"⟩).before a0 Z = true) (w2 : (Jvm.Cond.sameMethod ad "java/lang/Object" "clone" "()Ljava/lang/Object;").before a0 Z = true) (w3 : (Jvm.Cond.native ⟨"java/lang/Object", "clone", "()Ljava/lang/Object;"⟩).before a0 Z = true)
    (w4 : (Jvm.Cond.instanceMethod ⟨"java/lang/Object", "clone", "()Ljava/lang/Object;"⟩).before a0 Z = true) (w5 : (Jvm.Cond.selects ad ⟨ad, "clone", "()Ljava/lang/Object;"⟩ ⟨"java/lang/Object", "clone", "()Ljava/lang/Object;"⟩).before a0 Z = true) (w6 : (Jvm.Cond.castable ad "java/lang/Cloneable").before a0 Z = true)
    (eT : T.heap = h) {ty : FieldType} {dv : Value} (F : Arv Z h a k ty z vs dv) (E : Exa Z h a ad) {g : JFrame} (hg : g.method = m) (hsize : g.locals.size = c.maxLocals) {rest : List Value} (hst : g.stack = .ref a :: rest) (hd : decode c.code g.pc = .ok (.invokevirtual index, 3))
    (hf : 1 ≤ R.frames) {W cap : Nat} (hW : 2 * g.monitorRoom + (rest.map fun v => v.category).sum ≤ W) (hl : W + 14 ≤ R.locals) (hcap : z.toNatClampNeg ≤ cap) (hc : cells + 1 ≤ R.cells) (hsl : slots + cap ≤ R.slots) :
    ∃ T' h', Stand p l e R s m args below meth c T' locs (cells + 1) (slots + cap) ∧ T'.heap = h' ∧ Ext h h' ∧ Arv Z h' h.size k ty z vs dv ∧ Exa Z h' h.size ad ∧
      ∀ target, Steps p.tables e below (T'.setTop { g with pc := g.pc + 3, stack := .ref h.size :: rest }) target → Steps p.tables e below (T.setTop g) target := by
  obtain ⟨cl, A, q1, S, q3, H, G⟩ := F
  have FC : FitC Z cl := fitC_of A fun i hi v hv => by rw [H i hi] at hv; cases hv; exact G i hi
  obtain ⟨T', h', X', e', ex, A', E', st⟩ := cloneA X hx hZ hown w1 w2 w3 w4 w5 w6 eT A E FC hg hsize hst hd hf hW hl (by rw [S]; exact hcap) hc hsl
  exact ⟨T', h', X', e', ex, ⟨cloneOf cl, A', q1, S, q3, H, G⟩, E', st⟩
theorem own_newv {n : Nat} (A : Arr Z h a (newA k .byte (Int32.ofNat n)) .byte) (hn : n < 2147483648) : Arv Z h a k .byte (Int32.ofNat (List.replicate n (Value.int 0)).length) (List.replicate n (Value.int 0)) (.int 0) := by
  have V := Arv.pad (Arv.new A (own_nneg hn)) (pad_rep [] (.int 0) n)
  rw [List.length_replicate]
  exact V
theorem own_v16 {d : Value} {n : Nat} (hl : vs.length = n) (V : Arv Z h a k .byte (Int32.ofNat vs.length) vs d) : Arv Z h a k .byte (Int32.ofNat n) vs d := by rw [hl] at V; exact V
end OwnA
/-- the int of a value -/
def own_iv : Value → Int32
  | .int x => x
  | _ => 0
theorem own_ints {Z : State} {h : Heap} {a : Addr} {k : ClassId} {vs : List Value} {d : Value} (V : Arv Z h a k .byte (Int32.ofNat vs.length) vs d) (hl : vs.length < 2147483648) : ∀ i, i < vs.length → vs.getD i d = .int (own_iv (vs.getD i d)) := fun i hi => by
  obtain ⟨cl, A, q1, S, q3, H, G⟩ := V
  rw [own_n32 hl] at S
  obtain ⟨x, e⟩ := fit_I (G i (by rw [S]; exact hi)) (by simp)
  rw [e]; rfl
theorem own_inj {m n : Nat} (hm : m < 2147483648) (hn : n < 2147483648) (h : Int32.ofNat m = Int32.ofNat n) : m = n := by
  have := congrArg Int32.toNatClampNeg h
  rw [own_n32 hm, own_n32 hn] at this; exact this
section OwnG
open Jvm.Free.SBG
/-- a cell that holds w -/
def own_cell (w : List Value) : Cell := { cls := 0, slots := w.toArray, vm := .none }
/-- what Long.getChars leaves of w -/
def own_gc (w : List Value) (c : Nat) (x : Int64) (nn : Nat) (D1 D2 : Cell) : List Value := (GetCharsL.outCell ⟨x, nn, c, 0, own_cell w, 0, 0, D1, 0, D2⟩).slots.toList
theorem own_ps {A A' : Cell} {q : Nat} {x : Int32} (h : A.slots = A'.slots) : (put A q x).slots = (put A' q x).slots := by
  show A.slots.setIfInBounds q _ = A'.slots.setIfInBounds q _
  rw [h]
theorem own_dl (D1 D2 : Cell) : ∀ (f : Nat) (A A' : Cell) (n q : Nat), A.slots = A'.slots → (digLoop D1 D2 f A n q).1.slots = (digLoop D1 D2 f A' n q).1.slots ∧ (digLoop D1 D2 f A n q).2 = (digLoop D1 D2 f A' n q).2 := by
  intro f
  induction f with
  | zero => intro A A' n q h; exact ⟨h, rfl⟩
  | succ f ih =>
    intro A A' n q h
    simp only [digLoop]
    by_cases h1 : 100 ≤ n
    · rw [if_pos h1, if_pos h1]; exact ih _ _ _ _ (own_ps (own_ps h))
    · rw [if_neg h1, if_neg h1]
      by_cases h2 : 9 < n
      · rw [if_pos h2, if_pos h2]; exact ⟨own_ps (own_ps h), rfl⟩
      · rw [if_neg h2, if_neg h2]; exact ⟨own_ps h, rfl⟩
theorem own_oc {x : Int64} {nn c : Nat} {y y' st st' d1 d1' d2 d2' : Addr} {A A' D1 D2 : Cell} (h : A.slots = A'.slots) : (GetCharsL.outCell ⟨x, nn, c, y, A, st, d1, D1, d2, D2⟩).slots = (GetCharsL.outCell ⟨x, nn, c, y', A', st', d1', D1, d2', D2⟩).slots := by
  obtain ⟨e1, e2⟩ := own_dl D1 D2 10 A A' nn c h
  unfold GetCharsL.outCell
  by_cases hx : x < 0
  · simp only [if_pos hx]; rw [e2]; exact own_ps e1
  · simp only [if_neg hx]; exact e1
theorem own_osz {x : Int64} {nn c : Nat} {y st d1 d2 : Addr} {A D1 D2 : Cell} : (GetCharsL.outCell ⟨x, nn, c, y, A, st, d1, D1, d2, D2⟩).slots.size = A.slots.size := by
  have e := (digLoop_facts D1 D2 10 A nn c).2.2.1
  unfold GetCharsL.outCell
  by_cases hx : x < 0
  · simp only [if_pos hx]; rw [(put_facts _ _ _).2.2]; exact e
  · simp only [if_neg hx]; exact e
theorem own_gc_len {w : List Value} {c : Nat} {x : Int64} {nn : Nat} {D1 D2 : Cell} : (own_gc w c x nn D1 D2).length = w.length := by
  unfold own_gc; rw [Array.length_toList, own_osz]; simp [own_cell]
variable {p : Program} {l : Launch} {e : Env} {R : Room} {s : State} {args : Array Value} {below : List Frame} {Z : State} {a0 : Array Value}
theorem own_ssB (hZ : Z.Warmed39 s.vm) (hw : ∀ d ∈ tables_1, d.before a0 Z = true) (x : Int64) (nn r : Nat) (hnn : nn ≤ 2 ^ 63) (hneg : (if x < 0 then x else -x) = negL nn) (hr : r = digitsL nn + GetCharsL.sgnL x) (h : Heap) (n0 W : Nat) (hf : 2 ≤ R.frames) (hl : W + 57 ≤ R.locals) :
    Back l R p e below s args ⟨"java/lang/Long", "stringSize", "(J)I"⟩ 3 W (fun A a => a = #[.long x] ∧ A.U.heap = h ∧ A.cells + 0 ≤ R.cells ∧ A.slots + 0 ≤ R.slots)
      (fun A _ v B => ∃ L, (v = some (.int (Int32.ofNat r)) ∧ Fr n0 L ∧ B.U.heap = h) ∧ B.locs = A.locs ++ L ∧ B.cells = A.cells + 0 ∧ B.slots = A.slots + 0) := by
  intro m meth c A g ig mk a X hg hs hd hW hn hp
  obtain ⟨rfl, hA, hc, hsl⟩ := hp
  have htab : StrSizeL.tab.before args s = true := by
    unfold StrSizeL.tab
    rw [Cond.before_and, Cond.before_and, Bool.and_eq_true, Bool.and_eq_true]
    exact ⟨mvT hZ (hw _ (own_m 214 rfl)), mvT hZ (hw _ (own_m 215 rfl)), mvT hZ (hw _ (own_m 377 rfl))⟩
  obtain ⟨v, B, X', ⟨⟨q1, q2, q3, q4⟩, q5⟩, st⟩ := StrSizeL.pays (W := W) hf hl htab (mvT hZ (hw _ (own_m 213 rfl))) m meth c A g ig mk _ X hg hs hd hW hn ⟨hc, hsl, x, rfl⟩
  refine ⟨v, B, X', ⟨[], ⟨?_, Fr.nil _, by rw [q1]; exact hA⟩, by rw [q2, List.append_nil], q3, q4⟩, st⟩
  rw [q5 x rfl, strSizeOfL_eq hnn hneg, hr]
theorem own_gcB (hZ : Z.Warmed39 s.vm) (hw : ∀ d ∈ tables_1, d.before a0 Z = true) (x : Int64) (nn r c : Nat) (w : List Value) (y : Addr) (ky : ClassId) (st d1 d2 : Addr) (D1 D2 : Cell) (hnn : nn ≤ 2 ^ 63) (hneg : (if x < 0 then x else -x) = negL nn) (hr : r = digitsL nn + GetCharsL.sgnL x) (h : Heap) (n0 W : Nat) (O : Old Z n0 h)
    (T1 : Tbl Z "DigitOnes" st d1 D1) (T2 : Tbl Z "DigitTens" st d2 D2) (V : Arv Z h y ky .byte (Int32.ofNat w.length) w (.int 0)) (h31 : w.length < 2147483648) (hrc : r ≤ c) (hcw : c ≤ w.length) (gy : n0 ≤ y) (hf : 2 ≤ R.frames) (hl : W + 102 ≤ R.locals) :
    Back l R p e below s args ⟨"java/lang/Long", "getChars", "(JI[B)I"⟩ 3 W (fun A a => a = #[.long x, .int (Int32.ofNat c), .ref y] ∧ A.U.heap = h ∧ A.cells + 0 ≤ R.cells ∧ A.slots + 0 ≤ R.slots)
      (fun A _ v B => ∃ L, (∃ q : Int32, v = some (.int q) ∧ Fr n0 L ∧ Keep h B.U.heap [y] ∧ Arv Z B.U.heap y ky .byte (Int32.ofNat (own_gc w c x nn D1 D2).length) (own_gc w c x nn D1 D2) (.int 0)) ∧ B.locs = A.locs ++ L ∧ B.cells = A.cells + 0 ∧ B.slots = A.slots + 0) := by
  intro m meth cc A g ig mk a X hg hs hd hW hn hp
  obtain ⟨rfl, hA, hc, hsl⟩ := hp
  obtain ⟨cl, Ar, qk, S, M, H, G⟩ := V
  rw [own_n32 h31] at S
  have htab : GetCharsL.tab.before args s = true := by
    unfold GetCharsL.tab
    rw [Cond.before_and, Cond.before_and, Cond.before_and, Cond.before_and, Bool.and_eq_true, Bool.and_eq_true, Bool.and_eq_true, Bool.and_eq_true]
    exact ⟨mvT hZ (hw _ (own_m 223 rfl)), mvT hZ (hw _ (own_m 225 rfl)), mvT hZ (hw _ (own_m 378 rfl)), mvT hZ (hw _ (own_m 224 rfl)), mvT hZ (hw _ (own_m 398 rfl))⟩
  have hal : Z.vm.Alike A.U.vm := hZ.alike.trans X.warmed.alike
  have hold : ∀ (q : Addr) (c0 : Cell), Z.heap[q]? = some c0 → A.U.heap[q]? = some c0 := fun q c0 h1 => by rw [hA]; exact O.2.2 q c0 h1
  have hlt : ∀ {q : Addr} {c0 : Cell}, Z.heap[q]? = some c0 → y ≠ q := fun {q c0} h1 => by
    have := (Array.getElem?_eq_some_iff.mp h1).1
    have e1 := O.1
    intro e2; subst e2; omega
  obtain ⟨cf1, i1, k1, f1, cS1, a1, a2, a3, a4, a5, a6, a7, a8, -⟩ := id T1
  obtain ⟨cf2, i2, k2, f2, cS2, b1, b2, b3, b4, b5, b6, b7, b8, -⟩ := id T2
  obtain ⟨v, B, X', ⟨p1, p2, p3, p4, p5, p6, L, p7, p8⟩, stp⟩ := GetCharsL.pays ⟨x, nn, c, y, cl, st, d1, D1, d2, D2⟩ W htab (mvT hZ (hw _ (own_m 213 rfl))) hf hl m meth cc A g ig mk _ X hg hs hd hW hn
    ⟨rfl, hc, hsl, rfl, by rw [hA]; exact Ar.1, State.isArrayOf_alike hal Ar.2.1, Ar.2.2, by show cl.slots.size < 2 ^ 31; rw [S]; exact h31, by show c ≤ cl.slots.size; omega, by show digitsL nn + GetCharsL.sgnL x ≤ c; omega, hnn, hneg,
      T1.move hal (fun c0 h1 => hold _ c0 h1) (hold _ _ a8), T2.move hal (fun c0 h1 => hold _ c0 h1) (hold _ _ b8), hlt a5, hlt a8, hlt b8⟩
  have hby : ∀ i, i < cl.slots.size → fits .byte (cl.slots.getD i .null) = true := fun i hi => by
    rw [Array.getD_eq_getD_getElem?, H i hi]; exact G i hi
  obtain ⟨o1, o2, o3, o4, -⟩ := GetCharsL.outCell_facts ⟨x, nn, c, y, cl, st, d1, D1, d2, D2⟩ hnn (by show digitsL nn + GetCharsL.sgnL x ≤ c; omega) hby
  have hS : ∀ i : Nat, cl.slots[i]? = w[i]? := fun i => by
    by_cases hi : i < cl.slots.size
    · have hi2 : i < w.length := by rw [← S]; exact hi
      rw [H i hi, List.getD_eq_getElem?_getD, List.getElem?_eq_getElem hi2]; rfl
    · have hi2 : w.length ≤ i := by rw [← S]; exact Nat.le_of_not_lt hi
      rw [Array.getElem?_eq_none (Nat.le_of_not_lt hi), List.getElem?_eq_none hi2]
  have esl : cl.slots = (own_cell w).slots := by
    apply Array.ext_getElem?
    intro i
    rw [hS i]
    show w[i]? = w.toArray[i]?
    simp
  have eo : (GetCharsL.outCell ⟨x, nn, c, y, cl, st, d1, D1, d2, D2⟩).slots.toList = own_gc w c x nn D1 D2 := by unfold own_gc; rw [own_oc esl]
  have es : (GetCharsL.outCell ⟨x, nn, c, y, cl, st, d1, D1, d2, D2⟩).slots.size = w.length := by rw [own_osz]; exact S
  refine ⟨v, B, X', ⟨L, ⟨_, p1, fun q hq => by rw [p8 q hq]; exact gy, ⟨?_, fun q c0 h1 hn0 => ?_, fun q c0 h1 => ?_⟩, ?_⟩, p7, p3, p4⟩, stp⟩
  · rw [p5, hA]; exact Nat.le_refl _
  · exact p6 q c0 (fun e1 => hn0 (by rw [e1]; exact List.mem_singleton.mpr rfl)) (by rw [hA]; exact h1)
  · by_cases e1 : q = y
    · subst e1
      cases h1.symm.trans Ar.1
      exact ⟨_, p2, o1, o2, o3⟩
    · exact ⟨c0, p6 q c0 e1 (by rw [hA]; exact h1), rfl, rfl, rfl⟩
  · rw [own_gc_len]
    obtain ⟨t1, kk, t2, comp, t3⟩ := Ar.2.1
    have hg2 : ∀ i, i < (GetCharsL.outCell ⟨x, nn, c, y, cl, st, d1, D1, d2, D2⟩).slots.size → (GetCharsL.outCell ⟨x, nn, c, y, cl, st, d1, D1, d2, D2⟩).slots[i]? = some ((own_gc w c x nn D1 D2).getD i (.int 0)) := fun i hi => by
      rw [← eo, List.getD_eq_getElem?_getD, Array.getElem?_toList, Array.getElem?_eq_getElem hi]; rfl
    refine ⟨_, ⟨p2, ⟨fun q => by rw [o2]; exact t1 q, kk, by rw [o1]; exact t2, comp, t3⟩, by rw [o2]; exact Ar.2.2⟩, by rw [o1]; exact qk, by rw [es, own_n32 h31], own_nneg h31, hg2, fun i hi => ?_⟩
    have := o4 i hi
    rw [Array.getD_eq_getD_getElem?, hg2 i hi] at this
    exact this
theorem own_aat {Z : State} {a : Addr} {c : Cell} (h : Z.arrayAt? a = some c) : Z.heap[a]? = some c ∧ c.vm ≠ .unknown := by
  unfold State.arrayAt? at h
  cases hc : Z.heap[a]? with
  | none => simp [hc] at h
  | some c0 =>
    cases hk : Z.vm.classes[c0.cls]? with
    | none => simp [hc, hk] at h
    | some k0 =>
      by_cases hu : c0.vm = .unknown ∨ c0.vm.isStatics = true
      · simp [hc, hk, hu] at h
      · simp only [hc, hk, Option.bind_eq_bind, Option.bind_some, if_neg hu] at h
        split at h
        · cases h; exact ⟨rfl, fun q => hu (Or.inl q)⟩
        · cases h
theorem own_lenv {t : Term} {a : Addr} {z : Int32} (ht : t.eval args Z none [] Z = some (.ref a)) (h : (Term.length t).eval args Z none [] Z = some (.int z)) : ∃ c, Z.arrayAt? a = some c ∧ c.slots.size < 2147483648 ∧ c.slots.size.toInt32 = z := by
  cases hA : Z.arrayAt? a with
  | none => simp [Term.eval, ht, hA] at h
  | some c =>
    simp [Term.eval, ht, hA] at h
    exact ⟨c, rfl, h.1, h.2⟩
theorem own_tbl {name : String} (hf : Fit Z) (wl : (Jvm.Cond.laysStatic "java/lang/Integer" name "[B").before args Z = true) (wi : (Jvm.Cond.initializedFor "java/lang/Integer" name "[B").before args Z = true)
    (we : (Jvm.Cond.exactly (.static "java/lang/Integer" name "[B") "[B").value args Z none Z [] = some true) (wn : (Jvm.Cond.eq (.length (.static "java/lang/Integer" name "[B")) (.int 100)).value args Z none Z [] = some true) (wa : (Jvm.Cond.arrayClass .byte).before a0 Z = true) :
    ∃ st d D c k, Tbl Z name st d D ∧ Z.vm.findClass "java/lang/Integer" = some c ∧ Z.vm.classes[c]? = some k ∧ k.statics = some st := by
  obtain ⟨d, ev⟩ := exa_v we
  obtain ⟨D, kD, e1, e2, e3, e4, -⟩ := Exa.start ev we
  obtain ⟨cf, i, k, f, st, cell, s1, s2, s3, s4, s5, s6, s7⟩ := Sta.start ev (Or.inl wi)
  obtain ⟨cA, kA, comp, hfind, hk, hkind⟩ := Cond.arrayClass_spec wa
  have hfind' : Z.vm.findClass "[B" = some cA := hfind
  cases hfind'.symm.trans e2
  have hA : Z.isArrayOf D .byte := ⟨fun q h => (by rw [h] at e4; cases e4), kA, hk, comp, hkind⟩
  obtain ⟨x, y, l1, l2, -, k2⟩ := cmp_v (Or.inl wn)
  cases (Term.int_eval (100 : Int32)).symm.trans l2
  obtain ⟨z, rfl⟩ := k2
  simp only [Cond.value, l1, l2] at wn
  have h3 : z = 100 := by simpa using wn
  subst h3
  obtain ⟨c, hA1, hlt, hz⟩ := own_lenv ev l1
  obtain ⟨g1, g2⟩ := own_aat hA1
  obtain rfl : c = D := Option.some.inj (g1.symm.trans e1)
  have hsz : c.slots.size = 100 := by
    have e := len_toInt (show c.slots.size < 2 ^ 31 by omega)
    rw [hz] at e
    have e100 : (100 : Int32).toInt = 100 := by decide
    omega
  have AR : Arr Z Z.heap d c .byte := ⟨e1, hA, g2⟩
  obtain ⟨c2, k2, i2, f2, a2, cell2, w1, w2, w3, w4, -⟩ := Cond.laysStatic_spec wl
  have q1 := s1.symm.trans w2
  simp only [Option.some.injEq, Prod.mk.injEq] at q1
  obtain ⟨rfl, rfl, rfl, rfl⟩ := q1
  refine ⟨st, d, c, cf, k, ⟨_, _, _, _, cell, s1, s2, s3, s4, s5, (fun q => by rw [q] at s6; cases s6), s7, e1, hA, g2, hsz, fun r hr => ?_⟩, w1, (State.fieldFound?_spec s1).1, s4⟩
  obtain ⟨v, v1, v2⟩ := elem_fit hf AR (j := Nat.toInt32 r) (idx_in (by rw [hsz]; exact hr) (by rw [hsz]; decide))
  have er : (Nat.toInt32 r).toNatClampNeg = r := by simp only [Int32.toNatClampNeg, len_toInt (show r < 2 ^ 31 by omega)]; rfl
  rw [er] at v1
  obtain ⟨x, rfl⟩ := fit_I v2 (by simp)
  rw [v1]
  simp [iAt, Array.getD_eq_getD_getElem?, v1]
end OwnG
theorem own_wS {Z : State} {a0 : Array Value} (hw : ∀ d ∈ tables_1, d.before a0 Z = true) : ∀ a ∈ Bundle.stringAtoms, a.before a0 Z = true := by
  intro a ha
  simp only [Bundle.stringAtoms, List.mem_cons, List.not_mem_nil, or_false] at ha
  rcases ha with rfl | rfl | rfl | rfl | rfl | rfl | rfl
  · exact (hw _ (own_m 5 rfl))
  · exact (hw _ (own_m 6 rfl))
  · exact (hw _ (own_m 7 rfl))
  · exact (hw _ (own_m 8 rfl))
  · exact (hw _ (own_m 9 rfl))
  · exact (hw _ (own_m 10 rfl))
  · exact (hw _ (own_m 11 rfl))
theorem own_hEL {Z : State} {a0 : Array Value} (hw : ∀ d ∈ tables_1, d.before a0 Z = true) : EW Z a0 consts_1 := EW.cons (hw _ (own_m 83 rfl)) (by decide) (EW.cons (hw _ (own_m 4 rfl)) (by decide) (EW.cons (hw _ (own_m 201 rfl)) (by decide) EW.nil))
theorem own_pn0 : plainName "java/lang/String" = true := by first | (simp [plainName, overriddenIn]; done) | decide +kernel
theorem own_ef22 (m : MethodId) (x0 : Addr) : entryFrame m #[(.ref x0)] 1 = mkF m 0 #[own_vr x0] [] := by first | (simp [entryFrame, mkF, argsToLocals, Value.category]; done) | rfl
abbrev own_c22 : ByteArray := jdk_42_method_152_code
theorem own_d22_0 : decode own_c22 0 = .ok (.getstatic 38, 3) := by decide +kernel
theorem own_d22_3 : decode own_c22 3 = .ok (.ifCond .eq 10, 3) := by decide +kernel
theorem own_d22_6 : decode own_c22 6 = .ok (.aload_n 0, 1) := by decide +kernel
theorem own_d22_7 : decode own_c22 7 = .ok (.getfield 15, 3) := by decide +kernel
theorem own_d22_10 : decode own_c22 10 = .ok (.goto 4, 3) := by decide +kernel
theorem own_d22_14 : decode own_c22 14 = .ok (.ireturn, 1) := by decide +kernel
def own_Q_own_cod (Z : State) (a : Addr) (cs : Int32) (h0 : Heap) (n0 : Nat) (v : Option Value) (h : Heap) (L : List Loc) : Prop := v = some (.int (0 : Int32)) ∧ Fr n0 L ∧ h = h0
theorem own_cod (l : Launch) (Z : State) (a0 : Array Value) (hw : ∀ d ∈ tables_1, d.before a0 Z = true) (ws : List Jvm.Cond) (a : Addr) (cs : Int32) (h0 : Heap) (n0 : Nat) (O0 : Old Z n0 h0) (SC : Sta Z Z.heap "java/lang/String" "COMPACT_STRINGS" "Z" (.int cs)) (hcs : ¬ cs = 0) (G : Fld Z h0 a "java/lang/String" "coder" "B" (.int (0 : Int32))) :
    own_Mt l (⟨"java/lang/String", "coder", "()B"⟩ : MethodName) own_c22 1 (some .byte) ws (own_r 0 0 0 0) #[(.ref a)] Z h0 (own_Q_own_cod Z a cs h0 n0) := by
 refine MetFree.of_bodySF (plainFor_of_name own_pn0) hisR ?_
 intro p_ e s m args below meth c_ s₁ Bd hml0 hP hK
 obtain ⟨rfl, hZ, hh⟩ := hP
 have hx := Bd.exec
 have hby := Bd.bytes
 have hml : c_.maxLocals = 1 := hml0
 have hown : s.vm.findClass "java/lang/String" = some m.cls := findClass_of_methodNamed Bd.named
 have hnm := (name_of_methodNamed Bd.named Bd.method).1
 have X0 : Stand p_ l e (own_r 0 0 0 0) s m #[(.ref a)] below meth c_ s₁ [] 0 0 := Stand.of_body Bd
 have e0 : s₁.heap = h0 := by rw [← hh, Bd.state]; rfl
 have N0 := Fr.nil n0
 refine own_close (s := s) (Q := (own_Q_own_cod Z a cs h0 n0)) (own_st (fun _ => castTop (own_ef22 m a)) ?_)
 obtain ⟨T1, X1, e1, st1⟩ := getS2 X0 hx hZ hown (host := "") (Or.inl (hw _ (own_m 172 rfl))) Via.refl e0 (SC.ext O0.2) (g := (mkF m 0 #[own_vr a] [])) rfl (hb hby own_d22_0)
 refine own_st st1 ?_
 show own_Rch _ _ _ _ T1 (mkF m 3 #[own_vr a] [(.int cs)])
 refine own_st (fun _ => XS.ifNo X1.here hx rfl (hb hby own_d22_3) rfl ((if0 _ _).trans (feq (hcs : ¬ (cs = (0 : Int32)))).1)) ?_
 refine own_aloadN X1 hx hby own_d22_6 rfl rfl rfl ?_
 obtain ⟨T2, X2, e2, st2⟩ := own_gF X1 hx hZ hown (hw _ (own_m 173 rfl)) e1 G (g := (mkF m 7 #[own_vr a] [(.ref a)])) rfl rfl (hb hby own_d22_7)
 refine own_st st2 ?_
 refine own_st (fun _ => XS.goto X2.here hx rfl (pc0 := 10) (pc' := 14) rfl (hb hby own_d22_10) (by decide) (by decide)) ?_
 show own_Rch _ _ _ _ T2 (mkF m 14 #[own_vr a] [(.int (0 : Int32))])
 refine own_retN (t := .byte) (by simp) X2 hx Bd.notSynchronized Bd.returns (hb hby own_d22_14) (by decide) (by decide) ?_
 rw [e2]
 exact ⟨by decide, N0, rfl⟩
theorem own_ef21 (m : MethodId) (x0 : Addr) : entryFrame m #[(.ref x0)] 1 = mkF m 0 #[own_vr x0] [] := by first | (simp [entryFrame, mkF, argsToLocals, Value.category]; done) | rfl
abbrev own_c21 : ByteArray := jdk_42_method_54_code
theorem own_d21_0 : decode own_c21 0 = .ok (.aload_n 0, 1) := by decide +kernel
theorem own_d21_1 : decode own_c21 1 = .ok (.getfield 9, 3) := by decide +kernel
theorem own_d21_4 : decode own_c21 4 = .ok (.arraylength, 1) := by decide +kernel
theorem own_d21_5 : decode own_c21 5 = .ok (.aload_n 0, 1) := by decide +kernel
theorem own_d21_6 : decode own_c21 6 = .ok (.invokevirtual 335, 3) := by decide +kernel
theorem own_pd0 : parseMethodDescriptor "()B" = some ⟨[], some .byte⟩ := by decide +kernel
theorem own_d21_9 : decode own_c21 9 = .ok (.ishr, 1) := by decide +kernel
theorem own_d21_10 : decode own_c21 10 = .ok (.ireturn, 1) := by decide +kernel
def own_Q_own_slen (Z : State) (sa : Addr) (sy : Addr) (sk : ClassId) (us : List Value) (cs : Int32) (h0 : Heap) (n0 : Nat) (v : Option Value) (h : Heap) (L : List Loc) : Prop := v = some (.int (Int32.ofNat us.length)) ∧ Fr n0 L ∧ h = h0
theorem own_slen (l : Launch) (Z : State) (a0 : Array Value) (hw : ∀ d ∈ tables_1, d.before a0 Z = true) (ws : List Jvm.Cond) (sa : Addr) (sy : Addr) (sk : ClassId) (us : List Value) (cs : Int32) (h0 : Heap) (n0 : Nat) (O0 : Old Z n0 h0) (SC : Sta Z Z.heap "java/lang/String" "COMPACT_STRINGS" "Z" (.int cs)) (hcs : ¬ cs = 0) (ES : Exa Z h0 sa "java/lang/String") (FS : Fld Z h0 sa "java/lang/String" "value" "[B" (.ref sy)) (GS : Fld Z h0 sa "java/lang/String" "coder" "B" (.int (0 : Int32))) (VS : Arv Z h0 sy sk .byte (Int32.ofNat us.length) us (.int (0 : Int32))) :
    own_Mt l (⟨"java/lang/String", "length", "()I"⟩ : MethodName) own_c21 1 (some .int) ws (own_r 1 0 0 13) #[(.ref sa)] Z h0 (own_Q_own_slen Z sa sy sk us cs h0 n0) := by
 refine MetFree.of_bodySF (plainFor_of_name own_pn0) hisR ?_
 intro p_ e s m args below meth c_ s₁ Bd hml0 hP hK
 obtain ⟨rfl, hZ, hh⟩ := hP
 have hx := Bd.exec
 have hby := Bd.bytes
 have hml : c_.maxLocals = 1 := hml0
 have hown : s.vm.findClass "java/lang/String" = some m.cls := findClass_of_methodNamed Bd.named
 have hnm := (name_of_methodNamed Bd.named Bd.method).1
 have X0 : Stand p_ l e (own_r 1 0 0 13) s m #[(.ref sa)] below meth c_ s₁ [] 0 0 := Stand.of_body Bd
 have e0 : s₁.heap = h0 := by rw [← hh, Bd.state]; rfl
 have N0 := Fr.nil n0
 refine own_close (s := s) (Q := (own_Q_own_slen Z sa sy sk us cs h0 n0)) (own_st (fun _ => castTop (own_ef21 m sa)) ?_)
 show own_Rch _ _ _ _ s₁ (mkF m 0 #[own_vr sa] [])
 refine own_aloadN X0 hx hby own_d21_0 rfl rfl rfl ?_
 obtain ⟨T1, X1, e1, st1⟩ := own_gF X0 hx hZ hown (hw _ (own_m 166 rfl)) e0 FS (g := (mkF m 1 #[own_vr sa] [(.ref sa)])) rfl rfl (hb hby own_d21_1)
 refine own_st st1 ?_
 obtain ⟨cl2, Ar2, -, S2, M2, -, -⟩ := id VS
 refine own_st (X1.arraylength hx (by rw [e1]; exact Ar2.1) (State.isArrayOf_alike (hZ).alike Ar2.2.1) (g := (mkF m 4 #[own_vr sa] [(.ref sy)])) rfl rfl (hb hby own_d21_4)) ?_
 rw [len_of S2 M2]
 refine own_aloadN X1 hx hby own_d21_5 rfl rfl rfl ?_
 obtain ⟨cq3, kq3, q3a, q3b, q3c⟩ := isOf hZ e1 ES
 obtain ⟨_, _, ⟨T3, L3, k3, n3⟩, -, X3, ⟨Lc3, hQ3, l3, y3, z3⟩, st3⟩ := X1.virtualBack hx (y := (⟨"java/lang/String", "coder", "()B"⟩ : MethodName)) (z := (⟨"java/lang/String", "coder", "()B"⟩ : MethodName)) hown (mvT hZ (hw _ (own_m 167 rfl))) (mvT hZ (hw _ (own_m 168 rfl))) (notFace_of_selects (args := #[]) (mvT hZ (hw _ (own_m 170 rfl)))) (mvT hZ (hw _ (own_m 170 rfl))) (mvT hZ (hw _ (own_m 169 rfl))) (by decide) (backOf (W := 1) (own_cod l Z a0 hw [] sa cs h0 n0 O0 SC hcs GS) hZ (hw _ (own_m 171 rfl)) (hw _ (own_m 5 rfl)) (by decide) (by decide)) q3a q3c (g := (mkF m 6 #[own_vr sa] [(.ref sa), (.int (Int32.ofNat us.length))])) rfl (by rw [hml]; rfl) (Steps.refl _) (argsL := []) (rest := [(.int (Int32.ofNat us.length))]) (lenOf own_pd0 rfl) rfl (by show 2 * 0 + _ ≤ _; exact Nat.le_of_eq rfl) (hb hby own_d21_6) (fun _ _ => ⟨rfl, e1, (by decide : 0 + 0 ≤ _), (by decide : 0 + 0 ≤ _)⟩)
 dsimp only [Pt.U, Pt.locs, Pt.cells, Pt.slots] at X3 l3 y3 z3 st3 hQ3
 subst l3 y3 z3
 obtain ⟨rfl, N3q, hh3⟩ := hQ3
 have N3 := Fr.app N0 N3q
 refine own_st (fun _ kt => st3.trans kt) ?_
 show own_Rch _ _ _ _ T3 (mkF m 9 #[own_vr sa] [(.int (0 : Int32)), (.int (Int32.ofNat us.length))])
 refine own_st (fun _ => XS.ishr X3.here hx rfl (hb hby own_d21_9) rfl) ?_
 show own_Rch p_ e below _ T3 (mkF m 10 #[own_vr sa] [(.int ((Int32.ofNat us.length) >>> ((0 : Int32) &&& 31)))])
 rw [own_ishr0]
 show own_Rch _ _ _ _ T3 (mkF m 10 #[own_vr sa] [(.int (Int32.ofNat us.length))])
 refine own_retI X3 hx Bd.notSynchronized Bd.returns (hb hby own_d21_10) (by decide) (by decide) ?_
 rw [hh3]
 exact ⟨rfl, N3, rfl⟩
theorem own_pn1 : plainName "java/lang/AbstractStringBuilder" = true := by first | (simp [plainName, overriddenIn]; done) | decide +kernel
theorem own_ef25 (m : MethodId) (x0 : Addr) (x1 : Addr) : entryFrame m #[(.ref x0), (.ref x1)] 2 = mkF m 0 #[own_vr x0, own_vr x1] [] := by first | (simp [entryFrame, mkF, argsToLocals, Value.category]; done) | rfl
abbrev own_c25 : ByteArray := jdk_68_method_71_code
theorem own_d25_0 : decode own_c25 0 = .ok (.getstatic 18, 3) := by decide +kernel
theorem own_d25_3 : decode own_c25 3 = .ok (.ifCond .eq 18, 3) := by decide +kernel
theorem own_d25_6 : decode own_c25 6 = .ok (.aload_n 0, 1) := by decide +kernel
theorem own_d25_7 : decode own_c25 7 = .ok (.getfield 22, 3) := by decide +kernel
theorem own_d25_10 : decode own_c25 10 = .ok (.aload_n 1, 1) := by decide +kernel
theorem own_d25_11 : decode own_c25 11 = .ok (.invokevirtual 40, 3) := by decide +kernel
theorem own_d25_14 : decode own_c25 14 = .ok (.if_icmp .eq 7, 3) := by decide +kernel
theorem own_d25_21 : decode own_c25 21 = .ok (.return_, 1) := by decide +kernel
abbrev own_y0 : MethodName := ⟨"java/lang/AbstractStringBuilder", "inflateIfNeededFor", "(Ljava/lang/String;)V"⟩
def own_Q_own_inf (Z : State) (a : Addr) (sa : Addr) (sy : Addr) (sk : ClassId) (us : List Value) (cs : Int32) (h0 : Heap) (n0 : Nat) (v : Option Value) (h : Heap) (L : List Loc) : Prop := v = none ∧ Fr n0 L ∧ h = h0
theorem own_inf (l : Launch) (Z : State) (a0 : Array Value) (hw : ∀ d ∈ tables_1, d.before a0 Z = true) (ws : List Jvm.Cond) (a : Addr) (sa : Addr) (sy : Addr) (sk : ClassId) (us : List Value) (cs : Int32) (h0 : Heap) (n0 : Nat) (O0 : Old Z n0 h0) (SC : Sta Z Z.heap "java/lang/String" "COMPACT_STRINGS" "Z" (.int cs)) (hcs : ¬ cs = 0) (FC : Fld Z h0 a "java/lang/AbstractStringBuilder" "coder" "B" (.int (0 : Int32))) (ES : Exa Z h0 sa "java/lang/String") (FS : Fld Z h0 sa "java/lang/String" "value" "[B" (.ref sy)) (GS : Fld Z h0 sa "java/lang/String" "coder" "B" (.int (0 : Int32))) (VS : Arv Z h0 sy sk .byte (Int32.ofNat us.length) us (.int (0 : Int32))) :
    own_Mt l own_y0 own_c25 2 none ws (own_r 1 0 0 13) #[(.ref a), (.ref sa)] Z h0 (own_Q_own_inf Z a sa sy sk us cs h0 n0) := by
 refine MetFree.of_bodySF (plainFor_of_name own_pn1) hisR ?_
 intro p_ e s m args below meth c_ s₁ Bd hml0 hP hK
 obtain ⟨rfl, hZ, hh⟩ := hP
 have hx := Bd.exec
 have hby := Bd.bytes
 have hml : c_.maxLocals = 2 := hml0
 have hown : s.vm.findClass "java/lang/AbstractStringBuilder" = some m.cls := findClass_of_methodNamed Bd.named
 have hnm := (name_of_methodNamed Bd.named Bd.method).1
 have X0 : Stand p_ l e (own_r 1 0 0 13) s m #[(.ref a), (.ref sa)] below meth c_ s₁ [] 0 0 := Stand.of_body Bd
 have e0 : s₁.heap = h0 := by rw [← hh, Bd.state]; rfl
 have N0 := Fr.nil n0
 refine own_close (s := s) (Q := (own_Q_own_inf Z a sa sy sk us cs h0 n0)) (own_st (fun _ => castTop (own_ef25 m a sa)) ?_)
 obtain ⟨T1, X1, e1, st1⟩ := getS2 X0 hx hZ hown (host := "") (Or.inl (hw _ (own_m 146 rfl))) Via.refl e0 (SC.ext O0.2) (g := (mkF m 0 #[own_vr a, own_vr sa] [])) rfl (hb hby own_d25_0)
 refine own_st st1 ?_
 show own_Rch _ _ _ _ T1 (mkF m 3 #[own_vr a, own_vr sa] [(.int cs)])
 refine own_st (fun _ => XS.ifNo X1.here hx rfl (hb hby own_d25_3) rfl ((if0 _ _).trans (feq (hcs : ¬ (cs = (0 : Int32)))).1)) ?_
 refine own_aloadN X1 hx hby own_d25_6 rfl rfl rfl ?_
 obtain ⟨T2, X2, e2, st2⟩ := own_gF X1 hx hZ hown (hw _ (own_m 149 rfl)) e1 FC (g := (mkF m 7 #[own_vr a, own_vr sa] [(.ref a)])) rfl rfl (hb hby own_d25_7)
 refine own_st st2 ?_
 refine own_aloadN X2 hx hby own_d25_10 rfl rfl rfl ?_
 obtain ⟨cq3, kq3, q3a, q3b, q3c⟩ := isOf hZ e2 ES
 obtain ⟨_, _, ⟨T3, L3, k3, n3⟩, -, X3, ⟨Lc3, hQ3, l3, y3, z3⟩, st3⟩ := X2.virtualBack hx (y := (⟨"java/lang/String", "coder", "()B"⟩ : MethodName)) (z := (⟨"java/lang/String", "coder", "()B"⟩ : MethodName)) hown (mvT hZ (hw _ (own_m 191 rfl))) (mvT hZ (hw _ (own_m 168 rfl))) (notFace_of_selects (args := #[]) (mvT hZ (hw _ (own_m 170 rfl)))) (mvT hZ (hw _ (own_m 170 rfl))) (mvT hZ (hw _ (own_m 169 rfl))) (by decide) (backOf (W := 1) (own_cod l Z a0 hw [] sa cs h0 n0 O0 SC hcs GS) hZ (hw _ (own_m 171 rfl)) (hw _ (own_m 5 rfl)) (by decide) (by decide)) q3a q3c (g := (mkF m 11 #[own_vr a, own_vr sa] [(.ref sa), (.int (0 : Int32))])) rfl (by rw [hml]; rfl) (Steps.refl _) (argsL := []) (rest := [(.int (0 : Int32))]) (lenOf own_pd0 rfl) rfl (by show 2 * 0 + _ ≤ _; exact Nat.le_of_eq rfl) (hb hby own_d25_11) (fun _ _ => ⟨rfl, e2, (by decide : 0 + 0 ≤ _), (by decide : 0 + 0 ≤ _)⟩)
 dsimp only [Pt.U, Pt.locs, Pt.cells, Pt.slots] at X3 l3 y3 z3 st3 hQ3
 subst l3 y3 z3
 obtain ⟨rfl, N3q, hh3⟩ := hQ3
 have N3 := Fr.app N0 N3q
 refine own_st (fun _ kt => st3.trans kt) ?_
 show own_Rch _ _ _ _ T3 (mkF m 14 #[own_vr a, own_vr sa] [(.int (0 : Int32)), (.int (0 : Int32))])
 refine own_st (fun _ => XS.icmpYes X3.here hx rfl (pc0 := 14) (pc' := 21) rfl (hb hby own_d25_14) rfl (teq (rfl : (0 : Int32) = (0 : Int32))).1 (by decide) (by decide)) ?_
 show own_Rch _ _ _ _ T3 (mkF m 21 #[own_vr a, own_vr sa] [])
 refine own_retV X3 hx Bd.notSynchronized Bd.returns (hb hby own_d25_21) (by decide) (by decide) ?_
 rw [hh3]
 exact ⟨rfl, N3, rfl⟩
theorem own_ef26 (m : MethodId) (x0 : Addr) (x1 : Addr) (x2 : Int32) (x3 : Int32) : entryFrame m #[(.ref x0), (.ref x1), (.int x2), (.int x3)] 4 = mkF m 0 #[own_vr x0, own_vr x1, own_vi x2, own_vi x3] [] := by first | (simp [entryFrame, mkF, argsToLocals, Value.category]; done) | rfl
abbrev own_c26 : ByteArray := jdk_42_method_147_code
theorem own_d26_0 : decode own_c26 0 = .ok (.aload_n 0, 1) := by decide +kernel
theorem own_d26_1 : decode own_c26 1 = .ok (.invokevirtual 335, 3) := by decide +kernel
theorem own_d26_4 : decode own_c26 4 = .ok (.iload_n 3, 1) := by decide +kernel
theorem own_d26_5 : decode own_c26 5 = .ok (.if_icmp .ne 23, 3) := by decide +kernel
theorem own_d26_8 : decode own_c26 8 = .ok (.aload_n 0, 1) := by decide +kernel
theorem own_d26_9 : decode own_c26 9 = .ok (.getfield 9, 3) := by decide +kernel
theorem own_d26_12 : decode own_c26 12 = .ok (.iconst 0, 1) := by decide +kernel
theorem own_d26_13 : decode own_c26 13 = .ok (.aload_n 1, 1) := by decide +kernel
theorem own_d26_14 : decode own_c26 14 = .ok (.iload_n 2, 1) := by decide +kernel
theorem own_d26_15 : decode own_c26 15 = .ok (.iload_n 3, 1) := by decide +kernel
theorem own_d26_16 : decode own_c26 16 = .ok (.ishl, 1) := by decide +kernel
theorem own_d26_17 : decode own_c26 17 = .ok (.aload_n 0, 1) := by decide +kernel
theorem own_d26_18 : decode own_c26 18 = .ok (.getfield 9, 3) := by decide +kernel
theorem own_d26_21 : decode own_c26 21 = .ok (.arraylength, 1) := by decide +kernel
theorem own_d26_22 : decode own_c26 22 = .ok (.invokestatic 212, 3) := by decide +kernel
theorem own_d26_25 : decode own_c26 25 = .ok (.goto 18, 3) := by decide +kernel
theorem own_d26_43 : decode own_c26 43 = .ok (.return_, 1) := by decide +kernel
abbrev own_y1 : MethodName := ⟨"java/lang/String", "getBytes", "([BIB)V"⟩
def own_Q_own_gb (Z : State) (sa : Addr) (sy : Addr) (sk : ClassId) (us : List Value) (y : Addr) (ky : ClassId) (w : List Value) (c : Nat) (cs : Int32) (h0 : Heap) (n0 : Nat) (v : Option Value) (h : Heap) (L : List Loc) : Prop := v = none ∧ Fr n0 L ∧ Keep h0 h [y] ∧ Arv Z h y ky .byte (Int32.ofNat (own_put w c us).length) (own_put w c us) (.int (0 : Int32))
theorem own_gb (l : Launch) (Z : State) (a0 : Array Value) (hw : ∀ d ∈ tables_1, d.before a0 Z = true) (ws : List Jvm.Cond) (sa : Addr) (sy : Addr) (sk : ClassId) (us : List Value) (y : Addr) (ky : ClassId) (w : List Value) (c : Nat) (cs : Int32) (h0 : Heap) (n0 : Nat) (O0 : Old Z n0 h0) (SC : Sta Z Z.heap "java/lang/String" "COMPACT_STRINGS" "Z" (.int cs)) (hcs : ¬ cs = 0) (ES : Exa Z h0 sa "java/lang/String") (FS : Fld Z h0 sa "java/lang/String" "value" "[B" (.ref sy)) (GS : Fld Z h0 sa "java/lang/String" "coder" "B" (.int (0 : Int32))) (VS : Arv Z h0 sy sk .byte (Int32.ofNat us.length) us (.int (0 : Int32))) (EY : Exa Z h0 y "[B") (VY : Arv Z h0 y ky .byte (Int32.ofNat w.length) w (.int (0 : Int32))) (hl : w.length ≤ 40) (hc : c + us.length ≤ w.length) (gy : n0 ≤ y) (hne : sy ≠ y) :
    own_Mt l own_y1 own_c26 4 none ws (own_r 1 0 0 18) #[(.ref sa), (.ref y), (.int (Int32.ofNat c)), (.int (0 : Int32))] Z h0 (own_Q_own_gb Z sa sy sk us y ky w c cs h0 n0) := by
 refine MetFree.of_bodySF (plainFor_of_name own_pn0) hisR ?_
 intro p_ e s m args below meth c_ s₁ Bd hml0 hP hK
 obtain ⟨rfl, hZ, hh⟩ := hP
 have hx := Bd.exec
 have hby := Bd.bytes
 have hml : c_.maxLocals = 4 := hml0
 have hown : s.vm.findClass "java/lang/String" = some m.cls := findClass_of_methodNamed Bd.named
 have hnm := (name_of_methodNamed Bd.named Bd.method).1
 have X0 : Stand p_ l e (own_r 1 0 0 18) s m #[(.ref sa), (.ref y), (.int (Int32.ofNat c)), (.int (0 : Int32))] below meth c_ s₁ [] 0 0 := Stand.of_body Bd
 have e0 : s₁.heap = h0 := by rw [← hh, Bd.state]; rfl
 have N0 := Fr.nil n0
 refine own_close (s := s) (Q := (own_Q_own_gb Z sa sy sk us y ky w c cs h0 n0)) (own_st (fun _ => castTop (own_ef26 m sa y (Int32.ofNat c) (0 : Int32))) ?_)
 have K0 := Keep.refl h0 [y]
 show own_Rch _ _ _ _ s₁ (mkF m 0 #[own_vr sa, own_vr y, own_vi (Int32.ofNat c), own_vi (0 : Int32)] [])
 refine own_aloadN X0 hx hby own_d26_0 rfl rfl rfl ?_
 obtain ⟨cq1, kq1, q1a, q1b, q1c⟩ := isOf hZ e0 ES
 obtain ⟨_, _, ⟨T1, L1, k1, n1⟩, -, X1, ⟨Lc1, hQ1, l1, y1, z1⟩, st1⟩ := X0.virtualBack hx (y := (⟨"java/lang/String", "coder", "()B"⟩ : MethodName)) (z := (⟨"java/lang/String", "coder", "()B"⟩ : MethodName)) hown (mvT hZ (hw _ (own_m 167 rfl))) (mvT hZ (hw _ (own_m 168 rfl))) (notFace_of_selects (args := #[]) (mvT hZ (hw _ (own_m 170 rfl)))) (mvT hZ (hw _ (own_m 170 rfl))) (mvT hZ (hw _ (own_m 169 rfl))) (by decide) (backOf (W := 0) (own_cod l Z a0 hw [] sa cs h0 n0 O0 SC hcs GS) hZ (hw _ (own_m 171 rfl)) (hw _ (own_m 5 rfl)) (by decide) (by decide)) q1a q1c (g := (mkF m 1 #[own_vr sa, own_vr y, own_vi (Int32.ofNat c), own_vi (0 : Int32)] [(.ref sa)])) rfl (by rw [hml]; rfl) (Steps.refl _) (argsL := []) (rest := []) (lenOf own_pd0 rfl) rfl (by show 2 * 0 + _ ≤ _; exact Nat.le_of_eq rfl) (hb hby own_d26_1) (fun _ _ => ⟨rfl, e0, (by decide : 0 + 0 ≤ _), (by decide : 0 + 0 ≤ _)⟩)
 dsimp only [Pt.U, Pt.locs, Pt.cells, Pt.slots] at X1 l1 y1 z1 st1 hQ1
 subst l1 y1 z1
 obtain ⟨rfl, N1q, hh1⟩ := hQ1
 have N1 := Fr.app N0 N1q
 refine own_st (fun _ kt => st1.trans kt) ?_
 refine own_iloadN X1 hx hby own_d26_4 rfl rfl ?_
 show own_Rch _ _ _ _ T1 (mkF m 5 #[own_vr sa, own_vr y, own_vi (Int32.ofNat c), own_vi (0 : Int32)] [(.int (0 : Int32)), (.int (0 : Int32))])
 refine own_st (fun _ => XS.icmpNo X1.here hx rfl (hb hby own_d26_5) rfl (teq (rfl : (0 : Int32) = (0 : Int32))).2) ?_
 refine own_aloadN X1 hx hby own_d26_8 rfl rfl rfl ?_
 obtain ⟨T2, X2, e2, st2⟩ := own_gF X1 hx hZ hown (hw _ (own_m 166 rfl)) hh1 FS (g := (mkF m 9 #[own_vr sa, own_vr y, own_vi (Int32.ofNat c), own_vi (0 : Int32)] [(.ref sa)])) rfl rfl (hb hby own_d26_9)
 refine own_st st2 ?_
 refine own_iconst X2 hx hby own_d26_12 rfl ?_
 refine own_aloadN X2 hx hby own_d26_13 rfl rfl rfl ?_
 refine own_iloadN X2 hx hby own_d26_14 rfl rfl ?_
 refine own_iloadN X2 hx hby own_d26_15 rfl rfl ?_
 show own_Rch _ _ _ _ T2 (mkF m 16 #[own_vr sa, own_vr y, own_vi (Int32.ofNat c), own_vi (0 : Int32)] [(.int (0 : Int32)), (.int (Int32.ofNat c)), (.ref y), (.int (0 : Int32)), (.ref sy)])
 refine own_st (fun _ => XS.ishl X2.here hx rfl (hb hby own_d26_16) rfl) ?_
 show own_Rch p_ e below _ T2 (mkF m 17 #[own_vr sa, own_vr y, own_vi (Int32.ofNat c), own_vi (0 : Int32)] [(.int ((Int32.ofNat c) <<< ((0 : Int32) &&& 31))), (.ref y), (.int (0 : Int32)), (.ref sy)])
 rw [own_ishl0]
 refine own_aloadN X2 hx hby own_d26_17 rfl rfl rfl ?_
 obtain ⟨T3, X3, e3, st3⟩ := own_gF X2 hx hZ hown (hw _ (own_m 166 rfl)) e2 FS (g := (mkF m 18 #[own_vr sa, own_vr y, own_vi (Int32.ofNat c), own_vi (0 : Int32)] [(.ref sa), (.int (Int32.ofNat c)), (.ref y), (.int (0 : Int32)), (.ref sy)])) rfl rfl (hb hby own_d26_18)
 refine own_st st3 ?_
 obtain ⟨cl4, Ar4, -, S4, M4, -, -⟩ := id VS
 refine own_st (X3.arraylength hx (by rw [e3]; exact Ar4.1) (State.isArrayOf_alike (hZ).alike Ar4.2.1) (g := (mkF m 21 #[own_vr sa, own_vr y, own_vi (Int32.ofNat c), own_vi (0 : Int32)] [(.ref sy), (.int (Int32.ofNat c)), (.ref y), (.int (0 : Int32)), (.ref sy)])) rfl rfl (hb hby own_d26_21)) ?_
 rw [len_of S4 M4]
 show own_Rch _ _ _ _ T3 (mkF m 22 #[own_vr sa, own_vr y, own_vi (Int32.ofNat c), own_vi (0 : Int32)] [(.int (Int32.ofNat us.length)), (.int (Int32.ofNat c)), (.ref y), (.int (0 : Int32)), (.ref sy)])
 obtain ⟨T5, h5, lo5, X5, e5, N5, K5, V5, st5⟩ := own_cp X3 hx hZ hown (hw _ (own_m 197 rfl)) (hw _ (own_m 200 rfl)) (hw _ (own_m 198 rfl)) (hw _ (own_m 199 rfl)) e3 VS VY rfl rfl (by omega) (by omega) (q := c) (n := us.length) (us := us) (Nat.le_refl _) hc (List.take_length) N1 gy (jn := (Int32.ofNat us.length)) (jq := (Int32.ofNat c)) rfl rfl (g := (mkF m 22 #[own_vr sa, own_vr y, own_vi (Int32.ofNat c), own_vi (0 : Int32)] [(.int (Int32.ofNat us.length)), (.int (Int32.ofNat c)), (.ref y), (.int (0 : Int32)), (.ref sy)])) rfl (by rw [hml]; rfl) rfl (hb hby own_d26_22) (by decide) (W := 0) (by show 2 * 0 + _ ≤ _; exact Nat.le_of_eq rfl) (by decide)
 refine own_st st5 ?_
 have O0_x5 := O0.keep K5 (allS gy all0)
 have ES_x5 := ES.keep K5
 have FS_x5 := FS.keep K5 (ninS (Exa.ne ES EY (by decide)) nin0)
 have GS_x5 := GS.keep K5 (ninS (Exa.ne ES EY (by decide)) nin0)
 have VS_x5 := VS.keep K5 (ninS hne nin0)
 have EY_x5 := EY.keep K5
 have K0_x5 := K0.trans K5 (allS (Or.inl (List.mem_of_getElem? (i := 0) rfl)) all0)
 refine own_st (fun _ => XS.goto X5.here hx rfl (pc0 := 25) (pc' := 43) rfl (hb hby own_d26_25) (by decide) (by decide)) ?_
 show own_Rch _ _ _ _ T5 (mkF m 43 #[own_vr sa, own_vr y, own_vi (Int32.ofNat c), own_vi (0 : Int32)] [])
 refine own_retV X5 hx Bd.notSynchronized Bd.returns (hb hby own_d26_43) (by decide) (by decide) ?_
 rw [e5]
 exact ⟨rfl, N5, K0_x5, V5⟩
theorem own_ef24 (m : MethodId) (x0 : Addr) (x1 : Int32) (x2 : Addr) : entryFrame m #[(.ref x0), (.int x1), (.ref x2)] 3 = mkF m 0 #[own_vr x0, own_vi x1, own_vr x2] [] := by first | (simp [entryFrame, mkF, argsToLocals, Value.category]; done) | rfl
abbrev own_c24 : ByteArray := jdk_68_method_73_code
theorem own_d24_0 : decode own_c24 0 = .ok (.aload_n 0, 1) := by decide +kernel
theorem own_d24_1 : decode own_c24 1 = .ok (.aload_n 2, 1) := by decide +kernel
theorem own_d24_2 : decode own_c24 2 = .ok (.invokevirtual 397, 3) := by decide +kernel
theorem own_pd1 : parseMethodDescriptor "(Ljava/lang/String;)V" = some ⟨[(.object "java/lang/String")], none⟩ := by decide +kernel
theorem own_d24_5 : decode own_c24 5 = .ok (.aload_n 2, 1) := by decide +kernel
theorem own_d24_6 : decode own_c24 6 = .ok (.aload_n 0, 1) := by decide +kernel
theorem own_d24_7 : decode own_c24 7 = .ok (.getfield 15, 3) := by decide +kernel
theorem own_d24_10 : decode own_c24 10 = .ok (.iload_n 1, 1) := by decide +kernel
theorem own_d24_11 : decode own_c24 11 = .ok (.aload_n 0, 1) := by decide +kernel
theorem own_d24_12 : decode own_c24 12 = .ok (.getfield 22, 3) := by decide +kernel
theorem own_d24_15 : decode own_c24 15 = .ok (.invokevirtual 399, 3) := by decide +kernel
theorem own_pd2 : parseMethodDescriptor "([BIB)V" = some ⟨[(.array .byte), .int, .byte], none⟩ := by decide +kernel
theorem own_d24_18 : decode own_c24 18 = .ok (.return_, 1) := by decide +kernel
abbrev own_y2 : MethodName := ⟨"java/lang/AbstractStringBuilder", "putStringAt", "(ILjava/lang/String;)V"⟩
def own_Q_own_pst (Z : State) (a : Addr) (y : Addr) (ky : ClassId) (w : List Value) (c : Nat) (sa : Addr) (sy : Addr) (sk : ClassId) (us : List Value) (cs : Int32) (h0 : Heap) (n0 : Nat) (v : Option Value) (h : Heap) (L : List Loc) : Prop := v = none ∧ Fr n0 L ∧ Keep h0 h [y] ∧ Arv Z h y ky .byte (Int32.ofNat (own_put w c us).length) (own_put w c us) (.int (0 : Int32))
theorem own_pst (l : Launch) (Z : State) (a0 : Array Value) (hw : ∀ d ∈ tables_1, d.before a0 Z = true) (ws : List Jvm.Cond) (a : Addr) (y : Addr) (ky : ClassId) (w : List Value) (c : Nat) (sa : Addr) (sy : Addr) (sk : ClassId) (us : List Value) (cs : Int32) (h0 : Heap) (n0 : Nat) (O0 : Old Z n0 h0) (SC : Sta Z Z.heap "java/lang/String" "COMPACT_STRINGS" "Z" (.int cs)) (hcs : ¬ cs = 0) (EA : Exa Z h0 a "java/lang/StringBuilder") (FV : Fld Z h0 a "java/lang/AbstractStringBuilder" "value" "[B" (.ref y)) (FC : Fld Z h0 a "java/lang/AbstractStringBuilder" "coder" "B" (.int (0 : Int32))) (FN : Fld Z h0 a "java/lang/AbstractStringBuilder" "count" "I" (.int (Int32.ofNat c))) (EY : Exa Z h0 y "[B") (VY : Arv Z h0 y ky .byte (Int32.ofNat w.length) w (.int (0 : Int32))) (ES : Exa Z h0 sa "java/lang/String") (FS : Fld Z h0 sa "java/lang/String" "value" "[B" (.ref sy)) (GS : Fld Z h0 sa "java/lang/String" "coder" "B" (.int (0 : Int32))) (VS : Arv Z h0 sy sk .byte (Int32.ofNat us.length) us (.int (0 : Int32))) (hl : w.length ≤ 40) (hc : c + us.length ≤ w.length) (ga : n0 ≤ a) (gy : n0 ≤ y) (hne : sy ≠ y) :
    own_Mt l own_y2 own_c24 3 none ws (own_r 2 0 0 33) #[(.ref a), (.int (Int32.ofNat c)), (.ref sa)] Z h0 (own_Q_own_pst Z a y ky w c sa sy sk us cs h0 n0) := by
 refine MetFree.of_bodySF (plainFor_of_name own_pn1) hisR ?_
 intro p_ e s m args below meth c_ s₁ Bd hml0 hP hK
 obtain ⟨rfl, hZ, hh⟩ := hP
 have hx := Bd.exec
 have hby := Bd.bytes
 have hml : c_.maxLocals = 3 := hml0
 have hown : s.vm.findClass "java/lang/AbstractStringBuilder" = some m.cls := findClass_of_methodNamed Bd.named
 have hnm := (name_of_methodNamed Bd.named Bd.method).1
 have X0 : Stand p_ l e (own_r 2 0 0 33) s m #[(.ref a), (.int (Int32.ofNat c)), (.ref sa)] below meth c_ s₁ [] 0 0 := Stand.of_body Bd
 have e0 : s₁.heap = h0 := by rw [← hh, Bd.state]; rfl
 have N0 := Fr.nil n0
 refine own_close (s := s) (Q := (own_Q_own_pst Z a y ky w c sa sy sk us cs h0 n0)) (own_st (fun _ => castTop (own_ef24 m a (Int32.ofNat c) sa)) ?_)
 have K0 := Keep.refl h0 [y]
 show own_Rch _ _ _ _ s₁ (mkF m 0 #[own_vr a, own_vi (Int32.ofNat c), own_vr sa] [])
 refine own_aloadN X0 hx hby own_d24_0 rfl rfl rfl ?_
 refine own_aloadN X0 hx hby own_d24_1 rfl rfl rfl ?_
 obtain ⟨cq1, kq1, q1a, q1b, q1c⟩ := isOf hZ e0 EA
 obtain ⟨_, _, ⟨T1, L1, k1, n1⟩, -, X1, ⟨Lc1, hQ1, l1, y1, z1⟩, st1⟩ := X0.virtualBack hx (y := own_y0) (z := own_y0) hown (mvT hZ (hw _ (own_m 186 rfl))) (mvT hZ (own_decl (hw _ (own_m 187 rfl)) (hw _ (own_m 190 rfl)))) (notFace_of_selects (args := #[]) (mvT hZ (hw _ (own_m 189 rfl)))) (mvT hZ (hw _ (own_m 189 rfl))) (mvT hZ (hw _ (own_m 187 rfl))) (by decide) (backOf (W := 0) (own_inf l Z a0 hw [] a sa sy sk us cs h0 n0 O0 SC hcs FC ES FS GS VS) hZ (hw _ (own_m 190 rfl)) (hw _ (own_m 143 rfl)) (by decide) (by decide)) q1a q1c (g := (mkF m 2 #[own_vr a, own_vi (Int32.ofNat c), own_vr sa] [(.ref sa), (.ref a)])) rfl (by rw [hml]; rfl) (Steps.refl _) (argsL := [(.ref sa)]) (rest := []) (lenOf own_pd1 rfl) rfl (by show 2 * 0 + _ ≤ _; exact Nat.le_of_eq rfl) (hb hby own_d24_2) (fun _ _ => ⟨rfl, e0, (by decide : 0 + 0 ≤ _), (by decide : 0 + 0 ≤ _)⟩)
 dsimp only [Pt.U, Pt.locs, Pt.cells, Pt.slots] at X1 l1 y1 z1 st1 hQ1
 subst l1 y1 z1
 obtain ⟨rfl, N1q, hh1⟩ := hQ1
 have N1 := Fr.app N0 N1q
 refine own_st (fun _ kt => st1.trans kt) ?_
 refine own_aloadN X1 hx hby own_d24_5 rfl rfl rfl ?_
 refine own_aloadN X1 hx hby own_d24_6 rfl rfl rfl ?_
 obtain ⟨T2, X2, e2, st2⟩ := own_gF X1 hx hZ hown (hw _ (own_m 147 rfl)) hh1 FV (g := (mkF m 7 #[own_vr a, own_vi (Int32.ofNat c), own_vr sa] [(.ref a), (.ref sa)])) rfl rfl (hb hby own_d24_7)
 refine own_st st2 ?_
 refine own_iloadN X2 hx hby own_d24_10 rfl rfl ?_
 refine own_aloadN X2 hx hby own_d24_11 rfl rfl rfl ?_
 obtain ⟨T3, X3, e3, st3⟩ := own_gF X2 hx hZ hown (hw _ (own_m 149 rfl)) e2 FC (g := (mkF m 12 #[own_vr a, own_vi (Int32.ofNat c), own_vr sa] [(.ref a), (.int (Int32.ofNat c)), (.ref y), (.ref sa)])) rfl rfl (hb hby own_d24_12)
 refine own_st st3 ?_
 obtain ⟨cq4, kq4, q4a, q4b, q4c⟩ := isOf hZ e3 ES
 obtain ⟨_, _, ⟨T4, L4, k4, n4⟩, -, X4, ⟨Lc4, hQ4, l4, y4, z4⟩, st4⟩ := X3.virtualBack hx (y := own_y1) (z := own_y1) hown (mvT hZ (hw _ (own_m 192 rfl))) (mvT hZ (hw _ (own_m 193 rfl))) (notFace_of_selects (args := #[]) (mvT hZ (hw _ (own_m 195 rfl)))) (mvT hZ (hw _ (own_m 195 rfl))) (mvT hZ (hw _ (own_m 194 rfl))) (by decide) (backOf (W := 0) (own_gb l Z a0 hw [] sa sy sk us y ky w c cs h0 n0 O0 SC hcs ES FS GS VS EY VY hl hc gy hne) hZ (hw _ (own_m 196 rfl)) (hw _ (own_m 5 rfl)) (by decide) (by decide)) q4a q4c (g := (mkF m 15 #[own_vr a, own_vi (Int32.ofNat c), own_vr sa] [(.int (0 : Int32)), (.int (Int32.ofNat c)), (.ref y), (.ref sa)])) rfl (by rw [hml]; rfl) (Steps.refl _) (argsL := [(.ref y), (.int (Int32.ofNat c)), (.int (0 : Int32))]) (rest := []) (lenOf own_pd2 rfl) rfl (by show 2 * 0 + _ ≤ _; exact Nat.le_of_eq rfl) (hb hby own_d24_15) (fun _ _ => ⟨rfl, e3, (by decide : 0 + 0 ≤ _), (by decide : 0 + 0 ≤ _)⟩)
 dsimp only [Pt.U, Pt.locs, Pt.cells, Pt.slots] at X4 l4 y4 z4 st4 hQ4
 subst l4 y4 z4
 obtain ⟨rfl, N4q, K4, Vy4⟩ := hQ4
 have N4 := Fr.app N1 N4q
 refine own_st (fun _ kt => st4.trans kt) ?_
 have O0_x4 := O0.keep K4 (allS gy all0)
 have EA_x4 := EA.keep K4
 have FV_x4 := FV.keep K4 (ninS (Exa.ne EA EY (by decide)) nin0)
 have FC_x4 := FC.keep K4 (ninS (Exa.ne EA EY (by decide)) nin0)
 have FN_x4 := FN.keep K4 (ninS (Exa.ne EA EY (by decide)) nin0)
 have EY_x4 := EY.keep K4
 have ES_x4 := ES.keep K4
 have FS_x4 := FS.keep K4 (ninS (Exa.ne ES EY (by decide)) nin0)
 have GS_x4 := GS.keep K4 (ninS (Exa.ne ES EY (by decide)) nin0)
 have VS_x4 := VS.keep K4 (ninS hne nin0)
 have K0_x4 := K0.trans K4 (allS (Or.inl (List.mem_of_getElem? (i := 0) rfl)) all0)
 show own_Rch _ _ _ _ T4 (mkF m 18 #[own_vr a, own_vi (Int32.ofNat c), own_vr sa] [])
 refine own_retV X4 hx Bd.notSynchronized Bd.returns (hb hby own_d24_18) (by decide) (by decide) ?_
 exact ⟨rfl, N4, K0_x4, Vy4⟩
theorem own_ef23 (m : MethodId) (x0 : Addr) (x1 : Int32) : entryFrame m #[(.ref x0), (.int x1)] 3 = mkF m 0 #[own_vr x0, own_vi x1, .unset] [] := by first | (simp [entryFrame, mkF, argsToLocals, Value.category]; done) | rfl
abbrev own_c23 : ByteArray := jdk_68_method_9_code
theorem own_d23_0 : decode own_c23 0 = .ok (.aload_n 0, 1) := by decide +kernel
theorem own_d23_1 : decode own_c23 1 = .ok (.getfield 15, 3) := by decide +kernel
theorem own_d23_4 : decode own_c23 4 = .ok (.arraylength, 1) := by decide +kernel
theorem own_d23_5 : decode own_c23 5 = .ok (.aload_n 0, 1) := by decide +kernel
theorem own_d23_6 : decode own_c23 6 = .ok (.getfield 22, 3) := by decide +kernel
theorem own_d23_9 : decode own_c23 9 = .ok (.ishr, 1) := by decide +kernel
theorem own_d23_10 : decode own_c23 10 = .ok (.istore_n 2, 1) := by decide +kernel
theorem own_d23_11 : decode own_c23 11 = .ok (.iload_n 1, 1) := by decide +kernel
theorem own_d23_12 : decode own_c23 12 = .ok (.iload_n 2, 1) := by decide +kernel
theorem own_d23_13 : decode own_c23 13 = .ok (.isub, 1) := by decide +kernel
theorem own_d23_14 : decode own_c23 14 = .ok (.ifCond .le 24, 3) := by decide +kernel
theorem own_d23_38 : decode own_c23 38 = .ok (.return_, 1) := by decide +kernel
abbrev own_y3 : MethodName := ⟨"java/lang/AbstractStringBuilder", "ensureCapacityInternal", "(I)V"⟩
def own_Q_own_ens0 (Z : State) (a : Addr) (y : Addr) (ky : ClassId) (w : List Value) (m_ : Nat) (h0 : Heap) (n0 : Nat) (v : Option Value) (h : Heap) (L : List Loc) : Prop := v = none ∧ Fr n0 L ∧ h = h0
theorem own_ens0 (l : Launch) (Z : State) (a0 : Array Value) (hw : ∀ d ∈ tables_1, d.before a0 Z = true) (ws : List Jvm.Cond) (a : Addr) (y : Addr) (ky : ClassId) (w : List Value) (m_ : Nat) (h0 : Heap) (n0 : Nat) (O0 : Old Z n0 h0) (EA : Exa Z h0 a "java/lang/StringBuilder") (FV : Fld Z h0 a "java/lang/AbstractStringBuilder" "value" "[B" (.ref y)) (FC : Fld Z h0 a "java/lang/AbstractStringBuilder" "coder" "B" (.int (0 : Int32))) (VY : Arv Z h0 y ky .byte (Int32.ofNat w.length) w (.int (0 : Int32))) (hm : m_ ≤ w.length) (hl : w.length ≤ 40) :
    own_Mt l own_y3 own_c23 3 none ws (own_r 0 0 0 0) #[(.ref a), (.int (Int32.ofNat m_))] Z h0 (own_Q_own_ens0 Z a y ky w m_ h0 n0) := by
 refine MetFree.of_bodySF (plainFor_of_name own_pn1) hisR ?_
 intro p_ e s m args below meth c_ s₁ Bd hml0 hP hK
 obtain ⟨rfl, hZ, hh⟩ := hP
 have hx := Bd.exec
 have hby := Bd.bytes
 have hml : c_.maxLocals = 3 := hml0
 have hown : s.vm.findClass "java/lang/AbstractStringBuilder" = some m.cls := findClass_of_methodNamed Bd.named
 have hnm := (name_of_methodNamed Bd.named Bd.method).1
 have X0 : Stand p_ l e (own_r 0 0 0 0) s m #[(.ref a), (.int (Int32.ofNat m_))] below meth c_ s₁ [] 0 0 := Stand.of_body Bd
 have e0 : s₁.heap = h0 := by rw [← hh, Bd.state]; rfl
 have N0 := Fr.nil n0
 refine own_close (s := s) (Q := (own_Q_own_ens0 Z a y ky w m_ h0 n0)) (own_st (fun _ => castTop (own_ef23 m a (Int32.ofNat m_))) ?_)
 show own_Rch _ _ _ _ s₁ (mkF m 0 #[own_vr a, own_vi (Int32.ofNat m_), .unset] [])
 refine own_aloadN X0 hx hby own_d23_0 rfl rfl rfl ?_
 obtain ⟨T1, X1, e1, st1⟩ := own_gF X0 hx hZ hown (hw _ (own_m 147 rfl)) e0 FV (g := (mkF m 1 #[own_vr a, own_vi (Int32.ofNat m_), .unset] [(.ref a)])) rfl rfl (hb hby own_d23_1)
 refine own_st st1 ?_
 obtain ⟨cl2, Ar2, -, S2, M2, -, -⟩ := id VY
 refine own_st (X1.arraylength hx (by rw [e1]; exact Ar2.1) (State.isArrayOf_alike (hZ).alike Ar2.2.1) (g := (mkF m 4 #[own_vr a, own_vi (Int32.ofNat m_), .unset] [(.ref y)])) rfl rfl (hb hby own_d23_4)) ?_
 rw [len_of S2 M2]
 refine own_aloadN X1 hx hby own_d23_5 rfl rfl rfl ?_
 obtain ⟨T3, X3, e3, st3⟩ := own_gF X1 hx hZ hown (hw _ (own_m 149 rfl)) e1 FC (g := (mkF m 6 #[own_vr a, own_vi (Int32.ofNat m_), .unset] [(.ref a), (.int (Int32.ofNat w.length))])) rfl rfl (hb hby own_d23_6)
 refine own_st st3 ?_
 show own_Rch _ _ _ _ T3 (mkF m 9 #[own_vr a, own_vi (Int32.ofNat m_), .unset] [(.int (0 : Int32)), (.int (Int32.ofNat w.length))])
 refine own_st (fun _ => XS.ishr X3.here hx rfl (hb hby own_d23_9) rfl) ?_
 show own_Rch p_ e below _ T3 (mkF m 10 #[own_vr a, own_vi (Int32.ofNat m_), .unset] [(.int ((Int32.ofNat w.length) >>> ((0 : Int32) &&& 31)))])
 rw [own_ishr0]
 refine own_st (fun _ => XS.istoreN X3.here hx rfl (hb hby own_d23_10) rfl (l' := #[own_vr a, own_vi (Int32.ofNat m_), own_vi (Int32.ofNat w.length)]) rfl) ?_
 refine own_iloadN X3 hx hby own_d23_11 rfl rfl ?_
 refine own_iloadN X3 hx hby own_d23_12 rfl rfl ?_
 show own_Rch _ _ _ _ T3 (mkF m 13 #[own_vr a, own_vi (Int32.ofNat m_), own_vi (Int32.ofNat w.length)] [(.int (Int32.ofNat w.length)), (.int (Int32.ofNat m_))])
 refine own_st (fun _ => XS.isub X3.here hx rfl (hb hby own_d23_13) rfl) ?_
 show own_Rch _ _ _ _ T3 (mkF m 14 #[own_vr a, own_vi (Int32.ofNat m_), own_vi (Int32.ofNat w.length)] [(.int ((Int32.ofNat m_) - (Int32.ofNat w.length)))])
 refine own_st (fun _ => XS.ifYes X3.here hx rfl (pc0 := 14) (pc' := 38) rfl (hb hby own_d23_14) rfl ((if0 _ _).trans (flt (own_nsub hm (by omega) : ¬ ((0 : Int32) < ((Int32.ofNat m_) - (Int32.ofNat w.length))))).2.2.2) (by decide) (by decide)) ?_
 show own_Rch _ _ _ _ T3 (mkF m 38 #[own_vr a, own_vi (Int32.ofNat m_), own_vi (Int32.ofNat w.length)] [])
 refine own_retV X3 hx Bd.notSynchronized Bd.returns (hb hby own_d23_38) (by decide) (by decide) ?_
 rw [e3]
 exact ⟨rfl, N0, rfl⟩
theorem own_ef66 (m : MethodId) (x0 : Int32) (x1 : Int32) : entryFrame m #[(.int x0), (.int x1)] 2 = mkF m 0 #[own_vi x0, own_vi x1] [] := by first | (simp [entryFrame, mkF, argsToLocals, Value.category]; done) | rfl
abbrev own_c66 : ByteArray := jdk_29_method_65_code
theorem own_d66_0 : decode own_c66 0 = .ok (.iload_n 0, 1) := by decide +kernel
theorem own_d66_1 : decode own_c66 1 = .ok (.iload_n 1, 1) := by decide +kernel
theorem own_d66_2 : decode own_c66 2 = .ok (.if_icmp .lt 7, 3) := by decide +kernel
theorem own_d66_9 : decode own_c66 9 = .ok (.iload_n 1, 1) := by decide +kernel
theorem own_d66_10 : decode own_c66 10 = .ok (.ireturn, 1) := by decide +kernel
def own_Q_own_mx (Z : State) (x : Int32) (y : Int32) (h0 : Heap) (n0 : Nat) (v : Option Value) (h : Heap) (L : List Loc) : Prop := v = some (.int y) ∧ Fr n0 L ∧ h = h0
theorem own_mx (l : Launch) (Z : State) (a0 : Array Value) (hw : ∀ d ∈ tables_1, d.before a0 Z = true) (ws : List Jvm.Cond) (x : Int32) (y : Int32) (h0 : Heap) (n0 : Nat) (O0 : Old Z n0 h0) (hxy : x < y) :
    own_Mt l (⟨"java/lang/Math", "max", "(II)I"⟩ : MethodName) own_c66 2 (some .int) ws (own_r 0 0 0 0) #[(.int x), (.int y)] Z h0 (own_Q_own_mx Z x y h0 n0) := by
 refine MetFree.of_bodySF (Jvm.Free.JP.mathPlain rfl (by decide +kernel)) hisR ?_
 intro p_ e s m args below meth c_ s₁ Bd hml0 hP hK
 obtain ⟨rfl, hZ, hh⟩ := hP
 have hx := Bd.exec
 have hby := Bd.bytes
 have hml : c_.maxLocals = 2 := hml0
 have hown : s.vm.findClass "java/lang/Math" = some m.cls := findClass_of_methodNamed Bd.named
 have hnm := (name_of_methodNamed Bd.named Bd.method).1
 have X0 : Stand p_ l e (own_r 0 0 0 0) s m #[(.int x), (.int y)] below meth c_ s₁ [] 0 0 := Stand.of_body Bd
 have e0 : s₁.heap = h0 := by rw [← hh, Bd.state]; rfl
 have N0 := Fr.nil n0
 refine own_close (s := s) (Q := (own_Q_own_mx Z x y h0 n0)) (own_st (fun _ => castTop (own_ef66 m x y)) ?_)
 show own_Rch _ _ _ _ s₁ (mkF m 0 #[own_vi x, own_vi y] [])
 refine own_iloadN X0 hx hby own_d66_0 rfl rfl ?_
 refine own_iloadN X0 hx hby own_d66_1 rfl rfl ?_
 show own_Rch _ _ _ _ s₁ (mkF m 2 #[own_vi x, own_vi y] [(.int y), (.int x)])
 refine own_st (fun _ => XS.icmpYes X0.here hx rfl (pc0 := 2) (pc' := 9) rfl (hb hby own_d66_2) rfl (tlt (hxy : x < y)).1 (by decide) (by decide)) ?_
 refine own_iloadN X0 hx hby own_d66_9 rfl rfl ?_
 show own_Rch _ _ _ _ s₁ (mkF m 10 #[own_vi x, own_vi y] [(.int y)])
 refine own_retI X0 hx Bd.notSynchronized Bd.returns (hb hby own_d66_10) (by decide) (by decide) ?_
 rw [e0]
 exact ⟨rfl, N0, rfl⟩
theorem own_ef41 (m : MethodId) (x0 : Int32) (x1 : Int32) : entryFrame m #[(.int x0), (.int x1)] 2 = mkF m 0 #[own_vi x0, own_vi x1] [] := by first | (simp [entryFrame, mkF, argsToLocals, Value.category]; done) | rfl
abbrev own_c41 : ByteArray := jdk_29_method_69_code
theorem own_d41_0 : decode own_c41 0 = .ok (.iload_n 0, 1) := by decide +kernel
theorem own_d41_1 : decode own_c41 1 = .ok (.iload_n 1, 1) := by decide +kernel
theorem own_d41_2 : decode own_c41 2 = .ok (.if_icmp .gt 7, 3) := by decide +kernel
theorem own_d41_9 : decode own_c41 9 = .ok (.iload_n 1, 1) := by decide +kernel
theorem own_d41_10 : decode own_c41 10 = .ok (.ireturn, 1) := by decide +kernel
def own_Q_own_mi (Z : State) (x : Int32) (y : Int32) (h0 : Heap) (n0 : Nat) (v : Option Value) (h : Heap) (L : List Loc) : Prop := v = some (.int y) ∧ Fr n0 L ∧ h = h0
theorem own_mi (l : Launch) (Z : State) (a0 : Array Value) (hw : ∀ d ∈ tables_1, d.before a0 Z = true) (ws : List Jvm.Cond) (x : Int32) (y : Int32) (h0 : Heap) (n0 : Nat) (O0 : Old Z n0 h0) (hxy : y < x) :
    own_Mt l (⟨"java/lang/Math", "min", "(II)I"⟩ : MethodName) own_c41 2 (some .int) ws (own_r 0 0 0 0) #[(.int x), (.int y)] Z h0 (own_Q_own_mi Z x y h0 n0) := by
 refine MetFree.of_bodySF (Jvm.Free.JP.mathPlain rfl (by decide +kernel)) hisR ?_
 intro p_ e s m args below meth c_ s₁ Bd hml0 hP hK
 obtain ⟨rfl, hZ, hh⟩ := hP
 have hx := Bd.exec
 have hby := Bd.bytes
 have hml : c_.maxLocals = 2 := hml0
 have hown : s.vm.findClass "java/lang/Math" = some m.cls := findClass_of_methodNamed Bd.named
 have hnm := (name_of_methodNamed Bd.named Bd.method).1
 have X0 : Stand p_ l e (own_r 0 0 0 0) s m #[(.int x), (.int y)] below meth c_ s₁ [] 0 0 := Stand.of_body Bd
 have e0 : s₁.heap = h0 := by rw [← hh, Bd.state]; rfl
 have N0 := Fr.nil n0
 refine own_close (s := s) (Q := (own_Q_own_mi Z x y h0 n0)) (own_st (fun _ => castTop (own_ef41 m x y)) ?_)
 show own_Rch _ _ _ _ s₁ (mkF m 0 #[own_vi x, own_vi y] [])
 refine own_iloadN X0 hx hby own_d41_0 rfl rfl ?_
 refine own_iloadN X0 hx hby own_d41_1 rfl rfl ?_
 show own_Rch _ _ _ _ s₁ (mkF m 2 #[own_vi x, own_vi y] [(.int y), (.int x)])
 refine own_st (fun _ => XS.icmpYes X0.here hx rfl (pc0 := 2) (pc' := 9) rfl (hb hby own_d41_2) rfl (tlt (hxy : y < x)).2.2.1 (by decide) (by decide)) ?_
 refine own_iloadN X0 hx hby own_d41_9 rfl rfl ?_
 show own_Rch _ _ _ _ s₁ (mkF m 10 #[own_vi x, own_vi y] [(.int y)])
 refine own_retI X0 hx Bd.notSynchronized Bd.returns (hb hby own_d41_10) (by decide) (by decide) ?_
 rw [e0]
 exact ⟨rfl, N0, rfl⟩
theorem own_d41_5 : decode own_c41 5 = .ok (.iload_n 0, 1) := by decide +kernel
theorem own_d41_6 : decode own_c41 6 = .ok (.goto 4, 3) := by decide +kernel
def own_Q_own_mj (Z : State) (x : Int32) (y : Int32) (h0 : Heap) (n0 : Nat) (v : Option Value) (h : Heap) (L : List Loc) : Prop := v = some (.int x) ∧ Fr n0 L ∧ h = h0
theorem own_mj (l : Launch) (Z : State) (a0 : Array Value) (hw : ∀ d ∈ tables_1, d.before a0 Z = true) (ws : List Jvm.Cond) (x : Int32) (y : Int32) (h0 : Heap) (n0 : Nat) (O0 : Old Z n0 h0) (hxy : ¬ y < x) :
    own_Mt l (⟨"java/lang/Math", "min", "(II)I"⟩ : MethodName) own_c41 2 (some .int) ws (own_r 0 0 0 0) #[(.int x), (.int y)] Z h0 (own_Q_own_mj Z x y h0 n0) := by
 refine MetFree.of_bodySF (Jvm.Free.JP.mathPlain rfl (by decide +kernel)) hisR ?_
 intro p_ e s m args below meth c_ s₁ Bd hml0 hP hK
 obtain ⟨rfl, hZ, hh⟩ := hP
 have hx := Bd.exec
 have hby := Bd.bytes
 have hml : c_.maxLocals = 2 := hml0
 have hown : s.vm.findClass "java/lang/Math" = some m.cls := findClass_of_methodNamed Bd.named
 have hnm := (name_of_methodNamed Bd.named Bd.method).1
 have X0 : Stand p_ l e (own_r 0 0 0 0) s m #[(.int x), (.int y)] below meth c_ s₁ [] 0 0 := Stand.of_body Bd
 have e0 : s₁.heap = h0 := by rw [← hh, Bd.state]; rfl
 have N0 := Fr.nil n0
 refine own_close (s := s) (Q := (own_Q_own_mj Z x y h0 n0)) (own_st (fun _ => castTop (own_ef41 m x y)) ?_)
 show own_Rch _ _ _ _ s₁ (mkF m 0 #[own_vi x, own_vi y] [])
 refine own_iloadN X0 hx hby own_d41_0 rfl rfl ?_
 refine own_iloadN X0 hx hby own_d41_1 rfl rfl ?_
 show own_Rch _ _ _ _ s₁ (mkF m 2 #[own_vi x, own_vi y] [(.int y), (.int x)])
 refine own_st (fun _ => XS.icmpNo X0.here hx rfl (hb hby own_d41_2) rfl (flt (hxy : ¬ (y < x))).2.2.1) ?_
 refine own_iloadN X0 hx hby own_d41_5 rfl rfl ?_
 refine own_st (fun _ => XS.goto X0.here hx rfl (pc0 := 6) (pc' := 10) rfl (hb hby own_d41_6) (by decide) (by decide)) ?_
 show own_Rch _ _ _ _ s₁ (mkF m 10 #[own_vi x, own_vi y] [(.int x)])
 refine own_retI X0 hx Bd.notSynchronized Bd.returns (hb hby own_d41_10) (by decide) (by decide) ?_
 rw [e0]
 exact ⟨rfl, N0, rfl⟩
theorem own_pn2 : plainName "jdk/internal/util/ArraysSupport" = true := by first | (simp [plainName, overriddenIn]; done) | decide +kernel
theorem own_ef65 (m : MethodId) (x0 : Int32) (x1 : Int32) (x2 : Int32) : entryFrame m #[(.int x0), (.int x1), (.int x2)] 4 = mkF m 0 #[own_vi x0, own_vi x1, own_vi x2, .unset] [] := by first | (simp [entryFrame, mkF, argsToLocals, Value.category]; done) | rfl
abbrev own_c65 : ByteArray := jdk_48_method_27_code
theorem own_d65_0 : decode own_c65 0 = .ok (.iload_n 0, 1) := by decide +kernel
theorem own_d65_1 : decode own_c65 1 = .ok (.iload_n 1, 1) := by decide +kernel
theorem own_d65_2 : decode own_c65 2 = .ok (.iload_n 2, 1) := by decide +kernel
theorem own_d65_3 : decode own_c65 3 = .ok (.invokestatic 194, 3) := by decide +kernel
theorem own_pd3 : parseMethodDescriptor "(II)I" = some ⟨[.int, .int], some .int⟩ := by decide +kernel
theorem own_d65_6 : decode own_c65 6 = .ok (.iadd, 1) := by decide +kernel
theorem own_d65_7 : decode own_c65 7 = .ok (.istore_n 3, 1) := by decide +kernel
theorem own_d65_8 : decode own_c65 8 = .ok (.iconst 0, 1) := by decide +kernel
theorem own_d65_9 : decode own_c65 9 = .ok (.iload_n 3, 1) := by decide +kernel
theorem own_d65_10 : decode own_c65 10 = .ok (.if_icmp .ge 11, 3) := by decide +kernel
theorem own_d65_13 : decode own_c65 13 = .ok (.iload_n 3, 1) := by decide +kernel
theorem own_d65_14 : decode own_c65 14 = .ok (.ldc 200, 2) := by decide +kernel
theorem own_d65_16 : decode own_c65 16 = .ok (.if_icmp .gt 5, 3) := by decide +kernel
theorem own_d65_19 : decode own_c65 19 = .ok (.iload_n 3, 1) := by decide +kernel
theorem own_d65_20 : decode own_c65 20 = .ok (.ireturn, 1) := by decide +kernel
abbrev own_y4 : MethodName := ⟨"jdk/internal/util/ArraysSupport", "newLength", "(III)I"⟩
def own_Q_own_newl (Z : State) (g : Int32) (h0 : Heap) (n0 : Nat) (v : Option Value) (h : Heap) (L : List Loc) : Prop := v = some (.int (34 : Int32)) ∧ Fr n0 L ∧ h = h0
theorem own_newl (l : Launch) (Z : State) (a0 : Array Value) (hw : ∀ d ∈ tables_1, d.before a0 Z = true) (ws : List Jvm.Cond) (g : Int32) (h0 : Heap) (n0 : Nat) (O0 : Old Z n0 h0) (hg : g < (18 : Int32)) :
    own_Mt l own_y4 own_c65 4 (some .int) ws (own_r 1 0 0 14) #[(.int (16 : Int32)), (.int g), (.int (18 : Int32))] Z h0 (own_Q_own_newl Z g h0 n0) := by
 refine MetFree.of_bodySF (plainFor_of_name own_pn2) hisR ?_
 intro p_ e s m args below meth c_ s₁ Bd hml0 hP hK
 obtain ⟨rfl, hZ, hh⟩ := hP
 have hx := Bd.exec
 have hby := Bd.bytes
 have hml : c_.maxLocals = 4 := hml0
 have hown : s.vm.findClass "jdk/internal/util/ArraysSupport" = some m.cls := findClass_of_methodNamed Bd.named
 have hnm := (name_of_methodNamed Bd.named Bd.method).1
 have X0 : Stand p_ l e (own_r 1 0 0 14) s m #[(.int (16 : Int32)), (.int g), (.int (18 : Int32))] below meth c_ s₁ [] 0 0 := Stand.of_body Bd
 have e0 : s₁.heap = h0 := by rw [← hh, Bd.state]; rfl
 have N0 := Fr.nil n0
 refine own_close (s := s) (Q := (own_Q_own_newl Z g h0 n0)) (own_st (fun _ => castTop (own_ef65 m (16 : Int32) g (18 : Int32))) ?_)
 show own_Rch _ _ _ _ s₁ (mkF m 0 #[own_vi (16 : Int32), own_vi g, own_vi (18 : Int32), .unset] [])
 refine own_iloadN X0 hx hby own_d65_0 rfl rfl ?_
 refine own_iloadN X0 hx hby own_d65_1 rfl rfl ?_
 refine own_iloadN X0 hx hby own_d65_2 rfl rfl ?_
 obtain ⟨_, _, ⟨T1, L1, k1, n1⟩, -, X1, ⟨Lc1, hQ1, l1, y1, z1⟩, st1⟩ := Jvm.LawKit.callS X0 hx (y := (⟨"java/lang/Math", "max", "(II)I"⟩ : MethodName)) hown (mvT hZ (hw _ (own_m 390 rfl))) (mvT hZ (hw _ (own_m 391 rfl))) (mvT hZ (hw _ (own_m 267 rfl))) (mvT hZ (hw _ (own_m 392 rfl))) (by decide) (backOf (W := 1) (own_mx l Z a0 hw [] g (18 : Int32) h0 n0 O0 hg) hZ (hw _ (own_m 392 rfl)) (hw _ (own_m 267 rfl)) (by decide) (by decide)) (g := (mkF m 3 #[own_vi (16 : Int32), own_vi g, own_vi (18 : Int32), .unset] [(.int (18 : Int32)), (.int g), (.int (16 : Int32))])) rfl (by rw [hml]; rfl) (argsL := [(.int g), (.int (18 : Int32))]) (rest := [(.int (16 : Int32))]) (lenOf own_pd3 rfl) rfl (by show 2 * 0 + _ ≤ _; exact Nat.le_of_eq rfl) (hb hby own_d65_3) (fun _ _ => ⟨rfl, e0, (by decide : 0 + 0 ≤ _), (by decide : 0 + 0 ≤ _)⟩)
 dsimp only [Pt.U, Pt.locs, Pt.cells, Pt.slots] at X1 l1 y1 z1 st1 hQ1
 subst l1 y1 z1
 obtain ⟨rfl, N1q, hh1⟩ := hQ1
 have N1 := Fr.app N0 N1q
 refine own_st st1 ?_
 show own_Rch _ _ _ _ T1 (mkF m 6 #[own_vi (16 : Int32), own_vi g, own_vi (18 : Int32), .unset] [(.int (18 : Int32)), (.int (16 : Int32))])
 refine own_st (fun _ => XS.iadd X1.here hx rfl (hb hby own_d65_6) rfl) ?_
 refine own_st (fun _ => XS.istoreN X1.here hx rfl (hb hby own_d65_7) rfl (l' := #[own_vi (16 : Int32), own_vi g, own_vi (18 : Int32), own_vi (34 : Int32)]) rfl) ?_
 refine own_iconst X1 hx hby own_d65_8 rfl ?_
 refine own_iloadN X1 hx hby own_d65_9 rfl rfl ?_
 show own_Rch _ _ _ _ T1 (mkF m 10 #[own_vi (16 : Int32), own_vi g, own_vi (18 : Int32), own_vi (34 : Int32)] [(.int (34 : Int32)), (.int (0 : Int32))])
 refine own_st (fun _ => XS.icmpNo X1.here hx rfl (hb hby own_d65_10) rfl (tlt ((by decide) : (0 : Int32) < (34 : Int32))).2.1) ?_
 refine own_iloadN X1 hx hby own_d65_13 rfl rfl ?_
 refine own_st (X1.ldcInt hx hown (mvT hZ (hw _ (own_m 393 rfl))) (g := (mkF m 14 #[own_vi (16 : Int32), own_vi g, own_vi (18 : Int32), own_vi (34 : Int32)] [(.int (34 : Int32))])) rfl (hb hby own_d65_14)) ?_
 show own_Rch _ _ _ _ T1 (mkF m 16 #[own_vi (16 : Int32), own_vi g, own_vi (18 : Int32), own_vi (34 : Int32)] [(.int (2147483639 : Int32)), (.int (34 : Int32))])
 refine own_st (fun _ => XS.icmpNo X1.here hx rfl (hb hby own_d65_16) rfl (flt ((by decide) : ¬ ((2147483639 : Int32) < (34 : Int32)))).2.2.1) ?_
 refine own_iloadN X1 hx hby own_d65_19 rfl rfl ?_
 show own_Rch _ _ _ _ T1 (mkF m 20 #[own_vi (16 : Int32), own_vi g, own_vi (18 : Int32), own_vi (34 : Int32)] [(.int (34 : Int32))])
 refine own_retI X1 hx Bd.notSynchronized Bd.returns (hb hby own_d65_20) (by decide) (by decide) ?_
 rw [hh1]
 exact ⟨rfl, N1, rfl⟩
theorem own_ef64 (m : MethodId) (x0 : Addr) (x1 : Int32) : entryFrame m #[(.ref x0), (.int x1)] 6 = mkF m 0 #[own_vr x0, own_vi x1, .unset, .unset, .unset, .unset] [] := by first | (simp [entryFrame, mkF, argsToLocals, Value.category]; done) | rfl
abbrev own_c64 : ByteArray := jdk_68_method_10_code
theorem own_d64_0 : decode own_c64 0 = .ok (.aload_n 0, 1) := by decide +kernel
theorem own_d64_1 : decode own_c64 1 = .ok (.getfield 15, 3) := by decide +kernel
theorem own_d64_4 : decode own_c64 4 = .ok (.arraylength, 1) := by decide +kernel
theorem own_d64_5 : decode own_c64 5 = .ok (.istore_n 2, 1) := by decide +kernel
theorem own_d64_6 : decode own_c64 6 = .ok (.iload_n 1, 1) := by decide +kernel
theorem own_d64_7 : decode own_c64 7 = .ok (.aload_n 0, 1) := by decide +kernel
theorem own_d64_8 : decode own_c64 8 = .ok (.getfield 22, 3) := by decide +kernel
theorem own_d64_11 : decode own_c64 11 = .ok (.ishl, 1) := by decide +kernel
theorem own_d64_12 : decode own_c64 12 = .ok (.istore_n 3, 1) := by decide +kernel
theorem own_d64_13 : decode own_c64 13 = .ok (.iload_n 3, 1) := by decide +kernel
theorem own_d64_14 : decode own_c64 14 = .ok (.iload_n 2, 1) := by decide +kernel
theorem own_d64_15 : decode own_c64 15 = .ok (.isub, 1) := by decide +kernel
theorem own_d64_16 : decode own_c64 16 = .ok (.istore 4, 2) := by decide +kernel
theorem own_d64_18 : decode own_c64 18 = .ok (.iload_n 2, 1) := by decide +kernel
theorem own_d64_19 : decode own_c64 19 = .ok (.iload 4, 2) := by decide +kernel
theorem own_d64_21 : decode own_c64 21 = .ok (.iload_n 2, 1) := by decide +kernel
theorem own_d64_22 : decode own_c64 22 = .ok (.iconst 2, 1) := by decide +kernel
theorem own_d64_23 : decode own_c64 23 = .ok (.aload_n 0, 1) := by decide +kernel
theorem own_d64_24 : decode own_c64 24 = .ok (.getfield 22, 3) := by decide +kernel
theorem own_d64_27 : decode own_c64 27 = .ok (.ishl, 1) := by decide +kernel
theorem own_d64_28 : decode own_c64 28 = .ok (.iadd, 1) := by decide +kernel
theorem own_d64_29 : decode own_c64 29 = .ok (.invokestatic 114, 3) := by decide +kernel
theorem own_pd4 : parseMethodDescriptor "(III)I" = some ⟨[.int, .int, .int], some .int⟩ := by decide +kernel
theorem own_d64_32 : decode own_c64 32 = .ok (.istore 5, 2) := by decide +kernel
theorem own_d64_34 : decode own_c64 34 = .ok (.iload 5, 2) := by decide +kernel
theorem own_d64_36 : decode own_c64 36 = .ok (.ldc 39, 2) := by decide +kernel
theorem own_d64_38 : decode own_c64 38 = .ok (.if_icmp .ne 13, 3) := by decide +kernel
theorem own_d64_51 : decode own_c64 51 = .ok (.iload 5, 2) := by decide +kernel
theorem own_d64_53 : decode own_c64 53 = .ok (.aload_n 0, 1) := by decide +kernel
theorem own_d64_54 : decode own_c64 54 = .ok (.getfield 22, 3) := by decide +kernel
theorem own_d64_57 : decode own_c64 57 = .ok (.ishr, 1) := by decide +kernel
theorem own_d64_58 : decode own_c64 58 = .ok (.ireturn, 1) := by decide +kernel
abbrev own_y5 : MethodName := ⟨"java/lang/AbstractStringBuilder", "newCapacity", "(I)I"⟩
def own_Q_own_ncap (Z : State) (a : Addr) (y : Addr) (ky : ClassId) (w : List Value) (m_ : Nat) (h0 : Heap) (n0 : Nat) (v : Option Value) (h : Heap) (L : List Loc) : Prop := v = some (.int (34 : Int32)) ∧ Fr n0 L ∧ h = h0
theorem own_ncap (l : Launch) (Z : State) (a0 : Array Value) (hw : ∀ d ∈ tables_1, d.before a0 Z = true) (ws : List Jvm.Cond) (a : Addr) (y : Addr) (ky : ClassId) (w : List Value) (m_ : Nat) (h0 : Heap) (n0 : Nat) (O0 : Old Z n0 h0) (EA : Exa Z h0 a "java/lang/StringBuilder") (FV : Fld Z h0 a "java/lang/AbstractStringBuilder" "value" "[B" (.ref y)) (FC : Fld Z h0 a "java/lang/AbstractStringBuilder" "coder" "B" (.int (0 : Int32))) (VY : Arv Z h0 y ky .byte (16 : Int32) w (.int (0 : Int32))) (hw16 : w.length = 16) (hm0 : 16 < m_) (hm1 : m_ ≤ 33) :
    own_Mt l own_y5 own_c64 6 (some .int) ws (own_r 2 0 0 29) #[(.ref a), (.int (Int32.ofNat m_))] Z h0 (own_Q_own_ncap Z a y ky w m_ h0 n0) := by
 refine MetFree.of_bodySF (plainFor_of_name own_pn1) hisR ?_
 intro p_ e s m args below meth c_ s₁ Bd hml0 hP hK
 obtain ⟨rfl, hZ, hh⟩ := hP
 have hx := Bd.exec
 have hby := Bd.bytes
 have hml : c_.maxLocals = 6 := hml0
 have hown : s.vm.findClass "java/lang/AbstractStringBuilder" = some m.cls := findClass_of_methodNamed Bd.named
 have hnm := (name_of_methodNamed Bd.named Bd.method).1
 have X0 : Stand p_ l e (own_r 2 0 0 29) s m #[(.ref a), (.int (Int32.ofNat m_))] below meth c_ s₁ [] 0 0 := Stand.of_body Bd
 have e0 : s₁.heap = h0 := by rw [← hh, Bd.state]; rfl
 have N0 := Fr.nil n0
 refine own_close (s := s) (Q := (own_Q_own_ncap Z a y ky w m_ h0 n0)) (own_st (fun _ => castTop (own_ef64 m a (Int32.ofNat m_))) ?_)
 show own_Rch _ _ _ _ s₁ (mkF m 0 #[own_vr a, own_vi (Int32.ofNat m_), .unset, .unset, .unset, .unset] [])
 refine own_aloadN X0 hx hby own_d64_0 rfl rfl rfl ?_
 obtain ⟨T1, X1, e1, st1⟩ := own_gF X0 hx hZ hown (hw _ (own_m 147 rfl)) e0 FV (g := (mkF m 1 #[own_vr a, own_vi (Int32.ofNat m_), .unset, .unset, .unset, .unset] [(.ref a)])) rfl rfl (hb hby own_d64_1)
 refine own_st st1 ?_
 obtain ⟨cl2, Ar2, -, S2, M2, -, -⟩ := id VY
 refine own_st (X1.arraylength hx (by rw [e1]; exact Ar2.1) (State.isArrayOf_alike (hZ).alike Ar2.2.1) (g := (mkF m 4 #[own_vr a, own_vi (Int32.ofNat m_), .unset, .unset, .unset, .unset] [(.ref y)])) rfl rfl (hb hby own_d64_4)) ?_
 rw [len_of S2 M2]
 refine own_st (fun _ => XS.istoreN X1.here hx rfl (hb hby own_d64_5) rfl (l' := #[own_vr a, own_vi (Int32.ofNat m_), own_vi (16 : Int32), .unset, .unset, .unset]) rfl) ?_
 refine own_iloadN X1 hx hby own_d64_6 rfl rfl ?_
 refine own_aloadN X1 hx hby own_d64_7 rfl rfl rfl ?_
 obtain ⟨T3, X3, e3, st3⟩ := own_gF X1 hx hZ hown (hw _ (own_m 149 rfl)) e1 FC (g := (mkF m 8 #[own_vr a, own_vi (Int32.ofNat m_), own_vi (16 : Int32), .unset, .unset, .unset] [(.ref a), (.int (Int32.ofNat m_))])) rfl rfl (hb hby own_d64_8)
 refine own_st st3 ?_
 show own_Rch _ _ _ _ T3 (mkF m 11 #[own_vr a, own_vi (Int32.ofNat m_), own_vi (16 : Int32), .unset, .unset, .unset] [(.int (0 : Int32)), (.int (Int32.ofNat m_))])
 refine own_st (fun _ => XS.ishl X3.here hx rfl (hb hby own_d64_11) rfl) ?_
 show own_Rch p_ e below _ T3 (mkF m 12 #[own_vr a, own_vi (Int32.ofNat m_), own_vi (16 : Int32), .unset, .unset, .unset] [(.int ((Int32.ofNat m_) <<< ((0 : Int32) &&& 31)))])
 rw [own_ishl0]
 refine own_st (fun _ => XS.istoreN X3.here hx rfl (hb hby own_d64_12) rfl (l' := #[own_vr a, own_vi (Int32.ofNat m_), own_vi (16 : Int32), own_vi (Int32.ofNat m_), .unset, .unset]) rfl) ?_
 refine own_iloadN X3 hx hby own_d64_13 rfl rfl ?_
 refine own_iloadN X3 hx hby own_d64_14 rfl rfl ?_
 show own_Rch _ _ _ _ T3 (mkF m 15 #[own_vr a, own_vi (Int32.ofNat m_), own_vi (16 : Int32), own_vi (Int32.ofNat m_), .unset, .unset] [(.int (16 : Int32)), (.int (Int32.ofNat m_))])
 refine own_st (fun _ => XS.isub X3.here hx rfl (hb hby own_d64_15) rfl) ?_
 refine own_st (fun _ => XS.istore X3.here hx rfl (hb hby own_d64_16) rfl (l' := #[own_vr a, own_vi (Int32.ofNat m_), own_vi (16 : Int32), own_vi (Int32.ofNat m_), own_vi ((Int32.ofNat m_) - (16 : Int32)), .unset]) rfl) ?_
 refine own_iloadN X3 hx hby own_d64_18 rfl rfl ?_
 refine own_iload X3 hx hby own_d64_19 rfl rfl ?_
 refine own_iloadN X3 hx hby own_d64_21 rfl rfl ?_
 refine own_iconst X3 hx hby own_d64_22 rfl ?_
 refine own_aloadN X3 hx hby own_d64_23 rfl rfl rfl ?_
 obtain ⟨T4, X4, e4, st4⟩ := own_gF X3 hx hZ hown (hw _ (own_m 149 rfl)) e3 FC (g := (mkF m 24 #[own_vr a, own_vi (Int32.ofNat m_), own_vi (16 : Int32), own_vi (Int32.ofNat m_), own_vi ((Int32.ofNat m_) - (16 : Int32)), .unset] [(.ref a), (.int (2 : Int32)), (.int (16 : Int32)), (.int ((Int32.ofNat m_) - (16 : Int32))), (.int (16 : Int32))])) rfl rfl (hb hby own_d64_24)
 refine own_st st4 ?_
 show own_Rch _ _ _ _ T4 (mkF m 27 #[own_vr a, own_vi (Int32.ofNat m_), own_vi (16 : Int32), own_vi (Int32.ofNat m_), own_vi ((Int32.ofNat m_) - (16 : Int32)), .unset] [(.int (0 : Int32)), (.int (2 : Int32)), (.int (16 : Int32)), (.int ((Int32.ofNat m_) - (16 : Int32))), (.int (16 : Int32))])
 refine own_st (fun _ => XS.ishl X4.here hx rfl (hb hby own_d64_27) rfl) ?_
 show own_Rch p_ e below _ T4 (mkF m 28 #[own_vr a, own_vi (Int32.ofNat m_), own_vi (16 : Int32), own_vi (Int32.ofNat m_), own_vi ((Int32.ofNat m_) - (16 : Int32)), .unset] [(.int ((2 : Int32) <<< ((0 : Int32) &&& 31))), (.int (16 : Int32)), (.int ((Int32.ofNat m_) - (16 : Int32))), (.int (16 : Int32))])
 rw [own_ishl0]
 show own_Rch _ _ _ _ T4 (mkF m 28 #[own_vr a, own_vi (Int32.ofNat m_), own_vi (16 : Int32), own_vi (Int32.ofNat m_), own_vi ((Int32.ofNat m_) - (16 : Int32)), .unset] [(.int (2 : Int32)), (.int (16 : Int32)), (.int ((Int32.ofNat m_) - (16 : Int32))), (.int (16 : Int32))])
 refine own_st (fun _ => XS.iadd X4.here hx rfl (hb hby own_d64_28) rfl) ?_
 obtain ⟨_, _, ⟨T5, L5, k5, n5⟩, -, X5, ⟨Lc5, hQ5, l5, y5, z5⟩, st5⟩ := Jvm.LawKit.callS X4 hx (y := own_y4) hown (mvT hZ (hw _ (own_m 386 rfl))) (mvT hZ (hw _ (own_m 387 rfl))) (mvT hZ (hw _ (own_m 388 rfl))) (mvT hZ (hw _ (own_m 389 rfl))) (by decide) (backOf (W := 0) (own_newl l Z a0 hw [] ((Int32.ofNat m_) - (16 : Int32)) h0 n0 O0 (own_psub hm0 hm1).2) hZ (hw _ (own_m 389 rfl)) (hw _ (own_m 388 rfl)) (by decide) (by decide)) (g := (mkF m 29 #[own_vr a, own_vi (Int32.ofNat m_), own_vi (16 : Int32), own_vi (Int32.ofNat m_), own_vi ((Int32.ofNat m_) - (16 : Int32)), .unset] [(.int (18 : Int32)), (.int ((Int32.ofNat m_) - (16 : Int32))), (.int (16 : Int32))])) rfl (by rw [hml]; rfl) (argsL := [(.int (16 : Int32)), (.int ((Int32.ofNat m_) - (16 : Int32))), (.int (18 : Int32))]) (rest := []) (lenOf own_pd4 rfl) rfl (by show 2 * 0 + _ ≤ _; exact Nat.le_of_eq rfl) (hb hby own_d64_29) (fun _ _ => ⟨rfl, e4, (by decide : 0 + 0 ≤ _), (by decide : 0 + 0 ≤ _)⟩)
 dsimp only [Pt.U, Pt.locs, Pt.cells, Pt.slots] at X5 l5 y5 z5 st5 hQ5
 subst l5 y5 z5
 obtain ⟨rfl, N5q, hh5⟩ := hQ5
 have N5 := Fr.app N0 N5q
 refine own_st st5 ?_
 refine own_st (fun _ => XS.istore X5.here hx rfl (hb hby own_d64_32) rfl (l' := #[own_vr a, own_vi (Int32.ofNat m_), own_vi (16 : Int32), own_vi (Int32.ofNat m_), own_vi ((Int32.ofNat m_) - (16 : Int32)), own_vi (34 : Int32)]) rfl) ?_
 refine own_iload X5 hx hby own_d64_34 rfl rfl ?_
 refine own_st (X5.ldcInt hx hown (mvT hZ (hw _ (own_m 394 rfl))) (g := (mkF m 36 #[own_vr a, own_vi (Int32.ofNat m_), own_vi (16 : Int32), own_vi (Int32.ofNat m_), own_vi ((Int32.ofNat m_) - (16 : Int32)), own_vi (34 : Int32)] [(.int (34 : Int32))])) rfl (hb hby own_d64_36)) ?_
 show own_Rch _ _ _ _ T5 (mkF m 38 #[own_vr a, own_vi (Int32.ofNat m_), own_vi (16 : Int32), own_vi (Int32.ofNat m_), own_vi ((Int32.ofNat m_) - (16 : Int32)), own_vi (34 : Int32)] [(.int (2147483647 : Int32)), (.int (34 : Int32))])
 refine own_st (fun _ => XS.icmpYes X5.here hx rfl (pc0 := 38) (pc' := 51) rfl (hb hby own_d64_38) rfl (feq ((by decide) : ¬ ((34 : Int32) = (2147483647 : Int32)))).2 (by decide) (by decide)) ?_
 refine own_iload X5 hx hby own_d64_51 rfl rfl ?_
 refine own_aloadN X5 hx hby own_d64_53 rfl rfl rfl ?_
 obtain ⟨T6, X6, e6, st6⟩ := own_gF X5 hx hZ hown (hw _ (own_m 149 rfl)) hh5 FC (g := (mkF m 54 #[own_vr a, own_vi (Int32.ofNat m_), own_vi (16 : Int32), own_vi (Int32.ofNat m_), own_vi ((Int32.ofNat m_) - (16 : Int32)), own_vi (34 : Int32)] [(.ref a), (.int (34 : Int32))])) rfl rfl (hb hby own_d64_54)
 refine own_st st6 ?_
 show own_Rch _ _ _ _ T6 (mkF m 57 #[own_vr a, own_vi (Int32.ofNat m_), own_vi (16 : Int32), own_vi (Int32.ofNat m_), own_vi ((Int32.ofNat m_) - (16 : Int32)), own_vi (34 : Int32)] [(.int (0 : Int32)), (.int (34 : Int32))])
 refine own_st (fun _ => XS.ishr X6.here hx rfl (hb hby own_d64_57) rfl) ?_
 show own_Rch p_ e below _ T6 (mkF m 58 #[own_vr a, own_vi (Int32.ofNat m_), own_vi (16 : Int32), own_vi (Int32.ofNat m_), own_vi ((Int32.ofNat m_) - (16 : Int32)), own_vi (34 : Int32)] [(.int ((34 : Int32) >>> ((0 : Int32) &&& 31)))])
 rw [own_ishr0]
 show own_Rch _ _ _ _ T6 (mkF m 58 #[own_vr a, own_vi (Int32.ofNat m_), own_vi (16 : Int32), own_vi (Int32.ofNat m_), own_vi ((Int32.ofNat m_) - (16 : Int32)), own_vi (34 : Int32)] [(.int (34 : Int32))])
 refine own_retI X6 hx Bd.notSynchronized Bd.returns (hb hby own_d64_58) (by decide) (by decide) ?_
 rw [e6]
 exact ⟨rfl, N5, rfl⟩
theorem own_pn3 : plainName "java/util/Arrays" = true := by first | (simp [plainName, overriddenIn]; done) | decide +kernel
theorem own_ef67 (m : MethodId) (x0 : Addr) (x1 : Int32) : entryFrame m #[(.ref x0), (.int x1)] 3 = mkF m 0 #[own_vr x0, own_vi x1, .unset] [] := by first | (simp [entryFrame, mkF, argsToLocals, Value.category]; done) | rfl
abbrev own_c67 : ByteArray := jdk_65_method_121_code
theorem own_d67_0 : decode own_c67 0 = .ok (.iload_n 1, 1) := by decide +kernel
theorem own_d67_1 : decode own_c67 1 = .ok (.aload_n 0, 1) := by decide +kernel
theorem own_d67_2 : decode own_c67 2 = .ok (.arraylength, 1) := by decide +kernel
theorem own_d67_3 : decode own_c67 3 = .ok (.if_icmp .ne 11, 3) := by decide +kernel
theorem own_d67_14 : decode own_c67 14 = .ok (.iload_n 1, 1) := by decide +kernel
theorem own_d67_15 : decode own_c67 15 = .ok (.newarray .byte, 2) := by decide +kernel
theorem own_d67_17 : decode own_c67 17 = .ok (.astore_n 2, 1) := by decide +kernel
theorem own_d67_18 : decode own_c67 18 = .ok (.aload_n 0, 1) := by decide +kernel
theorem own_d67_19 : decode own_c67 19 = .ok (.iconst 0, 1) := by decide +kernel
theorem own_d67_20 : decode own_c67 20 = .ok (.aload_n 2, 1) := by decide +kernel
theorem own_d67_21 : decode own_c67 21 = .ok (.iconst 0, 1) := by decide +kernel
theorem own_d67_22 : decode own_c67 22 = .ok (.aload_n 0, 1) := by decide +kernel
theorem own_d67_23 : decode own_c67 23 = .ok (.arraylength, 1) := by decide +kernel
theorem own_d67_24 : decode own_c67 24 = .ok (.iload_n 1, 1) := by decide +kernel
theorem own_d67_25 : decode own_c67 25 = .ok (.invokestatic 304, 3) := by decide +kernel
theorem own_d67_28 : decode own_c67 28 = .ok (.invokestatic 150, 3) := by decide +kernel
theorem own_d67_31 : decode own_c67 31 = .ok (.aload_n 2, 1) := by decide +kernel
theorem own_d67_32 : decode own_c67 32 = .ok (.areturn, 1) := by decide +kernel
def own_Q_own_cpof (Z : State) (y : Addr) (ky : ClassId) (w : List Value) (h0 : Heap) (n0 : Nat) (v : Option Value) (h : Heap) (L : List Loc) : Prop := ∃ (b : Addr) (kb : ClassId), v = some (.ref b) ∧ Fr n0 L ∧ Keep h0 h [] ∧ h0.size ≤ b ∧ Exa Z h b "[B" ∧ Arv Z h b kb .byte (Int32.ofNat (own_put (List.replicate 34 (Value.int 0)) 0 w).length) (own_put (List.replicate 34 (Value.int 0)) 0 w) (.int (0 : Int32))
theorem own_cpof (l : Launch) (Z : State) (a0 : Array Value) (hw : ∀ d ∈ tables_1, d.before a0 Z = true) (ws : List Jvm.Cond) (y : Addr) (ky : ClassId) (w : List Value) (h0 : Heap) (n0 : Nat) (O0 : Old Z n0 h0) (VY : Arv Z h0 y ky .byte (16 : Int32) w (.int (0 : Int32))) (hw16 : w.length = 16) :
    own_Mt l (⟨"java/util/Arrays", "copyOf", "([BI)[B"⟩ : MethodName) own_c67 3 (some (.array .byte)) ws (own_r 1 1 34 18) #[(.ref y), (.int (34 : Int32))] Z h0 (own_Q_own_cpof Z y ky w h0 n0) := by
 refine MetFree.of_bodySF (plainFor_of_name own_pn3) hisR ?_
 intro p_ e s m args below meth c_ s₁ Bd hml0 hP hK
 obtain ⟨rfl, hZ, hh⟩ := hP
 have hx := Bd.exec
 have hby := Bd.bytes
 have hml : c_.maxLocals = 3 := hml0
 have hown : s.vm.findClass "java/util/Arrays" = some m.cls := findClass_of_methodNamed Bd.named
 have hnm := (name_of_methodNamed Bd.named Bd.method).1
 have X0 : Stand p_ l e (own_r 1 1 34 18) s m #[(.ref y), (.int (34 : Int32))] below meth c_ s₁ [] 0 0 := Stand.of_body Bd
 have e0 : s₁.heap = h0 := by rw [← hh, Bd.state]; rfl
 have N0 := Fr.nil n0
 refine own_close (s := s) (Q := (own_Q_own_cpof Z y ky w h0 n0)) (own_st (fun _ => castTop (own_ef67 m y (34 : Int32))) ?_)
 have K0 := Keep.refl h0 []
 show own_Rch _ _ _ _ s₁ (mkF m 0 #[own_vr y, own_vi (34 : Int32), .unset] [])
 refine own_iloadN X0 hx hby own_d67_0 rfl rfl ?_
 refine own_aloadN X0 hx hby own_d67_1 rfl rfl rfl ?_
 obtain ⟨cl1, Ar1, -, S1, M1, -, -⟩ := id VY
 refine own_st (X0.arraylength hx (by rw [e0]; exact Ar1.1) (State.isArrayOf_alike (hZ).alike Ar1.2.1) (g := (mkF m 2 #[own_vr y, own_vi (34 : Int32), .unset] [(.ref y), (.int (34 : Int32))])) rfl rfl (hb hby own_d67_2)) ?_
 rw [len_of S1 M1]
 show own_Rch _ _ _ _ s₁ (mkF m 3 #[own_vr y, own_vi (34 : Int32), .unset] [(.int (16 : Int32)), (.int (34 : Int32))])
 refine own_st (fun _ => XS.icmpYes X0.here hx rfl (pc0 := 3) (pc' := 14) rfl (hb hby own_d67_3) rfl (feq ((by decide) : ¬ ((34 : Int32) = (16 : Int32)))).2 (by decide) (by decide)) ?_
 refine own_iloadN X0 hx hby own_d67_14 rfl rfl ?_
 show own_Rch _ _ _ _ s₁ (mkF m 15 #[own_vr y, own_vi (34 : Int32), .unset] [(.int (34 : Int32))])
 obtain ⟨T2, h2, k2, X2, e2, E2, A2, Ex2, st2⟩ := newPE X0 hx hZ (hw _ (own_m 7 rfl)) e0 (g := (mkF m 15 #[own_vr y, own_vi (34 : Int32), .unset] [(.int (34 : Int32))])) rfl (hb hby own_d67_15) (n := Int32.ofNat 34) rfl (own_nneg (by decide)) (cap := 34) (by rw [own_n32 (by decide)]; decide) (by decide) (by decide) (by decide) (ad := "[B") rfl
 obtain ⟨b2, g2⟩ : ∃ z, z = h0.size := ⟨_, rfl⟩
 rw [← g2] at A2 Ex2 st2
 have ge2 : n0 ≤ b2 := by rw [g2]; exact own_old_le O0
 have ne2_y : y ≠ b2 := by rw [g2]; exact Nat.ne_of_lt VY.lt
 have sz2 : h0.size ≤ b2 := by rw [g2]; exact K0.1
 have O0_x2 := O0.ext E2
 have VY_x2 := VY.ext E2
 have K0_x2 := K0.ext E2
 refine own_st st2 ?_
 have V2 := own_newv A2 (by decide)
 refine own_st (fun _ => XS.astoreN X2.here hx rfl (hb hby own_d67_17) rfl rfl (l' := #[own_vr y, own_vi (34 : Int32), own_vr b2]) rfl) ?_
 refine own_aloadN X2 hx hby own_d67_18 rfl rfl rfl ?_
 refine own_iconst X2 hx hby own_d67_19 rfl ?_
 refine own_aloadN X2 hx hby own_d67_20 rfl rfl rfl ?_
 refine own_iconst X2 hx hby own_d67_21 rfl ?_
 show own_Rch _ _ _ _ T2 (mkF m 22 #[own_vr y, own_vi (34 : Int32), own_vr b2] [(.int (0 : Int32)), (.ref b2), (.int (0 : Int32)), (.ref y)])
 refine own_aloadN X2 hx hby own_d67_22 rfl rfl rfl ?_
 obtain ⟨cl3, Ar3, -, S3, M3, -, -⟩ := id VY_x2
 refine own_st (X2.arraylength hx (by rw [e2]; exact Ar3.1) (State.isArrayOf_alike (hZ).alike Ar3.2.1) (g := (mkF m 23 #[own_vr y, own_vi (34 : Int32), own_vr b2] [(.ref y), (.int (0 : Int32)), (.ref b2), (.int (0 : Int32)), (.ref y)])) rfl rfl (hb hby own_d67_23)) ?_
 rw [len_of S3 M3]
 refine own_iloadN X2 hx hby own_d67_24 rfl rfl ?_
 obtain ⟨_, _, ⟨T4, L4, k4, n4⟩, -, X4, ⟨Lc4, hQ4, l4, y4, z4⟩, st4⟩ := Jvm.LawKit.callS X2 hx (y := (⟨"java/lang/Math", "min", "(II)I"⟩ : MethodName)) hown (mvT hZ (hw _ (own_m 265 rfl))) (mvT hZ (hw _ (own_m 266 rfl))) (mvT hZ (hw _ (own_m 267 rfl))) (mvT hZ (hw _ (own_m 268 rfl))) (by decide) (backOf (W := 4) (own_mj l Z a0 hw [] (16 : Int32) (34 : Int32) h2 n0 O0_x2 (by decide)) hZ (hw _ (own_m 268 rfl)) (hw _ (own_m 267 rfl)) (by decide) (by decide)) (g := (mkF m 25 #[own_vr y, own_vi (34 : Int32), own_vr b2] [(.int (34 : Int32)), (.int (16 : Int32)), (.int (0 : Int32)), (.ref b2), (.int (0 : Int32)), (.ref y)])) rfl (by rw [hml]; rfl) (argsL := [(.int (16 : Int32)), (.int (34 : Int32))]) (rest := [(.int (0 : Int32)), (.ref b2), (.int (0 : Int32)), (.ref y)]) (lenOf own_pd3 rfl) rfl (by show 2 * 0 + _ ≤ _; exact Nat.le_of_eq rfl) (hb hby own_d67_25) (fun _ _ => ⟨rfl, e2, (by decide : 1 + 0 ≤ _), (by decide : 34 + 0 ≤ _)⟩)
 dsimp only [Pt.U, Pt.locs, Pt.cells, Pt.slots] at X4 l4 y4 z4 st4 hQ4
 subst l4 y4 z4
 obtain ⟨rfl, N4q, hh4⟩ := hQ4
 have N4 := Fr.app N0 N4q
 refine own_st st4 ?_
 show own_Rch _ _ _ _ T4 (mkF m 28 #[own_vr y, own_vi (34 : Int32), own_vr b2] [(.int (16 : Int32)), (.int (0 : Int32)), (.ref b2), (.int (0 : Int32)), (.ref y)])
 obtain ⟨T5, h5, lo5, X5, e5, N5, K5, V5, st5⟩ := own_cp X4 hx hZ hown (hw _ (own_m 269 rfl)) (hw _ (own_m 200 rfl)) (hw _ (own_m 198 rfl)) (hw _ (own_m 199 rfl)) hh4 VY_x2 V2 (by rw [hw16]; rfl) rfl (by omega) (by rw [List.length_replicate]; decide) (q := 0) (n := 16) (us := w) (by omega) (by rw [List.length_replicate]; decide) (by rw [← hw16]; exact List.take_length) N4 ge2 (jn := (16 : Int32)) (jq := (0 : Int32)) rfl rfl (g := (mkF m 28 #[own_vr y, own_vi (34 : Int32), own_vr b2] [(.int (16 : Int32)), (.int (0 : Int32)), (.ref b2), (.int (0 : Int32)), (.ref y)])) rfl (by rw [hml]; rfl) rfl (hb hby own_d67_28) (by decide) (W := 0) (by show 2 * 0 + _ ≤ _; exact Nat.le_of_eq rfl) (by decide)
 refine own_st st5 ?_
 have O0_x5 := O0_x2.keep K5 (allS ge2 all0)
 have VY_x5 := VY_x2.keep K5 (ninS ne2_y nin0)
 have K0_x5 := K0_x2.trans K5 (allS (Or.inr sz2) all0)
 have Ex2_x5 := Ex2.keep K5
 refine own_aloadN X5 hx hby own_d67_31 rfl rfl rfl ?_
 show own_Rch _ _ _ _ T5 (mkF m 32 #[own_vr y, own_vi (34 : Int32), own_vr b2] [(.ref b2)])
 refine own_retA rfl rfl X5 hx Bd.notSynchronized Bd.returns (hb hby own_d67_32) (by decide) (by decide) ?_
 rw [e5]
 exact ⟨_, _, rfl, N5, K0_x5, sz2, Ex2_x5, V5⟩
theorem own_d23_17 : decode own_c23 17 = .ok (.aload_n 0, 1) := by decide +kernel
theorem own_d23_18 : decode own_c23 18 = .ok (.aload_n 0, 1) := by decide +kernel
theorem own_d23_19 : decode own_c23 19 = .ok (.getfield 15, 3) := by decide +kernel
theorem own_d23_22 : decode own_c23 22 = .ok (.aload_n 0, 1) := by decide +kernel
theorem own_d23_23 : decode own_c23 23 = .ok (.iload_n 1, 1) := by decide +kernel
theorem own_d23_24 : decode own_c23 24 = .ok (.invokevirtual 104, 3) := by decide +kernel
theorem own_pd5 : parseMethodDescriptor "(I)I" = some ⟨[.int], some .int⟩ := by decide +kernel
theorem own_d23_27 : decode own_c23 27 = .ok (.aload_n 0, 1) := by decide +kernel
theorem own_d23_28 : decode own_c23 28 = .ok (.getfield 22, 3) := by decide +kernel
theorem own_d23_31 : decode own_c23 31 = .ok (.ishl, 1) := by decide +kernel
theorem own_d23_32 : decode own_c23 32 = .ok (.invokestatic 108, 3) := by decide +kernel
theorem own_pd6 : parseMethodDescriptor "([BI)[B" = some ⟨[(.array .byte), .int], some (.array .byte)⟩ := by decide +kernel
theorem own_d23_35 : decode own_c23 35 = .ok (.putfield 15, 3) := by decide +kernel
def own_Q_own_ens1 (Z : State) (a : Addr) (y : Addr) (ky : ClassId) (w : List Value) (c : Nat) (m_ : Nat) (h0 : Heap) (n0 : Nat) (v : Option Value) (h : Heap) (L : List Loc) : Prop := ∃ (b : Addr) (kb : ClassId), v = none ∧ Fr n0 L ∧ Keep h0 h [a] ∧ h0.size ≤ b ∧ Exa Z h a "java/lang/StringBuilder" ∧ Fld Z h a "java/lang/AbstractStringBuilder" "value" "[B" (.ref b) ∧ Fld Z h a "java/lang/AbstractStringBuilder" "coder" "B" (.int (0 : Int32)) ∧ Fld Z h a "java/lang/AbstractStringBuilder" "count" "I" (.int (Int32.ofNat c)) ∧ Exa Z h b "[B" ∧ Arv Z h b kb .byte (Int32.ofNat (own_put (List.replicate 34 (Value.int 0)) 0 w).length) (own_put (List.replicate 34 (Value.int 0)) 0 w) (.int (0 : Int32))
theorem own_ens1 (l : Launch) (Z : State) (a0 : Array Value) (hw : ∀ d ∈ tables_1, d.before a0 Z = true) (ws : List Jvm.Cond) (a : Addr) (y : Addr) (ky : ClassId) (w : List Value) (c : Nat) (m_ : Nat) (h0 : Heap) (n0 : Nat) (O0 : Old Z n0 h0) (EA : Exa Z h0 a "java/lang/StringBuilder") (FV : Fld Z h0 a "java/lang/AbstractStringBuilder" "value" "[B" (.ref y)) (FC : Fld Z h0 a "java/lang/AbstractStringBuilder" "coder" "B" (.int (0 : Int32))) (FN : Fld Z h0 a "java/lang/AbstractStringBuilder" "count" "I" (.int (Int32.ofNat c))) (EY : Exa Z h0 y "[B") (VY : Arv Z h0 y ky .byte (16 : Int32) w (.int (0 : Int32))) (hw16 : w.length = 16) (hm0 : 16 < m_) (hm1 : m_ ≤ 33) (ga : n0 ≤ a) :
    own_Mt l own_y3 own_c23 3 none ws (own_r 3 1 34 48) #[(.ref a), (.int (Int32.ofNat m_))] Z h0 (own_Q_own_ens1 Z a y ky w c m_ h0 n0) := by
 refine MetFree.of_bodySF (plainFor_of_name own_pn1) hisR ?_
 intro p_ e s m args below meth c_ s₁ Bd hml0 hP hK
 obtain ⟨rfl, hZ, hh⟩ := hP
 have hx := Bd.exec
 have hby := Bd.bytes
 have hml : c_.maxLocals = 3 := hml0
 have hown : s.vm.findClass "java/lang/AbstractStringBuilder" = some m.cls := findClass_of_methodNamed Bd.named
 have hnm := (name_of_methodNamed Bd.named Bd.method).1
 have X0 : Stand p_ l e (own_r 3 1 34 48) s m #[(.ref a), (.int (Int32.ofNat m_))] below meth c_ s₁ [] 0 0 := Stand.of_body Bd
 have e0 : s₁.heap = h0 := by rw [← hh, Bd.state]; rfl
 have N0 := Fr.nil n0
 refine own_close (s := s) (Q := (own_Q_own_ens1 Z a y ky w c m_ h0 n0)) (own_st (fun _ => castTop (own_ef23 m a (Int32.ofNat m_))) ?_)
 have K0 := Keep.refl h0 [a]
 show own_Rch _ _ _ _ s₁ (mkF m 0 #[own_vr a, own_vi (Int32.ofNat m_), .unset] [])
 refine own_aloadN X0 hx hby own_d23_0 rfl rfl rfl ?_
 obtain ⟨T1, X1, e1, st1⟩ := own_gF X0 hx hZ hown (hw _ (own_m 147 rfl)) e0 FV (g := (mkF m 1 #[own_vr a, own_vi (Int32.ofNat m_), .unset] [(.ref a)])) rfl rfl (hb hby own_d23_1)
 refine own_st st1 ?_
 obtain ⟨cl2, Ar2, -, S2, M2, -, -⟩ := id VY
 refine own_st (X1.arraylength hx (by rw [e1]; exact Ar2.1) (State.isArrayOf_alike (hZ).alike Ar2.2.1) (g := (mkF m 4 #[own_vr a, own_vi (Int32.ofNat m_), .unset] [(.ref y)])) rfl rfl (hb hby own_d23_4)) ?_
 rw [len_of S2 M2]
 refine own_aloadN X1 hx hby own_d23_5 rfl rfl rfl ?_
 obtain ⟨T3, X3, e3, st3⟩ := own_gF X1 hx hZ hown (hw _ (own_m 149 rfl)) e1 FC (g := (mkF m 6 #[own_vr a, own_vi (Int32.ofNat m_), .unset] [(.ref a), (.int (16 : Int32))])) rfl rfl (hb hby own_d23_6)
 refine own_st st3 ?_
 show own_Rch _ _ _ _ T3 (mkF m 9 #[own_vr a, own_vi (Int32.ofNat m_), .unset] [(.int (0 : Int32)), (.int (16 : Int32))])
 refine own_st (fun _ => XS.ishr X3.here hx rfl (hb hby own_d23_9) rfl) ?_
 show own_Rch p_ e below _ T3 (mkF m 10 #[own_vr a, own_vi (Int32.ofNat m_), .unset] [(.int ((16 : Int32) >>> ((0 : Int32) &&& 31)))])
 rw [own_ishr0]
 refine own_st (fun _ => XS.istoreN X3.here hx rfl (hb hby own_d23_10) rfl (l' := #[own_vr a, own_vi (Int32.ofNat m_), own_vi (16 : Int32)]) rfl) ?_
 refine own_iloadN X3 hx hby own_d23_11 rfl rfl ?_
 refine own_iloadN X3 hx hby own_d23_12 rfl rfl ?_
 show own_Rch _ _ _ _ T3 (mkF m 13 #[own_vr a, own_vi (Int32.ofNat m_), own_vi (16 : Int32)] [(.int (16 : Int32)), (.int (Int32.ofNat m_))])
 refine own_st (fun _ => XS.isub X3.here hx rfl (hb hby own_d23_13) rfl) ?_
 show own_Rch _ _ _ _ T3 (mkF m 14 #[own_vr a, own_vi (Int32.ofNat m_), own_vi (16 : Int32)] [(.int ((Int32.ofNat m_) - (16 : Int32)))])
 refine own_st (fun _ => XS.ifNo X3.here hx rfl (hb hby own_d23_14) rfl ((if0 _ _).trans (tlt ((own_psub hm0 hm1).1 : (0 : Int32) < ((Int32.ofNat m_) - (16 : Int32)))).2.2.2)) ?_
 refine own_aloadN X3 hx hby own_d23_17 rfl rfl rfl ?_
 refine own_aloadN X3 hx hby own_d23_18 rfl rfl rfl ?_
 obtain ⟨T4, X4, e4, st4⟩ := own_gF X3 hx hZ hown (hw _ (own_m 147 rfl)) e3 FV (g := (mkF m 19 #[own_vr a, own_vi (Int32.ofNat m_), own_vi (16 : Int32)] [(.ref a), (.ref a)])) rfl rfl (hb hby own_d23_19)
 refine own_st st4 ?_
 refine own_aloadN X4 hx hby own_d23_22 rfl rfl rfl ?_
 refine own_iloadN X4 hx hby own_d23_23 rfl rfl ?_
 obtain ⟨cq5, kq5, q5a, q5b, q5c⟩ := isOf hZ e4 EA
 obtain ⟨_, _, ⟨T5, L5, k5, n5⟩, -, X5, ⟨Lc5, hQ5, l5, y5, z5⟩, st5⟩ := X4.virtualBack hx (y := own_y5) (z := own_y5) hown (mvT hZ (hw _ (own_m 381 rfl))) (mvT hZ (own_decl (hw _ (own_m 382 rfl)) (hw _ (own_m 385 rfl)))) (notFace_of_selects (args := #[]) (mvT hZ (hw _ (own_m 384 rfl)))) (mvT hZ (hw _ (own_m 384 rfl))) (mvT hZ (hw _ (own_m 382 rfl))) (by decide) (backOf (W := 2) (own_ncap l Z a0 hw [] a y ky w m_ h0 n0 O0 EA FV FC VY hw16 hm0 hm1) hZ (hw _ (own_m 385 rfl)) (hw _ (own_m 143 rfl)) (by decide) (by decide)) q5a q5c (g := (mkF m 24 #[own_vr a, own_vi (Int32.ofNat m_), own_vi (16 : Int32)] [(.int (Int32.ofNat m_)), (.ref a), (.ref y), (.ref a)])) rfl (by rw [hml]; rfl) (Steps.refl _) (argsL := [(.int (Int32.ofNat m_))]) (rest := [(.ref y), (.ref a)]) (lenOf own_pd5 rfl) rfl (by show 2 * 0 + _ ≤ _; exact Nat.le_of_eq rfl) (hb hby own_d23_24) (fun _ _ => ⟨rfl, e4, (by decide : 0 + 0 ≤ _), (by decide : 0 + 0 ≤ _)⟩)
 dsimp only [Pt.U, Pt.locs, Pt.cells, Pt.slots] at X5 l5 y5 z5 st5 hQ5
 subst l5 y5 z5
 obtain ⟨rfl, N5q, hh5⟩ := hQ5
 have N5 := Fr.app N0 N5q
 refine own_st (fun _ kt => st5.trans kt) ?_
 refine own_aloadN X5 hx hby own_d23_27 rfl rfl rfl ?_
 obtain ⟨T6, X6, e6, st6⟩ := own_gF X5 hx hZ hown (hw _ (own_m 149 rfl)) hh5 FC (g := (mkF m 28 #[own_vr a, own_vi (Int32.ofNat m_), own_vi (16 : Int32)] [(.ref a), (.int (34 : Int32)), (.ref y), (.ref a)])) rfl rfl (hb hby own_d23_28)
 refine own_st st6 ?_
 show own_Rch _ _ _ _ T6 (mkF m 31 #[own_vr a, own_vi (Int32.ofNat m_), own_vi (16 : Int32)] [(.int (0 : Int32)), (.int (34 : Int32)), (.ref y), (.ref a)])
 refine own_st (fun _ => XS.ishl X6.here hx rfl (hb hby own_d23_31) rfl) ?_
 show own_Rch p_ e below _ T6 (mkF m 32 #[own_vr a, own_vi (Int32.ofNat m_), own_vi (16 : Int32)] [(.int ((34 : Int32) <<< ((0 : Int32) &&& 31))), (.ref y), (.ref a)])
 rw [own_ishl0]
 obtain ⟨_, _, ⟨T7, L7, k7, n7⟩, -, X7, ⟨Lc7, hQ7, l7, y7, z7⟩, st7⟩ := Jvm.LawKit.callS X6 hx (y := (⟨"java/util/Arrays", "copyOf", "([BI)[B"⟩ : MethodName)) hown (mvT hZ (hw _ (own_m 395 rfl))) (mvT hZ (hw _ (own_m 396 rfl))) (mvT hZ (hw _ (own_m 257 rfl))) (mvT hZ (hw _ (own_m 397 rfl))) (by decide) (backOf (W := 1) (own_cpof l Z a0 hw [] y ky w h0 n0 O0 VY hw16) hZ (hw _ (own_m 397 rfl)) (hw _ (own_m 257 rfl)) (by decide) (by decide)) (g := (mkF m 32 #[own_vr a, own_vi (Int32.ofNat m_), own_vi (16 : Int32)] [(.int (34 : Int32)), (.ref y), (.ref a)])) rfl (by rw [hml]; rfl) (argsL := [(.ref y), (.int (34 : Int32))]) (rest := [(.ref a)]) (lenOf own_pd6 rfl) rfl (by show 2 * 0 + _ ≤ _; exact Nat.le_of_eq rfl) (hb hby own_d23_32) (fun _ _ => ⟨rfl, e6, (by decide : 0 + 1 ≤ _), (by decide : 0 + 34 ≤ _)⟩)
 dsimp only [Pt.U, Pt.locs, Pt.cells, Pt.slots] at X7 l7 y7 z7 st7 hQ7
 subst l7 y7 z7
 obtain ⟨by7, kb7, rfl, N7q, K7, hb7, Eb7, Vb7⟩ := hQ7
 have N7 := Fr.app N5 N7q
 refine own_st st7 ?_
 have ne7_a_by7 : a ≠ by7 := Nat.ne_of_lt (Nat.lt_of_lt_of_le EA.lt hb7)
 have ne7_y_by7 : y ≠ by7 := Nat.ne_of_lt (Nat.lt_of_lt_of_le EY.lt hb7)
 have ge7_by7 : n0 ≤ by7 := Nat.le_trans (own_old_le O0) hb7
 have sz7_by7 : h0.size ≤ by7 := Nat.le_trans K0.1 hb7
 have O0_x7 := O0.keep K7 all0
 have EA_x7 := EA.keep K7
 have FV_x7 := FV.keep K7 nin0
 have FC_x7 := FC.keep K7 nin0
 have FN_x7 := FN.keep K7 nin0
 have EY_x7 := EY.keep K7
 have VY_x7 := VY.keep K7 nin0
 have K0_x7 := K0.trans K7 all0
 obtain ⟨T8, h8, X8, e8, W8, st8⟩ := putF X7 hx hZ hown (host := "") (Or.inl (hw _ (own_m 147 rfl))) Via.refl rfl FV_x7 EA_x7 (Or.inl (hw _ (own_m 148 rfl))) (hw _ (own_m 134 rfl)) (ty := (.array .byte)) (by decide) rfl rfl (g := (mkF m 35 #[own_vr a, own_vi (Int32.ofNat m_), own_vi (16 : Int32)] [(.ref by7), (.ref a)])) rfl rfl (hb hby own_d23_35)
 refine own_st st8 ?_
 have Fw8 := FV_x7.same W8
 have N8 := Fr.snoc X8 N7 ga
 have O0_x8 := O0_x7.wr W8 ga
 have EA_x8 := EA_x7.wr W8
 have FC_x8 := FC_x7.other W8 (Or.inr (slot_ne (Or.inl (hw _ (own_m 150 rfl))) (Or.inl (hw _ (own_m 148 rfl))) (by decide) (t := .byte) (t' := (.array .byte)) (by decide) (by decide)))
 have FN_x8 := FN_x7.other W8 (Or.inr (slot_ne (Or.inl (hw _ (own_m 175 rfl))) (Or.inl (hw _ (own_m 148 rfl))) (by decide) (t := .int) (t' := (.array .byte)) (by decide) (by decide)))
 have EY_x8 := EY_x7.wr W8
 have VY_x8 := VY_x7.other W8 (Exa.ne EY_x7 EA_x7 (by decide))
 have K0_x8 := K0_x7.wr W8 (Or.inl (List.mem_of_getElem? (i := 0) rfl))
 have Eb7_x8 := Eb7.wr W8
 have Vb7_x8 := Vb7.other W8 (Ne.symm ne7_a_by7)
 show own_Rch _ _ _ _ T8 (mkF m 38 #[own_vr a, own_vi (Int32.ofNat m_), own_vi (16 : Int32)] [])
 refine own_retV X8 hx Bd.notSynchronized Bd.returns (hb hby own_d23_38) (by decide) (by decide) ?_
 rw [e8]
 exact ⟨_, _, rfl, N8, K0_x8, sz7_by7, EA_x8, Fw8, FC_x8, FN_x8, Eb7_x8, Vb7_x8⟩
theorem own_ef20 (m : MethodId) (x0 : Addr) (x1 : Addr) : entryFrame m #[(.ref x0), (.ref x1)] 3 = mkF m 0 #[own_vr x0, own_vr x1, .unset] [] := by first | (simp [entryFrame, mkF, argsToLocals, Value.category]; done) | rfl
abbrev own_c20 : ByteArray := jdk_68_method_22_code
theorem own_d20_0 : decode own_c20 0 = .ok (.aload_n 1, 1) := by decide +kernel
theorem own_d20_1 : decode own_c20 1 = .ok (.ifnonnull 8, 3) := by decide +kernel
theorem own_d20_9 : decode own_c20 9 = .ok (.aload_n 1, 1) := by decide +kernel
theorem own_d20_10 : decode own_c20 10 = .ok (.invokevirtual 32, 3) := by decide +kernel
theorem own_pd7 : parseMethodDescriptor "()I" = some ⟨[], some .int⟩ := by decide +kernel
theorem own_d20_13 : decode own_c20 13 = .ok (.istore_n 2, 1) := by decide +kernel
theorem own_d20_14 : decode own_c20 14 = .ok (.aload_n 0, 1) := by decide +kernel
theorem own_d20_15 : decode own_c20 15 = .ok (.aload_n 0, 1) := by decide +kernel
theorem own_d20_16 : decode own_c20 16 = .ok (.getfield 79, 3) := by decide +kernel
theorem own_d20_19 : decode own_c20 19 = .ok (.iload_n 2, 1) := by decide +kernel
theorem own_d20_20 : decode own_c20 20 = .ok (.iadd, 1) := by decide +kernel
theorem own_d20_21 : decode own_c20 21 = .ok (.invokevirtual 100, 3) := by decide +kernel
theorem own_pd8 : parseMethodDescriptor "(I)V" = some ⟨[.int], none⟩ := by decide +kernel
theorem own_d20_24 : decode own_c20 24 = .ok (.aload_n 0, 1) := by decide +kernel
theorem own_d20_25 : decode own_c20 25 = .ok (.aload_n 0, 1) := by decide +kernel
theorem own_d20_26 : decode own_c20 26 = .ok (.getfield 79, 3) := by decide +kernel
theorem own_d20_29 : decode own_c20 29 = .ok (.aload_n 1, 1) := by decide +kernel
theorem own_d20_30 : decode own_c20 30 = .ok (.invokevirtual 208, 3) := by decide +kernel
theorem own_pd9 : parseMethodDescriptor "(ILjava/lang/String;)V" = some ⟨[.int, (.object "java/lang/String")], none⟩ := by decide +kernel
theorem own_d20_33 : decode own_c20 33 = .ok (.aload_n 0, 1) := by decide +kernel
theorem own_d20_34 : decode own_c20 34 = .ok (.dup, 1) := by decide +kernel
theorem own_d20_35 : decode own_c20 35 = .ok (.getfield 79, 3) := by decide +kernel
theorem own_d20_38 : decode own_c20 38 = .ok (.iload_n 2, 1) := by decide +kernel
theorem own_d20_39 : decode own_c20 39 = .ok (.iadd, 1) := by decide +kernel
theorem own_d20_40 : decode own_c20 40 = .ok (.putfield 79, 3) := by decide +kernel
theorem own_d20_43 : decode own_c20 43 = .ok (.aload_n 0, 1) := by decide +kernel
theorem own_d20_44 : decode own_c20 44 = .ok (.areturn, 1) := by decide +kernel
abbrev own_y6 : MethodName := ⟨"java/lang/AbstractStringBuilder", "append", "(Ljava/lang/String;)Ljava/lang/AbstractStringBuilder;"⟩
def own_Q_own_aps (Z : State) (a : Addr) (y : Addr) (ky : ClassId) (w : List Value) (c : Nat) (sa : Addr) (sy : Addr) (sk : ClassId) (us : List Value) (cs : Int32) (h0 : Heap) (n0 : Nat) (v : Option Value) (h : Heap) (L : List Loc) : Prop := v = some (.ref a) ∧ Fr n0 L ∧ Keep h0 h [a, y] ∧ Exa Z h a "java/lang/StringBuilder" ∧ Fld Z h a "java/lang/AbstractStringBuilder" "value" "[B" (.ref y) ∧ Fld Z h a "java/lang/AbstractStringBuilder" "coder" "B" (.int (0 : Int32)) ∧ Fld Z h a "java/lang/AbstractStringBuilder" "count" "I" (.int (Int32.ofNat (c + us.length))) ∧ Exa Z h y "[B" ∧ Arv Z h y ky .byte (Int32.ofNat (own_put w c us).length) (own_put w c us) (.int (0 : Int32))
theorem own_aps (l : Launch) (Z : State) (a0 : Array Value) (hw : ∀ d ∈ tables_1, d.before a0 Z = true) (ws : List Jvm.Cond) (a : Addr) (y : Addr) (ky : ClassId) (w : List Value) (c : Nat) (sa : Addr) (sy : Addr) (sk : ClassId) (us : List Value) (cs : Int32) (h0 : Heap) (n0 : Nat) (O0 : Old Z n0 h0) (SC : Sta Z Z.heap "java/lang/String" "COMPACT_STRINGS" "Z" (.int cs)) (hcs : ¬ cs = 0) (EA : Exa Z h0 a "java/lang/StringBuilder") (FV : Fld Z h0 a "java/lang/AbstractStringBuilder" "value" "[B" (.ref y)) (FC : Fld Z h0 a "java/lang/AbstractStringBuilder" "coder" "B" (.int (0 : Int32))) (FN : Fld Z h0 a "java/lang/AbstractStringBuilder" "count" "I" (.int (Int32.ofNat c))) (EY : Exa Z h0 y "[B") (VY : Arv Z h0 y ky .byte (Int32.ofNat w.length) w (.int (0 : Int32))) (ES : Exa Z h0 sa "java/lang/String") (FS : Fld Z h0 sa "java/lang/String" "value" "[B" (.ref sy)) (GS : Fld Z h0 sa "java/lang/String" "coder" "B" (.int (0 : Int32))) (VS : Arv Z h0 sy sk .byte (Int32.ofNat us.length) us (.int (0 : Int32))) (hl : w.length ≤ 40) (hc : c + us.length ≤ w.length) (ga : n0 ≤ a) (gy : n0 ≤ y) (hne : sy ≠ y) :
    own_Mt l own_y6 own_c20 3 (some (.object "java/lang/AbstractStringBuilder")) ws (own_r 3 0 0 47) #[(.ref a), (.ref sa)] Z h0 (own_Q_own_aps Z a y ky w c sa sy sk us cs h0 n0) := by
 refine MetFree.of_bodySF (plainFor_of_name own_pn1) hisR ?_
 intro p_ e s m args below meth c_ s₁ Bd hml0 hP hK
 obtain ⟨rfl, hZ, hh⟩ := hP
 have hx := Bd.exec
 have hby := Bd.bytes
 have hml : c_.maxLocals = 3 := hml0
 have hown : s.vm.findClass "java/lang/AbstractStringBuilder" = some m.cls := findClass_of_methodNamed Bd.named
 have hnm := (name_of_methodNamed Bd.named Bd.method).1
 have X0 : Stand p_ l e (own_r 3 0 0 47) s m #[(.ref a), (.ref sa)] below meth c_ s₁ [] 0 0 := Stand.of_body Bd
 have e0 : s₁.heap = h0 := by rw [← hh, Bd.state]; rfl
 have N0 := Fr.nil n0
 refine own_close (s := s) (Q := (own_Q_own_aps Z a y ky w c sa sy sk us cs h0 n0)) (own_st (fun _ => castTop (own_ef20 m a sa)) ?_)
 have K0 := Keep.refl h0 [a, y]
 show own_Rch _ _ _ _ s₁ (mkF m 0 #[own_vr a, own_vr sa, .unset] [])
 refine own_aloadN X0 hx hby own_d20_0 rfl rfl rfl ?_
 show own_Rch _ _ _ _ s₁ (mkF m 1 #[own_vr a, own_vr sa, .unset] [(.ref sa)])
 refine own_st (fun _ => XS.ifnonnullYes X0.here hx rfl (pc0 := 1) (pc' := 9) rfl (hb hby own_d20_1) rfl (by decide) (by decide)) ?_
 refine own_aloadN X0 hx hby own_d20_9 rfl rfl rfl ?_
 obtain ⟨cq1, kq1, q1a, q1b, q1c⟩ := isOf hZ e0 ES
 obtain ⟨_, _, ⟨T1, L1, k1, n1⟩, -, X1, ⟨Lc1, hQ1, l1, y1, z1⟩, st1⟩ := X0.virtualBack hx (y := (⟨"java/lang/String", "length", "()I"⟩ : MethodName)) (z := (⟨"java/lang/String", "length", "()I"⟩ : MethodName)) hown (mvT hZ (hw _ (own_m 161 rfl))) (mvT hZ (hw _ (own_m 162 rfl))) (notFace_of_selects (args := #[]) (mvT hZ (hw _ (own_m 164 rfl)))) (mvT hZ (hw _ (own_m 164 rfl))) (mvT hZ (hw _ (own_m 163 rfl))) (by decide) (backOf (W := 0) (own_slen l Z a0 hw [] sa sy sk us cs h0 n0 O0 SC hcs ES FS GS VS) hZ (hw _ (own_m 165 rfl)) (hw _ (own_m 5 rfl)) (by decide) (by decide)) q1a q1c (g := (mkF m 10 #[own_vr a, own_vr sa, .unset] [(.ref sa)])) rfl (by rw [hml]; rfl) (Steps.refl _) (argsL := []) (rest := []) (lenOf own_pd7 rfl) rfl (by show 2 * 0 + _ ≤ _; exact Nat.le_of_eq rfl) (hb hby own_d20_10) (fun _ _ => ⟨rfl, e0, (by decide : 0 + 0 ≤ _), (by decide : 0 + 0 ≤ _)⟩)
 dsimp only [Pt.U, Pt.locs, Pt.cells, Pt.slots] at X1 l1 y1 z1 st1 hQ1
 subst l1 y1 z1
 obtain ⟨rfl, N1q, hh1⟩ := hQ1
 have N1 := Fr.app N0 N1q
 refine own_st (fun _ kt => st1.trans kt) ?_
 refine own_st (fun _ => XS.istoreN X1.here hx rfl (hb hby own_d20_13) rfl (l' := #[own_vr a, own_vr sa, own_vi (Int32.ofNat us.length)]) rfl) ?_
 refine own_aloadN X1 hx hby own_d20_14 rfl rfl rfl ?_
 refine own_aloadN X1 hx hby own_d20_15 rfl rfl rfl ?_
 obtain ⟨T2, X2, e2, st2⟩ := own_gF X1 hx hZ hown (hw _ (own_m 174 rfl)) hh1 FN (g := (mkF m 16 #[own_vr a, own_vr sa, own_vi (Int32.ofNat us.length)] [(.ref a), (.ref a)])) rfl rfl (hb hby own_d20_16)
 refine own_st st2 ?_
 refine own_iloadN X2 hx hby own_d20_19 rfl rfl ?_
 show own_Rch _ _ _ _ T2 (mkF m 20 #[own_vr a, own_vr sa, own_vi (Int32.ofNat us.length)] [(.int (Int32.ofNat us.length)), (.int (Int32.ofNat c)), (.ref a)])
 refine own_st (fun _ => XS.iadd X2.here hx rfl (hb hby own_d20_20) rfl) ?_
 show own_Rch _ _ _ _ T2 (mkF m 21 #[own_vr a, own_vr sa, own_vi (Int32.ofNat us.length)] [(.int ((Int32.ofNat c) + (Int32.ofNat us.length))), (.ref a)])
 rw [Jvm.Free.XT.add32n]
 obtain ⟨cq3, kq3, q3a, q3b, q3c⟩ := isOf hZ e2 EA
 obtain ⟨_, _, ⟨T3, L3, k3, n3⟩, -, X3, ⟨Lc3, hQ3, l3, y3, z3⟩, st3⟩ := X2.virtualBack hx (y := own_y3) (z := own_y3) hown (mvT hZ (hw _ (own_m 176 rfl))) (mvT hZ (own_decl (hw _ (own_m 177 rfl)) (hw _ (own_m 180 rfl)))) (notFace_of_selects (args := #[]) (mvT hZ (hw _ (own_m 179 rfl)))) (mvT hZ (hw _ (own_m 179 rfl))) (mvT hZ (hw _ (own_m 177 rfl))) (by decide) (backOf (W := 0) (own_ens0 l Z a0 hw [] a y ky w (c + us.length) h0 n0 O0 EA FV FC VY hc hl) hZ (hw _ (own_m 180 rfl)) (hw _ (own_m 143 rfl)) (by decide) (by decide)) q3a q3c (g := (mkF m 21 #[own_vr a, own_vr sa, own_vi (Int32.ofNat us.length)] [(.int (Int32.ofNat (c + us.length))), (.ref a)])) rfl (by rw [hml]; rfl) (Steps.refl _) (argsL := [(.int (Int32.ofNat (c + us.length)))]) (rest := []) (lenOf own_pd8 rfl) rfl (by show 2 * 0 + _ ≤ _; exact Nat.le_of_eq rfl) (hb hby own_d20_21) (fun _ _ => ⟨rfl, e2, (by decide : 0 + 0 ≤ _), (by decide : 0 + 0 ≤ _)⟩)
 dsimp only [Pt.U, Pt.locs, Pt.cells, Pt.slots] at X3 l3 y3 z3 st3 hQ3
 subst l3 y3 z3
 obtain ⟨rfl, N3q, hh3⟩ := hQ3
 have N3 := Fr.app N1 N3q
 refine own_st (fun _ kt => st3.trans kt) ?_
 refine own_aloadN X3 hx hby own_d20_24 rfl rfl rfl ?_
 refine own_aloadN X3 hx hby own_d20_25 rfl rfl rfl ?_
 obtain ⟨T4, X4, e4, st4⟩ := own_gF X3 hx hZ hown (hw _ (own_m 174 rfl)) hh3 FN (g := (mkF m 26 #[own_vr a, own_vr sa, own_vi (Int32.ofNat us.length)] [(.ref a), (.ref a)])) rfl rfl (hb hby own_d20_26)
 refine own_st st4 ?_
 refine own_aloadN X4 hx hby own_d20_29 rfl rfl rfl ?_
 obtain ⟨cq5, kq5, q5a, q5b, q5c⟩ := isOf hZ e4 EA
 obtain ⟨_, _, ⟨T5, L5, k5, n5⟩, -, X5, ⟨Lc5, hQ5, l5, y5, z5⟩, st5⟩ := X4.virtualBack hx (y := own_y2) (z := own_y2) hown (mvT hZ (hw _ (own_m 181 rfl))) (mvT hZ (own_decl (hw _ (own_m 182 rfl)) (hw _ (own_m 185 rfl)))) (notFace_of_selects (args := #[]) (mvT hZ (hw _ (own_m 184 rfl)))) (mvT hZ (hw _ (own_m 184 rfl))) (mvT hZ (hw _ (own_m 182 rfl))) (by decide) (backOf (W := 0) (own_pst l Z a0 hw [] a y ky w c sa sy sk us cs h0 n0 O0 SC hcs EA FV FC FN EY VY ES FS GS VS hl hc ga gy hne) hZ (hw _ (own_m 185 rfl)) (hw _ (own_m 143 rfl)) (by decide) (by decide)) q5a q5c (g := (mkF m 30 #[own_vr a, own_vr sa, own_vi (Int32.ofNat us.length)] [(.ref sa), (.int (Int32.ofNat c)), (.ref a)])) rfl (by rw [hml]; rfl) (Steps.refl _) (argsL := [(.int (Int32.ofNat c)), (.ref sa)]) (rest := []) (lenOf own_pd9 rfl) rfl (by show 2 * 0 + _ ≤ _; exact Nat.le_of_eq rfl) (hb hby own_d20_30) (fun _ _ => ⟨rfl, e4, (by decide : 0 + 0 ≤ _), (by decide : 0 + 0 ≤ _)⟩)
 dsimp only [Pt.U, Pt.locs, Pt.cells, Pt.slots] at X5 l5 y5 z5 st5 hQ5
 subst l5 y5 z5
 obtain ⟨rfl, N5q, K5, Vy5⟩ := hQ5
 have N5 := Fr.app N3 N5q
 refine own_st (fun _ kt => st5.trans kt) ?_
 have O0_x5 := O0.keep K5 (allS gy all0)
 have EA_x5 := EA.keep K5
 have FV_x5 := FV.keep K5 (ninS (Exa.ne EA EY (by decide)) nin0)
 have FC_x5 := FC.keep K5 (ninS (Exa.ne EA EY (by decide)) nin0)
 have FN_x5 := FN.keep K5 (ninS (Exa.ne EA EY (by decide)) nin0)
 have EY_x5 := EY.keep K5
 have ES_x5 := ES.keep K5
 have FS_x5 := FS.keep K5 (ninS (Exa.ne ES EY (by decide)) nin0)
 have GS_x5 := GS.keep K5 (ninS (Exa.ne ES EY (by decide)) nin0)
 have VS_x5 := VS.keep K5 (ninS hne nin0)
 have K0_x5 := K0.trans K5 (allS (Or.inl (List.mem_of_getElem? (i := 1) rfl)) all0)
 refine own_aloadN X5 hx hby own_d20_33 rfl rfl rfl ?_
 refine own_dup X5 hx hby own_d20_34 rfl rfl rfl ?_
 obtain ⟨T6, X6, e6, st6⟩ := own_gF X5 hx hZ hown (hw _ (own_m 174 rfl)) rfl FN_x5 (g := (mkF m 35 #[own_vr a, own_vr sa, own_vi (Int32.ofNat us.length)] [(.ref a), (.ref a)])) rfl rfl (hb hby own_d20_35)
 refine own_st st6 ?_
 refine own_iloadN X6 hx hby own_d20_38 rfl rfl ?_
 show own_Rch _ _ _ _ T6 (mkF m 39 #[own_vr a, own_vr sa, own_vi (Int32.ofNat us.length)] [(.int (Int32.ofNat us.length)), (.int (Int32.ofNat c)), (.ref a)])
 refine own_st (fun _ => XS.iadd X6.here hx rfl (hb hby own_d20_39) rfl) ?_
 show own_Rch _ _ _ _ T6 (mkF m 40 #[own_vr a, own_vr sa, own_vi (Int32.ofNat us.length)] [(.int ((Int32.ofNat c) + (Int32.ofNat us.length))), (.ref a)])
 rw [Jvm.Free.XT.add32n]
 obtain ⟨T7, h7, X7, e7, W7, st7⟩ := putF X6 hx hZ hown (host := "") (Or.inl (hw _ (own_m 174 rfl))) Via.refl e6 FN_x5 EA_x5 (Or.inl (hw _ (own_m 175 rfl))) (hw _ (own_m 134 rfl)) (ty := .int) (by decide) rfl rfl (g := (mkF m 40 #[own_vr a, own_vr sa, own_vi (Int32.ofNat us.length)] [(.int (Int32.ofNat (c + us.length))), (.ref a)])) rfl rfl (hb hby own_d20_40)
 refine own_st st7 ?_
 have Fw7 := FN_x5.same W7
 have N7 := Fr.snoc X7 N5 ga
 have O0_x7 := O0_x5.wr W7 ga
 have EA_x7 := EA_x5.wr W7
 have FV_x7 := FV_x5.other W7 (Or.inr (slot_ne (Or.inl (hw _ (own_m 148 rfl))) (Or.inl (hw _ (own_m 175 rfl))) (by decide) (t := (.array .byte)) (t' := .int) (by decide) (by decide)))
 have FC_x7 := FC_x5.other W7 (Or.inr (slot_ne (Or.inl (hw _ (own_m 150 rfl))) (Or.inl (hw _ (own_m 175 rfl))) (by decide) (t := .byte) (t' := .int) (by decide) (by decide)))
 have EY_x7 := EY_x5.wr W7
 have ES_x7 := ES_x5.wr W7
 have FS_x7 := FS_x5.other W7 (Or.inl (Exa.ne ES_x5 EA_x5 (by decide)))
 have GS_x7 := GS_x5.other W7 (Or.inl (Exa.ne ES_x5 EA_x5 (by decide)))
 have VS_x7 := VS_x5.other W7 (Ne.symm (Exa.neArv EA_x5 VS_x5 (hw _ (own_m 134 rfl))))
 have K0_x7 := K0_x5.wr W7 (Or.inl (List.mem_of_getElem? (i := 0) rfl))
 have Vy5_x7 := Vy5.other W7 (Exa.ne EY_x5 EA_x5 (by decide))
 refine own_aloadN X7 hx hby own_d20_43 rfl rfl rfl ?_
 show own_Rch _ _ _ _ T7 (mkF m 44 #[own_vr a, own_vr sa, own_vi (Int32.ofNat us.length)] [(.ref a)])
 refine own_retA rfl rfl X7 hx Bd.notSynchronized Bd.returns (hb hby own_d20_44) (by decide) (by decide) ?_
 rw [e7]
 exact ⟨rfl, N7, K0_x7, EA_x7, FV_x7, FC_x7, Fw7, EY_x7, Vy5_x7⟩
theorem own_pn4 : plainName "java/lang/StringBuilder" = true := by first | (simp [plainName, overriddenIn]; done) | decide +kernel
theorem own_ef19 (m : MethodId) (x0 : Addr) (x1 : Addr) : entryFrame m #[(.ref x0), (.ref x1)] 2 = mkF m 0 #[own_vr x0, own_vr x1] [] := by first | (simp [entryFrame, mkF, argsToLocals, Value.category]; done) | rfl
abbrev own_c19 : ByteArray := jdk_67_method_7_code
theorem own_d19_0 : decode own_c19 0 = .ok (.aload_n 0, 1) := by decide +kernel
theorem own_d19_1 : decode own_c19 1 = .ok (.aload_n 1, 1) := by decide +kernel
theorem own_d19_2 : decode own_c19 2 = .ok (.invokespecial 29, 3) := by decide +kernel
theorem own_pd10 : parseMethodDescriptor "(Ljava/lang/String;)Ljava/lang/AbstractStringBuilder;" = some ⟨[(.object "java/lang/String")], some (.object "java/lang/AbstractStringBuilder")⟩ := by decide +kernel
theorem own_d19_5 : decode own_c19 5 = .ok (.pop, 1) := by decide +kernel
theorem own_d19_6 : decode own_c19 6 = .ok (.aload_n 0, 1) := by decide +kernel
theorem own_d19_7 : decode own_c19 7 = .ok (.areturn, 1) := by decide +kernel
abbrev own_y7 : MethodName := ⟨"java/lang/StringBuilder", "append", "(Ljava/lang/String;)Ljava/lang/StringBuilder;"⟩
def own_Q_own_sps (Z : State) (a : Addr) (y : Addr) (ky : ClassId) (w : List Value) (c : Nat) (sa : Addr) (sy : Addr) (sk : ClassId) (us : List Value) (cs : Int32) (h0 : Heap) (n0 : Nat) (v : Option Value) (h : Heap) (L : List Loc) : Prop := v = some (.ref a) ∧ Fr n0 L ∧ Keep h0 h [a, y] ∧ Exa Z h a "java/lang/StringBuilder" ∧ Fld Z h a "java/lang/AbstractStringBuilder" "value" "[B" (.ref y) ∧ Fld Z h a "java/lang/AbstractStringBuilder" "coder" "B" (.int (0 : Int32)) ∧ Fld Z h a "java/lang/AbstractStringBuilder" "count" "I" (.int (Int32.ofNat (c + us.length))) ∧ Exa Z h y "[B" ∧ Arv Z h y ky .byte (Int32.ofNat (own_put w c us).length) (own_put w c us) (.int (0 : Int32))
theorem own_sps (l : Launch) (Z : State) (a0 : Array Value) (hw : ∀ d ∈ tables_1, d.before a0 Z = true) (ws : List Jvm.Cond) (a : Addr) (y : Addr) (ky : ClassId) (w : List Value) (c : Nat) (sa : Addr) (sy : Addr) (sk : ClassId) (us : List Value) (cs : Int32) (h0 : Heap) (n0 : Nat) (O0 : Old Z n0 h0) (SC : Sta Z Z.heap "java/lang/String" "COMPACT_STRINGS" "Z" (.int cs)) (hcs : ¬ cs = 0) (EA : Exa Z h0 a "java/lang/StringBuilder") (FV : Fld Z h0 a "java/lang/AbstractStringBuilder" "value" "[B" (.ref y)) (FC : Fld Z h0 a "java/lang/AbstractStringBuilder" "coder" "B" (.int (0 : Int32))) (FN : Fld Z h0 a "java/lang/AbstractStringBuilder" "count" "I" (.int (Int32.ofNat c))) (EY : Exa Z h0 y "[B") (VY : Arv Z h0 y ky .byte (Int32.ofNat w.length) w (.int (0 : Int32))) (ES : Exa Z h0 sa "java/lang/String") (FS : Fld Z h0 sa "java/lang/String" "value" "[B" (.ref sy)) (GS : Fld Z h0 sa "java/lang/String" "coder" "B" (.int (0 : Int32))) (VS : Arv Z h0 sy sk .byte (Int32.ofNat us.length) us (.int (0 : Int32))) (hl : w.length ≤ 40) (hc : c + us.length ≤ w.length) (ga : n0 ≤ a) (gy : n0 ≤ y) (hne : sy ≠ y) :
    own_Mt l own_y7 own_c19 2 (some (.object "java/lang/StringBuilder")) ws (own_r 4 0 0 61) #[(.ref a), (.ref sa)] Z h0 (own_Q_own_sps Z a y ky w c sa sy sk us cs h0 n0) := by
 refine MetFree.of_bodySF (plainFor_of_name own_pn4) hisR ?_
 intro p_ e s m args below meth c_ s₁ Bd hml0 hP hK
 obtain ⟨rfl, hZ, hh⟩ := hP
 have hx := Bd.exec
 have hby := Bd.bytes
 have hml : c_.maxLocals = 2 := hml0
 have hown : s.vm.findClass "java/lang/StringBuilder" = some m.cls := findClass_of_methodNamed Bd.named
 have hnm := (name_of_methodNamed Bd.named Bd.method).1
 have X0 : Stand p_ l e (own_r 4 0 0 61) s m #[(.ref a), (.ref sa)] below meth c_ s₁ [] 0 0 := Stand.of_body Bd
 have e0 : s₁.heap = h0 := by rw [← hh, Bd.state]; rfl
 have N0 := Fr.nil n0
 refine own_close (s := s) (Q := (own_Q_own_sps Z a y ky w c sa sy sk us cs h0 n0)) (own_st (fun _ => castTop (own_ef19 m a sa)) ?_)
 have K0 := Keep.refl h0 [a, y]
 show own_Rch _ _ _ _ s₁ (mkF m 0 #[own_vr a, own_vr sa] [])
 refine own_aloadN X0 hx hby own_d19_0 rfl rfl rfl ?_
 refine own_aloadN X0 hx hby own_d19_1 rfl rfl rfl ?_
 obtain ⟨_, _, ⟨T1, L1, k1, n1⟩, -, X1, ⟨Lc1, hQ1, l1, y1, z1⟩, st1⟩ := superBack X0 hx hZ (y := own_y6) hown (hw _ (own_m 156 rfl)) (own_same (y := own_y6) (hw _ (own_m 157 rfl)) (hw _ (own_m 219 rfl)) rfl (by decide)) (hw _ (own_m 157 rfl)) (hw _ (own_m 158 rfl)) (by decide) (backOf (W := 0) (own_aps l Z a0 hw [] a y ky w c sa sy sk us cs h0 n0 O0 SC hcs EA FV FC FN EY VY ES FS GS VS hl hc ga gy hne) hZ (hw _ (own_m 160 rfl)) (hw _ (own_m 143 rfl)) (by decide) (by decide)) e0 (Ins.self EA) (g := (mkF m 2 #[own_vr a, own_vr sa] [(.ref sa), (.ref a)])) rfl (by rw [hml]; rfl) (hw _ (own_m 160 rfl)) (argsL := [(.ref sa)]) (rest := []) (lenOf own_pd10 rfl) rfl (by show 2 * 0 + _ ≤ _; exact Nat.le_of_eq rfl) (hb hby own_d19_2) (fun _ _ => ⟨rfl, e0, (by decide : 0 + 0 ≤ _), (by decide : 0 + 0 ≤ _)⟩)
 dsimp only [Pt.U, Pt.locs, Pt.cells, Pt.slots] at X1 l1 y1 z1 st1 hQ1
 subst l1 y1 z1
 obtain ⟨rfl, N1q, K1, Ea1, Fv1, Fc1, Fn1, Ey1, Vy1⟩ := hQ1
 have N1 := Fr.app N0 N1q
 refine own_st (fun _ kt => st1.trans kt) ?_
 have O0_x1 := O0.keep K1 (allS ga (allS gy all0))
 have EA_x1 := EA.keep K1
 have EY_x1 := EY.keep K1
 have ES_x1 := ES.keep K1
 have FS_x1 := FS.keep K1 (ninS (Exa.ne ES EA (by decide)) (ninS (Exa.ne ES EY (by decide)) nin0))
 have GS_x1 := GS.keep K1 (ninS (Exa.ne ES EA (by decide)) (ninS (Exa.ne ES EY (by decide)) nin0))
 have VS_x1 := VS.keep K1 (ninS (Ne.symm (Exa.neArv EA VS (hw _ (own_m 134 rfl)))) (ninS hne nin0))
 have K0_x1 := K0.trans K1 (allS (Or.inl (List.mem_of_getElem? (i := 0) rfl)) (allS (Or.inl (List.mem_of_getElem? (i := 1) rfl)) all0))
 refine own_st (fun _ => XS.pop X1.here hx rfl (hb hby own_d19_5) rfl rfl) ?_
 refine own_aloadN X1 hx hby own_d19_6 rfl rfl rfl ?_
 show own_Rch _ _ _ _ T1 (mkF m 7 #[own_vr a, own_vr sa] [(.ref a)])
 refine own_retA rfl rfl X1 hx Bd.notSynchronized Bd.returns (hb hby own_d19_7) (by decide) (by decide) ?_
 exact ⟨rfl, N1, K0_x1, Ea1, Fv1, Fc1, Fn1, Ey1, Vy1⟩
theorem own_ef30 (m : MethodId) (x0 : Addr) : entryFrame m #[(.ref x0)] 1 = mkF m 0 #[own_vr x0] [] := by first | (simp [entryFrame, mkF, argsToLocals, Value.category]; done) | rfl
abbrev own_c30 : ByteArray := jdk_68_method_68_code
theorem own_d30_0 : decode own_c30 0 = .ok (.getstatic 18, 3) := by decide +kernel
theorem own_d30_3 : decode own_c30 3 = .ok (.ifCond .eq 14, 3) := by decide +kernel
theorem own_d30_6 : decode own_c30 6 = .ok (.aload_n 0, 1) := by decide +kernel
theorem own_d30_7 : decode own_c30 7 = .ok (.getfield 22, 3) := by decide +kernel
theorem own_d30_10 : decode own_c30 10 = .ok (.ifCond .ne 7, 3) := by decide +kernel
theorem own_d30_13 : decode own_c30 13 = .ok (.iconst 1, 1) := by decide +kernel
theorem own_d30_14 : decode own_c30 14 = .ok (.goto 4, 3) := by decide +kernel
theorem own_d30_18 : decode own_c30 18 = .ok (.ireturn, 1) := by decide +kernel
abbrev own_y8 : MethodName := ⟨"java/lang/AbstractStringBuilder", "isLatin1", "()Z"⟩
def own_Q_own_lat (Z : State) (a : Addr) (cs : Int32) (h0 : Heap) (n0 : Nat) (v : Option Value) (h : Heap) (L : List Loc) : Prop := v = some (.int (1 : Int32)) ∧ Fr n0 L ∧ h = h0
theorem own_lat (l : Launch) (Z : State) (a0 : Array Value) (hw : ∀ d ∈ tables_1, d.before a0 Z = true) (ws : List Jvm.Cond) (a : Addr) (cs : Int32) (h0 : Heap) (n0 : Nat) (O0 : Old Z n0 h0) (SC : Sta Z Z.heap "java/lang/String" "COMPACT_STRINGS" "Z" (.int cs)) (hcs : ¬ cs = 0) (FC : Fld Z h0 a "java/lang/AbstractStringBuilder" "coder" "B" (.int (0 : Int32))) :
    own_Mt l own_y8 own_c30 1 (some .boolean) ws (own_r 0 0 0 0) #[(.ref a)] Z h0 (own_Q_own_lat Z a cs h0 n0) := by
 refine MetFree.of_bodySF (plainFor_of_name own_pn1) hisR ?_
 intro p_ e s m args below meth c_ s₁ Bd hml0 hP hK
 obtain ⟨rfl, hZ, hh⟩ := hP
 have hx := Bd.exec
 have hby := Bd.bytes
 have hml : c_.maxLocals = 1 := hml0
 have hown : s.vm.findClass "java/lang/AbstractStringBuilder" = some m.cls := findClass_of_methodNamed Bd.named
 have hnm := (name_of_methodNamed Bd.named Bd.method).1
 have X0 : Stand p_ l e (own_r 0 0 0 0) s m #[(.ref a)] below meth c_ s₁ [] 0 0 := Stand.of_body Bd
 have e0 : s₁.heap = h0 := by rw [← hh, Bd.state]; rfl
 have N0 := Fr.nil n0
 refine own_close (s := s) (Q := (own_Q_own_lat Z a cs h0 n0)) (own_st (fun _ => castTop (own_ef30 m a)) ?_)
 obtain ⟨T1, X1, e1, st1⟩ := getS2 X0 hx hZ hown (host := "") (Or.inl (hw _ (own_m 146 rfl))) Via.refl e0 (SC.ext O0.2) (g := (mkF m 0 #[own_vr a] [])) rfl (hb hby own_d30_0)
 refine own_st st1 ?_
 show own_Rch _ _ _ _ T1 (mkF m 3 #[own_vr a] [(.int cs)])
 refine own_st (fun _ => XS.ifNo X1.here hx rfl (hb hby own_d30_3) rfl ((if0 _ _).trans (feq (hcs : ¬ (cs = (0 : Int32)))).1)) ?_
 refine own_aloadN X1 hx hby own_d30_6 rfl rfl rfl ?_
 obtain ⟨T2, X2, e2, st2⟩ := own_gF X1 hx hZ hown (hw _ (own_m 149 rfl)) e1 FC (g := (mkF m 7 #[own_vr a] [(.ref a)])) rfl rfl (hb hby own_d30_7)
 refine own_st st2 ?_
 show own_Rch _ _ _ _ T2 (mkF m 10 #[own_vr a] [(.int (0 : Int32))])
 refine own_st (fun _ => XS.ifNo X2.here hx rfl (hb hby own_d30_10) rfl ((if0 _ _).trans (teq (rfl : (0 : Int32) = (0 : Int32))).2)) ?_
 refine own_iconst X2 hx hby own_d30_13 rfl ?_
 refine own_st (fun _ => XS.goto X2.here hx rfl (pc0 := 14) (pc' := 18) rfl (hb hby own_d30_14) (by decide) (by decide)) ?_
 show own_Rch _ _ _ _ T2 (mkF m 18 #[own_vr a] [(.int (1 : Int32))])
 refine own_retN (t := .boolean) (by simp) X2 hx Bd.notSynchronized Bd.returns (hb hby own_d30_18) (by decide) (by decide) ?_
 rw [e2]
 exact ⟨by decide, N0, rfl⟩
theorem own_ef35 (m : MethodId) (x0 : Addr) : entryFrame m #[(.ref x0)] 1 = mkF m 0 #[own_vr x0] [] := by first | (simp [entryFrame, mkF, argsToLocals, Value.category]; done) | rfl
abbrev own_c35 : ByteArray := jdk_68_method_64_code
theorem own_d35_0 : decode own_c35 0 = .ok (.aload_n 0, 1) := by decide +kernel
theorem own_d35_1 : decode own_c35 1 = .ok (.getfield 15, 3) := by decide +kernel
theorem own_d35_4 : decode own_c35 4 = .ok (.areturn, 1) := by decide +kernel
abbrev own_y9 : MethodName := ⟨"java/lang/AbstractStringBuilder", "getValue", "()[B"⟩
def own_Q_own_gv (Z : State) (a : Addr) (y : Addr) (h0 : Heap) (n0 : Nat) (v : Option Value) (h : Heap) (L : List Loc) : Prop := v = some (.ref y) ∧ Fr n0 L ∧ h = h0
theorem own_gv (l : Launch) (Z : State) (a0 : Array Value) (hw : ∀ d ∈ tables_1, d.before a0 Z = true) (ws : List Jvm.Cond) (a : Addr) (y : Addr) (h0 : Heap) (n0 : Nat) (O0 : Old Z n0 h0) (FV : Fld Z h0 a "java/lang/AbstractStringBuilder" "value" "[B" (.ref y)) :
    own_Mt l own_y9 own_c35 1 (some (.array .byte)) ws (own_r 0 0 0 0) #[(.ref a)] Z h0 (own_Q_own_gv Z a y h0 n0) := by
 refine MetFree.of_bodySF (plainFor_of_name own_pn1) hisR ?_
 intro p_ e s m args below meth c_ s₁ Bd hml0 hP hK
 obtain ⟨rfl, hZ, hh⟩ := hP
 have hx := Bd.exec
 have hby := Bd.bytes
 have hml : c_.maxLocals = 1 := hml0
 have hown : s.vm.findClass "java/lang/AbstractStringBuilder" = some m.cls := findClass_of_methodNamed Bd.named
 have hnm := (name_of_methodNamed Bd.named Bd.method).1
 have X0 : Stand p_ l e (own_r 0 0 0 0) s m #[(.ref a)] below meth c_ s₁ [] 0 0 := Stand.of_body Bd
 have e0 : s₁.heap = h0 := by rw [← hh, Bd.state]; rfl
 have N0 := Fr.nil n0
 refine own_close (s := s) (Q := (own_Q_own_gv Z a y h0 n0)) (own_st (fun _ => castTop (own_ef35 m a)) ?_)
 show own_Rch _ _ _ _ s₁ (mkF m 0 #[own_vr a] [])
 refine own_aloadN X0 hx hby own_d35_0 rfl rfl rfl ?_
 obtain ⟨T1, X1, e1, st1⟩ := own_gF X0 hx hZ hown (hw _ (own_m 147 rfl)) e0 FV (g := (mkF m 1 #[own_vr a] [(.ref a)])) rfl rfl (hb hby own_d35_1)
 refine own_st st1 ?_
 show own_Rch _ _ _ _ T1 (mkF m 4 #[own_vr a] [(.ref y)])
 refine own_retA rfl rfl X1 hx Bd.notSynchronized Bd.returns (hb hby own_d35_4) (by decide) (by decide) ?_
 rw [e1]
 exact ⟨rfl, N0, rfl⟩
theorem own_ef37 (m : MethodId) (x0 : Addr) : entryFrame m #[(.ref x0)] 1 = mkF m 0 #[own_vr x0] [] := by first | (simp [entryFrame, mkF, argsToLocals, Value.category]; done) | rfl
abbrev own_c37 : ByteArray := jdk_68_method_6_code
theorem own_d37_0 : decode own_c37 0 = .ok (.aload_n 0, 1) := by decide +kernel
theorem own_d37_1 : decode own_c37 1 = .ok (.getfield 79, 3) := by decide +kernel
theorem own_d37_4 : decode own_c37 4 = .ok (.ireturn, 1) := by decide +kernel
abbrev own_y10 : MethodName := ⟨"java/lang/AbstractStringBuilder", "length", "()I"⟩
def own_Q_own_al (Z : State) (a : Addr) (c : Nat) (h0 : Heap) (n0 : Nat) (v : Option Value) (h : Heap) (L : List Loc) : Prop := v = some (.int (Int32.ofNat c)) ∧ Fr n0 L ∧ h = h0
theorem own_al (l : Launch) (Z : State) (a0 : Array Value) (hw : ∀ d ∈ tables_1, d.before a0 Z = true) (ws : List Jvm.Cond) (a : Addr) (c : Nat) (h0 : Heap) (n0 : Nat) (O0 : Old Z n0 h0) (FN : Fld Z h0 a "java/lang/AbstractStringBuilder" "count" "I" (.int (Int32.ofNat c))) :
    own_Mt l own_y10 own_c37 1 (some .int) ws (own_r 0 0 0 0) #[(.ref a)] Z h0 (own_Q_own_al Z a c h0 n0) := by
 refine MetFree.of_bodySF (plainFor_of_name own_pn1) hisR ?_
 intro p_ e s m args below meth c_ s₁ Bd hml0 hP hK
 obtain ⟨rfl, hZ, hh⟩ := hP
 have hx := Bd.exec
 have hby := Bd.bytes
 have hml : c_.maxLocals = 1 := hml0
 have hown : s.vm.findClass "java/lang/AbstractStringBuilder" = some m.cls := findClass_of_methodNamed Bd.named
 have hnm := (name_of_methodNamed Bd.named Bd.method).1
 have X0 : Stand p_ l e (own_r 0 0 0 0) s m #[(.ref a)] below meth c_ s₁ [] 0 0 := Stand.of_body Bd
 have e0 : s₁.heap = h0 := by rw [← hh, Bd.state]; rfl
 have N0 := Fr.nil n0
 refine own_close (s := s) (Q := (own_Q_own_al Z a c h0 n0)) (own_st (fun _ => castTop (own_ef37 m a)) ?_)
 show own_Rch _ _ _ _ s₁ (mkF m 0 #[own_vr a] [])
 refine own_aloadN X0 hx hby own_d37_0 rfl rfl rfl ?_
 obtain ⟨T1, X1, e1, st1⟩ := own_gF X0 hx hZ hown (hw _ (own_m 174 rfl)) e0 FN (g := (mkF m 1 #[own_vr a] [(.ref a)])) rfl rfl (hb hby own_d37_1)
 refine own_st st1 ?_
 show own_Rch _ _ _ _ T1 (mkF m 4 #[own_vr a] [(.int (Int32.ofNat c))])
 refine own_retI X1 hx Bd.notSynchronized Bd.returns (hb hby own_d37_4) (by decide) (by decide) ?_
 rw [e1]
 exact ⟨rfl, N0, rfl⟩
theorem own_ef36 (m : MethodId) (x0 : Addr) : entryFrame m #[(.ref x0)] 1 = mkF m 0 #[own_vr x0] [] := by first | (simp [entryFrame, mkF, argsToLocals, Value.category]; done) | rfl
abbrev own_c36 : ByteArray := jdk_67_method_93_code
theorem own_d36_0 : decode own_c36 0 = .ok (.aload_n 0, 1) := by decide +kernel
theorem own_d36_1 : decode own_c36 1 = .ok (.invokespecial 343, 3) := by decide +kernel
theorem own_d36_4 : decode own_c36 4 = .ok (.ireturn, 1) := by decide +kernel
abbrev own_y11 : MethodName := ⟨"java/lang/StringBuilder", "length", "()I"⟩
def own_Q_own_sl (Z : State) (a : Addr) (c : Nat) (h0 : Heap) (n0 : Nat) (v : Option Value) (h : Heap) (L : List Loc) : Prop := v = some (.int (Int32.ofNat c)) ∧ Fr n0 L ∧ h = h0
theorem own_sl (l : Launch) (Z : State) (a0 : Array Value) (hw : ∀ d ∈ tables_1, d.before a0 Z = true) (ws : List Jvm.Cond) (a : Addr) (c : Nat) (h0 : Heap) (n0 : Nat) (O0 : Old Z n0 h0) (EA : Exa Z h0 a "java/lang/StringBuilder") (FN : Fld Z h0 a "java/lang/AbstractStringBuilder" "count" "I" (.int (Int32.ofNat c))) :
    own_Mt l own_y11 own_c36 1 (some .int) ws (own_r 1 0 0 12) #[(.ref a)] Z h0 (own_Q_own_sl Z a c h0 n0) := by
 refine MetFree.of_bodySF (plainFor_of_name own_pn4) hisR ?_
 intro p_ e s m args below meth c_ s₁ Bd hml0 hP hK
 obtain ⟨rfl, hZ, hh⟩ := hP
 have hx := Bd.exec
 have hby := Bd.bytes
 have hml : c_.maxLocals = 1 := hml0
 have hown : s.vm.findClass "java/lang/StringBuilder" = some m.cls := findClass_of_methodNamed Bd.named
 have hnm := (name_of_methodNamed Bd.named Bd.method).1
 have X0 : Stand p_ l e (own_r 1 0 0 12) s m #[(.ref a)] below meth c_ s₁ [] 0 0 := Stand.of_body Bd
 have e0 : s₁.heap = h0 := by rw [← hh, Bd.state]; rfl
 have N0 := Fr.nil n0
 refine own_close (s := s) (Q := (own_Q_own_sl Z a c h0 n0)) (own_st (fun _ => castTop (own_ef36 m a)) ?_)
 show own_Rch _ _ _ _ s₁ (mkF m 0 #[own_vr a] [])
 refine own_aloadN X0 hx hby own_d36_0 rfl rfl rfl ?_
 obtain ⟨_, _, ⟨T1, L1, k1, n1⟩, -, X1, ⟨Lc1, hQ1, l1, y1, z1⟩, st1⟩ := superBack X0 hx hZ (y := own_y10) hown (hw _ (own_m 252 rfl)) (own_same (y := own_y10) (hw _ (own_m 248 rfl)) (hw _ (own_m 219 rfl)) rfl (by decide)) (hw _ (own_m 248 rfl)) (hw _ (own_m 158 rfl)) (by decide) (backOf (W := 0) (own_al l Z a0 hw [] a c h0 n0 O0 FN) hZ (hw _ (own_m 253 rfl)) (hw _ (own_m 143 rfl)) (by decide) (by decide)) e0 (Ins.self EA) (g := (mkF m 1 #[own_vr a] [(.ref a)])) rfl (by rw [hml]; rfl) (hw _ (own_m 253 rfl)) (argsL := []) (rest := []) (lenOf own_pd7 rfl) rfl (by show 2 * 0 + _ ≤ _; exact Nat.le_of_eq rfl) (hb hby own_d36_1) (fun _ _ => ⟨rfl, e0, (by decide : 0 + 0 ≤ _), (by decide : 0 + 0 ≤ _)⟩)
 dsimp only [Pt.U, Pt.locs, Pt.cells, Pt.slots] at X1 l1 y1 z1 st1 hQ1
 subst l1 y1 z1
 obtain ⟨rfl, N1q, hh1⟩ := hQ1
 have N1 := Fr.app N0 N1q
 refine own_st (fun _ kt => st1.trans kt) ?_
 show own_Rch _ _ _ _ T1 (mkF m 4 #[own_vr a] [(.int (Int32.ofNat c))])
 refine own_retI X1 hx Bd.notSynchronized Bd.returns (hb hby own_d36_4) (by decide) (by decide) ?_
 rw [hh1]
 exact ⟨rfl, N1, rfl⟩
/-- the row that takes m signs -/
def own_gw (w : List Value) (m : Nat) : List Value := if m ≤ w.length then w else (own_put (List.replicate 34 (Value.int 0)) 0 w)
theorem own_gw_len {w : List Value} {m : Nat} (h : w.length = 16) : (own_gw w m).length ≤ 34 ∧ 16 ≤ (own_gw w m).length := by
  unfold own_gw; split
  · omega
  · rw [own_put_len (by rw [List.length_replicate]; omega), List.length_replicate]; omega
theorem own_gw_le {w : List Value} {m : Nat} (h : w.length = 16) (hm : m ≤ 33) : m ≤ (own_gw w m).length := by
  unfold own_gw; split
  · assumption
  · rw [own_put_len (by rw [List.length_replicate]; omega), List.length_replicate]; omega
theorem own_ef28 (m : MethodId) (x0 : Addr) (x1 : Int64) : entryFrame m #[(.ref x0), (.long x1)] 5 = mkF m 0 #[own_vr x0, own_vl x1, .second, .unset, .unset] [] := by first | (simp [entryFrame, mkF, argsToLocals, Value.category]; done) | rfl
abbrev own_c28 : ByteArray := jdk_68_method_33_code
theorem own_d28_0 : decode own_c28 0 = .ok (.aload_n 0, 1) := by decide +kernel
theorem own_d28_1 : decode own_c28 1 = .ok (.getfield 79, 3) := by decide +kernel
theorem own_d28_4 : decode own_c28 4 = .ok (.istore_n 3, 1) := by decide +kernel
theorem own_d28_5 : decode own_c28 5 = .ok (.iload_n 3, 1) := by decide +kernel
theorem own_d28_6 : decode own_c28 6 = .ok (.lload_n 1, 1) := by decide +kernel
theorem own_d28_7 : decode own_c28 7 = .ok (.invokestatic 254, 3) := by decide +kernel
theorem own_pd11 : parseMethodDescriptor "(J)I" = some ⟨[.long], some .int⟩ := by decide +kernel
theorem own_d28_10 : decode own_c28 10 = .ok (.iadd, 1) := by decide +kernel
theorem own_d28_11 : decode own_c28 11 = .ok (.istore 4, 2) := by decide +kernel
theorem own_d28_13 : decode own_c28 13 = .ok (.aload_n 0, 1) := by decide +kernel
theorem own_d28_14 : decode own_c28 14 = .ok (.iload 4, 2) := by decide +kernel
theorem own_d28_16 : decode own_c28 16 = .ok (.invokevirtual 100, 3) := by decide +kernel
theorem own_d28_19 : decode own_c28 19 = .ok (.aload_n 0, 1) := by decide +kernel
theorem own_d28_20 : decode own_c28 20 = .ok (.invokevirtual 83, 3) := by decide +kernel
theorem own_pd12 : parseMethodDescriptor "()Z" = some ⟨[], some .boolean⟩ := by decide +kernel
theorem own_d28_23 : decode own_c28 23 = .ok (.ifCond .eq 17, 3) := by decide +kernel
theorem own_d28_26 : decode own_c28 26 = .ok (.lload_n 1, 1) := by decide +kernel
theorem own_d28_27 : decode own_c28 27 = .ok (.iload 4, 2) := by decide +kernel
theorem own_d28_29 : decode own_c28 29 = .ok (.aload_n 0, 1) := by decide +kernel
theorem own_d28_30 : decode own_c28 30 = .ok (.getfield 15, 3) := by decide +kernel
theorem own_d28_33 : decode own_c28 33 = .ok (.invokestatic 259, 3) := by decide +kernel
theorem own_pd13 : parseMethodDescriptor "(JI[B)I" = some ⟨[.long, .int, (.array .byte)], some .int⟩ := by decide +kernel
theorem own_d28_36 : decode own_c28 36 = .ok (.pop, 1) := by decide +kernel
theorem own_d28_37 : decode own_c28 37 = .ok (.goto 15, 3) := by decide +kernel
theorem own_d28_52 : decode own_c28 52 = .ok (.aload_n 0, 1) := by decide +kernel
theorem own_d28_53 : decode own_c28 53 = .ok (.iload 4, 2) := by decide +kernel
theorem own_d28_55 : decode own_c28 55 = .ok (.putfield 79, 3) := by decide +kernel
theorem own_d28_58 : decode own_c28 58 = .ok (.aload_n 0, 1) := by decide +kernel
theorem own_d28_59 : decode own_c28 59 = .ok (.areturn, 1) := by decide +kernel
abbrev own_y12 : MethodName := ⟨"java/lang/AbstractStringBuilder", "append", "(J)Ljava/lang/AbstractStringBuilder;"⟩
def own_Q_own_apj (Z : State) (a : Addr) (y : Addr) (ky : ClassId) (w : List Value) (c : Nat) (x : Int64) (nn : Nat) (r : Nat) (st : Addr) (d1 : Addr) (d2 : Addr) (DO : Cell) (DN : Cell) (cs : Int32) (h0 : Heap) (n0 : Nat) (v : Option Value) (h : Heap) (L : List Loc) : Prop := ∃ (y' : Addr) (ky' : ClassId), v = some (.ref a) ∧ Fr n0 L ∧ Keep h0 h [a, y] ∧ Exa Z h a "java/lang/StringBuilder" ∧ Fld Z h a "java/lang/AbstractStringBuilder" "value" "[B" (.ref y') ∧ Fld Z h a "java/lang/AbstractStringBuilder" "coder" "B" (.int (0 : Int32)) ∧ Fld Z h a "java/lang/AbstractStringBuilder" "count" "I" (.int (Int32.ofNat (c + r))) ∧ Exa Z h y' "[B" ∧ Arv Z h y' ky' .byte (Int32.ofNat (own_gc (own_gw w (c + r)) (c + r) x nn DO DN).length) (own_gc (own_gw w (c + r)) (c + r) x nn DO DN) (.int (0 : Int32))
theorem own_apj (l : Launch) (Z : State) (a0 : Array Value) (hw : ∀ d ∈ tables_1, d.before a0 Z = true) (ws : List Jvm.Cond) (a : Addr) (y : Addr) (ky : ClassId) (w : List Value) (c : Nat) (x : Int64) (nn : Nat) (r : Nat) (st : Addr) (d1 : Addr) (d2 : Addr) (DO : Cell) (DN : Cell) (cs : Int32) (h0 : Heap) (n0 : Nat) (O0 : Old Z n0 h0) (SC : Sta Z Z.heap "java/lang/String" "COMPACT_STRINGS" "Z" (.int cs)) (hcs : ¬ cs = 0) (EA : Exa Z h0 a "java/lang/StringBuilder") (FV : Fld Z h0 a "java/lang/AbstractStringBuilder" "value" "[B" (.ref y)) (FC : Fld Z h0 a "java/lang/AbstractStringBuilder" "coder" "B" (.int (0 : Int32))) (FN : Fld Z h0 a "java/lang/AbstractStringBuilder" "count" "I" (.int (Int32.ofNat c))) (EY : Exa Z h0 y "[B") (VY : Arv Z h0 y ky .byte (Int32.ofNat w.length) w (.int (0 : Int32))) (hnn : nn ≤ 2 ^ 63) (hneg : (if x < 0 then x else -x) = Jvm.Free.SBG.negL nn) (hr : r = Jvm.Free.SBG.digitsL nn + Jvm.Free.SBG.GetCharsL.sgnL x) (DT1 : Jvm.Free.SBG.Tbl Z "DigitOnes" st d1 DO) (DT2 : Jvm.Free.SBG.Tbl Z "DigitTens" st d2 DN) (hw16 : w.length = 16) (hcr : c + r ≤ 33) (ga : n0 ≤ a) (gy : n0 ≤ y) :
    own_Mt l own_y12 own_c28 5 (some (.object "java/lang/AbstractStringBuilder")) ws (own_r 4 1 34 102) #[(.ref a), (.long x)] Z h0 (own_Q_own_apj Z a y ky w c x nn r st d1 d2 DO DN cs h0 n0) := by
 refine MetFree.of_bodySF (plainFor_of_name own_pn1) hisR ?_
 intro p_ e s m args below meth c_ s₁ Bd hml0 hP hK
 obtain ⟨rfl, hZ, hh⟩ := hP
 have hx := Bd.exec
 have hby := Bd.bytes
 have hml : c_.maxLocals = 5 := hml0
 have hown : s.vm.findClass "java/lang/AbstractStringBuilder" = some m.cls := findClass_of_methodNamed Bd.named
 have hnm := (name_of_methodNamed Bd.named Bd.method).1
 have X0 : Stand p_ l e (own_r 4 1 34 102) s m #[(.ref a), (.long x)] below meth c_ s₁ [] 0 0 := Stand.of_body Bd
 have e0 : s₁.heap = h0 := by rw [← hh, Bd.state]; rfl
 have N0 := Fr.nil n0
 refine own_close (s := s) (Q := (own_Q_own_apj Z a y ky w c x nn r st d1 d2 DO DN cs h0 n0)) (own_st (fun _ => castTop (own_ef28 m a x)) ?_)
 have K0 := Keep.refl h0 [a, y]
 show own_Rch _ _ _ _ s₁ (mkF m 0 #[own_vr a, own_vl x, .second, .unset, .unset] [])
 refine own_aloadN X0 hx hby own_d28_0 rfl rfl rfl ?_
 obtain ⟨T1, X1, e1, st1⟩ := own_gF X0 hx hZ hown (hw _ (own_m 174 rfl)) e0 FN (g := (mkF m 1 #[own_vr a, own_vl x, .second, .unset, .unset] [(.ref a)])) rfl rfl (hb hby own_d28_1)
 refine own_st st1 ?_
 refine own_st (fun _ => XS.istoreN X1.here hx rfl (hb hby own_d28_4) rfl (l' := #[own_vr a, own_vl x, .second, own_vi (Int32.ofNat c), .unset]) rfl) ?_
 refine own_iloadN X1 hx hby own_d28_5 rfl rfl ?_
 refine own_st (fun _ => XS.lloadN X1.here hx rfl (hb hby own_d28_6) rfl) ?_
 obtain ⟨_, _, ⟨T2, L2, k2, n2⟩, -, X2, ⟨Lc2, hQ2, l2, y2, z2⟩, st2⟩ := Jvm.LawKit.callS X1 hx (y := (⟨"java/lang/Long", "stringSize", "(J)I"⟩ : MethodName)) hown (mvT hZ (hw _ (own_m 211 rfl))) (mvT hZ (hw _ (own_m 212 rfl))) (mvT hZ (hw _ (own_m 213 rfl))) (mvT hZ (hw _ (own_m 214 rfl))) (by decide) (own_ssB hZ hw x nn r hnn hneg hr h0 n0 1 (by decide) (by decide)) (g := (mkF m 7 #[own_vr a, own_vl x, .second, own_vi (Int32.ofNat c), .unset] [(.long x), (.int (Int32.ofNat c))])) rfl (by rw [hml]; rfl) (argsL := [(.long x)]) (rest := [(.int (Int32.ofNat c))]) (lenOf own_pd11 rfl) rfl (by show 2 * 0 + _ ≤ _; exact Nat.le_of_eq rfl) (hb hby own_d28_7) (fun _ _ => ⟨rfl, e1, (by decide : 0 + 0 ≤ _), (by decide : 0 + 0 ≤ _)⟩)
 dsimp only [Pt.U, Pt.locs, Pt.cells, Pt.slots] at X2 l2 y2 z2 st2 hQ2
 subst l2 y2 z2
 obtain ⟨rfl, N2q, hh2⟩ := hQ2
 have N2 := Fr.app N0 N2q
 refine own_st st2 ?_
 show own_Rch _ _ _ _ T2 (mkF m 10 #[own_vr a, own_vl x, .second, own_vi (Int32.ofNat c), .unset] [(.int (Int32.ofNat r)), (.int (Int32.ofNat c))])
 refine own_st (fun _ => XS.iadd X2.here hx rfl (hb hby own_d28_10) rfl) ?_
 show own_Rch _ _ _ _ T2 (mkF m 11 #[own_vr a, own_vl x, .second, own_vi (Int32.ofNat c), .unset] [(.int ((Int32.ofNat c) + (Int32.ofNat r)))])
 rw [Jvm.Free.XT.add32n]
 refine own_st (fun _ => XS.istore X2.here hx rfl (hb hby own_d28_11) rfl (l' := #[own_vr a, own_vl x, .second, own_vi (Int32.ofNat c), own_vi (Int32.ofNat (c + r))]) rfl) ?_
 by_cases hcap : c + r ≤ w.length
 · -- True
  have egw : own_gw w (c + r) = w := if_pos hcap
  refine own_aloadN X2 hx hby own_d28_13 rfl rfl rfl ?_
  refine own_iload X2 hx hby own_d28_14 rfl rfl ?_
  obtain ⟨cq3, kq3, q3a, q3b, q3c⟩ := isOf hZ hh2 EA
  obtain ⟨_, _, ⟨T3, L3, k3, n3⟩, -, X3, ⟨Lc3, hQ3, l3, y3, z3⟩, st3⟩ := X2.virtualBack hx (y := own_y3) (z := own_y3) hown (mvT hZ (hw _ (own_m 176 rfl))) (mvT hZ (own_decl (hw _ (own_m 177 rfl)) (hw _ (own_m 180 rfl)))) (notFace_of_selects (args := #[]) (mvT hZ (hw _ (own_m 179 rfl)))) (mvT hZ (hw _ (own_m 179 rfl))) (mvT hZ (hw _ (own_m 177 rfl))) (by decide) (backOf (W := 0) (own_ens0 l Z a0 hw [] a y ky w (c + r) h0 n0 O0 EA FV FC VY hcap (by omega)) hZ (hw _ (own_m 180 rfl)) (hw _ (own_m 143 rfl)) (by decide) (by decide)) q3a q3c (g := (mkF m 16 #[own_vr a, own_vl x, .second, own_vi (Int32.ofNat c), own_vi (Int32.ofNat (c + r))] [(.int (Int32.ofNat (c + r))), (.ref a)])) rfl (by rw [hml]; rfl) (Steps.refl _) (argsL := [(.int (Int32.ofNat (c + r)))]) (rest := []) (lenOf own_pd8 rfl) rfl (by show 2 * 0 + _ ≤ _; exact Nat.le_of_eq rfl) (hb hby own_d28_16) (fun _ _ => ⟨rfl, hh2, (by decide : 0 + 0 ≤ _), (by decide : 0 + 0 ≤ _)⟩)
  dsimp only [Pt.U, Pt.locs, Pt.cells, Pt.slots] at X3 l3 y3 z3 st3 hQ3
  subst l3 y3 z3
  obtain ⟨rfl, N3q, hh3⟩ := hQ3
  have N3 := Fr.app N2 N3q
  refine own_st (fun _ kt => st3.trans kt) ?_
  refine own_aloadN X3 hx hby own_d28_19 rfl rfl rfl ?_
  obtain ⟨cq4, kq4, q4a, q4b, q4c⟩ := isOf hZ hh3 EA
  obtain ⟨_, _, ⟨T4, L4, k4, n4⟩, -, X4, ⟨Lc4, hQ4, l4, y4, z4⟩, st4⟩ := X3.virtualBack hx (y := own_y8) (z := own_y8) hown (mvT hZ (hw _ (own_m 216 rfl))) (mvT hZ (hw _ (own_m 217 rfl))) (notFace_of_selects (args := #[]) (mvT hZ (hw _ (own_m 219 rfl)))) (mvT hZ (hw _ (own_m 219 rfl))) (mvT hZ (hw _ (own_m 218 rfl))) (by decide) (backOf (W := 0) (own_lat l Z a0 hw [] a cs h0 n0 O0 SC hcs FC) hZ (hw _ (own_m 220 rfl)) (hw _ (own_m 143 rfl)) (by decide) (by decide)) q4a q4c (g := (mkF m 20 #[own_vr a, own_vl x, .second, own_vi (Int32.ofNat c), own_vi (Int32.ofNat (c + r))] [(.ref a)])) rfl (by rw [hml]; rfl) (Steps.refl _) (argsL := []) (rest := []) (lenOf own_pd12 rfl) rfl (by show 2 * 0 + _ ≤ _; exact Nat.le_of_eq rfl) (hb hby own_d28_20) (fun _ _ => ⟨rfl, hh3, (by decide : 0 + 0 ≤ _), (by decide : 0 + 0 ≤ _)⟩)
  dsimp only [Pt.U, Pt.locs, Pt.cells, Pt.slots] at X4 l4 y4 z4 st4 hQ4
  subst l4 y4 z4
  obtain ⟨rfl, N4q, hh4⟩ := hQ4
  have N4 := Fr.app N3 N4q
  refine own_st (fun _ kt => st4.trans kt) ?_
  show own_Rch _ _ _ _ T4 (mkF m 23 #[own_vr a, own_vl x, .second, own_vi (Int32.ofNat c), own_vi (Int32.ofNat (c + r))] [(.int (1 : Int32))])
  refine own_st (fun _ => XS.ifNo X4.here hx rfl (hb hby own_d28_23) rfl ((if0 _ _).trans (feq ((by decide) : ¬ ((1 : Int32) = (0 : Int32)))).1)) ?_
  refine own_st (fun _ => XS.lloadN X4.here hx rfl (hb hby own_d28_26) rfl) ?_
  refine own_iload X4 hx hby own_d28_27 rfl rfl ?_
  refine own_aloadN X4 hx hby own_d28_29 rfl rfl rfl ?_
  obtain ⟨T5, X5, e5, st5⟩ := own_gF X4 hx hZ hown (hw _ (own_m 147 rfl)) hh4 FV (g := (mkF m 30 #[own_vr a, own_vl x, .second, own_vi (Int32.ofNat c), own_vi (Int32.ofNat (c + r))] [(.ref a), (.int (Int32.ofNat (c + r))), (.long x)])) rfl rfl (hb hby own_d28_30)
  refine own_st st5 ?_
  obtain ⟨_, _, ⟨T6, L6, k6, n6⟩, -, X6, ⟨Lc6, hQ6, l6, y6, z6⟩, st6⟩ := Jvm.LawKit.callS X5 hx (y := (⟨"java/lang/Long", "getChars", "(JI[B)I"⟩ : MethodName)) hown (mvT hZ (hw _ (own_m 221 rfl))) (mvT hZ (hw _ (own_m 222 rfl))) (mvT hZ (hw _ (own_m 213 rfl))) (mvT hZ (hw _ (own_m 223 rfl))) (by decide) (own_gcB hZ hw x nn r (c + r) w y ky st d1 d2 DO DN hnn hneg hr h0 n0 0 O0 DT1 DT2 VY (by omega) (Nat.le_add_left _ _) hcap gy (by decide) (by decide)) (g := (mkF m 33 #[own_vr a, own_vl x, .second, own_vi (Int32.ofNat c), own_vi (Int32.ofNat (c + r))] [(.ref y), (.int (Int32.ofNat (c + r))), (.long x)])) rfl (by rw [hml]; rfl) (argsL := [(.long x), (.int (Int32.ofNat (c + r))), (.ref y)]) (rest := []) (lenOf own_pd13 rfl) rfl (by show 2 * 0 + _ ≤ _; exact Nat.le_of_eq rfl) (hb hby own_d28_33) (fun _ _ => ⟨rfl, e5, (by decide : 0 + 0 ≤ _), (by decide : 0 + 0 ≤ _)⟩)
  dsimp only [Pt.U, Pt.locs, Pt.cells, Pt.slots] at X6 l6 y6 z6 st6 hQ6
  subst l6 y6 z6
  obtain ⟨q6, rfl, N6q, K6, Vy6⟩ := hQ6
  have N6 := Fr.app N4 N6q
  refine own_st st6 ?_
  have O0_x6 := O0.keep K6 (allS gy all0)
  have EA_x6 := EA.keep K6
  have FV_x6 := FV.keep K6 (ninS (Exa.ne EA EY (by decide)) nin0)
  have FC_x6 := FC.keep K6 (ninS (Exa.ne EA EY (by decide)) nin0)
  have FN_x6 := FN.keep K6 (ninS (Exa.ne EA EY (by decide)) nin0)
  have EY_x6 := EY.keep K6
  have K0_x6 := K0.trans K6 (allS (Or.inl (List.mem_of_getElem? (i := 1) rfl)) all0)
  refine own_st (fun _ => XS.pop X6.here hx rfl (hb hby own_d28_36) rfl rfl) ?_
  refine own_st (fun _ => XS.goto X6.here hx rfl (pc0 := 37) (pc' := 52) rfl (hb hby own_d28_37) (by decide) (by decide)) ?_
  refine own_aloadN X6 hx hby own_d28_52 rfl rfl rfl ?_
  refine own_iload X6 hx hby own_d28_53 rfl rfl ?_
  obtain ⟨T7, h7, X7, e7, W7, st7⟩ := putF X6 hx hZ hown (host := "") (Or.inl (hw _ (own_m 174 rfl))) Via.refl rfl FN_x6 EA_x6 (Or.inl (hw _ (own_m 175 rfl))) (hw _ (own_m 134 rfl)) (ty := .int) (by decide) rfl rfl (g := (mkF m 55 #[own_vr a, own_vl x, .second, own_vi (Int32.ofNat c), own_vi (Int32.ofNat (c + r))] [(.int (Int32.ofNat (c + r))), (.ref a)])) rfl rfl (hb hby own_d28_55)
  refine own_st st7 ?_
  have Fw7 := FN_x6.same W7
  have N7 := Fr.snoc X7 N6 ga
  have O0_x7 := O0_x6.wr W7 ga
  have EA_x7 := EA_x6.wr W7
  have FV_x7 := FV_x6.other W7 (Or.inr (slot_ne (Or.inl (hw _ (own_m 148 rfl))) (Or.inl (hw _ (own_m 175 rfl))) (by decide) (t := (.array .byte)) (t' := .int) (by decide) (by decide)))
  have FC_x7 := FC_x6.other W7 (Or.inr (slot_ne (Or.inl (hw _ (own_m 150 rfl))) (Or.inl (hw _ (own_m 175 rfl))) (by decide) (t := .byte) (t' := .int) (by decide) (by decide)))
  have EY_x7 := EY_x6.wr W7
  have K0_x7 := K0_x6.wr W7 (Or.inl (List.mem_of_getElem? (i := 0) rfl))
  have Vy6_x7 := Vy6.other W7 (Exa.ne EY_x6 EA_x6 (by decide))
  refine own_aloadN X7 hx hby own_d28_58 rfl rfl rfl ?_
  show own_Rch _ _ _ _ T7 (mkF m 59 #[own_vr a, own_vl x, .second, own_vi (Int32.ofNat c), own_vi (Int32.ofNat (c + r))] [(.ref a)])
  refine own_retA rfl rfl X7 hx Bd.notSynchronized Bd.returns (hb hby own_d28_59) (by decide) (by decide) ?_
  rw [e7]
  rw [← egw] at Vy6_x7
  exact ⟨_, _, rfl, N7, K0_x7, EA_x7, FV_x7, FC_x7, Fw7, EY_x7, Vy6_x7⟩
 · -- False
  have egw : own_gw w (c + r) = (own_put (List.replicate 34 (Value.int 0)) 0 w) := if_neg hcap
  refine own_aloadN X2 hx hby own_d28_13 rfl rfl rfl ?_
  refine own_iload X2 hx hby own_d28_14 rfl rfl ?_
  obtain ⟨cq8, kq8, q8a, q8b, q8c⟩ := isOf hZ hh2 EA
  obtain ⟨_, _, ⟨T8, L8, k8, n8⟩, -, X8, ⟨Lc8, hQ8, l8, y8, z8⟩, st8⟩ := X2.virtualBack hx (y := own_y3) (z := own_y3) hown (mvT hZ (hw _ (own_m 176 rfl))) (mvT hZ (own_decl (hw _ (own_m 177 rfl)) (hw _ (own_m 180 rfl)))) (notFace_of_selects (args := #[]) (mvT hZ (hw _ (own_m 179 rfl)))) (mvT hZ (hw _ (own_m 179 rfl))) (mvT hZ (hw _ (own_m 177 rfl))) (by decide) (backOf (W := 0) (own_ens1 l Z a0 hw [] a y ky w c (c + r) h0 n0 O0 EA FV FC FN EY (own_v16 hw16 VY) hw16 (by omega) hcr ga) hZ (hw _ (own_m 180 rfl)) (hw _ (own_m 143 rfl)) (by decide) (by decide)) q8a q8c (g := (mkF m 16 #[own_vr a, own_vl x, .second, own_vi (Int32.ofNat c), own_vi (Int32.ofNat (c + r))] [(.int (Int32.ofNat (c + r))), (.ref a)])) rfl (by rw [hml]; rfl) (Steps.refl _) (argsL := [(.int (Int32.ofNat (c + r)))]) (rest := []) (lenOf own_pd8 rfl) rfl (by show 2 * 0 + _ ≤ _; exact Nat.le_of_eq rfl) (hb hby own_d28_16) (fun _ _ => ⟨rfl, hh2, (by decide : 0 + 1 ≤ _), (by decide : 0 + 34 ≤ _)⟩)
  dsimp only [Pt.U, Pt.locs, Pt.cells, Pt.slots] at X8 l8 y8 z8 st8 hQ8
  subst l8 y8 z8
  obtain ⟨bn8, kb8, rfl, N8q, K8, hb8, Ea8, Fv8, Fc8, Fn8, Ey8, Vy8⟩ := hQ8
  have N8 := Fr.app N2 N8q
  refine own_st (fun _ kt => st8.trans kt) ?_
  have ne8_a_bn8 : a ≠ bn8 := Nat.ne_of_lt (Nat.lt_of_lt_of_le EA.lt hb8)
  have ne8_y_bn8 : y ≠ bn8 := Nat.ne_of_lt (Nat.lt_of_lt_of_le EY.lt hb8)
  have ge8_bn8 : n0 ≤ bn8 := Nat.le_trans (own_old_le O0) hb8
  have sz8_bn8 : h0.size ≤ bn8 := Nat.le_trans K0.1 hb8
  have O0_x8 := O0.keep K8 (allS ga all0)
  have EA_x8 := EA.keep K8
  have EY_x8 := EY.keep K8
  have VY_x8 := VY.keep K8 (ninS (Exa.ne EY EA (by decide)) nin0)
  have K0_x8 := K0.trans K8 (allS (Or.inl (List.mem_of_getElem? (i := 0) rfl)) all0)
  refine own_aloadN X8 hx hby own_d28_19 rfl rfl rfl ?_
  obtain ⟨cq9, kq9, q9a, q9b, q9c⟩ := isOf hZ rfl Ea8
  obtain ⟨_, _, ⟨T9, L9, k9, n9⟩, -, X9, ⟨Lc9, hQ9, l9, y9, z9⟩, st9⟩ := X8.virtualBack hx (y := own_y8) (z := own_y8) hown (mvT hZ (hw _ (own_m 216 rfl))) (mvT hZ (hw _ (own_m 217 rfl))) (notFace_of_selects (args := #[]) (mvT hZ (hw _ (own_m 219 rfl)))) (mvT hZ (hw _ (own_m 219 rfl))) (mvT hZ (hw _ (own_m 218 rfl))) (by decide) (backOf (W := 0) (own_lat l Z a0 hw [] a cs T8.heap n0 O0_x8 SC hcs Fc8) hZ (hw _ (own_m 220 rfl)) (hw _ (own_m 143 rfl)) (by decide) (by decide)) q9a q9c (g := (mkF m 20 #[own_vr a, own_vl x, .second, own_vi (Int32.ofNat c), own_vi (Int32.ofNat (c + r))] [(.ref a)])) rfl (by rw [hml]; rfl) (Steps.refl _) (argsL := []) (rest := []) (lenOf own_pd12 rfl) rfl (by show 2 * 0 + _ ≤ _; exact Nat.le_of_eq rfl) (hb hby own_d28_20) (fun _ _ => ⟨rfl, rfl, (by decide : 1 + 0 ≤ _), (by decide : 34 + 0 ≤ _)⟩)
  dsimp only [Pt.U, Pt.locs, Pt.cells, Pt.slots] at X9 l9 y9 z9 st9 hQ9
  subst l9 y9 z9
  obtain ⟨rfl, N9q, hh9⟩ := hQ9
  have N9 := Fr.app N8 N9q
  refine own_st (fun _ kt => st9.trans kt) ?_
  show own_Rch _ _ _ _ T9 (mkF m 23 #[own_vr a, own_vl x, .second, own_vi (Int32.ofNat c), own_vi (Int32.ofNat (c + r))] [(.int (1 : Int32))])
  refine own_st (fun _ => XS.ifNo X9.here hx rfl (hb hby own_d28_23) rfl ((if0 _ _).trans (feq ((by decide) : ¬ ((1 : Int32) = (0 : Int32)))).1)) ?_
  refine own_st (fun _ => XS.lloadN X9.here hx rfl (hb hby own_d28_26) rfl) ?_
  refine own_iload X9 hx hby own_d28_27 rfl rfl ?_
  refine own_aloadN X9 hx hby own_d28_29 rfl rfl rfl ?_
  obtain ⟨T10, X10, e10, st10⟩ := own_gF X9 hx hZ hown (hw _ (own_m 147 rfl)) hh9 Fv8 (g := (mkF m 30 #[own_vr a, own_vl x, .second, own_vi (Int32.ofNat c), own_vi (Int32.ofNat (c + r))] [(.ref a), (.int (Int32.ofNat (c + r))), (.long x)])) rfl rfl (hb hby own_d28_30)
  refine own_st st10 ?_
  obtain ⟨_, _, ⟨T11, L11, k11, n11⟩, -, X11, ⟨Lc11, hQ11, l11, y11, z11⟩, st11⟩ := Jvm.LawKit.callS X10 hx (y := (⟨"java/lang/Long", "getChars", "(JI[B)I"⟩ : MethodName)) hown (mvT hZ (hw _ (own_m 221 rfl))) (mvT hZ (hw _ (own_m 222 rfl))) (mvT hZ (hw _ (own_m 213 rfl))) (mvT hZ (hw _ (own_m 223 rfl))) (by decide) (own_gcB hZ hw x nn r (c + r) (own_put (List.replicate 34 (Value.int 0)) 0 w) bn8 kb8 st d1 d2 DO DN hnn hneg hr T8.heap n0 0 O0_x8 DT1 DT2 Vy8 (by rw [own_put_len (by rw [List.length_replicate]; omega), List.length_replicate]; decide) (Nat.le_add_left _ _) (by rw [own_put_len (by rw [List.length_replicate]; omega), List.length_replicate]; omega) ge8_bn8 (by decide) (by decide)) (g := (mkF m 33 #[own_vr a, own_vl x, .second, own_vi (Int32.ofNat c), own_vi (Int32.ofNat (c + r))] [(.ref bn8), (.int (Int32.ofNat (c + r))), (.long x)])) rfl (by rw [hml]; rfl) (argsL := [(.long x), (.int (Int32.ofNat (c + r))), (.ref bn8)]) (rest := []) (lenOf own_pd13 rfl) rfl (by show 2 * 0 + _ ≤ _; exact Nat.le_of_eq rfl) (hb hby own_d28_33) (fun _ _ => ⟨rfl, e10, (by decide : 1 + 0 ≤ _), (by decide : 34 + 0 ≤ _)⟩)
  dsimp only [Pt.U, Pt.locs, Pt.cells, Pt.slots] at X11 l11 y11 z11 st11 hQ11
  subst l11 y11 z11
  obtain ⟨q11, rfl, N11q, K11, Vy11⟩ := hQ11
  have N11 := Fr.app N9 N11q
  refine own_st st11 ?_
  have O0_x11 := O0_x8.keep K11 (allS ge8_bn8 all0)
  have Ea8_x11 := Ea8.keep K11
  have EY_x11 := EY_x8.keep K11
  have VY_x11 := VY_x8.keep K11 (ninS ne8_y_bn8 nin0)
  have K0_x11 := K0_x8.trans K11 (allS (Or.inr sz8_bn8) all0)
  have Fv8_x11 := Fv8.keep K11 (ninS ne8_a_bn8 nin0)
  have Fc8_x11 := Fc8.keep K11 (ninS ne8_a_bn8 nin0)
  have Fn8_x11 := Fn8.keep K11 (ninS ne8_a_bn8 nin0)
  have Ey8_x11 := Ey8.keep K11
  refine own_st (fun _ => XS.pop X11.here hx rfl (hb hby own_d28_36) rfl rfl) ?_
  refine own_st (fun _ => XS.goto X11.here hx rfl (pc0 := 37) (pc' := 52) rfl (hb hby own_d28_37) (by decide) (by decide)) ?_
  refine own_aloadN X11 hx hby own_d28_52 rfl rfl rfl ?_
  refine own_iload X11 hx hby own_d28_53 rfl rfl ?_
  obtain ⟨T12, h12, X12, e12, W12, st12⟩ := putF X11 hx hZ hown (host := "") (Or.inl (hw _ (own_m 174 rfl))) Via.refl rfl Fn8_x11 Ea8_x11 (Or.inl (hw _ (own_m 175 rfl))) (hw _ (own_m 134 rfl)) (ty := .int) (by decide) rfl rfl (g := (mkF m 55 #[own_vr a, own_vl x, .second, own_vi (Int32.ofNat c), own_vi (Int32.ofNat (c + r))] [(.int (Int32.ofNat (c + r))), (.ref a)])) rfl rfl (hb hby own_d28_55)
  refine own_st st12 ?_
  have Fw12 := Fn8_x11.same W12
  have N12 := Fr.snoc X12 N11 ga
  have O0_x12 := O0_x11.wr W12 ga
  have Ea8_x12 := Ea8_x11.wr W12
  have EY_x12 := EY_x11.wr W12
  have VY_x12 := VY_x11.other W12 (Exa.ne EY_x11 Ea8_x11 (by decide))
  have K0_x12 := K0_x11.wr W12 (Or.inl (List.mem_of_getElem? (i := 0) rfl))
  have Fv8_x12 := Fv8_x11.other W12 (Or.inr (slot_ne (Or.inl (hw _ (own_m 148 rfl))) (Or.inl (hw _ (own_m 175 rfl))) (by decide) (t := (.array .byte)) (t' := .int) (by decide) (by decide)))
  have Fc8_x12 := Fc8_x11.other W12 (Or.inr (slot_ne (Or.inl (hw _ (own_m 150 rfl))) (Or.inl (hw _ (own_m 175 rfl))) (by decide) (t := .byte) (t' := .int) (by decide) (by decide)))
  have Ey8_x12 := Ey8_x11.wr W12
  have Vy11_x12 := Vy11.other W12 (Ne.symm ne8_a_bn8)
  refine own_aloadN X12 hx hby own_d28_58 rfl rfl rfl ?_
  show own_Rch _ _ _ _ T12 (mkF m 59 #[own_vr a, own_vl x, .second, own_vi (Int32.ofNat c), own_vi (Int32.ofNat (c + r))] [(.ref a)])
  refine own_retA rfl rfl X12 hx Bd.notSynchronized Bd.returns (hb hby own_d28_59) (by decide) (by decide) ?_
  rw [e12]
  rw [← egw] at Vy11_x12
  exact ⟨_, _, rfl, N12, K0_x12, Ea8_x12, Fv8_x12, Fc8_x12, Fw12, Ey8_x12, Vy11_x12⟩
theorem own_ef27 (m : MethodId) (x0 : Addr) (x1 : Int64) : entryFrame m #[(.ref x0), (.long x1)] 3 = mkF m 0 #[own_vr x0, own_vl x1, .second] [] := by first | (simp [entryFrame, mkF, argsToLocals, Value.category]; done) | rfl
abbrev own_c27 : ByteArray := jdk_67_method_16_code
theorem own_d27_0 : decode own_c27 0 = .ok (.aload_n 0, 1) := by decide +kernel
theorem own_d27_1 : decode own_c27 1 = .ok (.lload_n 1, 1) := by decide +kernel
theorem own_d27_2 : decode own_c27 2 = .ok (.invokespecial 56, 3) := by decide +kernel
theorem own_pd14 : parseMethodDescriptor "(J)Ljava/lang/AbstractStringBuilder;" = some ⟨[.long], some (.object "java/lang/AbstractStringBuilder")⟩ := by decide +kernel
theorem own_d27_5 : decode own_c27 5 = .ok (.pop, 1) := by decide +kernel
theorem own_d27_6 : decode own_c27 6 = .ok (.aload_n 0, 1) := by decide +kernel
theorem own_d27_7 : decode own_c27 7 = .ok (.areturn, 1) := by decide +kernel
abbrev own_y13 : MethodName := ⟨"java/lang/StringBuilder", "append", "(J)Ljava/lang/StringBuilder;"⟩
def own_Q_own_spj (Z : State) (a : Addr) (y : Addr) (ky : ClassId) (w : List Value) (c : Nat) (x : Int64) (nn : Nat) (r : Nat) (st : Addr) (d1 : Addr) (d2 : Addr) (DO : Cell) (DN : Cell) (cs : Int32) (h0 : Heap) (n0 : Nat) (v : Option Value) (h : Heap) (L : List Loc) : Prop := ∃ (y' : Addr) (ky' : ClassId), v = some (.ref a) ∧ Fr n0 L ∧ Keep h0 h [a, y] ∧ Exa Z h a "java/lang/StringBuilder" ∧ Fld Z h a "java/lang/AbstractStringBuilder" "value" "[B" (.ref y') ∧ Fld Z h a "java/lang/AbstractStringBuilder" "coder" "B" (.int (0 : Int32)) ∧ Fld Z h a "java/lang/AbstractStringBuilder" "count" "I" (.int (Int32.ofNat (c + r))) ∧ Exa Z h y' "[B" ∧ Arv Z h y' ky' .byte (Int32.ofNat (own_gc (own_gw w (c + r)) (c + r) x nn DO DN).length) (own_gc (own_gw w (c + r)) (c + r) x nn DO DN) (.int (0 : Int32))
theorem own_spj (l : Launch) (Z : State) (a0 : Array Value) (hw : ∀ d ∈ tables_1, d.before a0 Z = true) (ws : List Jvm.Cond) (a : Addr) (y : Addr) (ky : ClassId) (w : List Value) (c : Nat) (x : Int64) (nn : Nat) (r : Nat) (st : Addr) (d1 : Addr) (d2 : Addr) (DO : Cell) (DN : Cell) (cs : Int32) (h0 : Heap) (n0 : Nat) (O0 : Old Z n0 h0) (SC : Sta Z Z.heap "java/lang/String" "COMPACT_STRINGS" "Z" (.int cs)) (hcs : ¬ cs = 0) (EA : Exa Z h0 a "java/lang/StringBuilder") (FV : Fld Z h0 a "java/lang/AbstractStringBuilder" "value" "[B" (.ref y)) (FC : Fld Z h0 a "java/lang/AbstractStringBuilder" "coder" "B" (.int (0 : Int32))) (FN : Fld Z h0 a "java/lang/AbstractStringBuilder" "count" "I" (.int (Int32.ofNat c))) (EY : Exa Z h0 y "[B") (VY : Arv Z h0 y ky .byte (Int32.ofNat w.length) w (.int (0 : Int32))) (hnn : nn ≤ 2 ^ 63) (hneg : (if x < 0 then x else -x) = Jvm.Free.SBG.negL nn) (hr : r = Jvm.Free.SBG.digitsL nn + Jvm.Free.SBG.GetCharsL.sgnL x) (DT1 : Jvm.Free.SBG.Tbl Z "DigitOnes" st d1 DO) (DT2 : Jvm.Free.SBG.Tbl Z "DigitTens" st d2 DN) (hw16 : w.length = 16) (hcr : c + r ≤ 33) (ga : n0 ≤ a) (gy : n0 ≤ y) :
    own_Mt l own_y13 own_c27 3 (some (.object "java/lang/StringBuilder")) ws (own_r 5 1 34 118) #[(.ref a), (.long x)] Z h0 (own_Q_own_spj Z a y ky w c x nn r st d1 d2 DO DN cs h0 n0) := by
 refine MetFree.of_bodySF (plainFor_of_name own_pn4) hisR ?_
 intro p_ e s m args below meth c_ s₁ Bd hml0 hP hK
 obtain ⟨rfl, hZ, hh⟩ := hP
 have hx := Bd.exec
 have hby := Bd.bytes
 have hml : c_.maxLocals = 3 := hml0
 have hown : s.vm.findClass "java/lang/StringBuilder" = some m.cls := findClass_of_methodNamed Bd.named
 have hnm := (name_of_methodNamed Bd.named Bd.method).1
 have X0 : Stand p_ l e (own_r 5 1 34 118) s m #[(.ref a), (.long x)] below meth c_ s₁ [] 0 0 := Stand.of_body Bd
 have e0 : s₁.heap = h0 := by rw [← hh, Bd.state]; rfl
 have N0 := Fr.nil n0
 refine own_close (s := s) (Q := (own_Q_own_spj Z a y ky w c x nn r st d1 d2 DO DN cs h0 n0)) (own_st (fun _ => castTop (own_ef27 m a x)) ?_)
 have K0 := Keep.refl h0 [a, y]
 show own_Rch _ _ _ _ s₁ (mkF m 0 #[own_vr a, own_vl x, .second] [])
 refine own_aloadN X0 hx hby own_d27_0 rfl rfl rfl ?_
 refine own_st (fun _ => XS.lloadN X0.here hx rfl (hb hby own_d27_1) rfl) ?_
 obtain ⟨_, _, ⟨T1, L1, k1, n1⟩, -, X1, ⟨Lc1, hQ1, l1, y1, z1⟩, st1⟩ := superBack X0 hx hZ (y := own_y12) hown (hw _ (own_m 207 rfl)) (own_same (y := own_y12) (hw _ (own_m 208 rfl)) (hw _ (own_m 219 rfl)) rfl (by decide)) (hw _ (own_m 208 rfl)) (hw _ (own_m 158 rfl)) (by decide) (backOf (W := 0) (own_apj l Z a0 hw [] a y ky w c x nn r st d1 d2 DO DN cs h0 n0 O0 SC hcs EA FV FC FN EY VY hnn hneg hr DT1 DT2 hw16 hcr ga gy) hZ (hw _ (own_m 210 rfl)) (hw _ (own_m 143 rfl)) (by decide) (by decide)) e0 (Ins.self EA) (g := (mkF m 2 #[own_vr a, own_vl x, .second] [(.long x), (.ref a)])) rfl (by rw [hml]; rfl) (hw _ (own_m 210 rfl)) (argsL := [(.long x)]) (rest := []) (lenOf own_pd14 rfl) rfl (by show 2 * 0 + _ ≤ _; exact Nat.le_of_eq rfl) (hb hby own_d27_2) (fun _ _ => ⟨rfl, e0, (by decide : 0 + 1 ≤ _), (by decide : 0 + 34 ≤ _)⟩)
 dsimp only [Pt.U, Pt.locs, Pt.cells, Pt.slots] at X1 l1 y1 z1 st1 hQ1
 subst l1 y1 z1
 obtain ⟨yj1, kj1, rfl, N1q, K1, Ea1, Fv1, Fc1, Fn1, Ey1, Vy1⟩ := hQ1
 have N1 := Fr.app N0 N1q
 refine own_st (fun _ kt => st1.trans kt) ?_
 have O0_x1 := O0.keep K1 (allS ga (allS gy all0))
 have EA_x1 := EA.keep K1
 have EY_x1 := EY.keep K1
 have K0_x1 := K0.trans K1 (allS (Or.inl (List.mem_of_getElem? (i := 0) rfl)) (allS (Or.inl (List.mem_of_getElem? (i := 1) rfl)) all0))
 refine own_st (fun _ => XS.pop X1.here hx rfl (hb hby own_d27_5) rfl rfl) ?_
 refine own_aloadN X1 hx hby own_d27_6 rfl rfl rfl ?_
 show own_Rch _ _ _ _ T1 (mkF m 7 #[own_vr a, own_vl x, .second] [(.ref a)])
 refine own_retA rfl rfl X1 hx Bd.notSynchronized Bd.returns (hb hby own_d27_7) (by decide) (by decide) ?_
 exact ⟨_, _, rfl, N1, K0_x1, Ea1, Fv1, Fc1, Fn1, Ey1, Vy1⟩
theorem own_ef40 (m : MethodId) (x0 : Int32) (x1 : Int32) : entryFrame m #[(.int x0), (.int x1)] 2 = mkF m 0 #[own_vi x0, own_vi x1] [] := by first | (simp [entryFrame, mkF, argsToLocals, Value.category]; done) | rfl
abbrev own_c40 : ByteArray := jdk_65_method_131_code
theorem own_d40_0 : decode own_c40 0 = .ok (.iload_n 1, 1) := by decide +kernel
theorem own_d40_1 : decode own_c40 1 = .ok (.iload_n 0, 1) := by decide +kernel
theorem own_d40_2 : decode own_c40 2 = .ok (.if_icmp .ge 35, 3) := by decide +kernel
theorem own_d40_37 : decode own_c40 37 = .ok (.return_, 1) := by decide +kernel
abbrev own_y14 : MethodName := ⟨"java/util/Arrays", "checkLength", "(II)V"⟩
def own_Q_own_ckl (Z : State) (x : Int32) (h0 : Heap) (n0 : Nat) (v : Option Value) (h : Heap) (L : List Loc) : Prop := v = none ∧ Fr n0 L ∧ h = h0
theorem own_ckl (l : Launch) (Z : State) (a0 : Array Value) (hw : ∀ d ∈ tables_1, d.before a0 Z = true) (ws : List Jvm.Cond) (x : Int32) (h0 : Heap) (n0 : Nat) (O0 : Old Z n0 h0) (hx_ : ¬ x < 0) :
    own_Mt l own_y14 own_c40 2 none ws (own_r 0 0 0 0) #[(.int (0 : Int32)), (.int x)] Z h0 (own_Q_own_ckl Z x h0 n0) := by
 refine MetFree.of_bodySF (plainFor_of_name own_pn3) hisR ?_
 intro p_ e s m args below meth c_ s₁ Bd hml0 hP hK
 obtain ⟨rfl, hZ, hh⟩ := hP
 have hx := Bd.exec
 have hby := Bd.bytes
 have hml : c_.maxLocals = 2 := hml0
 have hown : s.vm.findClass "java/util/Arrays" = some m.cls := findClass_of_methodNamed Bd.named
 have hnm := (name_of_methodNamed Bd.named Bd.method).1
 have X0 : Stand p_ l e (own_r 0 0 0 0) s m #[(.int (0 : Int32)), (.int x)] below meth c_ s₁ [] 0 0 := Stand.of_body Bd
 have e0 : s₁.heap = h0 := by rw [← hh, Bd.state]; rfl
 have N0 := Fr.nil n0
 refine own_close (s := s) (Q := (own_Q_own_ckl Z x h0 n0)) (own_st (fun _ => castTop (own_ef40 m (0 : Int32) x)) ?_)
 show own_Rch _ _ _ _ s₁ (mkF m 0 #[own_vi (0 : Int32), own_vi x] [])
 refine own_iloadN X0 hx hby own_d40_0 rfl rfl ?_
 refine own_iloadN X0 hx hby own_d40_1 rfl rfl ?_
 show own_Rch _ _ _ _ s₁ (mkF m 2 #[own_vi (0 : Int32), own_vi x] [(.int (0 : Int32)), (.int x)])
 refine own_st (fun _ => XS.icmpYes X0.here hx rfl (pc0 := 2) (pc' := 37) rfl (hb hby own_d40_2) rfl (flt (hx_ : ¬ (x < (0 : Int32)))).2.1 (by decide) (by decide)) ?_
 show own_Rch _ _ _ _ s₁ (mkF m 37 #[own_vi (0 : Int32), own_vi x] [])
 refine own_retV X0 hx Bd.notSynchronized Bd.returns (hb hby own_d40_37) (by decide) (by decide) ?_
 rw [e0]
 exact ⟨rfl, N0, rfl⟩
theorem own_ef39 (m : MethodId) (x0 : Addr) (x1 : Int32) (x2 : Int32) : entryFrame m #[(.ref x0), (.int x1), (.int x2)] 5 = mkF m 0 #[own_vr x0, own_vi x1, own_vi x2, .unset, .unset] [] := by first | (simp [entryFrame, mkF, argsToLocals, Value.category]; done) | rfl
abbrev own_c39 : ByteArray := jdk_65_method_133_code
theorem own_d39_0 : decode own_c39 0 = .ok (.iload_n 1, 1) := by decide +kernel
theorem own_d39_1 : decode own_c39 1 = .ok (.iload_n 2, 1) := by decide +kernel
theorem own_d39_2 : decode own_c39 2 = .ok (.invokestatic 343, 3) := by decide +kernel
theorem own_pd15 : parseMethodDescriptor "(II)V" = some ⟨[.int, .int], none⟩ := by decide +kernel
theorem own_d39_5 : decode own_c39 5 = .ok (.iload_n 2, 1) := by decide +kernel
theorem own_d39_6 : decode own_c39 6 = .ok (.iload_n 1, 1) := by decide +kernel
theorem own_d39_7 : decode own_c39 7 = .ok (.isub, 1) := by decide +kernel
theorem own_d39_8 : decode own_c39 8 = .ok (.istore_n 3, 1) := by decide +kernel
theorem own_d39_9 : decode own_c39 9 = .ok (.iload_n 3, 1) := by decide +kernel
theorem own_d39_10 : decode own_c39 10 = .ok (.newarray .byte, 2) := by decide +kernel
theorem own_d39_12 : decode own_c39 12 = .ok (.astore 4, 2) := by decide +kernel
theorem own_d39_14 : decode own_c39 14 = .ok (.aload_n 0, 1) := by decide +kernel
theorem own_d39_15 : decode own_c39 15 = .ok (.iload_n 1, 1) := by decide +kernel
theorem own_d39_16 : decode own_c39 16 = .ok (.aload 4, 2) := by decide +kernel
theorem own_d39_18 : decode own_c39 18 = .ok (.iconst 0, 1) := by decide +kernel
theorem own_d39_19 : decode own_c39 19 = .ok (.aload_n 0, 1) := by decide +kernel
theorem own_d39_20 : decode own_c39 20 = .ok (.arraylength, 1) := by decide +kernel
theorem own_d39_21 : decode own_c39 21 = .ok (.iload_n 1, 1) := by decide +kernel
theorem own_d39_22 : decode own_c39 22 = .ok (.isub, 1) := by decide +kernel
theorem own_d39_23 : decode own_c39 23 = .ok (.iload_n 3, 1) := by decide +kernel
theorem own_d39_24 : decode own_c39 24 = .ok (.invokestatic 304, 3) := by decide +kernel
theorem own_d39_27 : decode own_c39 27 = .ok (.invokestatic 150, 3) := by decide +kernel
theorem own_d39_30 : decode own_c39 30 = .ok (.aload 4, 2) := by decide +kernel
theorem own_d39_32 : decode own_c39 32 = .ok (.areturn, 1) := by decide +kernel
abbrev own_y15 : MethodName := ⟨"java/util/Arrays", "copyOfRangeByte", "([BII)[B"⟩
def own_Q_own_crb (Z : State) (y : Addr) (ky : ClassId) (w : List Value) (c : Nat) (h0 : Heap) (n0 : Nat) (v : Option Value) (h : Heap) (L : List Loc) : Prop := ∃ (b : Addr) (kb : ClassId), v = some (.ref b) ∧ Fr n0 L ∧ Keep h0 h [] ∧ h0.size ≤ b ∧ Arv Z h b kb .byte (Int32.ofNat (w.take c).length) (w.take c) (.int (0 : Int32))
theorem own_crb (l : Launch) (Z : State) (a0 : Array Value) (hw : ∀ d ∈ tables_1, d.before a0 Z = true) (ws : List Jvm.Cond) (y : Addr) (ky : ClassId) (w : List Value) (c : Nat) (h0 : Heap) (n0 : Nat) (O0 : Old Z n0 h0) (VY : Arv Z h0 y ky .byte (Int32.ofNat w.length) w (.int (0 : Int32))) (hc : c < w.length) (hl : w.length ≤ 40) :
    own_Mt l own_y15 own_c39 5 (some (.array .byte)) ws (own_r 1 1 40 18) #[(.ref y), (.int (0 : Int32)), (.int (Int32.ofNat c))] Z h0 (own_Q_own_crb Z y ky w c h0 n0) := by
 refine MetFree.of_bodySF (plainFor_of_name own_pn3) hisR ?_
 intro p_ e s m args below meth c_ s₁ Bd hml0 hP hK
 obtain ⟨rfl, hZ, hh⟩ := hP
 have hx := Bd.exec
 have hby := Bd.bytes
 have hml : c_.maxLocals = 5 := hml0
 have hown : s.vm.findClass "java/util/Arrays" = some m.cls := findClass_of_methodNamed Bd.named
 have hnm := (name_of_methodNamed Bd.named Bd.method).1
 have X0 : Stand p_ l e (own_r 1 1 40 18) s m #[(.ref y), (.int (0 : Int32)), (.int (Int32.ofNat c))] below meth c_ s₁ [] 0 0 := Stand.of_body Bd
 have e0 : s₁.heap = h0 := by rw [← hh, Bd.state]; rfl
 have N0 := Fr.nil n0
 refine own_close (s := s) (Q := (own_Q_own_crb Z y ky w c h0 n0)) (own_st (fun _ => castTop (own_ef39 m y (0 : Int32) (Int32.ofNat c))) ?_)
 have K0 := Keep.refl h0 []
 show own_Rch _ _ _ _ s₁ (mkF m 0 #[own_vr y, own_vi (0 : Int32), own_vi (Int32.ofNat c), .unset, .unset] [])
 refine own_iloadN X0 hx hby own_d39_0 rfl rfl ?_
 refine own_iloadN X0 hx hby own_d39_1 rfl rfl ?_
 obtain ⟨_, _, ⟨T1, L1, k1, n1⟩, -, X1, ⟨Lc1, hQ1, l1, y1, z1⟩, st1⟩ := Jvm.LawKit.callS X0 hx (y := own_y14) hown (mvT hZ (hw _ (own_m 262 rfl))) (mvT hZ (hw _ (own_m 263 rfl))) (mvT hZ (hw _ (own_m 257 rfl))) (mvT hZ (hw _ (own_m 264 rfl))) (by decide) (backOf (W := 0) (own_ckl l Z a0 hw [] (Int32.ofNat c) h0 n0 O0 (own_nneg (by omega))) hZ (hw _ (own_m 264 rfl)) (hw _ (own_m 257 rfl)) (by decide) (by decide)) (g := (mkF m 2 #[own_vr y, own_vi (0 : Int32), own_vi (Int32.ofNat c), .unset, .unset] [(.int (Int32.ofNat c)), (.int (0 : Int32))])) rfl (by rw [hml]; rfl) (argsL := [(.int (0 : Int32)), (.int (Int32.ofNat c))]) (rest := []) (lenOf own_pd15 rfl) rfl (by show 2 * 0 + _ ≤ _; exact Nat.le_of_eq rfl) (hb hby own_d39_2) (fun _ _ => ⟨rfl, e0, (by decide : 0 + 0 ≤ _), (by decide : 0 + 0 ≤ _)⟩)
 dsimp only [Pt.U, Pt.locs, Pt.cells, Pt.slots] at X1 l1 y1 z1 st1 hQ1
 subst l1 y1 z1
 obtain ⟨rfl, N1q, hh1⟩ := hQ1
 have N1 := Fr.app N0 N1q
 refine own_st st1 ?_
 refine own_iloadN X1 hx hby own_d39_5 rfl rfl ?_
 refine own_iloadN X1 hx hby own_d39_6 rfl rfl ?_
 show own_Rch _ _ _ _ T1 (mkF m 7 #[own_vr y, own_vi (0 : Int32), own_vi (Int32.ofNat c), .unset, .unset] [(.int (0 : Int32)), (.int (Int32.ofNat c))])
 refine own_st (fun _ => XS.isub X1.here hx rfl (hb hby own_d39_7) rfl) ?_
 show own_Rch _ _ _ _ T1 (mkF m 8 #[own_vr y, own_vi (0 : Int32), own_vi (Int32.ofNat c), .unset, .unset] [(.int ((Int32.ofNat c) - (0 : Int32)))])
 rw [own_sub0]
 refine own_st (fun _ => XS.istoreN X1.here hx rfl (hb hby own_d39_8) rfl (l' := #[own_vr y, own_vi (0 : Int32), own_vi (Int32.ofNat c), own_vi (Int32.ofNat c), .unset]) rfl) ?_
 refine own_iloadN X1 hx hby own_d39_9 rfl rfl ?_
 show own_Rch _ _ _ _ T1 (mkF m 10 #[own_vr y, own_vi (0 : Int32), own_vi (Int32.ofNat c), own_vi (Int32.ofNat c), .unset] [(.int (Int32.ofNat c))])
 obtain ⟨T2, h2, k2, X2, e2, E2, A2, Ex2, st2⟩ := newPE X1 hx hZ (hw _ (own_m 7 rfl)) hh1 (g := (mkF m 10 #[own_vr y, own_vi (0 : Int32), own_vi (Int32.ofNat c), own_vi (Int32.ofNat c), .unset] [(.int (Int32.ofNat c))])) rfl (hb hby own_d39_10) (n := Int32.ofNat c) rfl (own_nneg (by omega)) (cap := 40) (by rw [own_n32 (by omega)]; omega) (by decide) (by decide) (by decide) (ad := "[B") rfl
 obtain ⟨b2, g2⟩ : ∃ z, z = h0.size := ⟨_, rfl⟩
 rw [← g2] at A2 Ex2 st2
 have ge2 : n0 ≤ b2 := by rw [g2]; exact own_old_le O0
 have ne2_y : y ≠ b2 := by rw [g2]; exact Nat.ne_of_lt VY.lt
 have sz2 : h0.size ≤ b2 := by rw [g2]; exact K0.1
 have O0_x2 := O0.ext E2
 have VY_x2 := VY.ext E2
 have K0_x2 := K0.ext E2
 refine own_st st2 ?_
 have V2 := own_newv A2 (by omega)
 refine own_st (fun _ => XS.astore X2.here hx rfl (hb hby own_d39_12) rfl rfl (l' := #[own_vr y, own_vi (0 : Int32), own_vi (Int32.ofNat c), own_vi (Int32.ofNat c), own_vr b2]) rfl) ?_
 refine own_aloadN X2 hx hby own_d39_14 rfl rfl rfl ?_
 refine own_iloadN X2 hx hby own_d39_15 rfl rfl ?_
 refine own_aload X2 hx hby own_d39_16 rfl rfl rfl ?_
 show own_Rch _ _ _ _ T2 (mkF m 18 #[own_vr y, own_vi (0 : Int32), own_vi (Int32.ofNat c), own_vi (Int32.ofNat c), own_vr b2] [(.ref b2), (.int (0 : Int32)), (.ref y)])
 refine own_iconst X2 hx hby own_d39_18 rfl ?_
 refine own_aloadN X2 hx hby own_d39_19 rfl rfl rfl ?_
 obtain ⟨cl3, Ar3, -, S3, M3, -, -⟩ := id VY_x2
 refine own_st (X2.arraylength hx (by rw [e2]; exact Ar3.1) (State.isArrayOf_alike (hZ).alike Ar3.2.1) (g := (mkF m 20 #[own_vr y, own_vi (0 : Int32), own_vi (Int32.ofNat c), own_vi (Int32.ofNat c), own_vr b2] [(.ref y), (.int (0 : Int32)), (.ref b2), (.int (0 : Int32)), (.ref y)])) rfl rfl (hb hby own_d39_20)) ?_
 rw [len_of S3 M3]
 refine own_iloadN X2 hx hby own_d39_21 rfl rfl ?_
 show own_Rch _ _ _ _ T2 (mkF m 22 #[own_vr y, own_vi (0 : Int32), own_vi (Int32.ofNat c), own_vi (Int32.ofNat c), own_vr b2] [(.int (0 : Int32)), (.int (Int32.ofNat w.length)), (.int (0 : Int32)), (.ref b2), (.int (0 : Int32)), (.ref y)])
 refine own_st (fun _ => XS.isub X2.here hx rfl (hb hby own_d39_22) rfl) ?_
 show own_Rch _ _ _ _ T2 (mkF m 23 #[own_vr y, own_vi (0 : Int32), own_vi (Int32.ofNat c), own_vi (Int32.ofNat c), own_vr b2] [(.int ((Int32.ofNat w.length) - (0 : Int32))), (.int (0 : Int32)), (.ref b2), (.int (0 : Int32)), (.ref y)])
 rw [own_sub0]
 refine own_iloadN X2 hx hby own_d39_23 rfl rfl ?_
 obtain ⟨_, _, ⟨T4, L4, k4, n4⟩, -, X4, ⟨Lc4, hQ4, l4, y4, z4⟩, st4⟩ := Jvm.LawKit.callS X2 hx (y := (⟨"java/lang/Math", "min", "(II)I"⟩ : MethodName)) hown (mvT hZ (hw _ (own_m 265 rfl))) (mvT hZ (hw _ (own_m 266 rfl))) (mvT hZ (hw _ (own_m 267 rfl))) (mvT hZ (hw _ (own_m 268 rfl))) (by decide) (backOf (W := 4) (own_mi l Z a0 hw [] (Int32.ofNat w.length) (Int32.ofNat c) h2 n0 O0_x2 (Jvm.Free.XT.lt32 (by omega) hc)) hZ (hw _ (own_m 268 rfl)) (hw _ (own_m 267 rfl)) (by decide) (by decide)) (g := (mkF m 24 #[own_vr y, own_vi (0 : Int32), own_vi (Int32.ofNat c), own_vi (Int32.ofNat c), own_vr b2] [(.int (Int32.ofNat c)), (.int (Int32.ofNat w.length)), (.int (0 : Int32)), (.ref b2), (.int (0 : Int32)), (.ref y)])) rfl (by rw [hml]; rfl) (argsL := [(.int (Int32.ofNat w.length)), (.int (Int32.ofNat c))]) (rest := [(.int (0 : Int32)), (.ref b2), (.int (0 : Int32)), (.ref y)]) (lenOf own_pd3 rfl) rfl (by show 2 * 0 + _ ≤ _; exact Nat.le_of_eq rfl) (hb hby own_d39_24) (fun _ _ => ⟨rfl, e2, (by decide : 1 + 0 ≤ _), (by decide : 40 + 0 ≤ _)⟩)
 dsimp only [Pt.U, Pt.locs, Pt.cells, Pt.slots] at X4 l4 y4 z4 st4 hQ4
 subst l4 y4 z4
 obtain ⟨rfl, N4q, hh4⟩ := hQ4
 have N4 := Fr.app N1 N4q
 refine own_st st4 ?_
 show own_Rch _ _ _ _ T4 (mkF m 27 #[own_vr y, own_vi (0 : Int32), own_vi (Int32.ofNat c), own_vi (Int32.ofNat c), own_vr b2] [(.int (Int32.ofNat c)), (.int (0 : Int32)), (.ref b2), (.int (0 : Int32)), (.ref y)])
 obtain ⟨T5, h5, lo5, X5, e5, N5, K5, V5, st5⟩ := own_cp X4 hx hZ hown (hw _ (own_m 269 rfl)) (hw _ (own_m 200 rfl)) (hw _ (own_m 198 rfl)) (hw _ (own_m 199 rfl)) hh4 VY_x2 V2 rfl rfl (by omega) (by rw [List.length_replicate]; omega) (q := 0) (n := c) (us := (w.take c)) (by omega) (by rw [List.length_replicate]; omega) rfl N4 ge2 (jn := (Int32.ofNat c)) (jq := (0 : Int32)) rfl rfl (g := (mkF m 27 #[own_vr y, own_vi (0 : Int32), own_vi (Int32.ofNat c), own_vi (Int32.ofNat c), own_vr b2] [(.int (Int32.ofNat c)), (.int (0 : Int32)), (.ref b2), (.int (0 : Int32)), (.ref y)])) rfl (by rw [hml]; rfl) rfl (hb hby own_d39_27) (by decide) (W := 0) (by show 2 * 0 + _ ≤ _; exact Nat.le_of_eq rfl) (by decide)
 refine own_st st5 ?_
 have O0_x5 := O0_x2.keep K5 (allS ge2 all0)
 have VY_x5 := VY_x2.keep K5 (ninS ne2_y nin0)
 have K0_x5 := K0_x2.trans K5 (allS (Or.inr sz2) all0)
 have Ex2_x5 := Ex2.keep K5
 refine own_aload X5 hx hby own_d39_30 rfl rfl rfl ?_
 show own_Rch _ _ _ _ T5 (mkF m 32 #[own_vr y, own_vi (0 : Int32), own_vi (Int32.ofNat c), own_vi (Int32.ofNat c), own_vr b2] [(.ref b2)])
 refine own_retA rfl rfl X5 hx Bd.notSynchronized Bd.returns (hb hby own_d39_32) (by decide) (by decide) ?_
 rw [e5]
 have Vq := V5
 rw [own_put_all (by rw [List.length_take]; omega)] at Vq
 exact ⟨_, _, rfl, N5, K0_x5, sz2, Vq⟩
theorem own_ef38 (m : MethodId) (x0 : Addr) (x1 : Int32) (x2 : Int32) : entryFrame m #[(.ref x0), (.int x1), (.int x2)] 3 = mkF m 0 #[own_vr x0, own_vi x1, own_vi x2] [] := by first | (simp [entryFrame, mkF, argsToLocals, Value.category]; done) | rfl
abbrev own_c38 : ByteArray := jdk_65_method_132_code
theorem own_d38_0 : decode own_c38 0 = .ok (.iload_n 1, 1) := by decide +kernel
theorem own_d38_1 : decode own_c38 1 = .ok (.ifCond .ne 9, 3) := by decide +kernel
theorem own_d38_4 : decode own_c38 4 = .ok (.iload_n 2, 1) := by decide +kernel
theorem own_d38_5 : decode own_c38 5 = .ok (.aload_n 0, 1) := by decide +kernel
theorem own_d38_6 : decode own_c38 6 = .ok (.arraylength, 1) := by decide +kernel
theorem own_d38_7 : decode own_c38 7 = .ok (.if_icmp .eq 10, 3) := by decide +kernel
theorem own_d38_17 : decode own_c38 17 = .ok (.aload_n 0, 1) := by decide +kernel
theorem own_d38_18 : decode own_c38 18 = .ok (.invokevirtual 310, 3) := by decide +kernel
theorem own_d38_21 : decode own_c38 21 = .ok (.checkcast 311, 3) := by decide +kernel
theorem own_d38_24 : decode own_c38 24 = .ok (.areturn, 1) := by decide +kernel
theorem own_d38_10 : decode own_c38 10 = .ok (.aload_n 0, 1) := by decide +kernel
theorem own_d38_11 : decode own_c38 11 = .ok (.iload_n 1, 1) := by decide +kernel
theorem own_d38_12 : decode own_c38 12 = .ok (.iload_n 2, 1) := by decide +kernel
theorem own_d38_13 : decode own_c38 13 = .ok (.invokestatic 339, 3) := by decide +kernel
theorem own_pd16 : parseMethodDescriptor "([BII)[B" = some ⟨[(.array .byte), .int, .int], some (.array .byte)⟩ := by decide +kernel
theorem own_d38_16 : decode own_c38 16 = .ok (.areturn, 1) := by decide +kernel
abbrev own_y16 : MethodName := ⟨"java/util/Arrays", "copyOfRange", "([BII)[B"⟩
def own_Q_own_cor (Z : State) (y : Addr) (ky : ClassId) (w : List Value) (c : Nat) (h0 : Heap) (n0 : Nat) (v : Option Value) (h : Heap) (L : List Loc) : Prop := ∃ (b : Addr) (kb : ClassId), v = some (.ref b) ∧ Fr n0 L ∧ Keep h0 h [] ∧ h0.size ≤ b ∧ Arv Z h b kb .byte (Int32.ofNat (w.take c).length) (w.take c) (.int (0 : Int32))
theorem own_cor (l : Launch) (Z : State) (a0 : Array Value) (hw : ∀ d ∈ tables_1, d.before a0 Z = true) (ws : List Jvm.Cond) (y : Addr) (ky : ClassId) (w : List Value) (c : Nat) (h0 : Heap) (n0 : Nat) (O0 : Old Z n0 h0) (EY : Exa Z h0 y "[B") (VY : Arv Z h0 y ky .byte (Int32.ofNat w.length) w (.int (0 : Int32))) (hc : c ≤ w.length) (hl : w.length ≤ 40) :
    own_Mt l own_y16 own_c38 3 (some (.array .byte)) ws (own_r 2 1 40 34) #[(.ref y), (.int (0 : Int32)), (.int (Int32.ofNat c))] Z h0 (own_Q_own_cor Z y ky w c h0 n0) := by
 refine MetFree.of_bodySF (plainFor_of_name own_pn3) hisR ?_
 intro p_ e s m args below meth c_ s₁ Bd hml0 hP hK
 obtain ⟨rfl, hZ, hh⟩ := hP
 have hx := Bd.exec
 have hby := Bd.bytes
 have hml : c_.maxLocals = 3 := hml0
 have hown : s.vm.findClass "java/util/Arrays" = some m.cls := findClass_of_methodNamed Bd.named
 have hnm := (name_of_methodNamed Bd.named Bd.method).1
 have X0 : Stand p_ l e (own_r 2 1 40 34) s m #[(.ref y), (.int (0 : Int32)), (.int (Int32.ofNat c))] below meth c_ s₁ [] 0 0 := Stand.of_body Bd
 have e0 : s₁.heap = h0 := by rw [← hh, Bd.state]; rfl
 have N0 := Fr.nil n0
 refine own_close (s := s) (Q := (own_Q_own_cor Z y ky w c h0 n0)) (own_st (fun _ => castTop (own_ef38 m y (0 : Int32) (Int32.ofNat c))) ?_)
 have K0 := Keep.refl h0 []
 show own_Rch _ _ _ _ s₁ (mkF m 0 #[own_vr y, own_vi (0 : Int32), own_vi (Int32.ofNat c)] [])
 refine own_iloadN X0 hx hby own_d38_0 rfl rfl ?_
 show own_Rch _ _ _ _ s₁ (mkF m 1 #[own_vr y, own_vi (0 : Int32), own_vi (Int32.ofNat c)] [(.int (0 : Int32))])
 refine own_st (fun _ => XS.ifNo X0.here hx rfl (hb hby own_d38_1) rfl ((if0 _ _).trans (teq (rfl : (0 : Int32) = (0 : Int32))).2)) ?_
 refine own_iloadN X0 hx hby own_d38_4 rfl rfl ?_
 refine own_aloadN X0 hx hby own_d38_5 rfl rfl rfl ?_
 obtain ⟨cl1, Ar1, -, S1, M1, -, -⟩ := id VY
 refine own_st (X0.arraylength hx (by rw [e0]; exact Ar1.1) (State.isArrayOf_alike (hZ).alike Ar1.2.1) (g := (mkF m 6 #[own_vr y, own_vi (0 : Int32), own_vi (Int32.ofNat c)] [(.ref y), (.int (Int32.ofNat c))])) rfl rfl (hb hby own_d38_6)) ?_
 rw [len_of S1 M1]
 show own_Rch _ _ _ _ s₁ (mkF m 7 #[own_vr y, own_vi (0 : Int32), own_vi (Int32.ofNat c)] [(.int (Int32.ofNat w.length)), (.int (Int32.ofNat c))])
 by_cases hc7_2 : (Int32.ofNat c) = (Int32.ofNat w.length)
 · -- pc 7: True
  refine own_st (fun _ => XS.icmpYes X0.here hx rfl (pc0 := 7) (pc' := 17) rfl (hb hby own_d38_7) rfl (teq hc7_2).1 (by decide) (by decide)) ?_
  refine own_aloadN X0 hx hby own_d38_17 rfl rfl rfl ?_
  show own_Rch _ _ _ _ s₁ (mkF m 18 #[own_vr y, own_vi (0 : Int32), own_vi (Int32.ofNat c)] [(.ref y)])
  obtain ⟨T3, h3, X3, e3, E3, A3, Ex3, st3⟩ := own_cl X0 hx hZ hown (hw _ (own_m 399 rfl)) (hw _ (own_m 400 rfl)) (hw _ (own_m 404 rfl)) (hw _ (own_m 402 rfl)) (hw _ (own_m 403 rfl)) (hw _ (own_m 405 rfl)) e0 VY EY (g := (mkF m 18 #[own_vr y, own_vi (0 : Int32), own_vi (Int32.ofNat c)] [(.ref y)])) rfl (by rw [hml]; rfl) rfl (hb hby own_d38_18) (by decide) (W := 0) (cap := 40) (by show 2 * 0 + _ ≤ _; exact Nat.le_of_eq rfl) (by decide) (by rw [own_n32 (by omega)]; exact hl) (by decide) (by decide)
  obtain ⟨b3, g3⟩ : ∃ z, z = h0.size := ⟨_, rfl⟩
  rw [← g3] at A3 Ex3 st3
  have ge3 : n0 ≤ b3 := by rw [g3]; exact own_old_le O0
  have ne3_y : y ≠ b3 := by rw [g3]; exact Nat.ne_of_lt EY.lt
  have sz3 : h0.size ≤ b3 := by rw [g3]; exact K0.1
  have O0_x3 := O0.ext E3
  have EY_x3 := EY.ext E3
  have VY_x3 := VY.ext E3
  have K0_x3 := K0.ext E3
  refine own_st st3 ?_
  obtain ⟨T4, X4, e4, st4⟩ := castY X3 hx hZ hown (hw _ (own_m 406 rfl)) e3 (Ins.self Ex3) (g := (mkF m 21 #[own_vr y, own_vi (0 : Int32), own_vi (Int32.ofNat c)] [(.ref b3)])) rfl rfl (hb hby own_d38_21)
  refine own_st st4 ?_
  show own_Rch _ _ _ _ T4 (mkF m 24 #[own_vr y, own_vi (0 : Int32), own_vi (Int32.ofNat c)] [(.ref b3)])
  refine own_retA rfl rfl X4 hx Bd.notSynchronized Bd.returns (hb hby own_d38_24) (by decide) (by decide) ?_
  rw [e4]
  have ec := own_inj (by omega) (by omega) hc7_2
  have et : w.take c = w := by rw [ec]; exact List.take_length
  have Vq := A3
  rw [← et] at Vq
  exact ⟨_, _, rfl, N0, K0_x3, sz3, Vq⟩
 · -- pc 7: False
  refine own_st (fun _ => XS.icmpNo X0.here hx rfl (hb hby own_d38_7) rfl (feq hc7_2).1) ?_
  refine own_aloadN X0 hx hby own_d38_10 rfl rfl rfl ?_
  refine own_iloadN X0 hx hby own_d38_11 rfl rfl ?_
  refine own_iloadN X0 hx hby own_d38_12 rfl rfl ?_
  obtain ⟨_, _, ⟨T5, L5, k5, n5⟩, -, X5, ⟨Lc5, hQ5, l5, y5, z5⟩, st5⟩ := Jvm.LawKit.callS X0 hx (y := own_y15) hown (mvT hZ (hw _ (own_m 259 rfl))) (mvT hZ (hw _ (own_m 260 rfl))) (mvT hZ (hw _ (own_m 257 rfl))) (mvT hZ (hw _ (own_m 261 rfl))) (by decide) (backOf (W := 0) (own_crb l Z a0 hw [] y ky w c h0 n0 O0 VY (by have : ¬ c = w.length := fun e => hc7_2 (congrArg Int32.ofNat e); omega) hl) hZ (hw _ (own_m 261 rfl)) (hw _ (own_m 257 rfl)) (by decide) (by decide)) (g := (mkF m 13 #[own_vr y, own_vi (0 : Int32), own_vi (Int32.ofNat c)] [(.int (Int32.ofNat c)), (.int (0 : Int32)), (.ref y)])) rfl (by rw [hml]; rfl) (argsL := [(.ref y), (.int (0 : Int32)), (.int (Int32.ofNat c))]) (rest := []) (lenOf own_pd16 rfl) rfl (by show 2 * 0 + _ ≤ _; exact Nat.le_of_eq rfl) (hb hby own_d38_13) (fun _ _ => ⟨rfl, e0, (by decide : 0 + 1 ≤ _), (by decide : 0 + 40 ≤ _)⟩)
  dsimp only [Pt.U, Pt.locs, Pt.cells, Pt.slots] at X5 l5 y5 z5 st5 hQ5
  subst l5 y5 z5
  obtain ⟨br5, kb5, rfl, N5q, K5, hb5, Vb5⟩ := hQ5
  have N5 := Fr.app N0 N5q
  refine own_st st5 ?_
  have ne5_y_br5 : y ≠ br5 := Nat.ne_of_lt (Nat.lt_of_lt_of_le EY.lt hb5)
  have ge5_br5 : n0 ≤ br5 := Nat.le_trans (own_old_le O0) hb5
  have sz5_br5 : h0.size ≤ br5 := Nat.le_trans K0.1 hb5
  have O0_x5 := O0.keep K5 all0
  have EY_x5 := EY.keep K5
  have VY_x5 := VY.keep K5 nin0
  have K0_x5 := K0.trans K5 all0
  show own_Rch _ _ _ _ T5 (mkF m 16 #[own_vr y, own_vi (0 : Int32), own_vi (Int32.ofNat c)] [(.ref br5)])
  refine own_retA rfl rfl X5 hx Bd.notSynchronized Bd.returns (hb hby own_d38_16) (by decide) (by decide) ?_
  exact ⟨_, _, rfl, N5, K0_x5, sz5_br5, Vb5⟩
theorem own_ef34n2 (m : MethodId) (x0 : Addr) (x1 : Addr) : entryFrame m #[(.ref x0), (.ref x1), .null] 5 = mkF m 0 #[own_vr x0, own_vr x1, .val .null, .unset, .unset] [] := by first | (simp [entryFrame, mkF, argsToLocals, Value.category]; done) | rfl
abbrev own_c34 : ByteArray := jdk_42_method_150_code
theorem own_d34_0 : decode own_c34 0 = .ok (.aload_n 0, 1) := by decide +kernel
theorem own_d34_1 : decode own_c34 1 = .ok (.invokespecial 1, 3) := by decide +kernel
theorem own_d34_4 : decode own_c34 4 = .ok (.aload_n 1, 1) := by decide +kernel
theorem own_d34_5 : decode own_c34 5 = .ok (.invokevirtual 552, 3) := by decide +kernel
theorem own_pd17 : parseMethodDescriptor "()[B" = some ⟨[], some (.array .byte)⟩ := by decide +kernel
theorem own_d34_8 : decode own_c34 8 = .ok (.astore_n 3, 1) := by decide +kernel
theorem own_d34_9 : decode own_c34 9 = .ok (.aload_n 1, 1) := by decide +kernel
theorem own_d34_10 : decode own_c34 10 = .ok (.invokevirtual 549, 3) := by decide +kernel
theorem own_d34_13 : decode own_c34 13 = .ok (.istore 4, 2) := by decide +kernel
theorem own_d34_15 : decode own_c34 15 = .ok (.aload_n 1, 1) := by decide +kernel
theorem own_d34_16 : decode own_c34 16 = .ok (.invokevirtual 1047, 3) := by decide +kernel
theorem own_d34_19 : decode own_c34 19 = .ok (.ifCond .eq 22, 3) := by decide +kernel
theorem own_d34_22 : decode own_c34 22 = .ok (.aload_n 0, 1) := by decide +kernel
theorem own_d34_23 : decode own_c34 23 = .ok (.iconst 0, 1) := by decide +kernel
theorem own_d34_24 : decode own_c34 24 = .ok (.putfield 15, 3) := by decide +kernel
theorem own_d34_27 : decode own_c34 27 = .ok (.aload_n 0, 1) := by decide +kernel
theorem own_d34_28 : decode own_c34 28 = .ok (.aload_n 3, 1) := by decide +kernel
theorem own_d34_29 : decode own_c34 29 = .ok (.iconst 0, 1) := by decide +kernel
theorem own_d34_30 : decode own_c34 30 = .ok (.iload 4, 2) := by decide +kernel
theorem own_d34_32 : decode own_c34 32 = .ok (.invokestatic 54, 3) := by decide +kernel
theorem own_d34_35 : decode own_c34 35 = .ok (.putfield 9, 3) := by decide +kernel
theorem own_d34_38 : decode own_c34 38 = .ok (.goto 59, 3) := by decide +kernel
theorem own_d34_97 : decode own_c34 97 = .ok (.return_, 1) := by decide +kernel
abbrev own_y17 : MethodName := ⟨"java/lang/String", "<init>", "(Ljava/lang/AbstractStringBuilder;Ljava/lang/Void;)V"⟩
def own_Q_own_sia (Z : State) (b : Addr) (a : Addr) (y : Addr) (ky : ClassId) (w : List Value) (c : Nat) (cs : Int32) (h0 : Heap) (n0 : Nat) (v : Option Value) (h : Heap) (L : List Loc) : Prop := ∃ (yb : Addr) (kb : ClassId), v = none ∧ Fr n0 L ∧ Keep h0 h [b] ∧ h0.size ≤ yb ∧ Exa Z h b "java/lang/String" ∧ Fld Z h b "java/lang/String" "value" "[B" (.ref yb) ∧ Fld Z h b "java/lang/String" "coder" "B" (.int (0 : Int32)) ∧ Arv Z h yb kb .byte (Int32.ofNat (w.take c).length) (w.take c) (.int (0 : Int32))
theorem own_sia (l : Launch) (Z : State) (a0 : Array Value) (hw : ∀ d ∈ tables_1, d.before a0 Z = true) (ws : List Jvm.Cond) (b : Addr) (a : Addr) (y : Addr) (ky : ClassId) (w : List Value) (c : Nat) (cs : Int32) (h0 : Heap) (n0 : Nat) (O0 : Old Z n0 h0) (SC : Sta Z Z.heap "java/lang/String" "COMPACT_STRINGS" "Z" (.int cs)) (hcs : ¬ cs = 0) (ES : Exa Z h0 b "java/lang/String") (FS : Fld Z h0 b "java/lang/String" "value" "[B" .null) (GS : Fld Z h0 b "java/lang/String" "coder" "B" (.int (0 : Int32))) (gb : n0 ≤ b) (EA : Exa Z h0 a "java/lang/StringBuilder") (FV : Fld Z h0 a "java/lang/AbstractStringBuilder" "value" "[B" (.ref y)) (FC : Fld Z h0 a "java/lang/AbstractStringBuilder" "coder" "B" (.int (0 : Int32))) (FN : Fld Z h0 a "java/lang/AbstractStringBuilder" "count" "I" (.int (Int32.ofNat c))) (EY : Exa Z h0 y "[B") (VY : Arv Z h0 y ky .byte (Int32.ofNat w.length) w (.int (0 : Int32))) (hc : c ≤ w.length) (hl : w.length ≤ 40) :
    own_Mt l own_y17 own_c34 5 none ws (own_r 3 1 40 49) #[(.ref b), (.ref a), .null] Z h0 (own_Q_own_sia Z b a y ky w c cs h0 n0) := by
 refine MetFree.of_bodySF (plainFor_of_name own_pn0) hisR ?_
 intro p_ e s m args below meth c_ s₁ Bd hml0 hP hK
 obtain ⟨rfl, hZ, hh⟩ := hP
 have hx := Bd.exec
 have hby := Bd.bytes
 have hml : c_.maxLocals = 5 := hml0
 have hown : s.vm.findClass "java/lang/String" = some m.cls := findClass_of_methodNamed Bd.named
 have hnm := (name_of_methodNamed Bd.named Bd.method).1
 have X0 : Stand p_ l e (own_r 3 1 40 49) s m #[(.ref b), (.ref a), .null] below meth c_ s₁ [] 0 0 := Stand.of_body Bd
 have e0 : s₁.heap = h0 := by rw [← hh, Bd.state]; rfl
 have N0 := Fr.nil n0
 refine own_close (s := s) (Q := (own_Q_own_sia Z b a y ky w c cs h0 n0)) (own_st (fun _ => castTop (own_ef34n2 m b a)) ?_)
 have K0 := Keep.refl h0 [b]
 show own_Rch _ _ _ _ s₁ (mkF m 0 #[own_vr b, own_vr a, .val .null, .unset, .unset] [])
 refine own_aloadN X0 hx hby own_d34_0 rfl rfl rfl ?_
 obtain ⟨T1, X1, e1, st1⟩ := initO X0 hx hZ hown (hw _ (own_m 240 rfl)) (hw _ (own_m 35 rfl)) (hw _ (own_m 36 rfl)) e0 (g := (mkF m 1 #[own_vr b, own_vr a, .val .null, .unset, .unset] [(.ref b)])) rfl (by rw [hml]; rfl) rfl (hb hby own_d34_1) (by decide) (W := 0) (by show 2 * 0 + _ ≤ _; exact Nat.le_of_eq rfl) (by decide)
 refine own_st st1 ?_
 refine own_aloadN X1 hx hby own_d34_4 rfl rfl rfl ?_
 obtain ⟨cq2, kq2, q2a, q2b, q2c⟩ := isOf hZ e1 EA
 obtain ⟨_, _, ⟨T2, L2, k2, n2⟩, -, X2, ⟨Lc2, hQ2, l2, y2, z2⟩, st2⟩ := X1.virtualBack hx (y := own_y9) (z := own_y9) hown (mvT hZ (hw _ (own_m 241 rfl))) (mvT hZ (hw _ (own_m 242 rfl))) (notFace_of_selects (args := #[]) (mvT hZ (hw _ (own_m 244 rfl)))) (mvT hZ (hw _ (own_m 244 rfl))) (mvT hZ (hw _ (own_m 243 rfl))) (by decide) (backOf (W := 0) (own_gv l Z a0 hw [] a y h0 n0 O0 FV) hZ (hw _ (own_m 245 rfl)) (hw _ (own_m 143 rfl)) (by decide) (by decide)) q2a q2c (g := (mkF m 5 #[own_vr b, own_vr a, .val .null, .unset, .unset] [(.ref a)])) rfl (by rw [hml]; rfl) (Steps.refl _) (argsL := []) (rest := []) (lenOf own_pd17 rfl) rfl (by show 2 * 0 + _ ≤ _; exact Nat.le_of_eq rfl) (hb hby own_d34_5) (fun _ _ => ⟨rfl, e1, (by decide : 0 + 0 ≤ _), (by decide : 0 + 0 ≤ _)⟩)
 dsimp only [Pt.U, Pt.locs, Pt.cells, Pt.slots] at X2 l2 y2 z2 st2 hQ2
 subst l2 y2 z2
 obtain ⟨rfl, N2q, hh2⟩ := hQ2
 have N2 := Fr.app N0 N2q
 refine own_st (fun _ kt => st2.trans kt) ?_
 refine own_st (fun _ => XS.astoreN X2.here hx rfl (hb hby own_d34_8) rfl rfl (l' := #[own_vr b, own_vr a, .val .null, own_vr y, .unset]) rfl) ?_
 refine own_aloadN X2 hx hby own_d34_9 rfl rfl rfl ?_
 obtain ⟨cq3, kq3, q3a, q3b, q3c⟩ := isOf hZ hh2 EA
 obtain ⟨_, _, ⟨T3, L3, k3, n3⟩, -, X3, ⟨Lc3, hQ3, l3, y3, z3⟩, st3⟩ := X2.virtualBack hx (y := own_y10) (z := own_y11) hown (mvT hZ (hw _ (own_m 246 rfl))) (mvT hZ (hw _ (own_m 247 rfl))) (own_face (a0 := #[]) (mvT hZ (hw _ (own_m 219 rfl))) rfl) (mvT hZ (hw _ (own_m 249 rfl))) (mvT hZ (hw _ (own_m 250 rfl))) (by decide) (backOf (W := 0) (own_sl l Z a0 hw [] a c h0 n0 O0 EA FN) hZ (hw _ (own_m 251 rfl)) (hw _ (own_m 135 rfl)) (by decide) (by decide)) q3a q3c (g := (mkF m 10 #[own_vr b, own_vr a, .val .null, own_vr y, .unset] [(.ref a)])) rfl (by rw [hml]; rfl) (Steps.refl _) (argsL := []) (rest := []) (lenOf own_pd7 rfl) rfl (by show 2 * 0 + _ ≤ _; exact Nat.le_of_eq rfl) (hb hby own_d34_10) (fun _ _ => ⟨rfl, hh2, (by decide : 0 + 0 ≤ _), (by decide : 0 + 0 ≤ _)⟩)
 dsimp only [Pt.U, Pt.locs, Pt.cells, Pt.slots] at X3 l3 y3 z3 st3 hQ3
 subst l3 y3 z3
 obtain ⟨rfl, N3q, hh3⟩ := hQ3
 have N3 := Fr.app N2 N3q
 refine own_st (fun _ kt => st3.trans kt) ?_
 refine own_st (fun _ => XS.istore X3.here hx rfl (hb hby own_d34_13) rfl (l' := #[own_vr b, own_vr a, .val .null, own_vr y, own_vi (Int32.ofNat c)]) rfl) ?_
 refine own_aloadN X3 hx hby own_d34_15 rfl rfl rfl ?_
 obtain ⟨cq4, kq4, q4a, q4b, q4c⟩ := isOf hZ hh3 EA
 obtain ⟨_, _, ⟨T4, L4, k4, n4⟩, -, X4, ⟨Lc4, hQ4, l4, y4, z4⟩, st4⟩ := X3.virtualBack hx (y := own_y8) (z := own_y8) hown (mvT hZ (hw _ (own_m 254 rfl))) (mvT hZ (hw _ (own_m 217 rfl))) (notFace_of_selects (args := #[]) (mvT hZ (hw _ (own_m 219 rfl)))) (mvT hZ (hw _ (own_m 219 rfl))) (mvT hZ (hw _ (own_m 218 rfl))) (by decide) (backOf (W := 0) (own_lat l Z a0 hw [] a cs h0 n0 O0 SC hcs FC) hZ (hw _ (own_m 220 rfl)) (hw _ (own_m 143 rfl)) (by decide) (by decide)) q4a q4c (g := (mkF m 16 #[own_vr b, own_vr a, .val .null, own_vr y, own_vi (Int32.ofNat c)] [(.ref a)])) rfl (by rw [hml]; rfl) (Steps.refl _) (argsL := []) (rest := []) (lenOf own_pd12 rfl) rfl (by show 2 * 0 + _ ≤ _; exact Nat.le_of_eq rfl) (hb hby own_d34_16) (fun _ _ => ⟨rfl, hh3, (by decide : 0 + 0 ≤ _), (by decide : 0 + 0 ≤ _)⟩)
 dsimp only [Pt.U, Pt.locs, Pt.cells, Pt.slots] at X4 l4 y4 z4 st4 hQ4
 subst l4 y4 z4
 obtain ⟨rfl, N4q, hh4⟩ := hQ4
 have N4 := Fr.app N3 N4q
 refine own_st (fun _ kt => st4.trans kt) ?_
 show own_Rch _ _ _ _ T4 (mkF m 19 #[own_vr b, own_vr a, .val .null, own_vr y, own_vi (Int32.ofNat c)] [(.int (1 : Int32))])
 refine own_st (fun _ => XS.ifNo X4.here hx rfl (hb hby own_d34_19) rfl ((if0 _ _).trans (feq ((by decide) : ¬ ((1 : Int32) = (0 : Int32)))).1)) ?_
 refine own_aloadN X4 hx hby own_d34_22 rfl rfl rfl ?_
 refine own_iconst X4 hx hby own_d34_23 rfl ?_
 obtain ⟨T5, h5, X5, e5, W5, st5⟩ := putFN X4 hx hZ hown (hw _ (own_m 173 rfl)) Via.refl hh4 GS ES (Or.inr ⟨(hw _ (own_m 9 rfl)), rfl, hnm⟩) (hw _ (own_m 6 rfl)) (ty := .byte) (v' := (.int (0 : Int32))) (by decide) rfl (by decide) (g := (mkF m 24 #[own_vr b, own_vr a, .val .null, own_vr y, own_vi (Int32.ofNat c)] [(.int (0 : Int32)), (.ref b)])) rfl rfl (hb hby own_d34_24)
 refine own_st st5 ?_
 have Fw5 := GS.same W5
 have N5 := Fr.snoc X5 N4 gb
 have O0_x5 := O0.wr W5 gb
 have ES_x5 := ES.wr W5
 have FS_x5 := FS.other W5 (Or.inr (slot_ne (Or.inr (hw _ (own_m 8 rfl))) (Or.inr (hw _ (own_m 9 rfl))) (by decide) (t := (.array .byte)) (t' := .byte) (by decide) (by decide)))
 have EA_x5 := EA.wr W5
 have FV_x5 := FV.other W5 (Or.inl (Exa.ne EA ES (by decide)))
 have FC_x5 := FC.other W5 (Or.inl (Exa.ne EA ES (by decide)))
 have FN_x5 := FN.other W5 (Or.inl (Exa.ne EA ES (by decide)))
 have EY_x5 := EY.wr W5
 have VY_x5 := VY.other W5 (Exa.ne EY ES (by decide))
 have K0_x5 := K0.wr W5 (Or.inl (List.mem_of_getElem? (i := 0) rfl))
 refine own_aloadN X5 hx hby own_d34_27 rfl rfl rfl ?_
 refine own_aloadN X5 hx hby own_d34_28 rfl rfl rfl ?_
 refine own_iconst X5 hx hby own_d34_29 rfl ?_
 refine own_iload X5 hx hby own_d34_30 rfl rfl ?_
 obtain ⟨_, _, ⟨T6, L6, k6, n6⟩, -, X6, ⟨Lc6, hQ6, l6, y6, z6⟩, st6⟩ := Jvm.LawKit.callS X5 hx (y := own_y16) hown (mvT hZ (hw _ (own_m 255 rfl))) (mvT hZ (hw _ (own_m 256 rfl))) (mvT hZ (hw _ (own_m 257 rfl))) (mvT hZ (hw _ (own_m 258 rfl))) (by decide) (backOf (W := 1) (own_cor l Z a0 hw [] y ky w c h5 n0 O0_x5 EY_x5 VY_x5 hc hl) hZ (hw _ (own_m 258 rfl)) (hw _ (own_m 257 rfl)) (by decide) (by decide)) (g := (mkF m 32 #[own_vr b, own_vr a, .val .null, own_vr y, own_vi (Int32.ofNat c)] [(.int (Int32.ofNat c)), (.int (0 : Int32)), (.ref y), (.ref b)])) rfl (by rw [hml]; rfl) (argsL := [(.ref y), (.int (0 : Int32)), (.int (Int32.ofNat c))]) (rest := [(.ref b)]) (lenOf own_pd16 rfl) rfl (by show 2 * 0 + _ ≤ _; exact Nat.le_of_eq rfl) (hb hby own_d34_32) (fun _ _ => ⟨rfl, e5, (by decide : 0 + 1 ≤ _), (by decide : 0 + 40 ≤ _)⟩)
 dsimp only [Pt.U, Pt.locs, Pt.cells, Pt.slots] at X6 l6 y6 z6 st6 hQ6
 subst l6 y6 z6
 obtain ⟨br6, kb6, rfl, N6q, K6, hb6, Vb6⟩ := hQ6
 have N6 := Fr.app N5 N6q
 refine own_st st6 ?_
 have ne6_b_br6 : b ≠ br6 := Nat.ne_of_lt (Nat.lt_of_lt_of_le ES_x5.lt hb6)
 have ne6_a_br6 : a ≠ br6 := Nat.ne_of_lt (Nat.lt_of_lt_of_le EA_x5.lt hb6)
 have ne6_y_br6 : y ≠ br6 := Nat.ne_of_lt (Nat.lt_of_lt_of_le EY_x5.lt hb6)
 have ge6_br6 : n0 ≤ br6 := Nat.le_trans (own_old_le O0_x5) hb6
 have sz6_br6 : h0.size ≤ br6 := Nat.le_trans K0_x5.1 hb6
 have O0_x6 := O0_x5.keep K6 all0
 have ES_x6 := ES_x5.keep K6
 have FS_x6 := FS_x5.keep K6 nin0
 have Fw5_x6 := Fw5.keep K6 nin0
 have EA_x6 := EA_x5.keep K6
 have FV_x6 := FV_x5.keep K6 nin0
 have FC_x6 := FC_x5.keep K6 nin0
 have FN_x6 := FN_x5.keep K6 nin0
 have EY_x6 := EY_x5.keep K6
 have VY_x6 := VY_x5.keep K6 nin0
 have K0_x6 := K0_x5.trans K6 all0
 obtain ⟨T7, h7, X7, e7, W7, st7⟩ := putF X6 hx hZ hown (host := "") (Or.inl (hw _ (own_m 166 rfl))) Via.refl rfl FS_x6 ES_x6 (Or.inr ⟨(hw _ (own_m 8 rfl)), rfl, hnm⟩) (hw _ (own_m 6 rfl)) (ty := (.array .byte)) (by decide) rfl rfl (g := (mkF m 35 #[own_vr b, own_vr a, .val .null, own_vr y, own_vi (Int32.ofNat c)] [(.ref br6), (.ref b)])) rfl rfl (hb hby own_d34_35)
 refine own_st st7 ?_
 have Fw7 := FS_x6.same W7
 have N7 := Fr.snoc X7 N6 gb
 have O0_x7 := O0_x6.wr W7 gb
 have ES_x7 := ES_x6.wr W7
 have Fw5_x7 := Fw5_x6.other W7 (Or.inr (slot_ne (Or.inr (hw _ (own_m 9 rfl))) (Or.inr (hw _ (own_m 8 rfl))) (by decide) (t := .byte) (t' := (.array .byte)) (by decide) (by decide)))
 have EA_x7 := EA_x6.wr W7
 have FV_x7 := FV_x6.other W7 (Or.inl (Exa.ne EA_x6 ES_x6 (by decide)))
 have FC_x7 := FC_x6.other W7 (Or.inl (Exa.ne EA_x6 ES_x6 (by decide)))
 have FN_x7 := FN_x6.other W7 (Or.inl (Exa.ne EA_x6 ES_x6 (by decide)))
 have EY_x7 := EY_x6.wr W7
 have VY_x7 := VY_x6.other W7 (Exa.ne EY_x6 ES_x6 (by decide))
 have K0_x7 := K0_x6.wr W7 (Or.inl (List.mem_of_getElem? (i := 0) rfl))
 have Vb6_x7 := Vb6.other W7 (Ne.symm ne6_b_br6)
 refine own_st (fun _ => XS.goto X7.here hx rfl (pc0 := 38) (pc' := 97) rfl (hb hby own_d34_38) (by decide) (by decide)) ?_
 show own_Rch _ _ _ _ T7 (mkF m 97 #[own_vr b, own_vr a, .val .null, own_vr y, own_vi (Int32.ofNat c)] [])
 refine own_retV X7 hx Bd.notSynchronized Bd.returns (hb hby own_d34_97) (by decide) (by decide) ?_
 rw [e7]
 exact ⟨_, _, rfl, N7, K0_x7, sz6_br6, ES_x7, Fw7, Fw5_x7, Vb6_x7⟩
theorem own_ef33 (m : MethodId) (x0 : Addr) (x1 : Addr) : entryFrame m #[(.ref x0), (.ref x1)] 2 = mkF m 0 #[own_vr x0, own_vr x1] [] := by first | (simp [entryFrame, mkF, argsToLocals, Value.category]; done) | rfl
abbrev own_c33 : ByteArray := jdk_42_method_53_code
theorem own_d33_0 : decode own_c33 0 = .ok (.aload_n 0, 1) := by decide +kernel
theorem own_d33_1 : decode own_c33 1 = .ok (.aload_n 1, 1) := by decide +kernel
theorem own_d33_2 : decode own_c33 2 = .ok (.aconst_null, 1) := by decide +kernel
theorem own_d33_3 : decode own_c33 3 = .ok (.invokespecial 489, 3) := by decide +kernel
theorem own_pd18 : parseMethodDescriptor "(Ljava/lang/AbstractStringBuilder;Ljava/lang/Void;)V" = some ⟨[(.object "java/lang/AbstractStringBuilder"), (.object "java/lang/Void")], none⟩ := by decide +kernel
theorem own_d33_6 : decode own_c33 6 = .ok (.return_, 1) := by decide +kernel
abbrev own_y18 : MethodName := ⟨"java/lang/String", "<init>", "(Ljava/lang/StringBuilder;)V"⟩
def own_Q_own_sis (Z : State) (b : Addr) (a : Addr) (y : Addr) (ky : ClassId) (w : List Value) (c : Nat) (cs : Int32) (h0 : Heap) (n0 : Nat) (v : Option Value) (h : Heap) (L : List Loc) : Prop := ∃ (yb : Addr) (kb : ClassId), v = none ∧ Fr n0 L ∧ Keep h0 h [b] ∧ h0.size ≤ yb ∧ Exa Z h b "java/lang/String" ∧ Fld Z h b "java/lang/String" "value" "[B" (.ref yb) ∧ Fld Z h b "java/lang/String" "coder" "B" (.int (0 : Int32)) ∧ Arv Z h yb kb .byte (Int32.ofNat (w.take c).length) (w.take c) (.int (0 : Int32))
theorem own_sis (l : Launch) (Z : State) (a0 : Array Value) (hw : ∀ d ∈ tables_1, d.before a0 Z = true) (ws : List Jvm.Cond) (b : Addr) (a : Addr) (y : Addr) (ky : ClassId) (w : List Value) (c : Nat) (cs : Int32) (h0 : Heap) (n0 : Nat) (O0 : Old Z n0 h0) (SC : Sta Z Z.heap "java/lang/String" "COMPACT_STRINGS" "Z" (.int cs)) (hcs : ¬ cs = 0) (ES : Exa Z h0 b "java/lang/String") (FS : Fld Z h0 b "java/lang/String" "value" "[B" .null) (GS : Fld Z h0 b "java/lang/String" "coder" "B" (.int (0 : Int32))) (gb : n0 ≤ b) (EA : Exa Z h0 a "java/lang/StringBuilder") (FV : Fld Z h0 a "java/lang/AbstractStringBuilder" "value" "[B" (.ref y)) (FC : Fld Z h0 a "java/lang/AbstractStringBuilder" "coder" "B" (.int (0 : Int32))) (FN : Fld Z h0 a "java/lang/AbstractStringBuilder" "count" "I" (.int (Int32.ofNat c))) (EY : Exa Z h0 y "[B") (VY : Arv Z h0 y ky .byte (Int32.ofNat w.length) w (.int (0 : Int32))) (hc : c ≤ w.length) (hl : w.length ≤ 40) :
    own_Mt l own_y18 own_c33 2 none ws (own_r 4 1 40 65) #[(.ref b), (.ref a)] Z h0 (own_Q_own_sis Z b a y ky w c cs h0 n0) := by
 refine MetFree.of_bodySF (plainFor_of_name own_pn0) hisR ?_
 intro p_ e s m args below meth c_ s₁ Bd hml0 hP hK
 obtain ⟨rfl, hZ, hh⟩ := hP
 have hx := Bd.exec
 have hby := Bd.bytes
 have hml : c_.maxLocals = 2 := hml0
 have hown : s.vm.findClass "java/lang/String" = some m.cls := findClass_of_methodNamed Bd.named
 have hnm := (name_of_methodNamed Bd.named Bd.method).1
 have X0 : Stand p_ l e (own_r 4 1 40 65) s m #[(.ref b), (.ref a)] below meth c_ s₁ [] 0 0 := Stand.of_body Bd
 have e0 : s₁.heap = h0 := by rw [← hh, Bd.state]; rfl
 have N0 := Fr.nil n0
 refine own_close (s := s) (Q := (own_Q_own_sis Z b a y ky w c cs h0 n0)) (own_st (fun _ => castTop (own_ef33 m b a)) ?_)
 have K0 := Keep.refl h0 [b]
 show own_Rch _ _ _ _ s₁ (mkF m 0 #[own_vr b, own_vr a] [])
 refine own_aloadN X0 hx hby own_d33_0 rfl rfl rfl ?_
 refine own_aloadN X0 hx hby own_d33_1 rfl rfl rfl ?_
 refine own_st (fun _ => XS.aconstNull X0.here hx rfl (hb hby own_d33_2)) ?_
 obtain ⟨_, _, ⟨T1, L1, k1, n1⟩, -, X1, ⟨Lc1, hQ1, l1, y1, z1⟩, st1⟩ := X0.specialBack hx (y := own_y17) rfl hown (mvT hZ (hw _ (own_m 237 rfl))) (mvT hZ (hw _ (own_m 238 rfl))) (mvT hZ (hw _ (own_m 239 rfl))) (by decide) (backOf (W := 0) (own_sia l Z a0 hw [] b a y ky w c cs h0 n0 O0 SC hcs ES FS GS gb EA FV FC FN EY VY hc hl) hZ (hw _ (own_m 239 rfl)) (hw _ (own_m 5 rfl)) (by decide) (by decide)) (g := (mkF m 3 #[own_vr b, own_vr a] [.null, (.ref a), (.ref b)])) rfl (by rw [hml]; rfl) (Steps.refl _) (a := b) (argsL := [(.ref a), .null]) (rest := []) (lenOf own_pd18 rfl) rfl (by show 2 * 0 + _ ≤ _; exact Nat.le_of_eq rfl) (hb hby own_d33_3) (fun _ _ => ⟨rfl, e0, (by decide : 0 + 1 ≤ _), (by decide : 0 + 40 ≤ _)⟩)
 dsimp only [Pt.U, Pt.locs, Pt.cells, Pt.slots] at X1 l1 y1 z1 st1 hQ1
 subst l1 y1 z1
 obtain ⟨yb1, kb1, rfl, N1q, K1, hy1, Es1, Fs1, Gs1, Vs1⟩ := hQ1
 have N1 := Fr.app N0 N1q
 refine own_st (fun _ kt => st1.trans kt) ?_
 have ne1_b_yb1 : b ≠ yb1 := Nat.ne_of_lt (Nat.lt_of_lt_of_le ES.lt hy1)
 have ne1_a_yb1 : a ≠ yb1 := Nat.ne_of_lt (Nat.lt_of_lt_of_le EA.lt hy1)
 have ne1_y_yb1 : y ≠ yb1 := Nat.ne_of_lt (Nat.lt_of_lt_of_le EY.lt hy1)
 have ge1_yb1 : n0 ≤ yb1 := Nat.le_trans (own_old_le O0) hy1
 have sz1_yb1 : h0.size ≤ yb1 := Nat.le_trans K0.1 hy1
 have O0_x1 := O0.keep K1 (allS gb all0)
 have ES_x1 := ES.keep K1
 have EA_x1 := EA.keep K1
 have FV_x1 := FV.keep K1 (ninS (Exa.ne EA ES (by decide)) nin0)
 have FC_x1 := FC.keep K1 (ninS (Exa.ne EA ES (by decide)) nin0)
 have FN_x1 := FN.keep K1 (ninS (Exa.ne EA ES (by decide)) nin0)
 have EY_x1 := EY.keep K1
 have VY_x1 := VY.keep K1 (ninS (Exa.ne EY ES (by decide)) nin0)
 have K0_x1 := K0.trans K1 (allS (Or.inl (List.mem_of_getElem? (i := 0) rfl)) all0)
 show own_Rch _ _ _ _ T1 (mkF m 6 #[own_vr b, own_vr a] [])
 refine own_retV X1 hx Bd.notSynchronized Bd.returns (hb hby own_d33_6) (by decide) (by decide) ?_
 exact ⟨_, _, rfl, N1, K0_x1, sz1_yb1, Es1, Fs1, Gs1, Vs1⟩
theorem own_ef32 (m : MethodId) (x0 : Addr) : entryFrame m #[(.ref x0)] 1 = mkF m 0 #[own_vr x0] [] := by first | (simp [entryFrame, mkF, argsToLocals, Value.category]; done) | rfl
abbrev own_c32 : ByteArray := jdk_67_method_42_code
theorem own_d32_0 : decode own_c32 0 = .ok (.new 18, 3) := by decide +kernel
theorem own_d32_3 : decode own_c32 3 = .ok (.dup, 1) := by decide +kernel
theorem own_d32_4 : decode own_c32 4 = .ok (.aload_n 0, 1) := by decide +kernel
theorem own_d32_5 : decode own_c32 5 = .ok (.invokespecial 137, 3) := by decide +kernel
theorem own_pd19 : parseMethodDescriptor "(Ljava/lang/StringBuilder;)V" = some ⟨[(.object "java/lang/StringBuilder")], none⟩ := by decide +kernel
theorem own_d32_8 : decode own_c32 8 = .ok (.areturn, 1) := by decide +kernel
abbrev own_y19 : MethodName := ⟨"java/lang/StringBuilder", "toString", "()Ljava/lang/String;"⟩
def own_Q_own_tos (Z : State) (a : Addr) (y : Addr) (ky : ClassId) (w : List Value) (c : Nat) (cs : Int32) (h0 : Heap) (n0 : Nat) (v : Option Value) (h : Heap) (L : List Loc) : Prop := ∃ (b yb : Addr) (kb : ClassId), v = some (.ref b) ∧ Fr n0 L ∧ Keep h0 h [] ∧ h0.size ≤ b ∧ h0.size ≤ yb ∧ Exa Z h b "java/lang/String" ∧ Fld Z h b "java/lang/String" "value" "[B" (.ref yb) ∧ Fld Z h b "java/lang/String" "coder" "B" (.int (0 : Int32)) ∧ Arv Z h yb kb .byte (Int32.ofNat (w.take c).length) (w.take c) (.int (0 : Int32))
theorem own_tos (l : Launch) (Z : State) (a0 : Array Value) (hw : ∀ d ∈ tables_1, d.before a0 Z = true) (ws : List Jvm.Cond) (a : Addr) (y : Addr) (ky : ClassId) (w : List Value) (c : Nat) (cs : Int32) (h0 : Heap) (n0 : Nat) (O0 : Old Z n0 h0) (SC : Sta Z Z.heap "java/lang/String" "COMPACT_STRINGS" "Z" (.int cs)) (hcs : ¬ cs = 0) (EA : Exa Z h0 a "java/lang/StringBuilder") (FV : Fld Z h0 a "java/lang/AbstractStringBuilder" "value" "[B" (.ref y)) (FC : Fld Z h0 a "java/lang/AbstractStringBuilder" "coder" "B" (.int (0 : Int32))) (FN : Fld Z h0 a "java/lang/AbstractStringBuilder" "count" "I" (.int (Int32.ofNat c))) (EY : Exa Z h0 y "[B") (VY : Arv Z h0 y ky .byte (Int32.ofNat w.length) w (.int (0 : Int32))) (hc : c ≤ w.length) (hl : w.length ≤ 40) :
    own_Mt l own_y19 own_c32 1 (some (.object "java/lang/String")) ws (own_r 5 2 44 79) #[(.ref a)] Z h0 (own_Q_own_tos Z a y ky w c cs h0 n0) := by
 refine MetFree.of_bodySF (plainFor_of_name own_pn4) hisR ?_
 intro p_ e s m args below meth c_ s₁ Bd hml0 hP hK
 obtain ⟨rfl, hZ, hh⟩ := hP
 have hx := Bd.exec
 have hby := Bd.bytes
 have hml : c_.maxLocals = 1 := hml0
 have hown : s.vm.findClass "java/lang/StringBuilder" = some m.cls := findClass_of_methodNamed Bd.named
 have hnm := (name_of_methodNamed Bd.named Bd.method).1
 have X0 : Stand p_ l e (own_r 5 2 44 79) s m #[(.ref a)] below meth c_ s₁ [] 0 0 := Stand.of_body Bd
 have e0 : s₁.heap = h0 := by rw [← hh, Bd.state]; rfl
 have N0 := Fr.nil n0
 refine own_close (s := s) (Q := (own_Q_own_tos Z a y ky w c cs h0 n0)) (own_st (fun _ => castTop (own_ef32 m a)) ?_)
 have K0 := Keep.refl h0 []
 obtain ⟨T1, h1, X1, e1, E1, A1, D1, U1, st1⟩ := newO X0 hx hZ hown (hw _ (own_m 232 rfl)) (hw _ (own_m 6 rfl)) (hw _ (own_m 5 rfl)) e0 (g := (mkF m 0 #[own_vr a] [])) rfl (hb hby own_d32_0) (by decide) (by decide)
 obtain ⟨b1, g1⟩ : ∃ z, z = h0.size := ⟨_, rfl⟩
 rw [← g1] at A1 D1 U1 st1
 have ge1 : n0 ≤ b1 := by rw [g1]; exact own_old_le O0
 have ne1_a : a ≠ b1 := by rw [g1]; exact Nat.ne_of_lt EA.lt
 have ne1_y : y ≠ b1 := by rw [g1]; exact Nat.ne_of_lt EY.lt
 have sz1 : h0.size ≤ b1 := by rw [g1]; exact K0.1
 have O0_x1 := O0.ext E1
 have EA_x1 := EA.ext E1
 have FV_x1 := FV.ext E1
 have FC_x1 := FC.ext E1
 have FN_x1 := FN.ext E1
 have EY_x1 := EY.ext E1
 have VY_x1 := VY.ext E1
 have K0_x1 := K0.ext E1
 refine own_st st1 ?_
 have F1_value : Fld Z h1 b1 "java/lang/String" "value" "[B" .null := D1 (Or.inr (hw _ (own_m 8 rfl))) (ty := (.array .byte)) (by decide)
 have F1_coder : Fld Z h1 b1 "java/lang/String" "coder" "B" (.int (0 : Int32)) := D1 (Or.inr (hw _ (own_m 9 rfl))) (ty := .byte) (by decide)
 refine own_dup X1 hx hby own_d32_3 rfl rfl rfl ?_
 refine own_aloadN X1 hx hby own_d32_4 rfl rfl rfl ?_
 obtain ⟨_, _, ⟨T2, L2, k2, n2⟩, -, X2, ⟨Lc2, hQ2, l2, y2, z2⟩, st2⟩ := X1.specialBack hx (y := own_y18) rfl hown (mvT hZ (hw _ (own_m 233 rfl))) (mvT hZ (hw _ (own_m 234 rfl))) (mvT hZ (hw _ (own_m 236 rfl))) (by decide) (backOf (W := 1) (own_sis l Z a0 hw [] b1 a y ky w c cs h1 n0 O0_x1 SC hcs A1 F1_value F1_coder ge1 EA_x1 FV_x1 FC_x1 FN_x1 EY_x1 VY_x1 hc hl) hZ (hw _ (own_m 236 rfl)) (hw _ (own_m 5 rfl)) (by decide) (by decide)) (g := (mkF m 5 #[own_vr a] [(.ref a), (.ref b1), (.ref b1)])) rfl (by rw [hml]; rfl) (Steps.refl _) (a := b1) (argsL := [(.ref a)]) (rest := [(.ref b1)]) (lenOf own_pd19 rfl) rfl (by show 2 * 0 + _ ≤ _; exact Nat.le_of_eq rfl) (hb hby own_d32_5) (fun _ _ => ⟨rfl, e1, (by decide : 1 + 1 ≤ _), (by decide : 4 + 40 ≤ _)⟩)
 dsimp only [Pt.U, Pt.locs, Pt.cells, Pt.slots] at X2 l2 y2 z2 st2 hQ2
 subst l2 y2 z2
 obtain ⟨yb2, kb2, rfl, N2q, K2, hy2, Es2, Fs2, Gs2, Vs2⟩ := hQ2
 have N2 := Fr.app N0 N2q
 refine own_st (fun _ kt => st2.trans kt) ?_
 have ne2_a_yb2 : a ≠ yb2 := Nat.ne_of_lt (Nat.lt_of_lt_of_le EA_x1.lt hy2)
 have ne2_y_yb2 : y ≠ yb2 := Nat.ne_of_lt (Nat.lt_of_lt_of_le EY_x1.lt hy2)
 have ne2_b1_yb2 : b1 ≠ yb2 := Nat.ne_of_lt (Nat.lt_of_lt_of_le F1_value.lt hy2)
 have ge2_yb2 : n0 ≤ yb2 := Nat.le_trans (own_old_le O0_x1) hy2
 have sz2_yb2 : h0.size ≤ yb2 := Nat.le_trans K0_x1.1 hy2
 have O0_x2 := O0_x1.keep K2 (allS ge1 all0)
 have EA_x2 := EA_x1.keep K2
 have FV_x2 := FV_x1.keep K2 (ninS ne1_a nin0)
 have FC_x2 := FC_x1.keep K2 (ninS ne1_a nin0)
 have FN_x2 := FN_x1.keep K2 (ninS ne1_a nin0)
 have EY_x2 := EY_x1.keep K2
 have VY_x2 := VY_x1.keep K2 (ninS ne1_y nin0)
 have K0_x2 := K0_x1.trans K2 (allS (Or.inr sz1) all0)
 have A1_x2 := A1.keep K2
 show own_Rch _ _ _ _ T2 (mkF m 8 #[own_vr a] [(.ref b1)])
 refine own_retA rfl rfl X2 hx Bd.notSynchronized Bd.returns (hb hby own_d32_8) (by decide) (by decide) ?_
 exact ⟨_, _, _, rfl, N2, K0_x2, sz1, sz2_yb2, Es2, Fs2, Gs2, Vs2⟩
theorem own_ef18 (m : MethodId) (x0 : Addr) (x1 : Int32) : entryFrame m #[(.ref x0), (.int x1)] 2 = mkF m 0 #[own_vr x0, own_vi x1] [] := by first | (simp [entryFrame, mkF, argsToLocals, Value.category]; done) | rfl
abbrev own_c18 : ByteArray := jdk_68_method_2_code
theorem own_d18_0 : decode own_c18 0 = .ok (.aload_n 0, 1) := by decide +kernel
theorem own_d18_1 : decode own_c18 1 = .ok (.invokespecial 3, 3) := by decide +kernel
theorem own_d18_4 : decode own_c18 4 = .ok (.getstatic 18, 3) := by decide +kernel
theorem own_d18_7 : decode own_c18 7 = .ok (.ifCond .eq 18, 3) := by decide +kernel
theorem own_d18_10 : decode own_c18 10 = .ok (.aload_n 0, 1) := by decide +kernel
theorem own_d18_11 : decode own_c18 11 = .ok (.iload_n 1, 1) := by decide +kernel
theorem own_d18_12 : decode own_c18 12 = .ok (.newarray .byte, 2) := by decide +kernel
theorem own_d18_14 : decode own_c18 14 = .ok (.putfield 15, 3) := by decide +kernel
theorem own_d18_17 : decode own_c18 17 = .ok (.aload_n 0, 1) := by decide +kernel
theorem own_d18_18 : decode own_c18 18 = .ok (.iconst 0, 1) := by decide +kernel
theorem own_d18_19 : decode own_c18 19 = .ok (.putfield 22, 3) := by decide +kernel
theorem own_d18_22 : decode own_c18 22 = .ok (.goto 16, 3) := by decide +kernel
theorem own_d18_38 : decode own_c18 38 = .ok (.return_, 1) := by decide +kernel
abbrev own_y20 : MethodName := ⟨"java/lang/AbstractStringBuilder", "<init>", "(I)V"⟩
def own_Q_own_asi (Z : State) (a : Addr) (cs : Int32) (h0 : Heap) (n0 : Nat) (v : Option Value) (h : Heap) (L : List Loc) : Prop := ∃ (y : Addr) (ky : ClassId), v = none ∧ Fr n0 L ∧ Keep h0 h [a] ∧ h0.size ≤ y ∧ Exa Z h a "java/lang/StringBuilder" ∧ Fld Z h a "java/lang/AbstractStringBuilder" "value" "[B" (.ref y) ∧ Fld Z h a "java/lang/AbstractStringBuilder" "coder" "B" (.int (0 : Int32)) ∧ Fld Z h a "java/lang/AbstractStringBuilder" "count" "I" (.int (Int32.ofNat 0)) ∧ Exa Z h y "[B" ∧ Arv Z h y ky .byte (Int32.ofNat (List.replicate 16 (Value.int 0)).length) (List.replicate 16 (Value.int 0)) (.int (0 : Int32))
theorem own_asi (l : Launch) (Z : State) (a0 : Array Value) (hw : ∀ d ∈ tables_1, d.before a0 Z = true) (ws : List Jvm.Cond) (a : Addr) (cs : Int32) (h0 : Heap) (n0 : Nat) (O0 : Old Z n0 h0) (SC : Sta Z Z.heap "java/lang/String" "COMPACT_STRINGS" "Z" (.int cs)) (hcs : ¬ cs = 0) (EA : Exa Z h0 a "java/lang/StringBuilder") (FV : Fld Z h0 a "java/lang/AbstractStringBuilder" "value" "[B" .null) (FC : Fld Z h0 a "java/lang/AbstractStringBuilder" "coder" "B" (.int (0 : Int32))) (FN : Fld Z h0 a "java/lang/AbstractStringBuilder" "count" "I" (.int (0 : Int32))) (ga : n0 ≤ a) :
    own_Mt l own_y20 own_c18 2 none ws (own_r 1 1 16 12) #[(.ref a), (.int (16 : Int32))] Z h0 (own_Q_own_asi Z a cs h0 n0) := by
 refine MetFree.of_bodySF (plainFor_of_name own_pn1) hisR ?_
 intro p_ e s m args below meth c_ s₁ Bd hml0 hP hK
 obtain ⟨rfl, hZ, hh⟩ := hP
 have hx := Bd.exec
 have hby := Bd.bytes
 have hml : c_.maxLocals = 2 := hml0
 have hown : s.vm.findClass "java/lang/AbstractStringBuilder" = some m.cls := findClass_of_methodNamed Bd.named
 have hnm := (name_of_methodNamed Bd.named Bd.method).1
 have X0 : Stand p_ l e (own_r 1 1 16 12) s m #[(.ref a), (.int (16 : Int32))] below meth c_ s₁ [] 0 0 := Stand.of_body Bd
 have e0 : s₁.heap = h0 := by rw [← hh, Bd.state]; rfl
 have N0 := Fr.nil n0
 refine own_close (s := s) (Q := (own_Q_own_asi Z a cs h0 n0)) (own_st (fun _ => castTop (own_ef18 m a (16 : Int32))) ?_)
 have K0 := Keep.refl h0 [a]
 show own_Rch _ _ _ _ s₁ (mkF m 0 #[own_vr a, own_vi (16 : Int32)] [])
 refine own_aloadN X0 hx hby own_d18_0 rfl rfl rfl ?_
 obtain ⟨T1, X1, e1, st1⟩ := initO X0 hx hZ hown (hw _ (own_m 145 rfl)) (hw _ (own_m 35 rfl)) (hw _ (own_m 36 rfl)) e0 (g := (mkF m 1 #[own_vr a, own_vi (16 : Int32)] [(.ref a)])) rfl (by rw [hml]; rfl) rfl (hb hby own_d18_1) (by decide) (W := 0) (by show 2 * 0 + _ ≤ _; exact Nat.le_of_eq rfl) (by decide)
 refine own_st st1 ?_
 obtain ⟨T2, X2, e2, st2⟩ := getS2 X1 hx hZ hown (host := "") (Or.inl (hw _ (own_m 146 rfl))) Via.refl e1 (SC.ext O0.2) (g := (mkF m 4 #[own_vr a, own_vi (16 : Int32)] [])) rfl (hb hby own_d18_4)
 refine own_st st2 ?_
 show own_Rch _ _ _ _ T2 (mkF m 7 #[own_vr a, own_vi (16 : Int32)] [(.int cs)])
 refine own_st (fun _ => XS.ifNo X2.here hx rfl (hb hby own_d18_7) rfl ((if0 _ _).trans (feq (hcs : ¬ (cs = (0 : Int32)))).1)) ?_
 refine own_aloadN X2 hx hby own_d18_10 rfl rfl rfl ?_
 refine own_iloadN X2 hx hby own_d18_11 rfl rfl ?_
 show own_Rch _ _ _ _ T2 (mkF m 12 #[own_vr a, own_vi (16 : Int32)] [(.int (16 : Int32)), (.ref a)])
 obtain ⟨T3, h3, k3, X3, e3, E3, A3, Ex3, st3⟩ := newPE X2 hx hZ (hw _ (own_m 7 rfl)) e2 (g := (mkF m 12 #[own_vr a, own_vi (16 : Int32)] [(.int (16 : Int32)), (.ref a)])) rfl (hb hby own_d18_12) (n := Int32.ofNat 16) rfl (own_nneg (by decide)) (cap := 16) (by rw [own_n32 (by decide)]; decide) (by decide) (by decide) (by decide) (ad := "[B") rfl
 obtain ⟨b3, g3⟩ : ∃ z, z = h0.size := ⟨_, rfl⟩
 rw [← g3] at A3 Ex3 st3
 have ge3 : n0 ≤ b3 := by rw [g3]; exact own_old_le O0
 have ne3_a : a ≠ b3 := by rw [g3]; exact Nat.ne_of_lt EA.lt
 have sz3 : h0.size ≤ b3 := by rw [g3]; exact K0.1
 have O0_x3 := O0.ext E3
 have EA_x3 := EA.ext E3
 have FV_x3 := FV.ext E3
 have FC_x3 := FC.ext E3
 have FN_x3 := FN.ext E3
 have K0_x3 := K0.ext E3
 refine own_st st3 ?_
 have V3 := own_newv A3 (by decide)
 obtain ⟨T4, h4, X4, e4, W4, st4⟩ := putF X3 hx hZ hown (host := "") (Or.inl (hw _ (own_m 147 rfl))) Via.refl e3 FV_x3 EA_x3 (Or.inl (hw _ (own_m 148 rfl))) (hw _ (own_m 134 rfl)) (ty := (.array .byte)) (by decide) rfl rfl (g := (mkF m 14 #[own_vr a, own_vi (16 : Int32)] [(.ref b3), (.ref a)])) rfl rfl (hb hby own_d18_14)
 refine own_st st4 ?_
 have Fw4 := FV_x3.same W4
 have N4 := Fr.snoc X4 N0 ga
 have O0_x4 := O0_x3.wr W4 ga
 have EA_x4 := EA_x3.wr W4
 have FC_x4 := FC_x3.other W4 (Or.inr (slot_ne (Or.inl (hw _ (own_m 150 rfl))) (Or.inl (hw _ (own_m 148 rfl))) (by decide) (t := .byte) (t' := (.array .byte)) (by decide) (by decide)))
 have FN_x4 := FN_x3.other W4 (Or.inr (slot_ne (Or.inl (hw _ (own_m 175 rfl))) (Or.inl (hw _ (own_m 148 rfl))) (by decide) (t := .int) (t' := (.array .byte)) (by decide) (by decide)))
 have K0_x4 := K0_x3.wr W4 (Or.inl (List.mem_of_getElem? (i := 0) rfl))
 have V3_x4 := V3.other W4 (Ne.symm ne3_a)
 have Ex3_x4 := Ex3.wr W4
 refine own_aloadN X4 hx hby own_d18_17 rfl rfl rfl ?_
 refine own_iconst X4 hx hby own_d18_18 rfl ?_
 obtain ⟨T5, h5, X5, e5, W5, st5⟩ := putFN X4 hx hZ hown (hw _ (own_m 149 rfl)) Via.refl e4 FC_x4 EA_x4 (Or.inl (hw _ (own_m 150 rfl))) (hw _ (own_m 134 rfl)) (ty := .byte) (v' := (.int (0 : Int32))) (by decide) rfl (by decide) (g := (mkF m 19 #[own_vr a, own_vi (16 : Int32)] [(.int (0 : Int32)), (.ref a)])) rfl rfl (hb hby own_d18_19)
 refine own_st st5 ?_
 have Fw5 := FC_x4.same W5
 have N5 := Fr.snoc X5 N4 ga
 have O0_x5 := O0_x4.wr W5 ga
 have EA_x5 := EA_x4.wr W5
 have Fw4_x5 := Fw4.other W5 (Or.inr (slot_ne (Or.inl (hw _ (own_m 148 rfl))) (Or.inl (hw _ (own_m 150 rfl))) (by decide) (t := (.array .byte)) (t' := .byte) (by decide) (by decide)))
 have FN_x5 := FN_x4.other W5 (Or.inr (slot_ne (Or.inl (hw _ (own_m 175 rfl))) (Or.inl (hw _ (own_m 150 rfl))) (by decide) (t := .int) (t' := .byte) (by decide) (by decide)))
 have K0_x5 := K0_x4.wr W5 (Or.inl (List.mem_of_getElem? (i := 0) rfl))
 have V3_x5 := V3_x4.other W5 (Ne.symm ne3_a)
 have Ex3_x5 := Ex3_x4.wr W5
 refine own_st (fun _ => XS.goto X5.here hx rfl (pc0 := 22) (pc' := 38) rfl (hb hby own_d18_22) (by decide) (by decide)) ?_
 show own_Rch _ _ _ _ T5 (mkF m 38 #[own_vr a, own_vi (16 : Int32)] [])
 refine own_retV X5 hx Bd.notSynchronized Bd.returns (hb hby own_d18_38) (by decide) (by decide) ?_
 rw [e5]
 exact ⟨_, _, rfl, N5, K0_x5, sz3, EA_x5, Fw4_x5, Fw5, FN_x5, Ex3_x5, V3_x5⟩
theorem own_ef17 (m : MethodId) (x0 : Addr) : entryFrame m #[(.ref x0)] 1 = mkF m 0 #[own_vr x0] [] := by first | (simp [entryFrame, mkF, argsToLocals, Value.category]; done) | rfl
abbrev own_c17 : ByteArray := jdk_67_method_1_code
theorem own_d17_0 : decode own_c17 0 = .ok (.aload_n 0, 1) := by decide +kernel
theorem own_d17_1 : decode own_c17 1 = .ok (.bipush 16, 2) := by decide +kernel
theorem own_d17_3 : decode own_c17 3 = .ok (.invokespecial 1, 3) := by decide +kernel
theorem own_d17_6 : decode own_c17 6 = .ok (.return_, 1) := by decide +kernel
abbrev own_y21 : MethodName := ⟨"java/lang/StringBuilder", "<init>", "()V"⟩
def own_Q_own_sbi (Z : State) (a : Addr) (cs : Int32) (h0 : Heap) (n0 : Nat) (v : Option Value) (h : Heap) (L : List Loc) : Prop := ∃ (y : Addr) (ky : ClassId), v = none ∧ Fr n0 L ∧ Keep h0 h [a] ∧ h0.size ≤ y ∧ Exa Z h a "java/lang/StringBuilder" ∧ Fld Z h a "java/lang/AbstractStringBuilder" "value" "[B" (.ref y) ∧ Fld Z h a "java/lang/AbstractStringBuilder" "coder" "B" (.int (0 : Int32)) ∧ Fld Z h a "java/lang/AbstractStringBuilder" "count" "I" (.int (Int32.ofNat 0)) ∧ Exa Z h y "[B" ∧ Arv Z h y ky .byte (Int32.ofNat (List.replicate 16 (Value.int 0)).length) (List.replicate 16 (Value.int 0)) (.int (0 : Int32))
theorem own_sbi (l : Launch) (Z : State) (a0 : Array Value) (hw : ∀ d ∈ tables_1, d.before a0 Z = true) (ws : List Jvm.Cond) (a : Addr) (cs : Int32) (h0 : Heap) (n0 : Nat) (O0 : Old Z n0 h0) (SC : Sta Z Z.heap "java/lang/String" "COMPACT_STRINGS" "Z" (.int cs)) (hcs : ¬ cs = 0) (EA : Exa Z h0 a "java/lang/StringBuilder") (FV : Fld Z h0 a "java/lang/AbstractStringBuilder" "value" "[B" .null) (FC : Fld Z h0 a "java/lang/AbstractStringBuilder" "coder" "B" (.int (0 : Int32))) (FN : Fld Z h0 a "java/lang/AbstractStringBuilder" "count" "I" (.int (0 : Int32))) (ga : n0 ≤ a) :
    own_Mt l own_y21 own_c17 1 none ws (own_r 2 1 16 25) #[(.ref a)] Z h0 (own_Q_own_sbi Z a cs h0 n0) := by
 refine MetFree.of_bodySF (plainFor_of_name own_pn4) hisR ?_
 intro p_ e s m args below meth c_ s₁ Bd hml0 hP hK
 obtain ⟨rfl, hZ, hh⟩ := hP
 have hx := Bd.exec
 have hby := Bd.bytes
 have hml : c_.maxLocals = 1 := hml0
 have hown : s.vm.findClass "java/lang/StringBuilder" = some m.cls := findClass_of_methodNamed Bd.named
 have hnm := (name_of_methodNamed Bd.named Bd.method).1
 have X0 : Stand p_ l e (own_r 2 1 16 25) s m #[(.ref a)] below meth c_ s₁ [] 0 0 := Stand.of_body Bd
 have e0 : s₁.heap = h0 := by rw [← hh, Bd.state]; rfl
 have N0 := Fr.nil n0
 refine own_close (s := s) (Q := (own_Q_own_sbi Z a cs h0 n0)) (own_st (fun _ => castTop (own_ef17 m a)) ?_)
 have K0 := Keep.refl h0 [a]
 show own_Rch _ _ _ _ s₁ (mkF m 0 #[own_vr a] [])
 refine own_aloadN X0 hx hby own_d17_0 rfl rfl rfl ?_
 refine own_st (fun _ => XS.bipush X0.here hx rfl (hb hby own_d17_1)) ?_
 obtain ⟨_, _, ⟨T1, L1, k1, n1⟩, -, X1, ⟨Lc1, hQ1, l1, y1, z1⟩, st1⟩ := X0.specialBack hx (y := own_y20) rfl hown (mvT hZ (hw _ (own_m 139 rfl))) (mvT hZ (hw _ (own_m 140 rfl))) (mvT hZ (hw _ (own_m 144 rfl))) (by decide) (backOf (W := 0) (own_asi l Z a0 hw [] a cs h0 n0 O0 SC hcs EA FV FC FN ga) hZ (hw _ (own_m 144 rfl)) (hw _ (own_m 143 rfl)) (by decide) (by decide)) (g := (mkF m 3 #[own_vr a] [(.int (16 : Int32)), (.ref a)])) rfl (by rw [hml]; rfl) (Steps.refl _) (a := a) (argsL := [(.int (16 : Int32))]) (rest := []) (lenOf own_pd8 rfl) rfl (by show 2 * 0 + _ ≤ _; exact Nat.le_of_eq rfl) (hb hby own_d17_3) (fun _ _ => ⟨rfl, e0, (by decide : 0 + 1 ≤ _), (by decide : 0 + 16 ≤ _)⟩)
 dsimp only [Pt.U, Pt.locs, Pt.cells, Pt.slots] at X1 l1 y1 z1 st1 hQ1
 subst l1 y1 z1
 obtain ⟨y1, ky1, rfl, N1q, K1, hy1, Ea1, Fv1, Fc1, Fn1, Ey1, Vy1⟩ := hQ1
 have N1 := Fr.app N0 N1q
 refine own_st (fun _ kt => st1.trans kt) ?_
 have ne1_a_y1 : a ≠ y1 := Nat.ne_of_lt (Nat.lt_of_lt_of_le EA.lt hy1)
 have ge1_y1 : n0 ≤ y1 := Nat.le_trans (own_old_le O0) hy1
 have sz1_y1 : h0.size ≤ y1 := Nat.le_trans K0.1 hy1
 have O0_x1 := O0.keep K1 (allS ga all0)
 have EA_x1 := EA.keep K1
 have K0_x1 := K0.trans K1 (allS (Or.inl (List.mem_of_getElem? (i := 0) rfl)) all0)
 show own_Rch _ _ _ _ T1 (mkF m 6 #[own_vr a] [])
 refine own_retV X1 hx Bd.notSynchronized Bd.returns (hb hby own_d17_6) (by decide) (by decide) ?_
 exact ⟨_, _, rfl, N1, K0_x1, sz1_y1, Ea1, Fv1, Fc1, Fn1, Ey1, Vy1⟩
def own_lit : List Value := [(.int (44 : Int32)), (.int (32 : Int32)), (.int (108 : Int32)), (.int (105 : Int32)), (.int (110 : Int32)), (.int (101 : Int32)), (.int (32 : Int32))]
def own_w2 (us : List Value) : List Value := own_put (own_put (List.replicate 16 (Value.int 0)) 0 us) (0 + us.length) own_lit
/-- the bytes of 'place' -/
def own_plc (us : List Value) (r : Nat) (x : Int64) (nn : Nat) (D1 D2 : Cell) : List Value := (own_gc (own_gw (own_w2 us) (0 + us.length + own_lit.length + r)) (0 + us.length + own_lit.length + r) x nn D1 D2).take (0 + us.length + own_lit.length + r)
theorem own_w2_len {us : List Value} (h : us.length ≤ 3) : (own_w2 us).length = 16 := by
  unfold own_w2
  have e1 : (own_put (List.replicate 16 (Value.int 0)) 0 us).length = 16 := by rw [own_put_len (by rw [List.length_replicate]; omega), List.length_replicate]
  rw [own_put_len (by rw [e1]; show 0 + us.length + 7 ≤ 16; omega), e1]
theorem own_plc_len {us : List Value} {r : Nat} {x : Int64} {nn : Nat} {D1 D2 : Cell} (h : us.length ≤ 3) (hr : r ≤ 21) : (own_plc us r x nn D1 D2).length ≤ 31 := by
  unfold own_plc
  rw [List.length_take]
  have : own_lit.length = 7 := rfl
  omega
theorem own_pn5 : plainName "com/example/makewhole/makewhole/plandata/PlanDataFormatException" = true := by first | (simp [plainName, overriddenIn]; done) | decide +kernel
theorem own_ef16 (m : MethodId) (x0 : Addr) (x1 : Int64) : entryFrame m #[(.ref x0), (.long x1)] 3 = mkF m 0 #[own_vr x0, own_vl x1, .second] [] := by first | (simp [entryFrame, mkF, argsToLocals, Value.category]; done) | rfl
abbrev own_c16 : ByteArray := prog_43_method_2_code
theorem own_d16_0 : decode own_c16 0 = .ok (.new 1, 3) := by decide +kernel
theorem own_d16_3 : decode own_c16 3 = .ok (.dup, 1) := by decide +kernel
theorem own_d16_4 : decode own_c16 4 = .ok (.invokespecial 3, 3) := by decide +kernel
theorem own_pd20 : parseMethodDescriptor "()V" = some ⟨[], none⟩ := by decide +kernel
theorem own_d16_7 : decode own_c16 7 = .ok (.aload_n 0, 1) := by decide +kernel
theorem own_d16_8 : decode own_c16 8 = .ok (.invokevirtual 13, 3) := by decide +kernel
theorem own_pd21 : parseMethodDescriptor "(Ljava/lang/String;)Ljava/lang/StringBuilder;" = some ⟨[(.object "java/lang/String")], some (.object "java/lang/StringBuilder")⟩ := by decide +kernel
theorem own_d16_11 : decode own_c16 11 = .ok (.ldc 28, 2) := by decide +kernel
theorem own_d16_13 : decode own_c16 13 = .ok (.invokevirtual 13, 3) := by decide +kernel
theorem own_d16_16 : decode own_c16 16 = .ok (.lload_n 1, 1) := by decide +kernel
theorem own_d16_17 : decode own_c16 17 = .ok (.invokevirtual 30, 3) := by decide +kernel
theorem own_pd22 : parseMethodDescriptor "(J)Ljava/lang/StringBuilder;" = some ⟨[.long], some (.object "java/lang/StringBuilder")⟩ := by decide +kernel
theorem own_d16_20 : decode own_c16 20 = .ok (.invokevirtual 19, 3) := by decide +kernel
theorem own_pd23 : parseMethodDescriptor "()Ljava/lang/String;" = some ⟨[], some (.object "java/lang/String")⟩ := by decide +kernel
theorem own_d16_23 : decode own_c16 23 = .ok (.areturn, 1) := by decide +kernel
abbrev own_y22 : MethodName := ⟨"com/example/makewhole/makewhole/plandata/PlanDataFormatException", "place", "(Ljava/lang/String;J)Ljava/lang/String;"⟩
def own_Q_own_place (Z : State) (sa : Addr) (sy : Addr) (sk : ClassId) (us : List Value) (x : Int64) (nn : Nat) (r : Nat) (st : Addr) (d1 : Addr) (d2 : Addr) (DO : Cell) (DN : Cell) (cs : Int32) (h0 : Heap) (n0 : Nat) (v : Option Value) (h : Heap) (L : List Loc) : Prop := ∃ (b yb : Addr) (kb : ClassId), v = some (.ref b) ∧ Fr n0 L ∧ Keep h0 h [] ∧ h0.size ≤ b ∧ h0.size ≤ yb ∧ Exa Z h b "java/lang/String" ∧ Fld Z h b "java/lang/String" "value" "[B" (.ref yb) ∧ Fld Z h b "java/lang/String" "coder" "B" (.int (0 : Int32)) ∧ Arv Z h yb kb .byte (Int32.ofNat (own_plc us r x nn DO DN).length) (own_plc us r x nn DO DN) (.int (0 : Int32))
theorem own_place (l : Launch) (Z : State) (a0 : Array Value) (hw : ∀ d ∈ tables_1, d.before a0 Z = true) (ws : List Jvm.Cond) (sa : Addr) (sy : Addr) (sk : ClassId) (us : List Value) (x : Int64) (nn : Nat) (r : Nat) (st : Addr) (d1 : Addr) (d2 : Addr) (DO : Cell) (DN : Cell) (cs : Int32) (h0 : Heap) (n0 : Nat) (O0 : Old Z n0 h0) (SC : Sta Z Z.heap "java/lang/String" "COMPACT_STRINGS" "Z" (.int cs)) (hcs : ¬ cs = 0) (ES : Exa Z h0 sa "java/lang/String") (FS : Fld Z h0 sa "java/lang/String" "value" "[B" (.ref sy)) (GS : Fld Z h0 sa "java/lang/String" "coder" "B" (.int (0 : Int32))) (VS : Arv Z h0 sy sk .byte (Int32.ofNat us.length) us (.int (0 : Int32))) (hus : us.length ≤ 3) (hr21 : r ≤ 21) (hnn : nn ≤ 2 ^ 63) (hneg : (if x < 0 then x else -x) = Jvm.Free.SBG.negL nn) (hr : r = Jvm.Free.SBG.digitsL nn + Jvm.Free.SBG.GetCharsL.sgnL x) (DT1 : Jvm.Free.SBG.Tbl Z "DigitOnes" st d1 DO) (DT2 : Jvm.Free.SBG.Tbl Z "DigitTens" st d2 DN) :
    MetFree l own_y22 (head1 (Jvm.Cond.code own_y22 prog_43_method_2_code 3 (some (.object "java/lang/String")) :: ws) (own_r 6 7 130 132)) (fun args_ U => args_ = #[(.ref sa), (.long x)] ∧ Z.Warmed39 U.vm ∧ U.heap = h0 ∧ CHv Z consts_1 U.vm h0) (fun _ _ _ _ _ => True) (fun _ U o U' => ∃ v L, o = .returned v ∧ (own_Q_own_place Z sa sy sk us x nn r st d1 d2 DO DN cs h0 n0) v U'.heap L ∧ CHr Z consts_1 U.vm U.heap U'.vm U'.heap ∧ ReturnedEndW U o U' L (own_r 6 7 130 132).cells (own_r 6 7 130 132).slots) := by
 refine MetFree.of_bodySF (plainFor_of_name own_pn5) hisR ?_
 intro p_ e s m args below meth c_ s₁ Bd hml0 hP hK
 obtain ⟨rfl, hZ, hh, hCH⟩ := hP
 have hx := Bd.exec
 have hby := Bd.bytes
 have hml : c_.maxLocals = 3 := hml0
 have hown : s.vm.findClass "com/example/makewhole/makewhole/plandata/PlanDataFormatException" = some m.cls := findClass_of_methodNamed Bd.named
 have hnm := (name_of_methodNamed Bd.named Bd.method).1
 have X0 : Stand p_ l e (own_r 6 7 130 132) (s.setVm s.vm) m #[(.ref sa), (.long x)] below meth c_ s₁ [] 0 0 := Stand.of_body Bd
 have e0 : s₁.heap = h0 := by rw [← hh, Bd.state]; rfl
 have N0 := Fr.nil n0
 have hh0 : s.heap = h0 := hh
 have CR0 : CHr Z consts_1 s.vm h0 s.vm h0 := CHr.refl hCH
 have hS0 : s.Since s.vm 0 := own_since s
 have hk0 : 0 ≤ h0.size := Nat.zero_le _
 refine own_closeH (Z := Z) (EL := consts_1) (s := s) (Q := (own_Q_own_place Z sa sy sk us x nn r st d1 d2 DO DN cs h0 n0)) (own_st (fun _ => castTop (own_ef16 m sa x)) ?_)
 have K0 := Keep.refl h0 []
 obtain ⟨T1, h1, X1, e1, E1, A1, D1, U1, st1⟩ := newO X0 hx hZ hown (hw _ (own_m 133 rfl)) (hw _ (own_m 134 rfl)) (hw _ (own_m 135 rfl)) e0 (g := (mkF m 0 #[own_vr sa, own_vl x, .second] [])) rfl (hb hby own_d16_0) (by decide) (by decide)
 obtain ⟨b1, g1⟩ : ∃ z, z = h0.size := ⟨_, rfl⟩
 rw [← g1] at A1 D1 U1 st1
 have ge1 : n0 ≤ b1 := by rw [g1]; exact own_old_le O0
 have ne1_sa : sa ≠ b1 := by rw [g1]; exact Nat.ne_of_lt ES.lt
 have ne1_sy : sy ≠ b1 := by rw [g1]; exact Nat.ne_of_lt VS.lt
 have sz1 : h0.size ≤ b1 := by rw [g1]; exact K0.1
 have hkk1 := Nat.le_trans hk0 E1.1
 have O0_x1 := O0.ext E1
 have CR0_x1 := CR0.trans (CHr.ext E1 CR0.1)
 have ES_x1 := ES.ext E1
 have FS_x1 := FS.ext E1
 have GS_x1 := GS.ext E1
 have VS_x1 := VS.ext E1
 have K0_x1 := K0.ext E1
 have Y1 := Safe.ext E1 CR0.1 (Safe.new (Nat.le_of_eq g1.symm))
 refine own_st st1 ?_
 have F1_value : Fld Z h1 b1 "java/lang/AbstractStringBuilder" "value" "[B" .null := D1 (Or.inl (hw _ (own_m 148 rfl))) (ty := (.array .byte)) (by decide)
 have F1_coder : Fld Z h1 b1 "java/lang/AbstractStringBuilder" "coder" "B" (.int (0 : Int32)) := D1 (Or.inl (hw _ (own_m 150 rfl))) (ty := .byte) (by decide)
 have F1_count : Fld Z h1 b1 "java/lang/AbstractStringBuilder" "count" "I" (.int (0 : Int32)) := D1 (Or.inl (hw _ (own_m 175 rfl))) (ty := .int) (by decide)
 refine own_dup X1 hx hby own_d16_3 rfl rfl rfl ?_
 obtain ⟨_, _, ⟨T2, L2, k2, n2⟩, -, X2, ⟨Lc2, hQ2, l2, y2, z2⟩, st2⟩ := X1.specialBack hx (y := own_y21) rfl hown (mvT hZ (hw _ (own_m 136 rfl))) (mvT hZ (hw _ (own_m 137 rfl))) (mvT hZ (hw _ (own_m 138 rfl))) (by decide) (backOf (W := 1) (own_sbi l Z a0 hw [] b1 cs h1 n0 O0_x1 SC hcs A1 F1_value F1_coder F1_count ge1) hZ (hw _ (own_m 138 rfl)) (hw _ (own_m 135 rfl)) (by decide) (by decide)) (g := (mkF m 4 #[own_vr sa, own_vl x, .second] [(.ref b1), (.ref b1)])) rfl (by rw [hml]; rfl) (Steps.refl _) (a := b1) (argsL := []) (rest := [(.ref b1)]) (lenOf own_pd20 rfl) rfl (by show 2 * 0 + _ ≤ _; exact Nat.le_of_eq rfl) (hb hby own_d16_4) (fun _ _ => ⟨rfl, e1, (by decide : 1 + 1 ≤ _), (by decide : 4 + 16 ≤ _)⟩)
 dsimp only [Pt.U, Pt.locs, Pt.cells, Pt.slots] at X2 l2 y2 z2 st2 hQ2
 subst l2 y2 z2
 obtain ⟨y2, ky2, rfl, N2q, K2, hy2, Ea2, Fv2, Fc2, Fn2, Ey2, Vy2⟩ := hQ2
 have N2 := Fr.app N0 N2q
 refine own_st (fun _ kt => st2.trans kt) ?_
 have ne2_sa_y2 : sa ≠ y2 := Nat.ne_of_lt (Nat.lt_of_lt_of_le ES_x1.lt hy2)
 have ne2_sy_y2 : sy ≠ y2 := Nat.ne_of_lt (Nat.lt_of_lt_of_le VS_x1.lt hy2)
 have ne2_b1_y2 : b1 ≠ y2 := Nat.ne_of_lt (Nat.lt_of_lt_of_le F1_value.lt hy2)
 have ge2_y2 : n0 ≤ y2 := Nat.le_trans (own_old_le O0_x1) hy2
 have sz2_y2 : h0.size ≤ y2 := Nat.le_trans K0_x1.1 hy2
 have hkk2 := Nat.le_trans hkk1 K2.1
 have O0_x2 := O0_x1.keep K2 (allS ge1 all0)
 have CR0_x2 := CR0_x1.trans (CHr.keep K2 (sfS Y1 sf0) CR0_x1.1)
 have ES_x2 := ES_x1.keep K2
 have FS_x2 := FS_x1.keep K2 (ninS ne1_sa nin0)
 have GS_x2 := GS_x1.keep K2 (ninS ne1_sa nin0)
 have VS_x2 := VS_x1.keep K2 (ninS ne1_sy nin0)
 have K0_x2 := K0_x1.trans K2 (allS (Or.inr sz1) all0)
 have Y1_x2 := Safe.keep K2 (sfS Y1 sf0) CR0_x1.1 Y1
 have A1_x2 := A1.keep K2
 have Y2_y2 := Safe.keep K2 (sfS Y1 sf0) CR0_x1.1 (Safe.new hy2)
 refine own_aloadN X2 hx hby own_d16_7 rfl rfl rfl ?_
 obtain ⟨cq3, kq3, q3a, q3b, q3c⟩ := isOf hZ rfl Ea2
 obtain ⟨_, _, ⟨T3, L3, k3, n3⟩, -, X3, ⟨Lc3, hQ3, l3, y3, z3⟩, st3⟩ := X2.virtualBack hx (y := own_y7) (z := own_y7) hown (mvT hZ (hw _ (own_m 151 rfl))) (mvT hZ (hw _ (own_m 152 rfl))) (notFace_of_selects (args := #[]) (mvT hZ (hw _ (own_m 154 rfl)))) (mvT hZ (hw _ (own_m 154 rfl))) (mvT hZ (hw _ (own_m 153 rfl))) (by decide) (backOf (W := 0) (own_sps l Z a0 hw [] b1 y2 ky2 (List.replicate 16 (Value.int 0)) 0 sa sy sk us cs T2.heap n0 O0_x2 SC hcs Ea2 Fv2 Fc2 Fn2 Ey2 Vy2 ES_x2 FS_x2 GS_x2 VS_x2 (by rw [List.length_replicate]; decide) (by rw [List.length_replicate]; omega) ge1 ge2_y2 ne2_sy_y2) hZ (hw _ (own_m 155 rfl)) (hw _ (own_m 135 rfl)) (by decide) (by decide)) q3a q3c (g := (mkF m 8 #[own_vr sa, own_vl x, .second] [(.ref sa), (.ref b1)])) rfl (by rw [hml]; rfl) (Steps.refl _) (argsL := [(.ref sa)]) (rest := []) (lenOf own_pd21 rfl) rfl (by show 2 * 0 + _ ≤ _; exact Nat.le_of_eq rfl) (hb hby own_d16_8) (fun _ _ => ⟨rfl, rfl, (by decide : 2 + 0 ≤ _), (by decide : 20 + 0 ≤ _)⟩)
 dsimp only [Pt.U, Pt.locs, Pt.cells, Pt.slots] at X3 l3 y3 z3 st3 hQ3
 subst l3 y3 z3
 obtain ⟨rfl, N3q, K3, Ea3, Fv3, Fc3, Fn3, Ey3, Vy3⟩ := hQ3
 have N3 := Fr.app N2 N3q
 refine own_st (fun _ kt => st3.trans kt) ?_
 have hkk3 := Nat.le_trans hkk2 K3.1
 have O0_x3 := O0_x2.keep K3 (allS ge1 (allS ge2_y2 all0))
 have CR0_x3 := CR0_x2.trans (CHr.keep K3 (sfS Y1_x2 (sfS Y2_y2 sf0)) CR0_x2.1)
 have ES_x3 := ES_x2.keep K3
 have FS_x3 := FS_x2.keep K3 (ninS ne1_sa (ninS ne2_sa_y2 nin0))
 have GS_x3 := GS_x2.keep K3 (ninS ne1_sa (ninS ne2_sa_y2 nin0))
 have VS_x3 := VS_x2.keep K3 (ninS ne1_sy (ninS ne2_sy_y2 nin0))
 have K0_x3 := K0_x2.trans K3 (allS (Or.inr sz1) (allS (Or.inr sz2_y2) all0))
 have Y1_x3 := Safe.keep K3 (sfS Y1_x2 (sfS Y2_y2 sf0)) CR0_x2.1 Y1_x2
 have Ea2_x3 := Ea2.keep K3
 have Ey2_x3 := Ey2.keep K3
 have Y2_y2_x3 := Safe.keep K3 (sfS Y1_x2 (sfS Y2_y2 sf0)) CR0_x2.1 Y2_y2
 obtain ⟨sl4, T4, h4, ks4, sd4, kd4, X4, e4, E4, hS4, hk4, hZ4, hown4, Es4, Fc4, Fv4, Va4, -, -, CB4, Lt4, hne4, st4⟩ := ldcCH (s := s) X3 hx hZ hown (hw _ (own_m 201 rfl)) (own_wS hw) rfl hS0 hkk3 (own_hEL hw) (List.mem_of_getElem? (i := 2) rfl) CR0_x3.1 (vs := [(.int (44 : Int32)), (.int (32 : Int32)), (.int (108 : Int32)), (.int (105 : Int32)), (.int (110 : Int32)), (.int (101 : Int32)), (.int (32 : Int32))]) (z := (7 : Int32)) ⟨by decide, by decide⟩ (by decide) (by decide) (g := (mkF m 11 #[own_vr sa, own_vl x, .second] [(.ref b1)])) rfl (hb hby own_d16_11) (n := 28) (by decide) (by decide) (by decide) (by decide)
 have Yq4_b1 := CB4.safe Ea3.lt Y1_x3
 have Yq4_y2 := CB4.safe Ey3.lt Y2_y2_x3
 have O0_x4 := O0_x3.ext E4
 have CR0_x4 := CR0_x3.trans CB4
 have ES_x4 := ES_x3.ext E4
 have FS_x4 := FS_x3.ext E4
 have GS_x4 := GS_x3.ext E4
 have VS_x4 := VS_x3.ext E4
 have K0_x4 := K0_x3.ext E4
 have Ea3_x4 := Ea3.ext E4
 have Ey3_x4 := Ey3.ext E4
 have Fv3_x4 := Fv3.ext E4
 have Fc3_x4 := Fc3.ext E4
 have Fn3_x4 := Fn3.ext E4
 have Vy3_x4 := Vy3.ext E4
 have nq4_b1 := hne4 b1 Yq4_b1
 have nq4_y2 := hne4 y2 Yq4_y2
 refine own_st st4 ?_
 obtain ⟨cq5, kq5, q5a, q5b, q5c⟩ := isOf hZ4 e4 Ea3_x4
 obtain ⟨_, _, ⟨T5, L5, k5, n5⟩, -, X5, ⟨Lc5, hQ5, l5, y5, z5⟩, st5⟩ := X4.virtualBack hx (y := own_y7) (z := own_y7) hown4 (mvT hZ4 (hw _ (own_m 151 rfl))) (mvT hZ4 (hw _ (own_m 152 rfl))) (notFace_of_selects (args := #[]) (mvT hZ4 (hw _ (own_m 154 rfl)))) (mvT hZ4 (hw _ (own_m 154 rfl))) (mvT hZ4 (hw _ (own_m 153 rfl))) (by decide) (backOf (W := 0) (own_sps l Z a0 hw [] b1 y2 ky2 (own_put (List.replicate 16 (Value.int 0)) 0 us) (0 + us.length) sl4 sd4 kd4 own_lit cs h4 n0 O0_x4 SC hcs Ea3_x4 Fv3_x4 Fc3_x4 Fn3_x4 Ey3_x4 Vy3_x4 Es4 Fv4 Fc4 Va4 (by rw [own_put_len (w := (List.replicate 16 (Value.int 0))) (q := 0) (us := us) (by rw [List.length_replicate]; omega), List.length_replicate]; decide) (by rw [own_put_len (w := (List.replicate 16 (Value.int 0))) (q := 0) (us := us) (by rw [List.length_replicate]; omega), List.length_replicate]; show 0 + us.length + 7 ≤ 16; omega) ge1 ge2_y2 (Ne.symm nq4_y2.2)) hZ4 (hw _ (own_m 155 rfl)) (hw _ (own_m 135 rfl)) (by decide) (by decide)) q5a q5c (g := (mkF m 13 #[own_vr sa, own_vl x, .second] [(.ref sl4), (.ref b1)])) rfl (by rw [hml]; rfl) (Steps.refl _) (argsL := [(.ref sl4)]) (rest := []) (lenOf own_pd21 rfl) rfl (by show 2 * 0 + _ ≤ _; exact Nat.le_of_eq rfl) (hb hby own_d16_13) (fun _ _ => ⟨rfl, e4, (by decide : 4 + 0 ≤ _), (by decide : 52 + 0 ≤ _)⟩)
 dsimp only [Pt.U, Pt.locs, Pt.cells, Pt.slots] at X5 l5 y5 z5 st5 hQ5
 subst l5 y5 z5
 obtain ⟨rfl, N5q, K5, Ea5, Fv5, Fc5, Fn5, Ey5, Vy5⟩ := hQ5
 have N5 := Fr.app N3 N5q
 refine own_st (fun _ kt => st5.trans kt) ?_
 have hkk5 := Nat.le_trans hk4 K5.1
 have O0_x5 := O0_x4.keep K5 (allS ge1 (allS ge2_y2 all0))
 have CR0_x5 := CR0_x4.trans (CHr.keep K5 (sfS Yq4_b1 (sfS Yq4_y2 sf0)) CR0_x4.1)
 have ES_x5 := ES_x4.keep K5
 have FS_x5 := FS_x4.keep K5 (ninS ne1_sa (ninS ne2_sa_y2 nin0))
 have GS_x5 := GS_x4.keep K5 (ninS ne1_sa (ninS ne2_sa_y2 nin0))
 have VS_x5 := VS_x4.keep K5 (ninS ne1_sy (ninS ne2_sy_y2 nin0))
 have K0_x5 := K0_x4.trans K5 (allS (Or.inr sz1) (allS (Or.inr sz2_y2) all0))
 have Ea3_x5 := Ea3_x4.keep K5
 have Ey3_x5 := Ey3_x4.keep K5
 have Yq4_b1_x5 := Safe.keep K5 (sfS Yq4_b1 (sfS Yq4_y2 sf0)) CR0_x4.1 Yq4_b1
 have Yq4_y2_x5 := Safe.keep K5 (sfS Yq4_b1 (sfS Yq4_y2 sf0)) CR0_x4.1 Yq4_y2
 have Es4_x5 := Es4.keep K5
 have Fc4_x5 := Fc4.keep K5 (ninS (Ne.symm nq4_b1.1) (ninS (Ne.symm nq4_y2.1) nin0))
 have Fv4_x5 := Fv4.keep K5 (ninS (Ne.symm nq4_b1.1) (ninS (Ne.symm nq4_y2.1) nin0))
 have Va4_x5 := Va4.keep K5 (ninS (Ne.symm nq4_b1.2) (ninS (Ne.symm nq4_y2.2) nin0))
 refine own_st (fun _ => XS.lloadN X5.here hx rfl (hb hby own_d16_16) rfl) ?_
 obtain ⟨cq6, kq6, q6a, q6b, q6c⟩ := isOf hZ4 rfl Ea5
 obtain ⟨_, _, ⟨T6, L6, k6, n6⟩, -, X6, ⟨Lc6, hQ6, l6, y6, z6⟩, st6⟩ := X5.virtualBack hx (y := own_y13) (z := own_y13) hown4 (mvT hZ4 (hw _ (own_m 202 rfl))) (mvT hZ4 (hw _ (own_m 203 rfl))) (notFace_of_selects (args := #[]) (mvT hZ4 (hw _ (own_m 205 rfl)))) (mvT hZ4 (hw _ (own_m 205 rfl))) (mvT hZ4 (hw _ (own_m 204 rfl))) (by decide) (backOf (W := 0) (own_spj l Z a0 hw [] b1 y2 ky2 (own_put (own_put (List.replicate 16 (Value.int 0)) 0 us) (0 + us.length) own_lit) ((0 + us.length) + own_lit.length) x nn r st d1 d2 DO DN cs T5.heap n0 O0_x5 SC hcs Ea5 Fv5 Fc5 Fn5 Ey5 Vy5 hnn hneg hr DT1 DT2 (own_w2_len hus) (by show 0 + us.length + 7 + r ≤ 33; omega) ge1 ge2_y2) hZ4 (hw _ (own_m 206 rfl)) (hw _ (own_m 135 rfl)) (by decide) (by decide)) q6a q6c (g := (mkF m 17 #[own_vr sa, own_vl x, .second] [(.long x), (.ref b1)])) rfl (by rw [hml]; rfl) (Steps.refl _) (argsL := [(.long x)]) (rest := []) (lenOf own_pd22 rfl) rfl (by show 2 * 0 + _ ≤ _; exact Nat.le_of_eq rfl) (hb hby own_d16_17) (fun _ _ => ⟨rfl, rfl, (by decide : 4 + 1 ≤ _), (by decide : 52 + 34 ≤ _)⟩)
 dsimp only [Pt.U, Pt.locs, Pt.cells, Pt.slots] at X6 l6 y6 z6 st6 hQ6
 subst l6 y6 z6
 obtain ⟨yj6, kj6, rfl, N6q, K6, Ea6, Fv6, Fc6, Fn6, Ey6, Vy6⟩ := hQ6
 have N6 := Fr.app N5 N6q
 refine own_st (fun _ kt => st6.trans kt) ?_
 have hkk6 := Nat.le_trans hkk5 K6.1
 have O0_x6 := O0_x5.keep K6 (allS ge1 (allS ge2_y2 all0))
 have CR0_x6 := CR0_x5.trans (CHr.keep K6 (sfS Yq4_b1_x5 (sfS Yq4_y2_x5 sf0)) CR0_x5.1)
 have ES_x6 := ES_x5.keep K6
 have FS_x6 := FS_x5.keep K6 (ninS ne1_sa (ninS ne2_sa_y2 nin0))
 have GS_x6 := GS_x5.keep K6 (ninS ne1_sa (ninS ne2_sa_y2 nin0))
 have VS_x6 := VS_x5.keep K6 (ninS ne1_sy (ninS ne2_sy_y2 nin0))
 have K0_x6 := K0_x5.trans K6 (allS (Or.inr sz1) (allS (Or.inr sz2_y2) all0))
 have Ea5_x6 := Ea5.keep K6
 have Ey5_x6 := Ey5.keep K6
 have Yq4_b1_x6 := Safe.keep K6 (sfS Yq4_b1_x5 (sfS Yq4_y2_x5 sf0)) CR0_x5.1 Yq4_b1_x5
 have Yq4_y2_x6 := Safe.keep K6 (sfS Yq4_b1_x5 (sfS Yq4_y2_x5 sf0)) CR0_x5.1 Yq4_y2_x5
 have Es4_x6 := Es4_x5.keep K6
 have Fc4_x6 := Fc4_x5.keep K6 (ninS (Ne.symm nq4_b1.1) (ninS (Ne.symm nq4_y2.1) nin0))
 have Fv4_x6 := Fv4_x5.keep K6 (ninS (Ne.symm nq4_b1.1) (ninS (Ne.symm nq4_y2.1) nin0))
 have Va4_x6 := Va4_x5.keep K6 (ninS (Ne.symm nq4_b1.2) (ninS (Ne.symm nq4_y2.2) nin0))
 obtain ⟨cq7, kq7, q7a, q7b, q7c⟩ := isOf hZ4 rfl Ea6
 obtain ⟨_, _, ⟨T7, L7, k7, n7⟩, -, X7, ⟨Lc7, hQ7, l7, y7, z7⟩, st7⟩ := X6.virtualBack hx (y := own_y19) (z := own_y19) hown4 (mvT hZ4 (hw _ (own_m 227 rfl))) (mvT hZ4 (hw _ (own_m 228 rfl))) (notFace_of_selects (args := #[]) (mvT hZ4 (hw _ (own_m 230 rfl)))) (mvT hZ4 (hw _ (own_m 230 rfl))) (mvT hZ4 (hw _ (own_m 229 rfl))) (by decide) (backOf (W := 0) (own_tos l Z a0 hw [] b1 yj6 kj6 (own_gc (own_gw (own_put (own_put (List.replicate 16 (Value.int 0)) 0 us) (0 + us.length) own_lit) (((0 + us.length) + own_lit.length) + r)) (((0 + us.length) + own_lit.length) + r) x nn DO DN) (((0 + us.length) + own_lit.length) + r) cs T6.heap n0 O0_x6 SC hcs Ea6 Fv6 Fc6 Fn6 Ey6 Vy6 (by rw [own_gc_len]; exact own_gw_le (own_w2_len hus) (by show 0 + us.length + 7 + r ≤ 33; omega)) (by rw [own_gc_len]; exact Nat.le_trans (own_gw_len (w := own_w2 us) (own_w2_len hus)).1 (by decide))) hZ4 (hw _ (own_m 231 rfl)) (hw _ (own_m 135 rfl)) (by decide) (by decide)) q7a q7c (g := (mkF m 20 #[own_vr sa, own_vl x, .second] [(.ref b1)])) rfl (by rw [hml]; rfl) (Steps.refl _) (argsL := []) (rest := []) (lenOf own_pd23 rfl) rfl (by show 2 * 0 + _ ≤ _; exact Nat.le_of_eq rfl) (hb hby own_d16_20) (fun _ _ => ⟨rfl, rfl, (by decide : 5 + 2 ≤ _), (by decide : 86 + 44 ≤ _)⟩)
 dsimp only [Pt.U, Pt.locs, Pt.cells, Pt.slots] at X7 l7 y7 z7 st7 hQ7
 subst l7 y7 z7
 obtain ⟨sb7, yb7, kb7, rfl, N7q, K7, hb7, hy7, Es7, Fs7, Gs7, Vs7⟩ := hQ7
 have N7 := Fr.app N6 N7q
 refine own_st (fun _ kt => st7.trans kt) ?_
 have ne7_sa_sb7 : sa ≠ sb7 := Nat.ne_of_lt (Nat.lt_of_lt_of_le ES_x6.lt hb7)
 have ne7_sy_sb7 : sy ≠ sb7 := Nat.ne_of_lt (Nat.lt_of_lt_of_le VS_x6.lt hb7)
 have ne7_b1_sb7 : b1 ≠ sb7 := Nat.ne_of_lt (Nat.lt_of_lt_of_le Ea6.lt hb7)
 have ne7_sl4_sb7 : sl4 ≠ sb7 := Nat.ne_of_lt (Nat.lt_of_lt_of_le Es4_x6.lt hb7)
 have ne7_sd4_sb7 : sd4 ≠ sb7 := Nat.ne_of_lt (Nat.lt_of_lt_of_le Va4_x6.lt hb7)
 have ne7_yj6_sb7 : yj6 ≠ sb7 := Nat.ne_of_lt (Nat.lt_of_lt_of_le Ey6.lt hb7)
 have ge7_sb7 : n0 ≤ sb7 := Nat.le_trans (own_old_le O0_x6) hb7
 have sz7_sb7 : h0.size ≤ sb7 := Nat.le_trans K0_x6.1 hb7
 have ne7_sa_yb7 : sa ≠ yb7 := Nat.ne_of_lt (Nat.lt_of_lt_of_le ES_x6.lt hy7)
 have ne7_sy_yb7 : sy ≠ yb7 := Nat.ne_of_lt (Nat.lt_of_lt_of_le VS_x6.lt hy7)
 have ne7_b1_yb7 : b1 ≠ yb7 := Nat.ne_of_lt (Nat.lt_of_lt_of_le Ea6.lt hy7)
 have ne7_sl4_yb7 : sl4 ≠ yb7 := Nat.ne_of_lt (Nat.lt_of_lt_of_le Es4_x6.lt hy7)
 have ne7_sd4_yb7 : sd4 ≠ yb7 := Nat.ne_of_lt (Nat.lt_of_lt_of_le Va4_x6.lt hy7)
 have ne7_yj6_yb7 : yj6 ≠ yb7 := Nat.ne_of_lt (Nat.lt_of_lt_of_le Ey6.lt hy7)
 have ge7_yb7 : n0 ≤ yb7 := Nat.le_trans (own_old_le O0_x6) hy7
 have sz7_yb7 : h0.size ≤ yb7 := Nat.le_trans K0_x6.1 hy7
 have hkk7 := Nat.le_trans hkk6 K7.1
 have O0_x7 := O0_x6.keep K7 all0
 have CR0_x7 := CR0_x6.trans (CHr.keep K7 sf0 CR0_x6.1)
 have ES_x7 := ES_x6.keep K7
 have FS_x7 := FS_x6.keep K7 nin0
 have GS_x7 := GS_x6.keep K7 nin0
 have VS_x7 := VS_x6.keep K7 nin0
 have K0_x7 := K0_x6.trans K7 all0
 have Ea6_x7 := Ea6.keep K7
 have Yq4_b1_x7 := Safe.keep K7 sf0 CR0_x6.1 Yq4_b1_x6
 have Yq4_y2_x7 := Safe.keep K7 sf0 CR0_x6.1 Yq4_y2_x6
 have Es4_x7 := Es4_x6.keep K7
 have Fc4_x7 := Fc4_x6.keep K7 nin0
 have Fv4_x7 := Fv4_x6.keep K7 nin0
 have Va4_x7 := Va4_x6.keep K7 nin0
 have Fv6_x7 := Fv6.keep K7 nin0
 have Fc6_x7 := Fc6.keep K7 nin0
 have Fn6_x7 := Fn6.keep K7 nin0
 have Ey6_x7 := Ey6.keep K7
 have Vy6_x7 := Vy6.keep K7 nin0
 show own_Rch _ _ _ _ T7 (mkF m 23 #[own_vr sa, own_vl x, .second] [(.ref sb7)])
 refine own_retAH rfl rfl (by rw [hh0]; exact CR0_x7.trans (CHv.at (s := s) X7 hZ4 (own_hEL hw) CR0_x7.1)) (s := s) hS4 hkk7 X7 hx Bd.notSynchronized Bd.returns (hb hby own_d16_23) (by decide) (by decide) ?_
 exact ⟨_, _, _, rfl, N7, K0_x7, sz7_sb7, sz7_yb7, Es7, Fs7, Gs7, Vs7⟩
theorem own_pn6 : plainName "java/lang/StringLatin1" = true := by first | (simp [plainName, overriddenIn]; done) | decide +kernel
theorem own_ef61 (m : MethodId) (x0 : Int32) : entryFrame m #[(.int x0)] 1 = mkF m 0 #[own_vi x0] [] := by first | (simp [entryFrame, mkF, argsToLocals, Value.category]; done) | rfl
abbrev own_c61 : ByteArray := jdk_43_method_3_code
theorem own_d61_0 : decode own_c61 0 = .ok (.iload_n 0, 1) := by decide +kernel
theorem own_d61_1 : decode own_c61 1 = .ok (.sipush 255, 3) := by decide +kernel
theorem own_d61_4 : decode own_c61 4 = .ok (.if_icmp .gt 7, 3) := by decide +kernel
theorem own_d61_7 : decode own_c61 7 = .ok (.iconst 1, 1) := by decide +kernel
theorem own_d61_8 : decode own_c61 8 = .ok (.goto 4, 3) := by decide +kernel
theorem own_d61_12 : decode own_c61 12 = .ok (.ireturn, 1) := by decide +kernel
abbrev own_y23 : MethodName := ⟨"java/lang/StringLatin1", "canEncode", "(C)Z"⟩
def own_Q_own_canenc (Z : State) (ch : Int32) (h0 : Heap) (n0 : Nat) (v : Option Value) (h : Heap) (L : List Loc) : Prop := v = some (.int (1 : Int32)) ∧ Fr n0 L ∧ h = h0
theorem own_canenc (l : Launch) (Z : State) (a0 : Array Value) (hw : ∀ d ∈ tables_1, d.before a0 Z = true) (ws : List Jvm.Cond) (ch : Int32) (h0 : Heap) (n0 : Nat) (O0 : Old Z n0 h0) (hc : ¬ ((255 : Int32) < ch)) :
    own_Mt l own_y23 own_c61 1 (some .boolean) ws (own_r 0 0 0 0) #[(.int ch)] Z h0 (own_Q_own_canenc Z ch h0 n0) := by
 refine MetFree.of_bodySF (plainFor_of_name own_pn6) hisR ?_
 intro p_ e s m args below meth c_ s₁ Bd hml0 hP hK
 obtain ⟨rfl, hZ, hh⟩ := hP
 have hx := Bd.exec
 have hby := Bd.bytes
 have hml : c_.maxLocals = 1 := hml0
 have hown : s.vm.findClass "java/lang/StringLatin1" = some m.cls := findClass_of_methodNamed Bd.named
 have hnm := (name_of_methodNamed Bd.named Bd.method).1
 have X0 : Stand p_ l e (own_r 0 0 0 0) s m #[(.int ch)] below meth c_ s₁ [] 0 0 := Stand.of_body Bd
 have e0 : s₁.heap = h0 := by rw [← hh, Bd.state]; rfl
 have N0 := Fr.nil n0
 refine own_close (s := s) (Q := (own_Q_own_canenc Z ch h0 n0)) (own_st (fun _ => castTop (own_ef61 m ch)) ?_)
 show own_Rch _ _ _ _ s₁ (mkF m 0 #[own_vi ch] [])
 refine own_iloadN X0 hx hby own_d61_0 rfl rfl ?_
 refine own_st (fun _ => XS.sipush X0.here hx rfl (hb hby own_d61_1)) ?_
 show own_Rch _ _ _ _ s₁ (mkF m 4 #[own_vi ch] [(.int (255 : Int32)), (.int ch)])
 refine own_st (fun _ => XS.icmpNo X0.here hx rfl (hb hby own_d61_4) rfl (flt (hc : ¬ ((255 : Int32) < ch))).2.2.1) ?_
 refine own_iconst X0 hx hby own_d61_7 rfl ?_
 refine own_st (fun _ => XS.goto X0.here hx rfl (pc0 := 8) (pc' := 12) rfl (hb hby own_d61_8) (by decide) (by decide)) ?_
 show own_Rch _ _ _ _ s₁ (mkF m 12 #[own_vi ch] [(.int (1 : Int32))])
 refine own_retN (t := .boolean) (by simp) X0 hx Bd.notSynchronized Bd.returns (hb hby own_d61_12) (by decide) (by decide) ?_
 rw [e0]
 exact ⟨rfl, N0, rfl⟩
theorem own_ef62 (m : MethodId) (x0 : Int32) : entryFrame m #[(.int x0)] 1 = mkF m 0 #[own_vi x0] [] := by first | (simp [entryFrame, mkF, argsToLocals, Value.category]; done) | rfl
abbrev own_c62 : ByteArray := jdk_43_method_46_code
theorem own_d62_0 : decode own_c62 0 = .ok (.iconst 1, 1) := by decide +kernel
theorem own_d62_1 : decode own_c62 1 = .ok (.newarray .byte, 2) := by decide +kernel
theorem own_d62_3 : decode own_c62 3 = .ok (.dup, 1) := by decide +kernel
theorem own_d62_4 : decode own_c62 4 = .ok (.iconst 0, 1) := by decide +kernel
theorem own_d62_5 : decode own_c62 5 = .ok (.iload_n 0, 1) := by decide +kernel
theorem own_d62_6 : decode own_c62 6 = .ok (.i2b, 1) := by decide +kernel
theorem own_d62_7 : decode own_c62 7 = .ok (.bastore, 1) := by decide +kernel
theorem own_d62_8 : decode own_c62 8 = .ok (.areturn, 1) := by decide +kernel
abbrev own_y24 : MethodName := ⟨"java/lang/StringLatin1", "toBytes", "(C)[B"⟩
def own_Q_own_tobytes (Z : State) (ch : Int32) (h0 : Heap) (n0 : Nat) (v : Option Value) (h : Heap) (L : List Loc) : Prop := ∃ (b : Addr) (k : ClassId), v = some (.ref b) ∧ Fr n0 L ∧ Keep h0 h [] ∧ h0.size ≤ b ∧ Arv Z h b k .byte (1 : Int32) [(.int (nar .byte (ch.toInt8.toInt32)))] (.int (0 : Int32))
theorem own_tobytes (l : Launch) (Z : State) (a0 : Array Value) (hw : ∀ d ∈ tables_1, d.before a0 Z = true) (ws : List Jvm.Cond) (ch : Int32) (h0 : Heap) (n0 : Nat) (O0 : Old Z n0 h0) :
    own_Mt l own_y24 own_c62 1 (some (.array .byte)) ws (own_r 0 1 1 0) #[(.int ch)] Z h0 (own_Q_own_tobytes Z ch h0 n0) := by
 refine MetFree.of_bodySF (plainFor_of_name own_pn6) hisR ?_
 intro p_ e s m args below meth c_ s₁ Bd hml0 hP hK
 obtain ⟨rfl, hZ, hh⟩ := hP
 have hx := Bd.exec
 have hby := Bd.bytes
 have hml : c_.maxLocals = 1 := hml0
 have hown : s.vm.findClass "java/lang/StringLatin1" = some m.cls := findClass_of_methodNamed Bd.named
 have hnm := (name_of_methodNamed Bd.named Bd.method).1
 have X0 : Stand p_ l e (own_r 0 1 1 0) s m #[(.int ch)] below meth c_ s₁ [] 0 0 := Stand.of_body Bd
 have e0 : s₁.heap = h0 := by rw [← hh, Bd.state]; rfl
 have N0 := Fr.nil n0
 refine own_close (s := s) (Q := (own_Q_own_tobytes Z ch h0 n0)) (own_st (fun _ => castTop (own_ef62 m ch)) ?_)
 have K0 := Keep.refl h0 []
 show own_Rch _ _ _ _ s₁ (mkF m 0 #[own_vi ch] [])
 refine own_iconst X0 hx hby own_d62_0 rfl ?_
 obtain ⟨T1, h1, k1, X1, e1, E1, A1, st1⟩ := newP X0 hx hZ (hw _ (own_m 7 rfl)) e0 (g := (mkF m 1 #[own_vi ch] [(.int (1 : Int32))])) rfl (hb hby own_d62_1) rfl (by decide) (cap := 1) (by decide) (by decide) (by decide) (by decide)
 obtain ⟨b1, g1⟩ : ∃ z, z = h0.size := ⟨_, rfl⟩
 rw [← g1] at A1 st1
 have ge1 : n0 ≤ b1 := by rw [g1]; exact own_old_le O0
 have sz1 : h0.size ≤ b1 := by rw [g1]; exact K0.1
 have O0_x1 := O0.ext E1
 have K0_x1 := K0.ext E1
 refine own_st st1 ?_
 have V1 := Arv.new A1 (by decide)
 have V1p : Arv Z h1 b1 k1 .byte (1 : Int32) [(.int (0 : Int32))] (.int (0 : Int32)) := V1.pad (pad_rep [] (.int (0 : Int32)) 1)
 refine own_dup X1 hx hby own_d62_3 rfl rfl rfl ?_
 refine own_iconst X1 hx hby own_d62_4 rfl ?_
 refine own_iloadN X1 hx hby own_d62_5 rfl rfl ?_
 show own_Rch _ _ _ _ T1 (mkF m 6 #[own_vi ch] [(.int ch), (.int (0 : Int32)), (.ref b1), (.ref b1)])
 refine own_st (fun _ => XS.i2b X1.here hx rfl (hb hby own_d62_6) rfl) ?_
 obtain ⟨cl2, Ar2, q2, S2, M2, H2, G2⟩ := id V1p
 have hin2 : ¬ ((0 : Int32) < 0 ∨ cl2.slots.size ≤ ((0 : Int32)).toNatClampNeg) := inb_of S2 ⟨by decide, by decide⟩
 obtain ⟨T2, h2, X2, e2, W2, st2⟩ := stB X1 hx hZ e1 Ar2 (j := (0 : Int32)) hin2 (g := (mkF m 7 #[own_vi ch] [(.int (ch.toInt8.toInt32)), (.int (0 : Int32)), (.ref b1), (.ref b1)])) rfl rfl (hb hby own_d62_7)
 have V2 := Arv.set Ar2 q2 S2 M2 H2 G2 (fits_nar_byte _) W2 0 rfl (Nat.le_of_ble_eq_true rfl)
 have V2s : Arv Z h2 b1 k1 .byte (1 : Int32) [(.int (nar .byte (ch.toInt8.toInt32)))] (.int (0 : Int32)) := V2
 have N2 := Fr.snoc X2 N0 ge1
 refine own_st st2 ?_
 have O0_x2 := O0_x1.wr W2 ge1
 have K0_x2 := K0_x1.wr W2 (Or.inr sz1)
 show own_Rch _ _ _ _ T2 (mkF m 8 #[own_vi ch] [(.ref b1)])
 refine own_retA rfl rfl X2 hx Bd.notSynchronized Bd.returns (hb hby own_d62_8) (by decide) (by decide) ?_
 rw [e2]
 exact ⟨_, _, rfl, N2, K0_x2, sz1, V2s⟩
theorem own_ef63 (m : MethodId) (x0 : Addr) (x1 : Addr) (x2 : Int32) : entryFrame m #[(.ref x0), (.ref x1), (.int x2)] 3 = mkF m 0 #[own_vr x0, own_vr x1, own_vi x2] [] := by first | (simp [entryFrame, mkF, argsToLocals, Value.category]; done) | rfl
abbrev own_c63 : ByteArray := jdk_42_method_151_code
theorem own_d63_0 : decode own_c63 0 = .ok (.aload_n 0, 1) := by decide +kernel
theorem own_d63_1 : decode own_c63 1 = .ok (.invokespecial 1, 3) := by decide +kernel
theorem own_d63_4 : decode own_c63 4 = .ok (.aload_n 0, 1) := by decide +kernel
theorem own_d63_5 : decode own_c63 5 = .ok (.aload_n 1, 1) := by decide +kernel
theorem own_d63_6 : decode own_c63 6 = .ok (.putfield 9, 3) := by decide +kernel
theorem own_d63_9 : decode own_c63 9 = .ok (.aload_n 0, 1) := by decide +kernel
theorem own_d63_10 : decode own_c63 10 = .ok (.iload_n 2, 1) := by decide +kernel
theorem own_d63_11 : decode own_c63 11 = .ok (.putfield 15, 3) := by decide +kernel
theorem own_d63_14 : decode own_c63 14 = .ok (.return_, 1) := by decide +kernel
def own_Q_own_strinit (Z : State) (a : Addr) (b : Addr) (ch : Int32) (u1 : Value) (u2 : Value) (h0 : Heap) (n0 : Nat) (v : Option Value) (h : Heap) (L : List Loc) : Prop := v = none ∧ Fr n0 L ∧ Keep h0 h [a] ∧ Exa Z h a "java/lang/String" ∧ Fld Z h a "java/lang/String" "value" "[B" (.ref b) ∧ Fld Z h a "java/lang/String" "coder" "B" (.int (nar .byte ch))
theorem own_strinit (l : Launch) (Z : State) (a0 : Array Value) (hw : ∀ d ∈ tables_1, d.before a0 Z = true) (ws : List Jvm.Cond) (a : Addr) (b : Addr) (ch : Int32) (u1 : Value) (u2 : Value) (h0 : Heap) (n0 : Nat) (O0 : Old Z n0 h0) (EA : Exa Z h0 a "java/lang/String") (FV : Fld Z h0 a "java/lang/String" "value" "[B" u1) (FC : Fld Z h0 a "java/lang/String" "coder" "B" u2) (ga : n0 ≤ a) :
    own_Mt l (⟨"java/lang/String", "<init>", "([BB)V"⟩ : MethodName) own_c63 3 none ws (own_r 1 0 0 12) #[(.ref a), (.ref b), (.int ch)] Z h0 (own_Q_own_strinit Z a b ch u1 u2 h0 n0) := by
 refine MetFree.of_bodySF (plainFor_of_name own_pn0) hisR ?_
 intro p_ e s m args below meth c_ s₁ Bd hml0 hP hK
 obtain ⟨rfl, hZ, hh⟩ := hP
 have hx := Bd.exec
 have hby := Bd.bytes
 have hml : c_.maxLocals = 3 := hml0
 have hown : s.vm.findClass "java/lang/String" = some m.cls := findClass_of_methodNamed Bd.named
 have hnm := (name_of_methodNamed Bd.named Bd.method).1
 have X0 : Stand p_ l e (own_r 1 0 0 12) s m #[(.ref a), (.ref b), (.int ch)] below meth c_ s₁ [] 0 0 := Stand.of_body Bd
 have e0 : s₁.heap = h0 := by rw [← hh, Bd.state]; rfl
 have N0 := Fr.nil n0
 refine own_close (s := s) (Q := (own_Q_own_strinit Z a b ch u1 u2 h0 n0)) (own_st (fun _ => castTop (own_ef63 m a b ch)) ?_)
 have K0 := Keep.refl h0 [a]
 show own_Rch _ _ _ _ s₁ (mkF m 0 #[own_vr a, own_vr b, own_vi ch] [])
 refine own_aloadN X0 hx hby own_d63_0 rfl rfl rfl ?_
 obtain ⟨T1, X1, e1, st1⟩ := initO X0 hx hZ hown (hw _ (own_m 240 rfl)) (hw _ (own_m 35 rfl)) (hw _ (own_m 36 rfl)) e0 (g := (mkF m 1 #[own_vr a, own_vr b, own_vi ch] [(.ref a)])) rfl (by rw [hml]; rfl) rfl (hb hby own_d63_1) (by decide) (W := 0) (by show 2 * 0 + _ ≤ _; exact Nat.le_of_eq rfl) (by decide)
 refine own_st st1 ?_
 refine own_aloadN X1 hx hby own_d63_4 rfl rfl rfl ?_
 refine own_aloadN X1 hx hby own_d63_5 rfl rfl rfl ?_
 obtain ⟨T2, h2, X2, e2, W2, st2⟩ := putF X1 hx hZ hown (host := "") (Or.inl (hw _ (own_m 166 rfl))) Via.refl e1 FV EA (Or.inr ⟨(hw _ (own_m 8 rfl)), rfl, hnm⟩) (hw _ (own_m 6 rfl)) (ty := (.array .byte)) (by decide) rfl rfl (g := (mkF m 6 #[own_vr a, own_vr b, own_vi ch] [(.ref b), (.ref a)])) rfl rfl (hb hby own_d63_6)
 refine own_st st2 ?_
 have Fw2 := FV.same W2
 have N2 := Fr.snoc X2 N0 ga
 have O0_x2 := O0.wr W2 ga
 have EA_x2 := EA.wr W2
 have FC_x2 := FC.other W2 (Or.inr (slot_ne (Or.inr (hw _ (own_m 9 rfl))) (Or.inr (hw _ (own_m 8 rfl))) (by decide) (t := .byte) (t' := (.array .byte)) (by decide) (by decide)))
 have K0_x2 := K0.wr W2 (Or.inl (List.mem_of_getElem? (i := 0) rfl))
 refine own_aloadN X2 hx hby own_d63_9 rfl rfl rfl ?_
 refine own_iloadN X2 hx hby own_d63_10 rfl rfl ?_
 obtain ⟨T3, h3, X3, e3, W3, st3⟩ := putFN X2 hx hZ hown (hw _ (own_m 173 rfl)) Via.refl e2 FC_x2 EA_x2 (Or.inr ⟨(hw _ (own_m 9 rfl)), rfl, hnm⟩) (hw _ (own_m 6 rfl)) (ty := .byte) (v' := (.int (nar .byte ch))) (by decide) rfl (fits_nar_byte _) (g := (mkF m 11 #[own_vr a, own_vr b, own_vi ch] [(.int ch), (.ref a)])) rfl rfl (hb hby own_d63_11)
 refine own_st st3 ?_
 have Fw3 := FC_x2.same W3
 have N3 := Fr.snoc X3 N2 ga
 have O0_x3 := O0_x2.wr W3 ga
 have EA_x3 := EA_x2.wr W3
 have Fw2_x3 := Fw2.other W3 (Or.inr (slot_ne (Or.inr (hw _ (own_m 8 rfl))) (Or.inr (hw _ (own_m 9 rfl))) (by decide) (t := (.array .byte)) (t' := .byte) (by decide) (by decide)))
 have K0_x3 := K0_x2.wr W3 (Or.inl (List.mem_of_getElem? (i := 0) rfl))
 show own_Rch _ _ _ _ T3 (mkF m 14 #[own_vr a, own_vr b, own_vi ch] [])
 refine own_retV X3 hx Bd.notSynchronized Bd.returns (hb hby own_d63_14) (by decide) (by decide) ?_
 rw [e3]
 exact ⟨rfl, N3, K0_x3, EA_x3, Fw2_x3, Fw3⟩
theorem own_ef60 (m : MethodId) (x0 : Int32) : entryFrame m #[(.int x0)] 1 = mkF m 0 #[own_vi x0] [] := by first | (simp [entryFrame, mkF, argsToLocals, Value.category]; done) | rfl
abbrev own_c60 : ByteArray := jdk_42_method_139_code
theorem own_d60_0 : decode own_c60 0 = .ok (.getstatic 38, 3) := by decide +kernel
theorem own_d60_3 : decode own_c60 3 = .ok (.ifCond .eq 23, 3) := by decide +kernel
theorem own_d60_6 : decode own_c60 6 = .ok (.iload_n 0, 1) := by decide +kernel
theorem own_d60_7 : decode own_c60 7 = .ok (.invokestatic 1015, 3) := by decide +kernel
theorem own_pd24 : parseMethodDescriptor "(C)Z" = some ⟨[.char], some .boolean⟩ := by decide +kernel
theorem own_d60_10 : decode own_c60 10 = .ok (.ifCond .eq 16, 3) := by decide +kernel
theorem own_d60_13 : decode own_c60 13 = .ok (.new 10, 3) := by decide +kernel
theorem own_d60_16 : decode own_c60 16 = .ok (.dup, 1) := by decide +kernel
theorem own_d60_17 : decode own_c60 17 = .ok (.iload_n 0, 1) := by decide +kernel
theorem own_d60_18 : decode own_c60 18 = .ok (.invokestatic 1018, 3) := by decide +kernel
theorem own_pd25 : parseMethodDescriptor "(C)[B" = some ⟨[.char], some (.array .byte)⟩ := by decide +kernel
theorem own_d60_21 : decode own_c60 21 = .ok (.iconst 0, 1) := by decide +kernel
theorem own_d60_22 : decode own_c60 22 = .ok (.invokespecial 209, 3) := by decide +kernel
theorem own_pd26 : parseMethodDescriptor "([BB)V" = some ⟨[(.array .byte), .byte], none⟩ := by decide +kernel
theorem own_d60_25 : decode own_c60 25 = .ok (.areturn, 1) := by decide +kernel
abbrev own_y25 : MethodName := ⟨"java/lang/String", "valueOf", "(C)Ljava/lang/String;"⟩
def own_Q_own_valof (Z : State) (ch : Int32) (cs : Int32) (h0 : Heap) (n0 : Nat) (v : Option Value) (h : Heap) (L : List Loc) : Prop := ∃ (b y : Addr) (k : ClassId), v = some (.ref b) ∧ Fr n0 L ∧ Keep h0 h [] ∧ h0.size ≤ b ∧ h0.size ≤ y ∧ Exa Z h b "java/lang/String" ∧ Fld Z h b "java/lang/String" "value" "[B" (.ref y) ∧ Fld Z h b "java/lang/String" "coder" "B" (.int (nar .byte (0 : Int32))) ∧ Arv Z h y k .byte (1 : Int32) [(.int (nar .byte (ch.toInt8.toInt32)))] (.int (0 : Int32))
theorem own_valof (l : Launch) (Z : State) (a0 : Array Value) (hw : ∀ d ∈ tables_1, d.before a0 Z = true) (ws : List Jvm.Cond) (ch : Int32) (cs : Int32) (h0 : Heap) (n0 : Nat) (O0 : Old Z n0 h0) (SC : Sta Z Z.heap "java/lang/String" "COMPACT_STRINGS" "Z" (.int cs)) (hcs : ¬ cs = 0) (hc : ¬ ((255 : Int32) < ch)) :
    own_Mt l own_y25 own_c60 1 (some (.object "java/lang/String")) ws (own_r 2 2 5 27) #[(.int ch)] Z h0 (own_Q_own_valof Z ch cs h0 n0) := by
 refine MetFree.of_bodySF (plainFor_of_name own_pn0) hisR ?_
 intro p_ e s m args below meth c_ s₁ Bd hml0 hP hK
 obtain ⟨rfl, hZ, hh⟩ := hP
 have hx := Bd.exec
 have hby := Bd.bytes
 have hml : c_.maxLocals = 1 := hml0
 have hown : s.vm.findClass "java/lang/String" = some m.cls := findClass_of_methodNamed Bd.named
 have hnm := (name_of_methodNamed Bd.named Bd.method).1
 have X0 : Stand p_ l e (own_r 2 2 5 27) s m #[(.int ch)] below meth c_ s₁ [] 0 0 := Stand.of_body Bd
 have e0 : s₁.heap = h0 := by rw [← hh, Bd.state]; rfl
 have N0 := Fr.nil n0
 refine own_close (s := s) (Q := (own_Q_own_valof Z ch cs h0 n0)) (own_st (fun _ => castTop (own_ef60 m ch)) ?_)
 have K0 := Keep.refl h0 []
 obtain ⟨T1, X1, e1, st1⟩ := getS2 X0 hx hZ hown (host := "") (Or.inl (hw _ (own_m 172 rfl))) Via.refl e0 (SC.ext O0.2) (g := (mkF m 0 #[own_vi ch] [])) rfl (hb hby own_d60_0)
 refine own_st st1 ?_
 show own_Rch _ _ _ _ T1 (mkF m 3 #[own_vi ch] [(.int cs)])
 refine own_st (fun _ => XS.ifNo X1.here hx rfl (hb hby own_d60_3) rfl ((if0 _ _).trans (feq (hcs : ¬ (cs = (0 : Int32)))).1)) ?_
 refine own_iloadN X1 hx hby own_d60_6 rfl rfl ?_
 obtain ⟨_, _, ⟨T2, L2, k2, n2⟩, -, X2, ⟨Lc2, hQ2, l2, y2, z2⟩, st2⟩ := Jvm.LawKit.callS X1 hx (y := own_y23) hown (mvT hZ (hw _ (own_m 368 rfl))) (mvT hZ (hw _ (own_m 369 rfl))) (mvT hZ (hw _ (own_m 345 rfl))) (mvT hZ (hw _ (own_m 370 rfl))) (by decide) (backOf (W := 0) (own_canenc l Z a0 hw [] ch h0 n0 O0 hc) hZ (hw _ (own_m 370 rfl)) (hw _ (own_m 345 rfl)) (by decide) (by decide)) (g := (mkF m 7 #[own_vi ch] [(.int ch)])) rfl (by rw [hml]; rfl) (argsL := [(.int ch)]) (rest := []) (lenOf own_pd24 rfl) rfl (by show 2 * 0 + _ ≤ _; exact Nat.le_of_eq rfl) (hb hby own_d60_7) (fun _ _ => ⟨rfl, e1, (by decide : 0 + 0 ≤ _), (by decide : 0 + 0 ≤ _)⟩)
 dsimp only [Pt.U, Pt.locs, Pt.cells, Pt.slots] at X2 l2 y2 z2 st2 hQ2
 subst l2 y2 z2
 obtain ⟨rfl, N2q, hh2⟩ := hQ2
 have N2 := Fr.app N0 N2q
 refine own_st st2 ?_
 show own_Rch _ _ _ _ T2 (mkF m 10 #[own_vi ch] [(.int (1 : Int32))])
 refine own_st (fun _ => XS.ifNo X2.here hx rfl (hb hby own_d60_10) rfl ((if0 _ _).trans (feq ((by decide) : ¬ ((1 : Int32) = (0 : Int32)))).1)) ?_
 obtain ⟨T3, h3, X3, e3, E3, A3, D3, U3, st3⟩ := newO X2 hx hZ hown (hw _ (own_m 342 rfl)) (hw _ (own_m 6 rfl)) (hw _ (own_m 5 rfl)) hh2 (g := (mkF m 13 #[own_vi ch] [])) rfl (hb hby own_d60_13) (by decide) (by decide)
 obtain ⟨b3, g3⟩ : ∃ z, z = h0.size := ⟨_, rfl⟩
 rw [← g3] at A3 D3 U3 st3
 have ge3 : n0 ≤ b3 := by rw [g3]; exact own_old_le O0
 have sz3 : h0.size ≤ b3 := by rw [g3]; exact K0.1
 have O0_x3 := O0.ext E3
 have K0_x3 := K0.ext E3
 refine own_st st3 ?_
 have F3_value : Fld Z h3 b3 "java/lang/String" "value" "[B" .null := D3 (Or.inr (hw _ (own_m 8 rfl))) (ty := (.array .byte)) (by decide)
 have F3_coder : Fld Z h3 b3 "java/lang/String" "coder" "B" (.int (0 : Int32)) := D3 (Or.inr (hw _ (own_m 9 rfl))) (ty := .byte) (by decide)
 refine own_dup X3 hx hby own_d60_16 rfl rfl rfl ?_
 refine own_iloadN X3 hx hby own_d60_17 rfl rfl ?_
 obtain ⟨_, _, ⟨T4, L4, k4, n4⟩, -, X4, ⟨Lc4, hQ4, l4, y4, z4⟩, st4⟩ := Jvm.LawKit.callS X3 hx (y := own_y24) hown (mvT hZ (hw _ (own_m 371 rfl))) (mvT hZ (hw _ (own_m 372 rfl))) (mvT hZ (hw _ (own_m 345 rfl))) (mvT hZ (hw _ (own_m 373 rfl))) (by decide) (backOf (W := 2) (own_tobytes l Z a0 hw [] ch h3 n0 O0_x3 ) hZ (hw _ (own_m 373 rfl)) (hw _ (own_m 345 rfl)) (by decide) (by decide)) (g := (mkF m 18 #[own_vi ch] [(.int ch), (.ref b3), (.ref b3)])) rfl (by rw [hml]; rfl) (argsL := [(.int ch)]) (rest := [(.ref b3), (.ref b3)]) (lenOf own_pd25 rfl) rfl (by show 2 * 0 + _ ≤ _; exact Nat.le_of_eq rfl) (hb hby own_d60_18) (fun _ _ => ⟨rfl, e3, (by decide : 1 + 1 ≤ _), (by decide : 4 + 1 ≤ _)⟩)
 dsimp only [Pt.U, Pt.locs, Pt.cells, Pt.slots] at X4 l4 y4 z4 st4 hQ4
 subst l4 y4 z4
 obtain ⟨by4, ky4, rfl, N4q, K4, hb4, Va4⟩ := hQ4
 have N4 := Fr.app N2 N4q
 refine own_st st4 ?_
 have ne4_b3_by4 : b3 ≠ by4 := Nat.ne_of_lt (Nat.lt_of_lt_of_le F3_value.lt hb4)
 have ge4_by4 : n0 ≤ by4 := Nat.le_trans (own_old_le O0_x3) hb4
 have sz4_by4 : h0.size ≤ by4 := Nat.le_trans K0_x3.1 hb4
 have O0_x4 := O0_x3.keep K4 all0
 have K0_x4 := K0_x3.trans K4 all0
 have F3_value_x4 := F3_value.keep K4 nin0
 have F3_coder_x4 := F3_coder.keep K4 nin0
 have A3_x4 := A3.keep K4
 refine own_iconst X4 hx hby own_d60_21 rfl ?_
 obtain ⟨_, _, ⟨T5, L5, k5, n5⟩, -, X5, ⟨Lc5, hQ5, l5, y5, z5⟩, st5⟩ := X4.specialBack hx (y := (⟨"java/lang/String", "<init>", "([BB)V"⟩ : MethodName)) rfl hown (mvT hZ (hw _ (own_m 374 rfl))) (mvT hZ (hw _ (own_m 375 rfl))) (mvT hZ (hw _ (own_m 376 rfl))) (by decide) (backOf (W := 1) (own_strinit l Z a0 hw [] b3 by4 (0 : Int32) _ _ T4.heap n0 O0_x4 A3_x4 F3_value_x4 F3_coder_x4 ge3) hZ (hw _ (own_m 376 rfl)) (hw _ (own_m 5 rfl)) (by decide) (by decide)) (g := (mkF m 22 #[own_vi ch] [(.int (0 : Int32)), (.ref by4), (.ref b3), (.ref b3)])) rfl (by rw [hml]; rfl) (Steps.refl _) (a := b3) (argsL := [(.ref by4), (.int (0 : Int32))]) (rest := [(.ref b3)]) (lenOf own_pd26 rfl) rfl (by show 2 * 0 + _ ≤ _; exact Nat.le_of_eq rfl) (hb hby own_d60_22) (fun _ _ => ⟨rfl, rfl, (by decide : 2 + 0 ≤ _), (by decide : 5 + 0 ≤ _)⟩)
 dsimp only [Pt.U, Pt.locs, Pt.cells, Pt.slots] at X5 l5 y5 z5 st5 hQ5
 subst l5 y5 z5
 obtain ⟨rfl, N5q, K5, Ea5, Fv5, Fc5⟩ := hQ5
 have N5 := Fr.app N4 N5q
 refine own_st (fun _ kt => st5.trans kt) ?_
 have O0_x5 := O0_x4.keep K5 (allS ge3 all0)
 have K0_x5 := K0_x4.trans K5 (allS (Or.inr sz3) all0)
 have A3_x5 := A3_x4.keep K5
 have Va4_x5 := Va4.keep K5 (ninS (Ne.symm ne4_b3_by4) nin0)
 show own_Rch _ _ _ _ T5 (mkF m 25 #[own_vi ch] [(.ref b3)])
 refine own_retA rfl rfl X5 hx Bd.notSynchronized Bd.returns (hb hby own_d60_25) (by decide) (by decide) ?_
 exact ⟨_, _, _, rfl, N5, K0_x5, sz3, sz4_by4, Ea5, Fv5, Fc5, Va4_x5⟩
theorem own_pn7 : plainName "java/lang/StringUTF16" = true := by first | (simp [plainName, overriddenIn]; done) | decide +kernel
theorem own_ef58 (m : MethodId) (x0 : Addr) (x1 : Int32) (x2 : Addr) (x3 : Int32) (x4 : Int32) : entryFrame m #[(.ref x0), (.int x1), (.ref x2), (.int x3), (.int x4)] 7 = mkF m 0 #[own_vr x0, own_vi x1, own_vr x2, own_vi x3, own_vi x4, .unset, .unset] [] := by first | (simp [entryFrame, mkF, argsToLocals, Value.category]; done) | rfl
abbrev own_c58 : ByteArray := jdk_52_method_21_code
theorem own_d58_0 : decode own_c58 0 = .ok (.iconst 0, 1) := by decide +kernel
theorem own_d58_1 : decode own_c58 1 = .ok (.istore 5, 2) := by decide +kernel
theorem own_d58_3 : decode own_c58 3 = .ok (.iload 5, 2) := by decide +kernel
theorem own_d58_5 : decode own_c58 5 = .ok (.iload 4, 2) := by decide +kernel
theorem own_d58_7 : decode own_c58 7 = .ok (.if_icmp .ge 37, 3) := by decide +kernel
theorem own_d58_10 : decode own_c58 10 = .ok (.aload_n 0, 1) := by decide +kernel
theorem own_d58_11 : decode own_c58 11 = .ok (.iload_n 1, 1) := by decide +kernel
theorem own_d58_12 : decode own_c58 12 = .ok (.caload, 1) := by decide +kernel
theorem own_d58_13 : decode own_c58 13 = .ok (.istore 6, 2) := by decide +kernel
theorem own_d58_15 : decode own_c58 15 = .ok (.iload 6, 2) := by decide +kernel
theorem own_d58_17 : decode own_c58 17 = .ok (.sipush 255, 3) := by decide +kernel
theorem own_d58_20 : decode own_c58 20 = .ok (.if_icmp .le 6, 3) := by decide +kernel
theorem own_d58_26 : decode own_c58 26 = .ok (.aload_n 2, 1) := by decide +kernel
theorem own_d58_27 : decode own_c58 27 = .ok (.iload_n 3, 1) := by decide +kernel
theorem own_d58_28 : decode own_c58 28 = .ok (.iload 6, 2) := by decide +kernel
theorem own_d58_30 : decode own_c58 30 = .ok (.i2b, 1) := by decide +kernel
theorem own_d58_31 : decode own_c58 31 = .ok (.bastore, 1) := by decide +kernel
theorem own_d58_32 : decode own_c58 32 = .ok (.iinc 1 1, 3) := by decide +kernel
theorem own_d58_35 : decode own_c58 35 = .ok (.iinc 3 1, 3) := by decide +kernel
theorem own_d58_38 : decode own_c58 38 = .ok (.iinc 5 1, 3) := by decide +kernel
theorem own_d58_41 : decode own_c58 41 = .ok (.goto (-38), 3) := by decide +kernel
theorem own_d58_44 : decode own_c58 44 = .ok (.iload 4, 2) := by decide +kernel
theorem own_d58_46 : decode own_c58 46 = .ok (.ireturn, 1) := by decide +kernel
abbrev own_y26 : MethodName := ⟨"java/lang/StringUTF16", "compress", "([CI[BII)I"⟩
def own_Q_own_c5_2 (Z : State) (r : Addr) (kr : ClassId) (b : Addr) (kb : ClassId) (c0 : Int32) (c1 : Int32) (c2 : Int32) (h0 : Heap) (n0 : Nat) (v : Option Value) (h : Heap) (L : List Loc) : Prop := v = some (.int (2 : Int32)) ∧ Fr n0 L ∧ Keep h0 h [b] ∧ Arv Z h b kb .byte (2 : Int32) [(.int (own_b c0)), (.int (own_b c1))] (.int (0 : Int32))
theorem own_c5_2 (l : Launch) (Z : State) (a0 : Array Value) (hw : ∀ d ∈ tables_1, d.before a0 Z = true) (ws : List Jvm.Cond) (r : Addr) (kr : ClassId) (b : Addr) (kb : ClassId) (c0 : Int32) (c1 : Int32) (c2 : Int32) (h0 : Heap) (n0 : Nat) (O0 : Old Z n0 h0) (VR : Arv Z h0 r kr .char (2 : Int32) [(.int (nar .char c0)), (.int (nar .char c1))] (.int (0 : Int32))) (VB : Arv Z h0 b kb .byte (2 : Int32) [(.int (0 : Int32)), (.int (0 : Int32))] (.int (0 : Int32))) (gb : n0 ≤ b) (hrb : r ≠ b) (hc0 : own_ch c0) (hc1 : own_ch c1) (hc2 : own_ch c2) :
    own_Mt l own_y26 own_c58 7 (some .int) ws (own_r 0 0 0 0) #[(.ref r), (.int (0 : Int32)), (.ref b), (.int (0 : Int32)), (.int (2 : Int32))] Z h0 (own_Q_own_c5_2 Z r kr b kb c0 c1 c2 h0 n0) := by
 refine MetFree.of_bodySF (plainFor_of_name own_pn7) hisR ?_
 intro p_ e s m args below meth c_ s₁ Bd hml0 hP hK
 obtain ⟨rfl, hZ, hh⟩ := hP
 have hx := Bd.exec
 have hby := Bd.bytes
 have hml : c_.maxLocals = 7 := hml0
 have hown : s.vm.findClass "java/lang/StringUTF16" = some m.cls := findClass_of_methodNamed Bd.named
 have hnm := (name_of_methodNamed Bd.named Bd.method).1
 have X0 : Stand p_ l e (own_r 0 0 0 0) s m #[(.ref r), (.int (0 : Int32)), (.ref b), (.int (0 : Int32)), (.int (2 : Int32))] below meth c_ s₁ [] 0 0 := Stand.of_body Bd
 have e0 : s₁.heap = h0 := by rw [← hh, Bd.state]; rfl
 have N0 := Fr.nil n0
 refine own_close (s := s) (Q := (own_Q_own_c5_2 Z r kr b kb c0 c1 c2 h0 n0)) (own_st (fun _ => castTop (own_ef58 m r (0 : Int32) b (0 : Int32) (2 : Int32))) ?_)
 have K0 := Keep.refl h0 [b]
 show own_Rch _ _ _ _ s₁ (mkF m 0 #[own_vr r, own_vi (0 : Int32), own_vr b, own_vi (0 : Int32), own_vi (2 : Int32), .unset, .unset] [])
 refine own_iconst X0 hx hby own_d58_0 rfl ?_
 refine own_st (fun _ => XS.istore X0.here hx rfl (hb hby own_d58_1) rfl (l' := #[own_vr r, own_vi (0 : Int32), own_vr b, own_vi (0 : Int32), own_vi (2 : Int32), own_vi (0 : Int32), .unset]) rfl) ?_
 refine own_iload X0 hx hby own_d58_3 rfl rfl ?_
 refine own_iload X0 hx hby own_d58_5 rfl rfl ?_
 show own_Rch _ _ _ _ s₁ (mkF m 7 #[own_vr r, own_vi (0 : Int32), own_vr b, own_vi (0 : Int32), own_vi (2 : Int32), own_vi (0 : Int32), .unset] [(.int (2 : Int32)), (.int (0 : Int32))])
 refine own_st (fun _ => XS.icmpNo X0.here hx rfl (hb hby own_d58_7) rfl (tlt ((by decide) : (0 : Int32) < (2 : Int32))).2.1) ?_
 refine own_aloadN X0 hx hby own_d58_10 rfl rfl rfl ?_
 refine own_iloadN X0 hx hby own_d58_11 rfl rfl ?_
 obtain ⟨cl1, Ar1, q1, S1, M1, H1, G1⟩ := id VR
 have hin1 : ¬ ((0 : Int32) < 0 ∨ cl1.slots.size ≤ ((0 : Int32)).toNatClampNeg) := inb_of S1 ⟨by decide, by decide⟩
 refine own_st (X0.caload hx (j := (0 : Int32)) (v := (.int (nar .char c0))) (by rw [e0]; exact Ar1.1) (State.isArrayOf_alike (hZ).alike Ar1.2.1) Ar1.2.2 hin1 (H1.at hin1 rfl) (g := (mkF m 12 #[own_vr r, own_vi (0 : Int32), own_vr b, own_vi (0 : Int32), own_vi (2 : Int32), own_vi (0 : Int32), .unset] [(.int (0 : Int32)), (.ref r)])) rfl rfl (hb hby own_d58_12)) ?_
 refine own_st (fun _ => XS.istore X0.here hx rfl (hb hby own_d58_13) rfl (l' := #[own_vr r, own_vi (0 : Int32), own_vr b, own_vi (0 : Int32), own_vi (2 : Int32), own_vi (0 : Int32), own_vi (nar .char c0)]) rfl) ?_
 refine own_iload X0 hx hby own_d58_15 rfl rfl ?_
 refine own_st (fun _ => XS.sipush X0.here hx rfl (hb hby own_d58_17)) ?_
 show own_Rch _ _ _ _ s₁ (mkF m 20 #[own_vr r, own_vi (0 : Int32), own_vr b, own_vi (0 : Int32), own_vi (2 : Int32), own_vi (0 : Int32), own_vi (nar .char c0)] [(.int (255 : Int32)), (.int (nar .char c0))])
 refine own_st (fun _ => XS.icmpYes X0.here hx rfl (pc0 := 20) (pc' := 26) rfl (hb hby own_d58_20) rfl (flt (own_big hc0 : ¬ ((255 : Int32) < (nar .char c0)))).2.2.2 (by decide) (by decide)) ?_
 refine own_aloadN X0 hx hby own_d58_26 rfl rfl rfl ?_
 refine own_iloadN X0 hx hby own_d58_27 rfl rfl ?_
 refine own_iload X0 hx hby own_d58_28 rfl rfl ?_
 show own_Rch _ _ _ _ s₁ (mkF m 30 #[own_vr r, own_vi (0 : Int32), own_vr b, own_vi (0 : Int32), own_vi (2 : Int32), own_vi (0 : Int32), own_vi (nar .char c0)] [(.int (nar .char c0)), (.int (0 : Int32)), (.ref b)])
 refine own_st (fun _ => XS.i2b X0.here hx rfl (hb hby own_d58_30) rfl) ?_
 obtain ⟨cl2, Ar2, q2, S2, M2, H2, G2⟩ := id VB
 have hin2 : ¬ ((0 : Int32) < 0 ∨ cl2.slots.size ≤ ((0 : Int32)).toNatClampNeg) := inb_of S2 ⟨by decide, by decide⟩
 obtain ⟨T2, h2, X2, e2, W2, st2⟩ := stB X0 hx hZ e0 Ar2 (j := (0 : Int32)) hin2 (g := (mkF m 31 #[own_vr r, own_vi (0 : Int32), own_vr b, own_vi (0 : Int32), own_vi (2 : Int32), own_vi (0 : Int32), own_vi (nar .char c0)] [(.int ((nar .char c0).toInt8.toInt32)), (.int (0 : Int32)), (.ref b)])) rfl rfl (hb hby own_d58_31)
 have V2 := Arv.set Ar2 q2 S2 M2 H2 G2 (fits_nar_byte _) W2 0 rfl (Nat.le_of_ble_eq_true rfl)
 have V2s : Arv Z h2 b kb .byte (2 : Int32) [(.int (nar .byte ((nar .char c0).toInt8.toInt32))), (.int (0 : Int32))] (.int (0 : Int32)) := V2
 have N2 := Fr.snoc X2 N0 gb
 refine own_st st2 ?_
 have O0_x2 := O0.wr W2 gb
 have VR_x2 := VR.other W2 hrb
 have K0_x2 := K0.wr W2 (Or.inl (List.mem_of_getElem? (i := 0) rfl))
 show own_Rch _ _ _ _ T2 (mkF m 32 #[own_vr r, own_vi (0 : Int32), own_vr b, own_vi (0 : Int32), own_vi (2 : Int32), own_vi (0 : Int32), own_vi (nar .char c0)] [])
 refine own_st (fun _ => XS.iinc X2.here hx rfl (hb hby own_d58_32) rfl (l' := #[own_vr r, own_vi (1 : Int32), own_vr b, own_vi (0 : Int32), own_vi (2 : Int32), own_vi (0 : Int32), own_vi (nar .char c0)]) rfl) ?_
 show own_Rch _ _ _ _ T2 (mkF m 35 #[own_vr r, own_vi (1 : Int32), own_vr b, own_vi (0 : Int32), own_vi (2 : Int32), own_vi (0 : Int32), own_vi (nar .char c0)] [])
 refine own_st (fun _ => XS.iinc X2.here hx rfl (hb hby own_d58_35) rfl (l' := #[own_vr r, own_vi (1 : Int32), own_vr b, own_vi (1 : Int32), own_vi (2 : Int32), own_vi (0 : Int32), own_vi (nar .char c0)]) rfl) ?_
 show own_Rch _ _ _ _ T2 (mkF m 38 #[own_vr r, own_vi (1 : Int32), own_vr b, own_vi (1 : Int32), own_vi (2 : Int32), own_vi (0 : Int32), own_vi (nar .char c0)] [])
 refine own_st (fun _ => XS.iinc X2.here hx rfl (hb hby own_d58_38) rfl (l' := #[own_vr r, own_vi (1 : Int32), own_vr b, own_vi (1 : Int32), own_vi (2 : Int32), own_vi (1 : Int32), own_vi (nar .char c0)]) rfl) ?_
 refine own_st (fun _ => XS.goto X2.here hx rfl (pc0 := 41) (pc' := 3) rfl (hb hby own_d58_41) (by decide) (by decide)) ?_
 refine own_iload X2 hx hby own_d58_3 rfl rfl ?_
 refine own_iload X2 hx hby own_d58_5 rfl rfl ?_
 show own_Rch _ _ _ _ T2 (mkF m 7 #[own_vr r, own_vi (1 : Int32), own_vr b, own_vi (1 : Int32), own_vi (2 : Int32), own_vi (1 : Int32), own_vi (nar .char c0)] [(.int (2 : Int32)), (.int (1 : Int32))])
 refine own_st (fun _ => XS.icmpNo X2.here hx rfl (hb hby own_d58_7) rfl (tlt ((by decide) : (1 : Int32) < (2 : Int32))).2.1) ?_
 refine own_aloadN X2 hx hby own_d58_10 rfl rfl rfl ?_
 refine own_iloadN X2 hx hby own_d58_11 rfl rfl ?_
 obtain ⟨cl3, Ar3, q3, S3, M3, H3, G3⟩ := id VR_x2
 have hin3 : ¬ ((1 : Int32) < 0 ∨ cl3.slots.size ≤ ((1 : Int32)).toNatClampNeg) := inb_of S3 ⟨by decide, by decide⟩
 refine own_st (X2.caload hx (j := (1 : Int32)) (v := (.int (nar .char c1))) (by rw [e2]; exact Ar3.1) (State.isArrayOf_alike (hZ).alike Ar3.2.1) Ar3.2.2 hin3 (H3.at hin3 rfl) (g := (mkF m 12 #[own_vr r, own_vi (1 : Int32), own_vr b, own_vi (1 : Int32), own_vi (2 : Int32), own_vi (1 : Int32), own_vi (nar .char c0)] [(.int (1 : Int32)), (.ref r)])) rfl rfl (hb hby own_d58_12)) ?_
 refine own_st (fun _ => XS.istore X2.here hx rfl (hb hby own_d58_13) rfl (l' := #[own_vr r, own_vi (1 : Int32), own_vr b, own_vi (1 : Int32), own_vi (2 : Int32), own_vi (1 : Int32), own_vi (nar .char c1)]) rfl) ?_
 refine own_iload X2 hx hby own_d58_15 rfl rfl ?_
 refine own_st (fun _ => XS.sipush X2.here hx rfl (hb hby own_d58_17)) ?_
 show own_Rch _ _ _ _ T2 (mkF m 20 #[own_vr r, own_vi (1 : Int32), own_vr b, own_vi (1 : Int32), own_vi (2 : Int32), own_vi (1 : Int32), own_vi (nar .char c1)] [(.int (255 : Int32)), (.int (nar .char c1))])
 refine own_st (fun _ => XS.icmpYes X2.here hx rfl (pc0 := 20) (pc' := 26) rfl (hb hby own_d58_20) rfl (flt (own_big hc1 : ¬ ((255 : Int32) < (nar .char c1)))).2.2.2 (by decide) (by decide)) ?_
 refine own_aloadN X2 hx hby own_d58_26 rfl rfl rfl ?_
 refine own_iloadN X2 hx hby own_d58_27 rfl rfl ?_
 refine own_iload X2 hx hby own_d58_28 rfl rfl ?_
 show own_Rch _ _ _ _ T2 (mkF m 30 #[own_vr r, own_vi (1 : Int32), own_vr b, own_vi (1 : Int32), own_vi (2 : Int32), own_vi (1 : Int32), own_vi (nar .char c1)] [(.int (nar .char c1)), (.int (1 : Int32)), (.ref b)])
 refine own_st (fun _ => XS.i2b X2.here hx rfl (hb hby own_d58_30) rfl) ?_
 obtain ⟨cl4, Ar4, q4, S4, M4, H4, G4⟩ := id V2s
 have hin4 : ¬ ((1 : Int32) < 0 ∨ cl4.slots.size ≤ ((1 : Int32)).toNatClampNeg) := inb_of S4 ⟨by decide, by decide⟩
 obtain ⟨T4, h4, X4, e4, W4, st4⟩ := stB X2 hx hZ e2 Ar4 (j := (1 : Int32)) hin4 (g := (mkF m 31 #[own_vr r, own_vi (1 : Int32), own_vr b, own_vi (1 : Int32), own_vi (2 : Int32), own_vi (1 : Int32), own_vi (nar .char c1)] [(.int ((nar .char c1).toInt8.toInt32)), (.int (1 : Int32)), (.ref b)])) rfl rfl (hb hby own_d58_31)
 have V4 := Arv.set Ar4 q4 S4 M4 H4 G4 (fits_nar_byte _) W4 1 rfl (Nat.le_of_ble_eq_true rfl)
 have V4s : Arv Z h4 b kb .byte (2 : Int32) [(.int (nar .byte ((nar .char c0).toInt8.toInt32))), (.int (nar .byte ((nar .char c1).toInt8.toInt32)))] (.int (0 : Int32)) := V4
 have N4 := Fr.snoc X4 N2 gb
 refine own_st st4 ?_
 have O0_x4 := O0_x2.wr W4 gb
 have VR_x4 := VR_x2.other W4 hrb
 have K0_x4 := K0_x2.wr W4 (Or.inl (List.mem_of_getElem? (i := 0) rfl))
 show own_Rch _ _ _ _ T4 (mkF m 32 #[own_vr r, own_vi (1 : Int32), own_vr b, own_vi (1 : Int32), own_vi (2 : Int32), own_vi (1 : Int32), own_vi (nar .char c1)] [])
 refine own_st (fun _ => XS.iinc X4.here hx rfl (hb hby own_d58_32) rfl (l' := #[own_vr r, own_vi (2 : Int32), own_vr b, own_vi (1 : Int32), own_vi (2 : Int32), own_vi (1 : Int32), own_vi (nar .char c1)]) rfl) ?_
 show own_Rch _ _ _ _ T4 (mkF m 35 #[own_vr r, own_vi (2 : Int32), own_vr b, own_vi (1 : Int32), own_vi (2 : Int32), own_vi (1 : Int32), own_vi (nar .char c1)] [])
 refine own_st (fun _ => XS.iinc X4.here hx rfl (hb hby own_d58_35) rfl (l' := #[own_vr r, own_vi (2 : Int32), own_vr b, own_vi (2 : Int32), own_vi (2 : Int32), own_vi (1 : Int32), own_vi (nar .char c1)]) rfl) ?_
 show own_Rch _ _ _ _ T4 (mkF m 38 #[own_vr r, own_vi (2 : Int32), own_vr b, own_vi (2 : Int32), own_vi (2 : Int32), own_vi (1 : Int32), own_vi (nar .char c1)] [])
 refine own_st (fun _ => XS.iinc X4.here hx rfl (hb hby own_d58_38) rfl (l' := #[own_vr r, own_vi (2 : Int32), own_vr b, own_vi (2 : Int32), own_vi (2 : Int32), own_vi (2 : Int32), own_vi (nar .char c1)]) rfl) ?_
 refine own_st (fun _ => XS.goto X4.here hx rfl (pc0 := 41) (pc' := 3) rfl (hb hby own_d58_41) (by decide) (by decide)) ?_
 refine own_iload X4 hx hby own_d58_3 rfl rfl ?_
 refine own_iload X4 hx hby own_d58_5 rfl rfl ?_
 show own_Rch _ _ _ _ T4 (mkF m 7 #[own_vr r, own_vi (2 : Int32), own_vr b, own_vi (2 : Int32), own_vi (2 : Int32), own_vi (2 : Int32), own_vi (nar .char c1)] [(.int (2 : Int32)), (.int (2 : Int32))])
 refine own_st (fun _ => XS.icmpYes X4.here hx rfl (pc0 := 7) (pc' := 44) rfl (hb hby own_d58_7) rfl (flt ((by decide) : ¬ ((2 : Int32) < (2 : Int32)))).2.1 (by decide) (by decide)) ?_
 refine own_iload X4 hx hby own_d58_44 rfl rfl ?_
 show own_Rch _ _ _ _ T4 (mkF m 46 #[own_vr r, own_vi (2 : Int32), own_vr b, own_vi (2 : Int32), own_vi (2 : Int32), own_vi (2 : Int32), own_vi (nar .char c1)] [(.int (2 : Int32))])
 refine own_retI X4 hx Bd.notSynchronized Bd.returns (hb hby own_d58_46) (by decide) (by decide) ?_
 rw [e4]
 exact ⟨rfl, N4, K0_x4, V4s⟩
theorem own_ef57 (m : MethodId) (x0 : Addr) (x1 : Int32) (x2 : Int32) : entryFrame m #[(.ref x0), (.int x1), (.int x2)] 6 = mkF m 0 #[own_vr x0, own_vi x1, own_vi x2, .unset, .unset, .unset] [] := by first | (simp [entryFrame, mkF, argsToLocals, Value.category]; done) | rfl
abbrev own_c57 : ByteArray := jdk_52_method_16_code
theorem own_d57_0 : decode own_c57 0 = .ok (.iload_n 2, 1) := by decide +kernel
theorem own_d57_1 : decode own_c57 1 = .ok (.newarray .byte, 2) := by decide +kernel
theorem own_d57_3 : decode own_c57 3 = .ok (.astore_n 3, 1) := by decide +kernel
theorem own_d57_4 : decode own_c57 4 = .ok (.aload_n 0, 1) := by decide +kernel
theorem own_d57_5 : decode own_c57 5 = .ok (.iload_n 1, 1) := by decide +kernel
theorem own_d57_6 : decode own_c57 6 = .ok (.aload_n 3, 1) := by decide +kernel
theorem own_d57_7 : decode own_c57 7 = .ok (.iconst 0, 1) := by decide +kernel
theorem own_d57_8 : decode own_c57 8 = .ok (.iload_n 2, 1) := by decide +kernel
theorem own_d57_9 : decode own_c57 9 = .ok (.invokestatic 115, 3) := by decide +kernel
theorem own_pd27 : parseMethodDescriptor "([CI[BII)I" = some ⟨[(.array .char), .int, (.array .byte), .int, .int], some .int⟩ := by decide +kernel
theorem own_d57_12 : decode own_c57 12 = .ok (.istore 4, 2) := by decide +kernel
theorem own_d57_14 : decode own_c57 14 = .ok (.iload 4, 2) := by decide +kernel
theorem own_d57_16 : decode own_c57 16 = .ok (.iload_n 2, 1) := by decide +kernel
theorem own_d57_17 : decode own_c57 17 = .ok (.if_icmp .eq 40, 3) := by decide +kernel
theorem own_d57_57 : decode own_c57 57 = .ok (.aload_n 3, 1) := by decide +kernel
theorem own_d57_58 : decode own_c57 58 = .ok (.areturn, 1) := by decide +kernel
abbrev own_y27 : MethodName := ⟨"java/lang/StringUTF16", "compress", "([CII)[B"⟩
def own_Q_own_c3_2 (Z : State) (r : Addr) (kr : ClassId) (c0 : Int32) (c1 : Int32) (c2 : Int32) (h0 : Heap) (n0 : Nat) (v : Option Value) (h : Heap) (L : List Loc) : Prop := ∃ (b : Addr) (kb : ClassId), v = some (.ref b) ∧ Fr n0 L ∧ Keep h0 h [] ∧ h0.size ≤ b ∧ Arv Z h b kb .byte (2 : Int32) [(.int (own_b c0)), (.int (own_b c1))] (.int (0 : Int32))
theorem own_c3_2 (l : Launch) (Z : State) (a0 : Array Value) (hw : ∀ d ∈ tables_1, d.before a0 Z = true) (ws : List Jvm.Cond) (r : Addr) (kr : ClassId) (c0 : Int32) (c1 : Int32) (c2 : Int32) (h0 : Heap) (n0 : Nat) (O0 : Old Z n0 h0) (VR : Arv Z h0 r kr .char (2 : Int32) [(.int (nar .char c0)), (.int (nar .char c1))] (.int (0 : Int32))) (hc0 : own_ch c0) (hc1 : own_ch c1) (hc2 : own_ch c2) :
    own_Mt l own_y27 own_c57 6 (some (.array .byte)) ws (own_r 1 1 2 18) #[(.ref r), (.int (0 : Int32)), (.int (2 : Int32))] Z h0 (own_Q_own_c3_2 Z r kr c0 c1 c2 h0 n0) := by
 refine MetFree.of_bodySF (plainFor_of_name own_pn7) hisR ?_
 intro p_ e s m args below meth c_ s₁ Bd hml0 hP hK
 obtain ⟨rfl, hZ, hh⟩ := hP
 have hx := Bd.exec
 have hby := Bd.bytes
 have hml : c_.maxLocals = 6 := hml0
 have hown : s.vm.findClass "java/lang/StringUTF16" = some m.cls := findClass_of_methodNamed Bd.named
 have hnm := (name_of_methodNamed Bd.named Bd.method).1
 have X0 : Stand p_ l e (own_r 1 1 2 18) s m #[(.ref r), (.int (0 : Int32)), (.int (2 : Int32))] below meth c_ s₁ [] 0 0 := Stand.of_body Bd
 have e0 : s₁.heap = h0 := by rw [← hh, Bd.state]; rfl
 have N0 := Fr.nil n0
 refine own_close (s := s) (Q := (own_Q_own_c3_2 Z r kr c0 c1 c2 h0 n0)) (own_st (fun _ => castTop (own_ef57 m r (0 : Int32) (2 : Int32))) ?_)
 have K0 := Keep.refl h0 []
 show own_Rch _ _ _ _ s₁ (mkF m 0 #[own_vr r, own_vi (0 : Int32), own_vi (2 : Int32), .unset, .unset, .unset] [])
 refine own_iloadN X0 hx hby own_d57_0 rfl rfl ?_
 obtain ⟨T1, h1, k1, X1, e1, E1, A1, st1⟩ := newP X0 hx hZ (hw _ (own_m 7 rfl)) e0 (g := (mkF m 1 #[own_vr r, own_vi (0 : Int32), own_vi (2 : Int32), .unset, .unset, .unset] [(.int (2 : Int32))])) rfl (hb hby own_d57_1) rfl (by decide) (cap := 2) (by decide) (by decide) (by decide) (by decide)
 obtain ⟨b1, g1⟩ : ∃ z, z = h0.size := ⟨_, rfl⟩
 rw [← g1] at A1 st1
 have ge1 : n0 ≤ b1 := by rw [g1]; exact own_old_le O0
 have ne1_r : r ≠ b1 := by rw [g1]; exact Nat.ne_of_lt VR.lt
 have sz1 : h0.size ≤ b1 := by rw [g1]; exact K0.1
 have O0_x1 := O0.ext E1
 have VR_x1 := VR.ext E1
 have K0_x1 := K0.ext E1
 refine own_st st1 ?_
 have V1 := Arv.new A1 (by decide)
 have V1p : Arv Z h1 b1 k1 .byte (2 : Int32) [(.int (0 : Int32)), (.int (0 : Int32))] (.int (0 : Int32)) := V1.pad (pad_rep [] (.int (0 : Int32)) 2)
 refine own_st (fun _ => XS.astoreN X1.here hx rfl (hb hby own_d57_3) rfl rfl (l' := #[own_vr r, own_vi (0 : Int32), own_vi (2 : Int32), own_vr b1, .unset, .unset]) rfl) ?_
 refine own_aloadN X1 hx hby own_d57_4 rfl rfl rfl ?_
 refine own_iloadN X1 hx hby own_d57_5 rfl rfl ?_
 refine own_aloadN X1 hx hby own_d57_6 rfl rfl rfl ?_
 refine own_iconst X1 hx hby own_d57_7 rfl ?_
 refine own_iloadN X1 hx hby own_d57_8 rfl rfl ?_
 obtain ⟨_, _, ⟨T2, L2, k2, n2⟩, -, X2, ⟨Lc2, hQ2, l2, y2, z2⟩, st2⟩ := Jvm.LawKit.callS X1 hx (y := own_y26) hown (mvT hZ (hw _ (own_m 359 rfl))) (mvT hZ (hw _ (own_m 360 rfl))) (mvT hZ (hw _ (own_m 357 rfl))) (mvT hZ (hw _ (own_m 361 rfl))) (by decide) (backOf (W := 0) (own_c5_2 l Z a0 hw [] r kr b1 k1 c0 c1 c2 h1 n0 O0_x1 VR_x1 V1p ge1 ne1_r hc0 hc1 hc2) hZ (hw _ (own_m 361 rfl)) (hw _ (own_m 357 rfl)) (by decide) (by decide)) (g := (mkF m 9 #[own_vr r, own_vi (0 : Int32), own_vi (2 : Int32), own_vr b1, .unset, .unset] [(.int (2 : Int32)), (.int (0 : Int32)), (.ref b1), (.int (0 : Int32)), (.ref r)])) rfl (by rw [hml]; rfl) (argsL := [(.ref r), (.int (0 : Int32)), (.ref b1), (.int (0 : Int32)), (.int (2 : Int32))]) (rest := []) (lenOf own_pd27 rfl) rfl (by show 2 * 0 + _ ≤ _; exact Nat.le_of_eq rfl) (hb hby own_d57_9) (fun _ _ => ⟨rfl, e1, (by decide : 1 + 0 ≤ _), (by decide : 2 + 0 ≤ _)⟩)
 dsimp only [Pt.U, Pt.locs, Pt.cells, Pt.slots] at X2 l2 y2 z2 st2 hQ2
 subst l2 y2 z2
 obtain ⟨rfl, N2q, K2, Vb2⟩ := hQ2
 have N2 := Fr.app N0 N2q
 refine own_st st2 ?_
 have O0_x2 := O0_x1.keep K2 (allS ge1 all0)
 have VR_x2 := VR_x1.keep K2 (ninS ne1_r nin0)
 have K0_x2 := K0_x1.trans K2 (allS (Or.inr sz1) all0)
 refine own_st (fun _ => XS.istore X2.here hx rfl (hb hby own_d57_12) rfl (l' := #[own_vr r, own_vi (0 : Int32), own_vi (2 : Int32), own_vr b1, own_vi (2 : Int32), .unset]) rfl) ?_
 refine own_iload X2 hx hby own_d57_14 rfl rfl ?_
 refine own_iloadN X2 hx hby own_d57_16 rfl rfl ?_
 show own_Rch _ _ _ _ T2 (mkF m 17 #[own_vr r, own_vi (0 : Int32), own_vi (2 : Int32), own_vr b1, own_vi (2 : Int32), .unset] [(.int (2 : Int32)), (.int (2 : Int32))])
 refine own_st (fun _ => XS.icmpYes X2.here hx rfl (pc0 := 17) (pc' := 57) rfl (hb hby own_d57_17) rfl (teq (rfl : (2 : Int32) = (2 : Int32))).1 (by decide) (by decide)) ?_
 refine own_aloadN X2 hx hby own_d57_57 rfl rfl rfl ?_
 show own_Rch _ _ _ _ T2 (mkF m 58 #[own_vr r, own_vi (0 : Int32), own_vi (2 : Int32), own_vr b1, own_vi (2 : Int32), .unset] [(.ref b1)])
 refine own_retA rfl rfl X2 hx Bd.notSynchronized Bd.returns (hb hby own_d57_58) (by decide) (by decide) ?_
 exact ⟨_, _, rfl, N2, K0_x2, sz1, Vb2⟩
theorem own_ef59 (m : MethodId) (x0 : Addr) (x1 : Int32) : entryFrame m #[(.ref x0), (.int x1)] 2 = mkF m 0 #[own_vr x0, own_vi x1] [] := by first | (simp [entryFrame, mkF, argsToLocals, Value.category]; done) | rfl
abbrev own_c59 : ByteArray := jdk_52_method_15_code
theorem own_d59_0 : decode own_c59 0 = .ok (.iload_n 1, 1) := by decide +kernel
theorem own_d59_1 : decode own_c59 1 = .ok (.aload_n 0, 1) := by decide +kernel
theorem own_d59_2 : decode own_c59 2 = .ok (.arraylength, 1) := by decide +kernel
theorem own_d59_3 : decode own_c59 3 = .ok (.isub, 1) := by decide +kernel
theorem own_d59_4 : decode own_c59 4 = .ok (.bipush 31, 2) := by decide +kernel
theorem own_d59_6 : decode own_c59 6 = .ok (.iushr, 1) := by decide +kernel
theorem own_d59_7 : decode own_c59 7 = .ok (.i2b, 1) := by decide +kernel
theorem own_d59_8 : decode own_c59 8 = .ok (.ireturn, 1) := by decide +kernel
abbrev own_y28 : MethodName := ⟨"java/lang/StringUTF16", "coderFromArrayLen", "([BI)B"⟩
def own_Q_own_cf_2 (Z : State) (b : Addr) (kb : ClassId) (vs : List Value) (h0 : Heap) (n0 : Nat) (v : Option Value) (h : Heap) (L : List Loc) : Prop := v = some (.int (0 : Int32)) ∧ Fr n0 L ∧ h = h0
theorem own_cf_2 (l : Launch) (Z : State) (a0 : Array Value) (hw : ∀ d ∈ tables_1, d.before a0 Z = true) (ws : List Jvm.Cond) (b : Addr) (kb : ClassId) (vs : List Value) (h0 : Heap) (n0 : Nat) (O0 : Old Z n0 h0) (VB : Arv Z h0 b kb .byte (2 : Int32) vs (.int (0 : Int32))) :
    own_Mt l own_y28 own_c59 2 (some .byte) ws (own_r 0 0 0 0) #[(.ref b), (.int (2 : Int32))] Z h0 (own_Q_own_cf_2 Z b kb vs h0 n0) := by
 refine MetFree.of_bodySF (plainFor_of_name own_pn7) hisR ?_
 intro p_ e s m args below meth c_ s₁ Bd hml0 hP hK
 obtain ⟨rfl, hZ, hh⟩ := hP
 have hx := Bd.exec
 have hby := Bd.bytes
 have hml : c_.maxLocals = 2 := hml0
 have hown : s.vm.findClass "java/lang/StringUTF16" = some m.cls := findClass_of_methodNamed Bd.named
 have hnm := (name_of_methodNamed Bd.named Bd.method).1
 have X0 : Stand p_ l e (own_r 0 0 0 0) s m #[(.ref b), (.int (2 : Int32))] below meth c_ s₁ [] 0 0 := Stand.of_body Bd
 have e0 : s₁.heap = h0 := by rw [← hh, Bd.state]; rfl
 have N0 := Fr.nil n0
 refine own_close (s := s) (Q := (own_Q_own_cf_2 Z b kb vs h0 n0)) (own_st (fun _ => castTop (own_ef59 m b (2 : Int32))) ?_)
 show own_Rch _ _ _ _ s₁ (mkF m 0 #[own_vr b, own_vi (2 : Int32)] [])
 refine own_iloadN X0 hx hby own_d59_0 rfl rfl ?_
 refine own_aloadN X0 hx hby own_d59_1 rfl rfl rfl ?_
 obtain ⟨cl1, Ar1, -, S1, M1, -, -⟩ := id VB
 refine own_st (X0.arraylength hx (by rw [e0]; exact Ar1.1) (State.isArrayOf_alike (hZ).alike Ar1.2.1) (g := (mkF m 2 #[own_vr b, own_vi (2 : Int32)] [(.ref b), (.int (2 : Int32))])) rfl rfl (hb hby own_d59_2)) ?_
 rw [len_of S1 M1]
 show own_Rch _ _ _ _ s₁ (mkF m 3 #[own_vr b, own_vi (2 : Int32)] [(.int (2 : Int32)), (.int (2 : Int32))])
 refine own_st (fun _ => XS.isub X0.here hx rfl (hb hby own_d59_3) rfl) ?_
 refine own_st (fun _ => XS.bipush X0.here hx rfl (hb hby own_d59_4)) ?_
 show own_Rch _ _ _ _ s₁ (mkF m 6 #[own_vr b, own_vi (2 : Int32)] [(.int (31 : Int32)), (.int (0 : Int32))])
 refine own_st (fun _ => XS.iushr X0.here hx rfl (hb hby own_d59_6) rfl) ?_
 show own_Rch _ _ _ _ s₁ (mkF m 7 #[own_vr b, own_vi (2 : Int32)] [(.int (((0 : Int32).toUInt32 >>> ((31 : Int32) &&& 31).toUInt32).toInt32))])
 refine own_st (fun _ => XS.i2b X0.here hx rfl (hb hby own_d59_7) rfl) ?_
 show own_Rch _ _ _ _ s₁ (mkF m 8 #[own_vr b, own_vi (2 : Int32)] [(.int ((((0 : Int32).toUInt32 >>> ((31 : Int32) &&& 31).toUInt32).toInt32).toInt8.toInt32))])
 refine own_retN (t := .byte) (by simp) X0 hx Bd.notSynchronized Bd.returns (hb hby own_d59_8) (by decide) (by decide) ?_
 rw [e0]
 exact ⟨by decide, N0, rfl⟩
theorem own_ef56n4 (m : MethodId) (x0 : Addr) (x1 : Addr) (x2 : Int32) (x3 : Int32) : entryFrame m #[(.ref x0), (.ref x1), (.int x2), (.int x3), .null] 6 = mkF m 0 #[own_vr x0, own_vr x1, own_vi x2, own_vi x3, .val .null, .unset] [] := by first | (simp [entryFrame, mkF, argsToLocals, Value.category]; done) | rfl
abbrev own_c56 : ByteArray := jdk_42_method_149_code
theorem own_d56_0 : decode own_c56 0 = .ok (.aload_n 0, 1) := by decide +kernel
theorem own_d56_1 : decode own_c56 1 = .ok (.invokespecial 1, 3) := by decide +kernel
theorem own_d56_4 : decode own_c56 4 = .ok (.iload_n 3, 1) := by decide +kernel
theorem own_d56_5 : decode own_c56 5 = .ok (.ifCond .ne 22, 3) := by decide +kernel
theorem own_d56_27 : decode own_c56 27 = .ok (.getstatic 38, 3) := by decide +kernel
theorem own_d56_30 : decode own_c56 30 = .ok (.ifCond .eq 28, 3) := by decide +kernel
theorem own_d56_33 : decode own_c56 33 = .ok (.aload_n 1, 1) := by decide +kernel
theorem own_d56_34 : decode own_c56 34 = .ok (.iload_n 2, 1) := by decide +kernel
theorem own_d56_35 : decode own_c56 35 = .ok (.iload_n 3, 1) := by decide +kernel
theorem own_d56_36 : decode own_c56 36 = .ok (.invokestatic 177, 3) := by decide +kernel
theorem own_pd28 : parseMethodDescriptor "([CII)[B" = some ⟨[(.array .char), .int, .int], some (.array .byte)⟩ := by decide +kernel
theorem own_d56_39 : decode own_c56 39 = .ok (.astore 5, 2) := by decide +kernel
theorem own_d56_41 : decode own_c56 41 = .ok (.aload_n 0, 1) := by decide +kernel
theorem own_d56_42 : decode own_c56 42 = .ok (.aload 5, 2) := by decide +kernel
theorem own_d56_44 : decode own_c56 44 = .ok (.iload_n 3, 1) := by decide +kernel
theorem own_d56_45 : decode own_c56 45 = .ok (.invokestatic 47, 3) := by decide +kernel
theorem own_pd29 : parseMethodDescriptor "([BI)B" = some ⟨[(.array .byte), .int], some .byte⟩ := by decide +kernel
theorem own_d56_48 : decode own_c56 48 = .ok (.putfield 15, 3) := by decide +kernel
theorem own_d56_51 : decode own_c56 51 = .ok (.aload_n 0, 1) := by decide +kernel
theorem own_d56_52 : decode own_c56 52 = .ok (.aload 5, 2) := by decide +kernel
theorem own_d56_54 : decode own_c56 54 = .ok (.putfield 9, 3) := by decide +kernel
theorem own_d56_57 : decode own_c56 57 = .ok (.return_, 1) := by decide +kernel
abbrev own_y29 : MethodName := ⟨"java/lang/String", "<init>", "([CIILjava/lang/Void;)V"⟩
def own_Q_own_i5_2 (Z : State) (a : Addr) (r : Addr) (kr : ClassId) (c0 : Int32) (c1 : Int32) (c2 : Int32) (cs : Int32) (h0 : Heap) (n0 : Nat) (v : Option Value) (h : Heap) (L : List Loc) : Prop := v = none ∧ Fr n0 L ∧ Keep h0 h [a] ∧ ∃ (y : Addr) (ky : ClassId), Exa Z h a "java/lang/String" ∧ Fld Z h a "java/lang/String" "value" "[B" (.ref y) ∧ Fld Z h a "java/lang/String" "coder" "B" (.int (0 : Int32)) ∧ Arv Z h y ky .byte (2 : Int32) [(.int (own_b c0)), (.int (own_b c1))] (.int (0 : Int32))
theorem own_i5_2 (l : Launch) (Z : State) (a0 : Array Value) (hw : ∀ d ∈ tables_1, d.before a0 Z = true) (ws : List Jvm.Cond) (a : Addr) (r : Addr) (kr : ClassId) (c0 : Int32) (c1 : Int32) (c2 : Int32) (cs : Int32) (h0 : Heap) (n0 : Nat) (O0 : Old Z n0 h0) (SC : Sta Z Z.heap "java/lang/String" "COMPACT_STRINGS" "Z" (.int cs)) (hcs : ¬ cs = 0) (VR : Arv Z h0 r kr .char (2 : Int32) [(.int (nar .char c0)), (.int (nar .char c1))] (.int (0 : Int32))) (EA : Exa Z h0 a "java/lang/String") (FV : Fld Z h0 a "java/lang/String" "value" "[B" .null) (FC : Fld Z h0 a "java/lang/String" "coder" "B" (.int (0 : Int32))) (ga : n0 ≤ a) (hc0 : own_ch c0) (hc1 : own_ch c1) (hc2 : own_ch c2) :
    own_Mt l own_y29 own_c56 6 none ws (own_r 2 1 2 35) #[(.ref a), (.ref r), (.int (0 : Int32)), (.int (2 : Int32)), .null] Z h0 (own_Q_own_i5_2 Z a r kr c0 c1 c2 cs h0 n0) := by
 refine MetFree.of_bodySF (plainFor_of_name own_pn0) hisR ?_
 intro p_ e s m args below meth c_ s₁ Bd hml0 hP hK
 obtain ⟨rfl, hZ, hh⟩ := hP
 have hx := Bd.exec
 have hby := Bd.bytes
 have hml : c_.maxLocals = 6 := hml0
 have hown : s.vm.findClass "java/lang/String" = some m.cls := findClass_of_methodNamed Bd.named
 have hnm := (name_of_methodNamed Bd.named Bd.method).1
 have X0 : Stand p_ l e (own_r 2 1 2 35) s m #[(.ref a), (.ref r), (.int (0 : Int32)), (.int (2 : Int32)), .null] below meth c_ s₁ [] 0 0 := Stand.of_body Bd
 have e0 : s₁.heap = h0 := by rw [← hh, Bd.state]; rfl
 have N0 := Fr.nil n0
 refine own_close (s := s) (Q := (own_Q_own_i5_2 Z a r kr c0 c1 c2 cs h0 n0)) (own_st (fun _ => castTop (own_ef56n4 m a r (0 : Int32) (2 : Int32))) ?_)
 have K0 := Keep.refl h0 [a]
 show own_Rch _ _ _ _ s₁ (mkF m 0 #[own_vr a, own_vr r, own_vi (0 : Int32), own_vi (2 : Int32), .val .null, .unset] [])
 refine own_aloadN X0 hx hby own_d56_0 rfl rfl rfl ?_
 obtain ⟨T1, X1, e1, st1⟩ := initO X0 hx hZ hown (hw _ (own_m 240 rfl)) (hw _ (own_m 35 rfl)) (hw _ (own_m 36 rfl)) e0 (g := (mkF m 1 #[own_vr a, own_vr r, own_vi (0 : Int32), own_vi (2 : Int32), .val .null, .unset] [(.ref a)])) rfl (by rw [hml]; rfl) rfl (hb hby own_d56_1) (by decide) (W := 0) (by show 2 * 0 + _ ≤ _; exact Nat.le_of_eq rfl) (by decide)
 refine own_st st1 ?_
 refine own_iloadN X1 hx hby own_d56_4 rfl rfl ?_
 show own_Rch _ _ _ _ T1 (mkF m 5 #[own_vr a, own_vr r, own_vi (0 : Int32), own_vi (2 : Int32), .val .null, .unset] [(.int (2 : Int32))])
 refine own_st (fun _ => XS.ifYes X1.here hx rfl (pc0 := 5) (pc' := 27) rfl (hb hby own_d56_5) rfl ((if0 _ _).trans (feq ((by decide) : ¬ ((2 : Int32) = (0 : Int32)))).2) (by decide) (by decide)) ?_
 obtain ⟨T2, X2, e2, st2⟩ := getS2 X1 hx hZ hown (host := "") (Or.inl (hw _ (own_m 172 rfl))) Via.refl e1 (SC.ext O0.2) (g := (mkF m 27 #[own_vr a, own_vr r, own_vi (0 : Int32), own_vi (2 : Int32), .val .null, .unset] [])) rfl (hb hby own_d56_27)
 refine own_st st2 ?_
 show own_Rch _ _ _ _ T2 (mkF m 30 #[own_vr a, own_vr r, own_vi (0 : Int32), own_vi (2 : Int32), .val .null, .unset] [(.int cs)])
 refine own_st (fun _ => XS.ifNo X2.here hx rfl (hb hby own_d56_30) rfl ((if0 _ _).trans (feq (hcs : ¬ (cs = (0 : Int32)))).1)) ?_
 refine own_aloadN X2 hx hby own_d56_33 rfl rfl rfl ?_
 refine own_iloadN X2 hx hby own_d56_34 rfl rfl ?_
 refine own_iloadN X2 hx hby own_d56_35 rfl rfl ?_
 obtain ⟨_, _, ⟨T3, L3, k3, n3⟩, -, X3, ⟨Lc3, hQ3, l3, y3, z3⟩, st3⟩ := Jvm.LawKit.callS X2 hx (y := own_y27) hown (mvT hZ (hw _ (own_m 355 rfl))) (mvT hZ (hw _ (own_m 356 rfl))) (mvT hZ (hw _ (own_m 357 rfl))) (mvT hZ (hw _ (own_m 358 rfl))) (by decide) (backOf (W := 0) (own_c3_2 l Z a0 hw [] r kr c0 c1 c2 h0 n0 O0 VR hc0 hc1 hc2) hZ (hw _ (own_m 358 rfl)) (hw _ (own_m 357 rfl)) (by decide) (by decide)) (g := (mkF m 36 #[own_vr a, own_vr r, own_vi (0 : Int32), own_vi (2 : Int32), .val .null, .unset] [(.int (2 : Int32)), (.int (0 : Int32)), (.ref r)])) rfl (by rw [hml]; rfl) (argsL := [(.ref r), (.int (0 : Int32)), (.int (2 : Int32))]) (rest := []) (lenOf own_pd28 rfl) rfl (by show 2 * 0 + _ ≤ _; exact Nat.le_of_eq rfl) (hb hby own_d56_36) (fun _ _ => ⟨rfl, e2, (by decide : 0 + 1 ≤ _), (by decide : 0 + 2 ≤ _)⟩)
 dsimp only [Pt.U, Pt.locs, Pt.cells, Pt.slots] at X3 l3 y3 z3 st3 hQ3
 subst l3 y3 z3
 obtain ⟨by3, kb3, rfl, N3q, K3, hb3, Vb3⟩ := hQ3
 have N3 := Fr.app N0 N3q
 refine own_st st3 ?_
 have ne3_r_by3 : r ≠ by3 := Nat.ne_of_lt (Nat.lt_of_lt_of_le VR.lt hb3)
 have ne3_a_by3 : a ≠ by3 := Nat.ne_of_lt (Nat.lt_of_lt_of_le EA.lt hb3)
 have ge3_by3 : n0 ≤ by3 := Nat.le_trans (own_old_le O0) hb3
 have sz3_by3 : h0.size ≤ by3 := Nat.le_trans K0.1 hb3
 have O0_x3 := O0.keep K3 all0
 have VR_x3 := VR.keep K3 nin0
 have EA_x3 := EA.keep K3
 have FV_x3 := FV.keep K3 nin0
 have FC_x3 := FC.keep K3 nin0
 have K0_x3 := K0.trans K3 all0
 refine own_st (fun _ => XS.astore X3.here hx rfl (hb hby own_d56_39) rfl rfl (l' := #[own_vr a, own_vr r, own_vi (0 : Int32), own_vi (2 : Int32), .val .null, own_vr by3]) rfl) ?_
 refine own_aloadN X3 hx hby own_d56_41 rfl rfl rfl ?_
 refine own_aload X3 hx hby own_d56_42 rfl rfl rfl ?_
 refine own_iloadN X3 hx hby own_d56_44 rfl rfl ?_
 obtain ⟨_, _, ⟨T4, L4, k4, n4⟩, -, X4, ⟨Lc4, hQ4, l4, y4, z4⟩, st4⟩ := Jvm.LawKit.callS X3 hx (y := own_y28) hown (mvT hZ (hw _ (own_m 362 rfl))) (mvT hZ (hw _ (own_m 363 rfl))) (mvT hZ (hw _ (own_m 357 rfl))) (mvT hZ (hw _ (own_m 364 rfl))) (by decide) (backOf (W := 1) (own_cf_2 l Z a0 hw [] by3 kb3 _ T3.heap n0 O0_x3 Vb3) hZ (hw _ (own_m 364 rfl)) (hw _ (own_m 357 rfl)) (by decide) (by decide)) (g := (mkF m 45 #[own_vr a, own_vr r, own_vi (0 : Int32), own_vi (2 : Int32), .val .null, own_vr by3] [(.int (2 : Int32)), (.ref by3), (.ref a)])) rfl (by rw [hml]; rfl) (argsL := [(.ref by3), (.int (2 : Int32))]) (rest := [(.ref a)]) (lenOf own_pd29 rfl) rfl (by show 2 * 0 + _ ≤ _; exact Nat.le_of_eq rfl) (hb hby own_d56_45) (fun _ _ => ⟨rfl, rfl, (by decide : 1 + 0 ≤ _), (by decide : 2 + 0 ≤ _)⟩)
 dsimp only [Pt.U, Pt.locs, Pt.cells, Pt.slots] at X4 l4 y4 z4 st4 hQ4
 subst l4 y4 z4
 obtain ⟨rfl, N4q, hh4⟩ := hQ4
 have N4 := Fr.app N3 N4q
 refine own_st st4 ?_
 obtain ⟨T5, h5, X5, e5, W5, st5⟩ := putFN X4 hx hZ hown (hw _ (own_m 173 rfl)) Via.refl hh4 FC_x3 EA_x3 (Or.inr ⟨(hw _ (own_m 9 rfl)), rfl, hnm⟩) (hw _ (own_m 6 rfl)) (ty := .byte) (v' := (.int (0 : Int32))) (by decide) rfl (by decide) (g := (mkF m 48 #[own_vr a, own_vr r, own_vi (0 : Int32), own_vi (2 : Int32), .val .null, own_vr by3] [(.int (0 : Int32)), (.ref a)])) rfl rfl (hb hby own_d56_48)
 refine own_st st5 ?_
 have Fw5 := FC_x3.same W5
 have N5 := Fr.snoc X5 N4 ga
 have O0_x5 := O0_x3.wr W5 ga
 have VR_x5 := VR_x3.other W5 (Ne.symm (Exa.neArv EA VR (hw _ (own_m 6 rfl))))
 have EA_x5 := EA_x3.wr W5
 have FV_x5 := FV_x3.other W5 (Or.inr (slot_ne (Or.inr (hw _ (own_m 8 rfl))) (Or.inr (hw _ (own_m 9 rfl))) (by decide) (t := (.array .byte)) (t' := .byte) (by decide) (by decide)))
 have K0_x5 := K0_x3.wr W5 (Or.inl (List.mem_of_getElem? (i := 0) rfl))
 have Vb3_x5 := Vb3.other W5 (Ne.symm ne3_a_by3)
 refine own_aloadN X5 hx hby own_d56_51 rfl rfl rfl ?_
 refine own_aload X5 hx hby own_d56_52 rfl rfl rfl ?_
 obtain ⟨T6, h6, X6, e6, W6, st6⟩ := putF X5 hx hZ hown (host := "") (Or.inl (hw _ (own_m 166 rfl))) Via.refl e5 FV_x5 EA_x5 (Or.inr ⟨(hw _ (own_m 8 rfl)), rfl, hnm⟩) (hw _ (own_m 6 rfl)) (ty := (.array .byte)) (by decide) rfl rfl (g := (mkF m 54 #[own_vr a, own_vr r, own_vi (0 : Int32), own_vi (2 : Int32), .val .null, own_vr by3] [(.ref by3), (.ref a)])) rfl rfl (hb hby own_d56_54)
 refine own_st st6 ?_
 have Fw6 := FV_x5.same W6
 have N6 := Fr.snoc X6 N5 ga
 have O0_x6 := O0_x5.wr W6 ga
 have VR_x6 := VR_x5.other W6 (Ne.symm (Exa.neArv EA VR (hw _ (own_m 6 rfl))))
 have EA_x6 := EA_x5.wr W6
 have Fw5_x6 := Fw5.other W6 (Or.inr (slot_ne (Or.inr (hw _ (own_m 9 rfl))) (Or.inr (hw _ (own_m 8 rfl))) (by decide) (t := .byte) (t' := (.array .byte)) (by decide) (by decide)))
 have K0_x6 := K0_x5.wr W6 (Or.inl (List.mem_of_getElem? (i := 0) rfl))
 have Vb3_x6 := Vb3_x5.other W6 (Ne.symm ne3_a_by3)
 show own_Rch _ _ _ _ T6 (mkF m 57 #[own_vr a, own_vr r, own_vi (0 : Int32), own_vi (2 : Int32), .val .null, own_vr by3] [])
 refine own_retV X6 hx Bd.notSynchronized Bd.returns (hb hby own_d56_57) (by decide) (by decide) ?_
 rw [e6]
 exact ⟨rfl, N6, K0_x6, _, _, EA_x6, Fw6, Fw5_x6, Vb3_x6⟩
theorem own_ef55 (m : MethodId) (x0 : Addr) (x1 : Addr) : entryFrame m #[(.ref x0), (.ref x1)] 2 = mkF m 0 #[own_vr x0, own_vr x1] [] := by first | (simp [entryFrame, mkF, argsToLocals, Value.category]; done) | rfl
abbrev own_c55 : ByteArray := jdk_42_method_3_code
theorem own_d55_0 : decode own_c55 0 = .ok (.aload_n 0, 1) := by decide +kernel
theorem own_d55_1 : decode own_c55 1 = .ok (.aload_n 1, 1) := by decide +kernel
theorem own_d55_2 : decode own_c55 2 = .ok (.iconst 0, 1) := by decide +kernel
theorem own_d55_3 : decode own_c55 3 = .ok (.aload_n 1, 1) := by decide +kernel
theorem own_d55_4 : decode own_c55 4 = .ok (.arraylength, 1) := by decide +kernel
theorem own_d55_5 : decode own_c55 5 = .ok (.aconst_null, 1) := by decide +kernel
theorem own_d55_6 : decode own_c55 6 = .ok (.invokespecial 27, 3) := by decide +kernel
theorem own_pd30 : parseMethodDescriptor "([CIILjava/lang/Void;)V" = some ⟨[(.array .char), .int, .int, (.object "java/lang/Void")], none⟩ := by decide +kernel
theorem own_d55_9 : decode own_c55 9 = .ok (.return_, 1) := by decide +kernel
def own_Q_own_i1_2 (Z : State) (a : Addr) (r : Addr) (kr : ClassId) (c0 : Int32) (c1 : Int32) (c2 : Int32) (cs : Int32) (h0 : Heap) (n0 : Nat) (v : Option Value) (h : Heap) (L : List Loc) : Prop := v = none ∧ Fr n0 L ∧ Keep h0 h [a] ∧ ∃ (y : Addr) (ky : ClassId), Exa Z h a "java/lang/String" ∧ Fld Z h a "java/lang/String" "value" "[B" (.ref y) ∧ Fld Z h a "java/lang/String" "coder" "B" (.int (0 : Int32)) ∧ Arv Z h y ky .byte (2 : Int32) [(.int (own_b c0)), (.int (own_b c1))] (.int (0 : Int32))
theorem own_i1_2 (l : Launch) (Z : State) (a0 : Array Value) (hw : ∀ d ∈ tables_1, d.before a0 Z = true) (ws : List Jvm.Cond) (a : Addr) (r : Addr) (kr : ClassId) (c0 : Int32) (c1 : Int32) (c2 : Int32) (cs : Int32) (h0 : Heap) (n0 : Nat) (O0 : Old Z n0 h0) (SC : Sta Z Z.heap "java/lang/String" "COMPACT_STRINGS" "Z" (.int cs)) (hcs : ¬ cs = 0) (VR : Arv Z h0 r kr .char (2 : Int32) [(.int (nar .char c0)), (.int (nar .char c1))] (.int (0 : Int32))) (EA : Exa Z h0 a "java/lang/String") (FV : Fld Z h0 a "java/lang/String" "value" "[B" .null) (FC : Fld Z h0 a "java/lang/String" "coder" "B" (.int (0 : Int32))) (ga : n0 ≤ a) (hc0 : own_ch c0) (hc1 : own_ch c1) (hc2 : own_ch c2) :
    own_Mt l (⟨"java/lang/String", "<init>", "([C)V"⟩ : MethodName) own_c55 2 none ws (own_r 3 1 2 52) #[(.ref a), (.ref r)] Z h0 (own_Q_own_i1_2 Z a r kr c0 c1 c2 cs h0 n0) := by
 refine MetFree.of_bodySF (plainFor_of_name own_pn0) hisR ?_
 intro p_ e s m args below meth c_ s₁ Bd hml0 hP hK
 obtain ⟨rfl, hZ, hh⟩ := hP
 have hx := Bd.exec
 have hby := Bd.bytes
 have hml : c_.maxLocals = 2 := hml0
 have hown : s.vm.findClass "java/lang/String" = some m.cls := findClass_of_methodNamed Bd.named
 have hnm := (name_of_methodNamed Bd.named Bd.method).1
 have X0 : Stand p_ l e (own_r 3 1 2 52) s m #[(.ref a), (.ref r)] below meth c_ s₁ [] 0 0 := Stand.of_body Bd
 have e0 : s₁.heap = h0 := by rw [← hh, Bd.state]; rfl
 have N0 := Fr.nil n0
 refine own_close (s := s) (Q := (own_Q_own_i1_2 Z a r kr c0 c1 c2 cs h0 n0)) (own_st (fun _ => castTop (own_ef55 m a r)) ?_)
 have K0 := Keep.refl h0 [a]
 show own_Rch _ _ _ _ s₁ (mkF m 0 #[own_vr a, own_vr r] [])
 refine own_aloadN X0 hx hby own_d55_0 rfl rfl rfl ?_
 refine own_aloadN X0 hx hby own_d55_1 rfl rfl rfl ?_
 refine own_iconst X0 hx hby own_d55_2 rfl ?_
 refine own_aloadN X0 hx hby own_d55_3 rfl rfl rfl ?_
 obtain ⟨cl1, Ar1, -, S1, M1, -, -⟩ := id VR
 refine own_st (X0.arraylength hx (by rw [e0]; exact Ar1.1) (State.isArrayOf_alike (hZ).alike Ar1.2.1) (g := (mkF m 4 #[own_vr a, own_vr r] [(.ref r), (.int (0 : Int32)), (.ref r), (.ref a)])) rfl rfl (hb hby own_d55_4)) ?_
 rw [len_of S1 M1]
 refine own_st (fun _ => XS.aconstNull X0.here hx rfl (hb hby own_d55_5)) ?_
 obtain ⟨_, _, ⟨T2, L2, k2, n2⟩, -, X2, ⟨Lc2, hQ2, l2, y2, z2⟩, st2⟩ := X0.specialBack hx (y := own_y29) rfl hown (mvT hZ (hw _ (own_m 352 rfl))) (mvT hZ (hw _ (own_m 353 rfl))) (mvT hZ (hw _ (own_m 354 rfl))) (by decide) (backOf (W := 0) (own_i5_2 l Z a0 hw [] a r kr c0 c1 c2 cs h0 n0 O0 SC hcs VR EA FV FC ga hc0 hc1 hc2) hZ (hw _ (own_m 354 rfl)) (hw _ (own_m 5 rfl)) (by decide) (by decide)) (g := (mkF m 6 #[own_vr a, own_vr r] [.null, (.int (2 : Int32)), (.int (0 : Int32)), (.ref r), (.ref a)])) rfl (by rw [hml]; rfl) (Steps.refl _) (a := a) (argsL := [(.ref r), (.int (0 : Int32)), (.int (2 : Int32)), .null]) (rest := []) (lenOf own_pd30 rfl) rfl (by show 2 * 0 + _ ≤ _; exact Nat.le_of_eq rfl) (hb hby own_d55_6) (fun _ _ => ⟨rfl, e0, (by decide : 0 + 1 ≤ _), (by decide : 0 + 2 ≤ _)⟩)
 dsimp only [Pt.U, Pt.locs, Pt.cells, Pt.slots] at X2 l2 y2 z2 st2 hQ2
 subst l2 y2 z2
 obtain ⟨rfl, N2q, K2, yy2, ky2, Ea2, Fv2, Fc2, Vy2⟩ := hQ2
 have N2 := Fr.app N0 N2q
 refine own_st (fun _ kt => st2.trans kt) ?_
 have O0_x2 := O0.keep K2 (allS ga all0)
 have VR_x2 := VR.keep K2 (ninS (Ne.symm (Exa.neArv EA VR (hw _ (own_m 6 rfl)))) nin0)
 have EA_x2 := EA.keep K2
 have K0_x2 := K0.trans K2 (allS (Or.inl (List.mem_of_getElem? (i := 0) rfl)) all0)
 show own_Rch _ _ _ _ T2 (mkF m 9 #[own_vr a, own_vr r] [])
 refine own_retV X2 hx Bd.notSynchronized Bd.returns (hb hby own_d55_9) (by decide) (by decide) ?_
 exact ⟨rfl, N2, K0_x2, _, _, Ea2, Fv2, Fc2, Vy2⟩
def own_Q_own_c5_3 (Z : State) (r : Addr) (kr : ClassId) (b : Addr) (kb : ClassId) (c0 : Int32) (c1 : Int32) (c2 : Int32) (h0 : Heap) (n0 : Nat) (v : Option Value) (h : Heap) (L : List Loc) : Prop := v = some (.int (3 : Int32)) ∧ Fr n0 L ∧ Keep h0 h [b] ∧ Arv Z h b kb .byte (3 : Int32) [(.int (own_b c0)), (.int (own_b c1)), (.int (own_b c2))] (.int (0 : Int32))
theorem own_c5_3 (l : Launch) (Z : State) (a0 : Array Value) (hw : ∀ d ∈ tables_1, d.before a0 Z = true) (ws : List Jvm.Cond) (r : Addr) (kr : ClassId) (b : Addr) (kb : ClassId) (c0 : Int32) (c1 : Int32) (c2 : Int32) (h0 : Heap) (n0 : Nat) (O0 : Old Z n0 h0) (VR : Arv Z h0 r kr .char (3 : Int32) [(.int (nar .char c0)), (.int (nar .char c1)), (.int (nar .char c2))] (.int (0 : Int32))) (VB : Arv Z h0 b kb .byte (3 : Int32) [(.int (0 : Int32)), (.int (0 : Int32)), (.int (0 : Int32))] (.int (0 : Int32))) (gb : n0 ≤ b) (hrb : r ≠ b) (hc0 : own_ch c0) (hc1 : own_ch c1) (hc2 : own_ch c2) :
    own_Mt l own_y26 own_c58 7 (some .int) ws (own_r 0 0 0 0) #[(.ref r), (.int (0 : Int32)), (.ref b), (.int (0 : Int32)), (.int (3 : Int32))] Z h0 (own_Q_own_c5_3 Z r kr b kb c0 c1 c2 h0 n0) := by
 refine MetFree.of_bodySF (plainFor_of_name own_pn7) hisR ?_
 intro p_ e s m args below meth c_ s₁ Bd hml0 hP hK
 obtain ⟨rfl, hZ, hh⟩ := hP
 have hx := Bd.exec
 have hby := Bd.bytes
 have hml : c_.maxLocals = 7 := hml0
 have hown : s.vm.findClass "java/lang/StringUTF16" = some m.cls := findClass_of_methodNamed Bd.named
 have hnm := (name_of_methodNamed Bd.named Bd.method).1
 have X0 : Stand p_ l e (own_r 0 0 0 0) s m #[(.ref r), (.int (0 : Int32)), (.ref b), (.int (0 : Int32)), (.int (3 : Int32))] below meth c_ s₁ [] 0 0 := Stand.of_body Bd
 have e0 : s₁.heap = h0 := by rw [← hh, Bd.state]; rfl
 have N0 := Fr.nil n0
 refine own_close (s := s) (Q := (own_Q_own_c5_3 Z r kr b kb c0 c1 c2 h0 n0)) (own_st (fun _ => castTop (own_ef58 m r (0 : Int32) b (0 : Int32) (3 : Int32))) ?_)
 have K0 := Keep.refl h0 [b]
 show own_Rch _ _ _ _ s₁ (mkF m 0 #[own_vr r, own_vi (0 : Int32), own_vr b, own_vi (0 : Int32), own_vi (3 : Int32), .unset, .unset] [])
 refine own_iconst X0 hx hby own_d58_0 rfl ?_
 refine own_st (fun _ => XS.istore X0.here hx rfl (hb hby own_d58_1) rfl (l' := #[own_vr r, own_vi (0 : Int32), own_vr b, own_vi (0 : Int32), own_vi (3 : Int32), own_vi (0 : Int32), .unset]) rfl) ?_
 refine own_iload X0 hx hby own_d58_3 rfl rfl ?_
 refine own_iload X0 hx hby own_d58_5 rfl rfl ?_
 show own_Rch _ _ _ _ s₁ (mkF m 7 #[own_vr r, own_vi (0 : Int32), own_vr b, own_vi (0 : Int32), own_vi (3 : Int32), own_vi (0 : Int32), .unset] [(.int (3 : Int32)), (.int (0 : Int32))])
 refine own_st (fun _ => XS.icmpNo X0.here hx rfl (hb hby own_d58_7) rfl (tlt ((by decide) : (0 : Int32) < (3 : Int32))).2.1) ?_
 refine own_aloadN X0 hx hby own_d58_10 rfl rfl rfl ?_
 refine own_iloadN X0 hx hby own_d58_11 rfl rfl ?_
 obtain ⟨cl1, Ar1, q1, S1, M1, H1, G1⟩ := id VR
 have hin1 : ¬ ((0 : Int32) < 0 ∨ cl1.slots.size ≤ ((0 : Int32)).toNatClampNeg) := inb_of S1 ⟨by decide, by decide⟩
 refine own_st (X0.caload hx (j := (0 : Int32)) (v := (.int (nar .char c0))) (by rw [e0]; exact Ar1.1) (State.isArrayOf_alike (hZ).alike Ar1.2.1) Ar1.2.2 hin1 (H1.at hin1 rfl) (g := (mkF m 12 #[own_vr r, own_vi (0 : Int32), own_vr b, own_vi (0 : Int32), own_vi (3 : Int32), own_vi (0 : Int32), .unset] [(.int (0 : Int32)), (.ref r)])) rfl rfl (hb hby own_d58_12)) ?_
 refine own_st (fun _ => XS.istore X0.here hx rfl (hb hby own_d58_13) rfl (l' := #[own_vr r, own_vi (0 : Int32), own_vr b, own_vi (0 : Int32), own_vi (3 : Int32), own_vi (0 : Int32), own_vi (nar .char c0)]) rfl) ?_
 refine own_iload X0 hx hby own_d58_15 rfl rfl ?_
 refine own_st (fun _ => XS.sipush X0.here hx rfl (hb hby own_d58_17)) ?_
 show own_Rch _ _ _ _ s₁ (mkF m 20 #[own_vr r, own_vi (0 : Int32), own_vr b, own_vi (0 : Int32), own_vi (3 : Int32), own_vi (0 : Int32), own_vi (nar .char c0)] [(.int (255 : Int32)), (.int (nar .char c0))])
 refine own_st (fun _ => XS.icmpYes X0.here hx rfl (pc0 := 20) (pc' := 26) rfl (hb hby own_d58_20) rfl (flt (own_big hc0 : ¬ ((255 : Int32) < (nar .char c0)))).2.2.2 (by decide) (by decide)) ?_
 refine own_aloadN X0 hx hby own_d58_26 rfl rfl rfl ?_
 refine own_iloadN X0 hx hby own_d58_27 rfl rfl ?_
 refine own_iload X0 hx hby own_d58_28 rfl rfl ?_
 show own_Rch _ _ _ _ s₁ (mkF m 30 #[own_vr r, own_vi (0 : Int32), own_vr b, own_vi (0 : Int32), own_vi (3 : Int32), own_vi (0 : Int32), own_vi (nar .char c0)] [(.int (nar .char c0)), (.int (0 : Int32)), (.ref b)])
 refine own_st (fun _ => XS.i2b X0.here hx rfl (hb hby own_d58_30) rfl) ?_
 obtain ⟨cl2, Ar2, q2, S2, M2, H2, G2⟩ := id VB
 have hin2 : ¬ ((0 : Int32) < 0 ∨ cl2.slots.size ≤ ((0 : Int32)).toNatClampNeg) := inb_of S2 ⟨by decide, by decide⟩
 obtain ⟨T2, h2, X2, e2, W2, st2⟩ := stB X0 hx hZ e0 Ar2 (j := (0 : Int32)) hin2 (g := (mkF m 31 #[own_vr r, own_vi (0 : Int32), own_vr b, own_vi (0 : Int32), own_vi (3 : Int32), own_vi (0 : Int32), own_vi (nar .char c0)] [(.int ((nar .char c0).toInt8.toInt32)), (.int (0 : Int32)), (.ref b)])) rfl rfl (hb hby own_d58_31)
 have V2 := Arv.set Ar2 q2 S2 M2 H2 G2 (fits_nar_byte _) W2 0 rfl (Nat.le_of_ble_eq_true rfl)
 have V2s : Arv Z h2 b kb .byte (3 : Int32) [(.int (nar .byte ((nar .char c0).toInt8.toInt32))), (.int (0 : Int32)), (.int (0 : Int32))] (.int (0 : Int32)) := V2
 have N2 := Fr.snoc X2 N0 gb
 refine own_st st2 ?_
 have O0_x2 := O0.wr W2 gb
 have VR_x2 := VR.other W2 hrb
 have K0_x2 := K0.wr W2 (Or.inl (List.mem_of_getElem? (i := 0) rfl))
 show own_Rch _ _ _ _ T2 (mkF m 32 #[own_vr r, own_vi (0 : Int32), own_vr b, own_vi (0 : Int32), own_vi (3 : Int32), own_vi (0 : Int32), own_vi (nar .char c0)] [])
 refine own_st (fun _ => XS.iinc X2.here hx rfl (hb hby own_d58_32) rfl (l' := #[own_vr r, own_vi (1 : Int32), own_vr b, own_vi (0 : Int32), own_vi (3 : Int32), own_vi (0 : Int32), own_vi (nar .char c0)]) rfl) ?_
 show own_Rch _ _ _ _ T2 (mkF m 35 #[own_vr r, own_vi (1 : Int32), own_vr b, own_vi (0 : Int32), own_vi (3 : Int32), own_vi (0 : Int32), own_vi (nar .char c0)] [])
 refine own_st (fun _ => XS.iinc X2.here hx rfl (hb hby own_d58_35) rfl (l' := #[own_vr r, own_vi (1 : Int32), own_vr b, own_vi (1 : Int32), own_vi (3 : Int32), own_vi (0 : Int32), own_vi (nar .char c0)]) rfl) ?_
 show own_Rch _ _ _ _ T2 (mkF m 38 #[own_vr r, own_vi (1 : Int32), own_vr b, own_vi (1 : Int32), own_vi (3 : Int32), own_vi (0 : Int32), own_vi (nar .char c0)] [])
 refine own_st (fun _ => XS.iinc X2.here hx rfl (hb hby own_d58_38) rfl (l' := #[own_vr r, own_vi (1 : Int32), own_vr b, own_vi (1 : Int32), own_vi (3 : Int32), own_vi (1 : Int32), own_vi (nar .char c0)]) rfl) ?_
 refine own_st (fun _ => XS.goto X2.here hx rfl (pc0 := 41) (pc' := 3) rfl (hb hby own_d58_41) (by decide) (by decide)) ?_
 refine own_iload X2 hx hby own_d58_3 rfl rfl ?_
 refine own_iload X2 hx hby own_d58_5 rfl rfl ?_
 show own_Rch _ _ _ _ T2 (mkF m 7 #[own_vr r, own_vi (1 : Int32), own_vr b, own_vi (1 : Int32), own_vi (3 : Int32), own_vi (1 : Int32), own_vi (nar .char c0)] [(.int (3 : Int32)), (.int (1 : Int32))])
 refine own_st (fun _ => XS.icmpNo X2.here hx rfl (hb hby own_d58_7) rfl (tlt ((by decide) : (1 : Int32) < (3 : Int32))).2.1) ?_
 refine own_aloadN X2 hx hby own_d58_10 rfl rfl rfl ?_
 refine own_iloadN X2 hx hby own_d58_11 rfl rfl ?_
 obtain ⟨cl3, Ar3, q3, S3, M3, H3, G3⟩ := id VR_x2
 have hin3 : ¬ ((1 : Int32) < 0 ∨ cl3.slots.size ≤ ((1 : Int32)).toNatClampNeg) := inb_of S3 ⟨by decide, by decide⟩
 refine own_st (X2.caload hx (j := (1 : Int32)) (v := (.int (nar .char c1))) (by rw [e2]; exact Ar3.1) (State.isArrayOf_alike (hZ).alike Ar3.2.1) Ar3.2.2 hin3 (H3.at hin3 rfl) (g := (mkF m 12 #[own_vr r, own_vi (1 : Int32), own_vr b, own_vi (1 : Int32), own_vi (3 : Int32), own_vi (1 : Int32), own_vi (nar .char c0)] [(.int (1 : Int32)), (.ref r)])) rfl rfl (hb hby own_d58_12)) ?_
 refine own_st (fun _ => XS.istore X2.here hx rfl (hb hby own_d58_13) rfl (l' := #[own_vr r, own_vi (1 : Int32), own_vr b, own_vi (1 : Int32), own_vi (3 : Int32), own_vi (1 : Int32), own_vi (nar .char c1)]) rfl) ?_
 refine own_iload X2 hx hby own_d58_15 rfl rfl ?_
 refine own_st (fun _ => XS.sipush X2.here hx rfl (hb hby own_d58_17)) ?_
 show own_Rch _ _ _ _ T2 (mkF m 20 #[own_vr r, own_vi (1 : Int32), own_vr b, own_vi (1 : Int32), own_vi (3 : Int32), own_vi (1 : Int32), own_vi (nar .char c1)] [(.int (255 : Int32)), (.int (nar .char c1))])
 refine own_st (fun _ => XS.icmpYes X2.here hx rfl (pc0 := 20) (pc' := 26) rfl (hb hby own_d58_20) rfl (flt (own_big hc1 : ¬ ((255 : Int32) < (nar .char c1)))).2.2.2 (by decide) (by decide)) ?_
 refine own_aloadN X2 hx hby own_d58_26 rfl rfl rfl ?_
 refine own_iloadN X2 hx hby own_d58_27 rfl rfl ?_
 refine own_iload X2 hx hby own_d58_28 rfl rfl ?_
 show own_Rch _ _ _ _ T2 (mkF m 30 #[own_vr r, own_vi (1 : Int32), own_vr b, own_vi (1 : Int32), own_vi (3 : Int32), own_vi (1 : Int32), own_vi (nar .char c1)] [(.int (nar .char c1)), (.int (1 : Int32)), (.ref b)])
 refine own_st (fun _ => XS.i2b X2.here hx rfl (hb hby own_d58_30) rfl) ?_
 obtain ⟨cl4, Ar4, q4, S4, M4, H4, G4⟩ := id V2s
 have hin4 : ¬ ((1 : Int32) < 0 ∨ cl4.slots.size ≤ ((1 : Int32)).toNatClampNeg) := inb_of S4 ⟨by decide, by decide⟩
 obtain ⟨T4, h4, X4, e4, W4, st4⟩ := stB X2 hx hZ e2 Ar4 (j := (1 : Int32)) hin4 (g := (mkF m 31 #[own_vr r, own_vi (1 : Int32), own_vr b, own_vi (1 : Int32), own_vi (3 : Int32), own_vi (1 : Int32), own_vi (nar .char c1)] [(.int ((nar .char c1).toInt8.toInt32)), (.int (1 : Int32)), (.ref b)])) rfl rfl (hb hby own_d58_31)
 have V4 := Arv.set Ar4 q4 S4 M4 H4 G4 (fits_nar_byte _) W4 1 rfl (Nat.le_of_ble_eq_true rfl)
 have V4s : Arv Z h4 b kb .byte (3 : Int32) [(.int (nar .byte ((nar .char c0).toInt8.toInt32))), (.int (nar .byte ((nar .char c1).toInt8.toInt32))), (.int (0 : Int32))] (.int (0 : Int32)) := V4
 have N4 := Fr.snoc X4 N2 gb
 refine own_st st4 ?_
 have O0_x4 := O0_x2.wr W4 gb
 have VR_x4 := VR_x2.other W4 hrb
 have K0_x4 := K0_x2.wr W4 (Or.inl (List.mem_of_getElem? (i := 0) rfl))
 show own_Rch _ _ _ _ T4 (mkF m 32 #[own_vr r, own_vi (1 : Int32), own_vr b, own_vi (1 : Int32), own_vi (3 : Int32), own_vi (1 : Int32), own_vi (nar .char c1)] [])
 refine own_st (fun _ => XS.iinc X4.here hx rfl (hb hby own_d58_32) rfl (l' := #[own_vr r, own_vi (2 : Int32), own_vr b, own_vi (1 : Int32), own_vi (3 : Int32), own_vi (1 : Int32), own_vi (nar .char c1)]) rfl) ?_
 show own_Rch _ _ _ _ T4 (mkF m 35 #[own_vr r, own_vi (2 : Int32), own_vr b, own_vi (1 : Int32), own_vi (3 : Int32), own_vi (1 : Int32), own_vi (nar .char c1)] [])
 refine own_st (fun _ => XS.iinc X4.here hx rfl (hb hby own_d58_35) rfl (l' := #[own_vr r, own_vi (2 : Int32), own_vr b, own_vi (2 : Int32), own_vi (3 : Int32), own_vi (1 : Int32), own_vi (nar .char c1)]) rfl) ?_
 show own_Rch _ _ _ _ T4 (mkF m 38 #[own_vr r, own_vi (2 : Int32), own_vr b, own_vi (2 : Int32), own_vi (3 : Int32), own_vi (1 : Int32), own_vi (nar .char c1)] [])
 refine own_st (fun _ => XS.iinc X4.here hx rfl (hb hby own_d58_38) rfl (l' := #[own_vr r, own_vi (2 : Int32), own_vr b, own_vi (2 : Int32), own_vi (3 : Int32), own_vi (2 : Int32), own_vi (nar .char c1)]) rfl) ?_
 refine own_st (fun _ => XS.goto X4.here hx rfl (pc0 := 41) (pc' := 3) rfl (hb hby own_d58_41) (by decide) (by decide)) ?_
 refine own_iload X4 hx hby own_d58_3 rfl rfl ?_
 refine own_iload X4 hx hby own_d58_5 rfl rfl ?_
 show own_Rch _ _ _ _ T4 (mkF m 7 #[own_vr r, own_vi (2 : Int32), own_vr b, own_vi (2 : Int32), own_vi (3 : Int32), own_vi (2 : Int32), own_vi (nar .char c1)] [(.int (3 : Int32)), (.int (2 : Int32))])
 refine own_st (fun _ => XS.icmpNo X4.here hx rfl (hb hby own_d58_7) rfl (tlt ((by decide) : (2 : Int32) < (3 : Int32))).2.1) ?_
 refine own_aloadN X4 hx hby own_d58_10 rfl rfl rfl ?_
 refine own_iloadN X4 hx hby own_d58_11 rfl rfl ?_
 obtain ⟨cl5, Ar5, q5, S5, M5, H5, G5⟩ := id VR_x4
 have hin5 : ¬ ((2 : Int32) < 0 ∨ cl5.slots.size ≤ ((2 : Int32)).toNatClampNeg) := inb_of S5 ⟨by decide, by decide⟩
 refine own_st (X4.caload hx (j := (2 : Int32)) (v := (.int (nar .char c2))) (by rw [e4]; exact Ar5.1) (State.isArrayOf_alike (hZ).alike Ar5.2.1) Ar5.2.2 hin5 (H5.at hin5 rfl) (g := (mkF m 12 #[own_vr r, own_vi (2 : Int32), own_vr b, own_vi (2 : Int32), own_vi (3 : Int32), own_vi (2 : Int32), own_vi (nar .char c1)] [(.int (2 : Int32)), (.ref r)])) rfl rfl (hb hby own_d58_12)) ?_
 refine own_st (fun _ => XS.istore X4.here hx rfl (hb hby own_d58_13) rfl (l' := #[own_vr r, own_vi (2 : Int32), own_vr b, own_vi (2 : Int32), own_vi (3 : Int32), own_vi (2 : Int32), own_vi (nar .char c2)]) rfl) ?_
 refine own_iload X4 hx hby own_d58_15 rfl rfl ?_
 refine own_st (fun _ => XS.sipush X4.here hx rfl (hb hby own_d58_17)) ?_
 show own_Rch _ _ _ _ T4 (mkF m 20 #[own_vr r, own_vi (2 : Int32), own_vr b, own_vi (2 : Int32), own_vi (3 : Int32), own_vi (2 : Int32), own_vi (nar .char c2)] [(.int (255 : Int32)), (.int (nar .char c2))])
 refine own_st (fun _ => XS.icmpYes X4.here hx rfl (pc0 := 20) (pc' := 26) rfl (hb hby own_d58_20) rfl (flt (own_big hc2 : ¬ ((255 : Int32) < (nar .char c2)))).2.2.2 (by decide) (by decide)) ?_
 refine own_aloadN X4 hx hby own_d58_26 rfl rfl rfl ?_
 refine own_iloadN X4 hx hby own_d58_27 rfl rfl ?_
 refine own_iload X4 hx hby own_d58_28 rfl rfl ?_
 show own_Rch _ _ _ _ T4 (mkF m 30 #[own_vr r, own_vi (2 : Int32), own_vr b, own_vi (2 : Int32), own_vi (3 : Int32), own_vi (2 : Int32), own_vi (nar .char c2)] [(.int (nar .char c2)), (.int (2 : Int32)), (.ref b)])
 refine own_st (fun _ => XS.i2b X4.here hx rfl (hb hby own_d58_30) rfl) ?_
 obtain ⟨cl6, Ar6, q6, S6, M6, H6, G6⟩ := id V4s
 have hin6 : ¬ ((2 : Int32) < 0 ∨ cl6.slots.size ≤ ((2 : Int32)).toNatClampNeg) := inb_of S6 ⟨by decide, by decide⟩
 obtain ⟨T6, h6, X6, e6, W6, st6⟩ := stB X4 hx hZ e4 Ar6 (j := (2 : Int32)) hin6 (g := (mkF m 31 #[own_vr r, own_vi (2 : Int32), own_vr b, own_vi (2 : Int32), own_vi (3 : Int32), own_vi (2 : Int32), own_vi (nar .char c2)] [(.int ((nar .char c2).toInt8.toInt32)), (.int (2 : Int32)), (.ref b)])) rfl rfl (hb hby own_d58_31)
 have V6 := Arv.set Ar6 q6 S6 M6 H6 G6 (fits_nar_byte _) W6 2 rfl (Nat.le_of_ble_eq_true rfl)
 have V6s : Arv Z h6 b kb .byte (3 : Int32) [(.int (nar .byte ((nar .char c0).toInt8.toInt32))), (.int (nar .byte ((nar .char c1).toInt8.toInt32))), (.int (nar .byte ((nar .char c2).toInt8.toInt32)))] (.int (0 : Int32)) := V6
 have N6 := Fr.snoc X6 N4 gb
 refine own_st st6 ?_
 have O0_x6 := O0_x4.wr W6 gb
 have VR_x6 := VR_x4.other W6 hrb
 have K0_x6 := K0_x4.wr W6 (Or.inl (List.mem_of_getElem? (i := 0) rfl))
 show own_Rch _ _ _ _ T6 (mkF m 32 #[own_vr r, own_vi (2 : Int32), own_vr b, own_vi (2 : Int32), own_vi (3 : Int32), own_vi (2 : Int32), own_vi (nar .char c2)] [])
 refine own_st (fun _ => XS.iinc X6.here hx rfl (hb hby own_d58_32) rfl (l' := #[own_vr r, own_vi (3 : Int32), own_vr b, own_vi (2 : Int32), own_vi (3 : Int32), own_vi (2 : Int32), own_vi (nar .char c2)]) rfl) ?_
 show own_Rch _ _ _ _ T6 (mkF m 35 #[own_vr r, own_vi (3 : Int32), own_vr b, own_vi (2 : Int32), own_vi (3 : Int32), own_vi (2 : Int32), own_vi (nar .char c2)] [])
 refine own_st (fun _ => XS.iinc X6.here hx rfl (hb hby own_d58_35) rfl (l' := #[own_vr r, own_vi (3 : Int32), own_vr b, own_vi (3 : Int32), own_vi (3 : Int32), own_vi (2 : Int32), own_vi (nar .char c2)]) rfl) ?_
 show own_Rch _ _ _ _ T6 (mkF m 38 #[own_vr r, own_vi (3 : Int32), own_vr b, own_vi (3 : Int32), own_vi (3 : Int32), own_vi (2 : Int32), own_vi (nar .char c2)] [])
 refine own_st (fun _ => XS.iinc X6.here hx rfl (hb hby own_d58_38) rfl (l' := #[own_vr r, own_vi (3 : Int32), own_vr b, own_vi (3 : Int32), own_vi (3 : Int32), own_vi (3 : Int32), own_vi (nar .char c2)]) rfl) ?_
 refine own_st (fun _ => XS.goto X6.here hx rfl (pc0 := 41) (pc' := 3) rfl (hb hby own_d58_41) (by decide) (by decide)) ?_
 refine own_iload X6 hx hby own_d58_3 rfl rfl ?_
 refine own_iload X6 hx hby own_d58_5 rfl rfl ?_
 show own_Rch _ _ _ _ T6 (mkF m 7 #[own_vr r, own_vi (3 : Int32), own_vr b, own_vi (3 : Int32), own_vi (3 : Int32), own_vi (3 : Int32), own_vi (nar .char c2)] [(.int (3 : Int32)), (.int (3 : Int32))])
 refine own_st (fun _ => XS.icmpYes X6.here hx rfl (pc0 := 7) (pc' := 44) rfl (hb hby own_d58_7) rfl (flt ((by decide) : ¬ ((3 : Int32) < (3 : Int32)))).2.1 (by decide) (by decide)) ?_
 refine own_iload X6 hx hby own_d58_44 rfl rfl ?_
 show own_Rch _ _ _ _ T6 (mkF m 46 #[own_vr r, own_vi (3 : Int32), own_vr b, own_vi (3 : Int32), own_vi (3 : Int32), own_vi (3 : Int32), own_vi (nar .char c2)] [(.int (3 : Int32))])
 refine own_retI X6 hx Bd.notSynchronized Bd.returns (hb hby own_d58_46) (by decide) (by decide) ?_
 rw [e6]
 exact ⟨rfl, N6, K0_x6, V6s⟩
def own_Q_own_c3_3 (Z : State) (r : Addr) (kr : ClassId) (c0 : Int32) (c1 : Int32) (c2 : Int32) (h0 : Heap) (n0 : Nat) (v : Option Value) (h : Heap) (L : List Loc) : Prop := ∃ (b : Addr) (kb : ClassId), v = some (.ref b) ∧ Fr n0 L ∧ Keep h0 h [] ∧ h0.size ≤ b ∧ Arv Z h b kb .byte (3 : Int32) [(.int (own_b c0)), (.int (own_b c1)), (.int (own_b c2))] (.int (0 : Int32))
theorem own_c3_3 (l : Launch) (Z : State) (a0 : Array Value) (hw : ∀ d ∈ tables_1, d.before a0 Z = true) (ws : List Jvm.Cond) (r : Addr) (kr : ClassId) (c0 : Int32) (c1 : Int32) (c2 : Int32) (h0 : Heap) (n0 : Nat) (O0 : Old Z n0 h0) (VR : Arv Z h0 r kr .char (3 : Int32) [(.int (nar .char c0)), (.int (nar .char c1)), (.int (nar .char c2))] (.int (0 : Int32))) (hc0 : own_ch c0) (hc1 : own_ch c1) (hc2 : own_ch c2) :
    own_Mt l own_y27 own_c57 6 (some (.array .byte)) ws (own_r 1 1 3 18) #[(.ref r), (.int (0 : Int32)), (.int (3 : Int32))] Z h0 (own_Q_own_c3_3 Z r kr c0 c1 c2 h0 n0) := by
 refine MetFree.of_bodySF (plainFor_of_name own_pn7) hisR ?_
 intro p_ e s m args below meth c_ s₁ Bd hml0 hP hK
 obtain ⟨rfl, hZ, hh⟩ := hP
 have hx := Bd.exec
 have hby := Bd.bytes
 have hml : c_.maxLocals = 6 := hml0
 have hown : s.vm.findClass "java/lang/StringUTF16" = some m.cls := findClass_of_methodNamed Bd.named
 have hnm := (name_of_methodNamed Bd.named Bd.method).1
 have X0 : Stand p_ l e (own_r 1 1 3 18) s m #[(.ref r), (.int (0 : Int32)), (.int (3 : Int32))] below meth c_ s₁ [] 0 0 := Stand.of_body Bd
 have e0 : s₁.heap = h0 := by rw [← hh, Bd.state]; rfl
 have N0 := Fr.nil n0
 refine own_close (s := s) (Q := (own_Q_own_c3_3 Z r kr c0 c1 c2 h0 n0)) (own_st (fun _ => castTop (own_ef57 m r (0 : Int32) (3 : Int32))) ?_)
 have K0 := Keep.refl h0 []
 show own_Rch _ _ _ _ s₁ (mkF m 0 #[own_vr r, own_vi (0 : Int32), own_vi (3 : Int32), .unset, .unset, .unset] [])
 refine own_iloadN X0 hx hby own_d57_0 rfl rfl ?_
 obtain ⟨T1, h1, k1, X1, e1, E1, A1, st1⟩ := newP X0 hx hZ (hw _ (own_m 7 rfl)) e0 (g := (mkF m 1 #[own_vr r, own_vi (0 : Int32), own_vi (3 : Int32), .unset, .unset, .unset] [(.int (3 : Int32))])) rfl (hb hby own_d57_1) rfl (by decide) (cap := 3) (by decide) (by decide) (by decide) (by decide)
 obtain ⟨b1, g1⟩ : ∃ z, z = h0.size := ⟨_, rfl⟩
 rw [← g1] at A1 st1
 have ge1 : n0 ≤ b1 := by rw [g1]; exact own_old_le O0
 have ne1_r : r ≠ b1 := by rw [g1]; exact Nat.ne_of_lt VR.lt
 have sz1 : h0.size ≤ b1 := by rw [g1]; exact K0.1
 have O0_x1 := O0.ext E1
 have VR_x1 := VR.ext E1
 have K0_x1 := K0.ext E1
 refine own_st st1 ?_
 have V1 := Arv.new A1 (by decide)
 have V1p : Arv Z h1 b1 k1 .byte (3 : Int32) [(.int (0 : Int32)), (.int (0 : Int32)), (.int (0 : Int32))] (.int (0 : Int32)) := V1.pad (pad_rep [] (.int (0 : Int32)) 3)
 refine own_st (fun _ => XS.astoreN X1.here hx rfl (hb hby own_d57_3) rfl rfl (l' := #[own_vr r, own_vi (0 : Int32), own_vi (3 : Int32), own_vr b1, .unset, .unset]) rfl) ?_
 refine own_aloadN X1 hx hby own_d57_4 rfl rfl rfl ?_
 refine own_iloadN X1 hx hby own_d57_5 rfl rfl ?_
 refine own_aloadN X1 hx hby own_d57_6 rfl rfl rfl ?_
 refine own_iconst X1 hx hby own_d57_7 rfl ?_
 refine own_iloadN X1 hx hby own_d57_8 rfl rfl ?_
 obtain ⟨_, _, ⟨T2, L2, k2, n2⟩, -, X2, ⟨Lc2, hQ2, l2, y2, z2⟩, st2⟩ := Jvm.LawKit.callS X1 hx (y := own_y26) hown (mvT hZ (hw _ (own_m 359 rfl))) (mvT hZ (hw _ (own_m 360 rfl))) (mvT hZ (hw _ (own_m 357 rfl))) (mvT hZ (hw _ (own_m 361 rfl))) (by decide) (backOf (W := 0) (own_c5_3 l Z a0 hw [] r kr b1 k1 c0 c1 c2 h1 n0 O0_x1 VR_x1 V1p ge1 ne1_r hc0 hc1 hc2) hZ (hw _ (own_m 361 rfl)) (hw _ (own_m 357 rfl)) (by decide) (by decide)) (g := (mkF m 9 #[own_vr r, own_vi (0 : Int32), own_vi (3 : Int32), own_vr b1, .unset, .unset] [(.int (3 : Int32)), (.int (0 : Int32)), (.ref b1), (.int (0 : Int32)), (.ref r)])) rfl (by rw [hml]; rfl) (argsL := [(.ref r), (.int (0 : Int32)), (.ref b1), (.int (0 : Int32)), (.int (3 : Int32))]) (rest := []) (lenOf own_pd27 rfl) rfl (by show 2 * 0 + _ ≤ _; exact Nat.le_of_eq rfl) (hb hby own_d57_9) (fun _ _ => ⟨rfl, e1, (by decide : 1 + 0 ≤ _), (by decide : 3 + 0 ≤ _)⟩)
 dsimp only [Pt.U, Pt.locs, Pt.cells, Pt.slots] at X2 l2 y2 z2 st2 hQ2
 subst l2 y2 z2
 obtain ⟨rfl, N2q, K2, Vb2⟩ := hQ2
 have N2 := Fr.app N0 N2q
 refine own_st st2 ?_
 have O0_x2 := O0_x1.keep K2 (allS ge1 all0)
 have VR_x2 := VR_x1.keep K2 (ninS ne1_r nin0)
 have K0_x2 := K0_x1.trans K2 (allS (Or.inr sz1) all0)
 refine own_st (fun _ => XS.istore X2.here hx rfl (hb hby own_d57_12) rfl (l' := #[own_vr r, own_vi (0 : Int32), own_vi (3 : Int32), own_vr b1, own_vi (3 : Int32), .unset]) rfl) ?_
 refine own_iload X2 hx hby own_d57_14 rfl rfl ?_
 refine own_iloadN X2 hx hby own_d57_16 rfl rfl ?_
 show own_Rch _ _ _ _ T2 (mkF m 17 #[own_vr r, own_vi (0 : Int32), own_vi (3 : Int32), own_vr b1, own_vi (3 : Int32), .unset] [(.int (3 : Int32)), (.int (3 : Int32))])
 refine own_st (fun _ => XS.icmpYes X2.here hx rfl (pc0 := 17) (pc' := 57) rfl (hb hby own_d57_17) rfl (teq (rfl : (3 : Int32) = (3 : Int32))).1 (by decide) (by decide)) ?_
 refine own_aloadN X2 hx hby own_d57_57 rfl rfl rfl ?_
 show own_Rch _ _ _ _ T2 (mkF m 58 #[own_vr r, own_vi (0 : Int32), own_vi (3 : Int32), own_vr b1, own_vi (3 : Int32), .unset] [(.ref b1)])
 refine own_retA rfl rfl X2 hx Bd.notSynchronized Bd.returns (hb hby own_d57_58) (by decide) (by decide) ?_
 exact ⟨_, _, rfl, N2, K0_x2, sz1, Vb2⟩
def own_Q_own_cf_3 (Z : State) (b : Addr) (kb : ClassId) (vs : List Value) (h0 : Heap) (n0 : Nat) (v : Option Value) (h : Heap) (L : List Loc) : Prop := v = some (.int (0 : Int32)) ∧ Fr n0 L ∧ h = h0
theorem own_cf_3 (l : Launch) (Z : State) (a0 : Array Value) (hw : ∀ d ∈ tables_1, d.before a0 Z = true) (ws : List Jvm.Cond) (b : Addr) (kb : ClassId) (vs : List Value) (h0 : Heap) (n0 : Nat) (O0 : Old Z n0 h0) (VB : Arv Z h0 b kb .byte (3 : Int32) vs (.int (0 : Int32))) :
    own_Mt l own_y28 own_c59 2 (some .byte) ws (own_r 0 0 0 0) #[(.ref b), (.int (3 : Int32))] Z h0 (own_Q_own_cf_3 Z b kb vs h0 n0) := by
 refine MetFree.of_bodySF (plainFor_of_name own_pn7) hisR ?_
 intro p_ e s m args below meth c_ s₁ Bd hml0 hP hK
 obtain ⟨rfl, hZ, hh⟩ := hP
 have hx := Bd.exec
 have hby := Bd.bytes
 have hml : c_.maxLocals = 2 := hml0
 have hown : s.vm.findClass "java/lang/StringUTF16" = some m.cls := findClass_of_methodNamed Bd.named
 have hnm := (name_of_methodNamed Bd.named Bd.method).1
 have X0 : Stand p_ l e (own_r 0 0 0 0) s m #[(.ref b), (.int (3 : Int32))] below meth c_ s₁ [] 0 0 := Stand.of_body Bd
 have e0 : s₁.heap = h0 := by rw [← hh, Bd.state]; rfl
 have N0 := Fr.nil n0
 refine own_close (s := s) (Q := (own_Q_own_cf_3 Z b kb vs h0 n0)) (own_st (fun _ => castTop (own_ef59 m b (3 : Int32))) ?_)
 show own_Rch _ _ _ _ s₁ (mkF m 0 #[own_vr b, own_vi (3 : Int32)] [])
 refine own_iloadN X0 hx hby own_d59_0 rfl rfl ?_
 refine own_aloadN X0 hx hby own_d59_1 rfl rfl rfl ?_
 obtain ⟨cl1, Ar1, -, S1, M1, -, -⟩ := id VB
 refine own_st (X0.arraylength hx (by rw [e0]; exact Ar1.1) (State.isArrayOf_alike (hZ).alike Ar1.2.1) (g := (mkF m 2 #[own_vr b, own_vi (3 : Int32)] [(.ref b), (.int (3 : Int32))])) rfl rfl (hb hby own_d59_2)) ?_
 rw [len_of S1 M1]
 show own_Rch _ _ _ _ s₁ (mkF m 3 #[own_vr b, own_vi (3 : Int32)] [(.int (3 : Int32)), (.int (3 : Int32))])
 refine own_st (fun _ => XS.isub X0.here hx rfl (hb hby own_d59_3) rfl) ?_
 refine own_st (fun _ => XS.bipush X0.here hx rfl (hb hby own_d59_4)) ?_
 show own_Rch _ _ _ _ s₁ (mkF m 6 #[own_vr b, own_vi (3 : Int32)] [(.int (31 : Int32)), (.int (0 : Int32))])
 refine own_st (fun _ => XS.iushr X0.here hx rfl (hb hby own_d59_6) rfl) ?_
 show own_Rch _ _ _ _ s₁ (mkF m 7 #[own_vr b, own_vi (3 : Int32)] [(.int (((0 : Int32).toUInt32 >>> ((31 : Int32) &&& 31).toUInt32).toInt32))])
 refine own_st (fun _ => XS.i2b X0.here hx rfl (hb hby own_d59_7) rfl) ?_
 show own_Rch _ _ _ _ s₁ (mkF m 8 #[own_vr b, own_vi (3 : Int32)] [(.int ((((0 : Int32).toUInt32 >>> ((31 : Int32) &&& 31).toUInt32).toInt32).toInt8.toInt32))])
 refine own_retN (t := .byte) (by simp) X0 hx Bd.notSynchronized Bd.returns (hb hby own_d59_8) (by decide) (by decide) ?_
 rw [e0]
 exact ⟨by decide, N0, rfl⟩
def own_Q_own_i5_3 (Z : State) (a : Addr) (r : Addr) (kr : ClassId) (c0 : Int32) (c1 : Int32) (c2 : Int32) (cs : Int32) (h0 : Heap) (n0 : Nat) (v : Option Value) (h : Heap) (L : List Loc) : Prop := v = none ∧ Fr n0 L ∧ Keep h0 h [a] ∧ ∃ (y : Addr) (ky : ClassId), Exa Z h a "java/lang/String" ∧ Fld Z h a "java/lang/String" "value" "[B" (.ref y) ∧ Fld Z h a "java/lang/String" "coder" "B" (.int (0 : Int32)) ∧ Arv Z h y ky .byte (3 : Int32) [(.int (own_b c0)), (.int (own_b c1)), (.int (own_b c2))] (.int (0 : Int32))
theorem own_i5_3 (l : Launch) (Z : State) (a0 : Array Value) (hw : ∀ d ∈ tables_1, d.before a0 Z = true) (ws : List Jvm.Cond) (a : Addr) (r : Addr) (kr : ClassId) (c0 : Int32) (c1 : Int32) (c2 : Int32) (cs : Int32) (h0 : Heap) (n0 : Nat) (O0 : Old Z n0 h0) (SC : Sta Z Z.heap "java/lang/String" "COMPACT_STRINGS" "Z" (.int cs)) (hcs : ¬ cs = 0) (VR : Arv Z h0 r kr .char (3 : Int32) [(.int (nar .char c0)), (.int (nar .char c1)), (.int (nar .char c2))] (.int (0 : Int32))) (EA : Exa Z h0 a "java/lang/String") (FV : Fld Z h0 a "java/lang/String" "value" "[B" .null) (FC : Fld Z h0 a "java/lang/String" "coder" "B" (.int (0 : Int32))) (ga : n0 ≤ a) (hc0 : own_ch c0) (hc1 : own_ch c1) (hc2 : own_ch c2) :
    own_Mt l own_y29 own_c56 6 none ws (own_r 2 1 3 35) #[(.ref a), (.ref r), (.int (0 : Int32)), (.int (3 : Int32)), .null] Z h0 (own_Q_own_i5_3 Z a r kr c0 c1 c2 cs h0 n0) := by
 refine MetFree.of_bodySF (plainFor_of_name own_pn0) hisR ?_
 intro p_ e s m args below meth c_ s₁ Bd hml0 hP hK
 obtain ⟨rfl, hZ, hh⟩ := hP
 have hx := Bd.exec
 have hby := Bd.bytes
 have hml : c_.maxLocals = 6 := hml0
 have hown : s.vm.findClass "java/lang/String" = some m.cls := findClass_of_methodNamed Bd.named
 have hnm := (name_of_methodNamed Bd.named Bd.method).1
 have X0 : Stand p_ l e (own_r 2 1 3 35) s m #[(.ref a), (.ref r), (.int (0 : Int32)), (.int (3 : Int32)), .null] below meth c_ s₁ [] 0 0 := Stand.of_body Bd
 have e0 : s₁.heap = h0 := by rw [← hh, Bd.state]; rfl
 have N0 := Fr.nil n0
 refine own_close (s := s) (Q := (own_Q_own_i5_3 Z a r kr c0 c1 c2 cs h0 n0)) (own_st (fun _ => castTop (own_ef56n4 m a r (0 : Int32) (3 : Int32))) ?_)
 have K0 := Keep.refl h0 [a]
 show own_Rch _ _ _ _ s₁ (mkF m 0 #[own_vr a, own_vr r, own_vi (0 : Int32), own_vi (3 : Int32), .val .null, .unset] [])
 refine own_aloadN X0 hx hby own_d56_0 rfl rfl rfl ?_
 obtain ⟨T1, X1, e1, st1⟩ := initO X0 hx hZ hown (hw _ (own_m 240 rfl)) (hw _ (own_m 35 rfl)) (hw _ (own_m 36 rfl)) e0 (g := (mkF m 1 #[own_vr a, own_vr r, own_vi (0 : Int32), own_vi (3 : Int32), .val .null, .unset] [(.ref a)])) rfl (by rw [hml]; rfl) rfl (hb hby own_d56_1) (by decide) (W := 0) (by show 2 * 0 + _ ≤ _; exact Nat.le_of_eq rfl) (by decide)
 refine own_st st1 ?_
 refine own_iloadN X1 hx hby own_d56_4 rfl rfl ?_
 show own_Rch _ _ _ _ T1 (mkF m 5 #[own_vr a, own_vr r, own_vi (0 : Int32), own_vi (3 : Int32), .val .null, .unset] [(.int (3 : Int32))])
 refine own_st (fun _ => XS.ifYes X1.here hx rfl (pc0 := 5) (pc' := 27) rfl (hb hby own_d56_5) rfl ((if0 _ _).trans (feq ((by decide) : ¬ ((3 : Int32) = (0 : Int32)))).2) (by decide) (by decide)) ?_
 obtain ⟨T2, X2, e2, st2⟩ := getS2 X1 hx hZ hown (host := "") (Or.inl (hw _ (own_m 172 rfl))) Via.refl e1 (SC.ext O0.2) (g := (mkF m 27 #[own_vr a, own_vr r, own_vi (0 : Int32), own_vi (3 : Int32), .val .null, .unset] [])) rfl (hb hby own_d56_27)
 refine own_st st2 ?_
 show own_Rch _ _ _ _ T2 (mkF m 30 #[own_vr a, own_vr r, own_vi (0 : Int32), own_vi (3 : Int32), .val .null, .unset] [(.int cs)])
 refine own_st (fun _ => XS.ifNo X2.here hx rfl (hb hby own_d56_30) rfl ((if0 _ _).trans (feq (hcs : ¬ (cs = (0 : Int32)))).1)) ?_
 refine own_aloadN X2 hx hby own_d56_33 rfl rfl rfl ?_
 refine own_iloadN X2 hx hby own_d56_34 rfl rfl ?_
 refine own_iloadN X2 hx hby own_d56_35 rfl rfl ?_
 obtain ⟨_, _, ⟨T3, L3, k3, n3⟩, -, X3, ⟨Lc3, hQ3, l3, y3, z3⟩, st3⟩ := Jvm.LawKit.callS X2 hx (y := own_y27) hown (mvT hZ (hw _ (own_m 355 rfl))) (mvT hZ (hw _ (own_m 356 rfl))) (mvT hZ (hw _ (own_m 357 rfl))) (mvT hZ (hw _ (own_m 358 rfl))) (by decide) (backOf (W := 0) (own_c3_3 l Z a0 hw [] r kr c0 c1 c2 h0 n0 O0 VR hc0 hc1 hc2) hZ (hw _ (own_m 358 rfl)) (hw _ (own_m 357 rfl)) (by decide) (by decide)) (g := (mkF m 36 #[own_vr a, own_vr r, own_vi (0 : Int32), own_vi (3 : Int32), .val .null, .unset] [(.int (3 : Int32)), (.int (0 : Int32)), (.ref r)])) rfl (by rw [hml]; rfl) (argsL := [(.ref r), (.int (0 : Int32)), (.int (3 : Int32))]) (rest := []) (lenOf own_pd28 rfl) rfl (by show 2 * 0 + _ ≤ _; exact Nat.le_of_eq rfl) (hb hby own_d56_36) (fun _ _ => ⟨rfl, e2, (by decide : 0 + 1 ≤ _), (by decide : 0 + 3 ≤ _)⟩)
 dsimp only [Pt.U, Pt.locs, Pt.cells, Pt.slots] at X3 l3 y3 z3 st3 hQ3
 subst l3 y3 z3
 obtain ⟨by3, kb3, rfl, N3q, K3, hb3, Vb3⟩ := hQ3
 have N3 := Fr.app N0 N3q
 refine own_st st3 ?_
 have ne3_r_by3 : r ≠ by3 := Nat.ne_of_lt (Nat.lt_of_lt_of_le VR.lt hb3)
 have ne3_a_by3 : a ≠ by3 := Nat.ne_of_lt (Nat.lt_of_lt_of_le EA.lt hb3)
 have ge3_by3 : n0 ≤ by3 := Nat.le_trans (own_old_le O0) hb3
 have sz3_by3 : h0.size ≤ by3 := Nat.le_trans K0.1 hb3
 have O0_x3 := O0.keep K3 all0
 have VR_x3 := VR.keep K3 nin0
 have EA_x3 := EA.keep K3
 have FV_x3 := FV.keep K3 nin0
 have FC_x3 := FC.keep K3 nin0
 have K0_x3 := K0.trans K3 all0
 refine own_st (fun _ => XS.astore X3.here hx rfl (hb hby own_d56_39) rfl rfl (l' := #[own_vr a, own_vr r, own_vi (0 : Int32), own_vi (3 : Int32), .val .null, own_vr by3]) rfl) ?_
 refine own_aloadN X3 hx hby own_d56_41 rfl rfl rfl ?_
 refine own_aload X3 hx hby own_d56_42 rfl rfl rfl ?_
 refine own_iloadN X3 hx hby own_d56_44 rfl rfl ?_
 obtain ⟨_, _, ⟨T4, L4, k4, n4⟩, -, X4, ⟨Lc4, hQ4, l4, y4, z4⟩, st4⟩ := Jvm.LawKit.callS X3 hx (y := own_y28) hown (mvT hZ (hw _ (own_m 362 rfl))) (mvT hZ (hw _ (own_m 363 rfl))) (mvT hZ (hw _ (own_m 357 rfl))) (mvT hZ (hw _ (own_m 364 rfl))) (by decide) (backOf (W := 1) (own_cf_3 l Z a0 hw [] by3 kb3 _ T3.heap n0 O0_x3 Vb3) hZ (hw _ (own_m 364 rfl)) (hw _ (own_m 357 rfl)) (by decide) (by decide)) (g := (mkF m 45 #[own_vr a, own_vr r, own_vi (0 : Int32), own_vi (3 : Int32), .val .null, own_vr by3] [(.int (3 : Int32)), (.ref by3), (.ref a)])) rfl (by rw [hml]; rfl) (argsL := [(.ref by3), (.int (3 : Int32))]) (rest := [(.ref a)]) (lenOf own_pd29 rfl) rfl (by show 2 * 0 + _ ≤ _; exact Nat.le_of_eq rfl) (hb hby own_d56_45) (fun _ _ => ⟨rfl, rfl, (by decide : 1 + 0 ≤ _), (by decide : 3 + 0 ≤ _)⟩)
 dsimp only [Pt.U, Pt.locs, Pt.cells, Pt.slots] at X4 l4 y4 z4 st4 hQ4
 subst l4 y4 z4
 obtain ⟨rfl, N4q, hh4⟩ := hQ4
 have N4 := Fr.app N3 N4q
 refine own_st st4 ?_
 obtain ⟨T5, h5, X5, e5, W5, st5⟩ := putFN X4 hx hZ hown (hw _ (own_m 173 rfl)) Via.refl hh4 FC_x3 EA_x3 (Or.inr ⟨(hw _ (own_m 9 rfl)), rfl, hnm⟩) (hw _ (own_m 6 rfl)) (ty := .byte) (v' := (.int (0 : Int32))) (by decide) rfl (by decide) (g := (mkF m 48 #[own_vr a, own_vr r, own_vi (0 : Int32), own_vi (3 : Int32), .val .null, own_vr by3] [(.int (0 : Int32)), (.ref a)])) rfl rfl (hb hby own_d56_48)
 refine own_st st5 ?_
 have Fw5 := FC_x3.same W5
 have N5 := Fr.snoc X5 N4 ga
 have O0_x5 := O0_x3.wr W5 ga
 have VR_x5 := VR_x3.other W5 (Ne.symm (Exa.neArv EA VR (hw _ (own_m 6 rfl))))
 have EA_x5 := EA_x3.wr W5
 have FV_x5 := FV_x3.other W5 (Or.inr (slot_ne (Or.inr (hw _ (own_m 8 rfl))) (Or.inr (hw _ (own_m 9 rfl))) (by decide) (t := (.array .byte)) (t' := .byte) (by decide) (by decide)))
 have K0_x5 := K0_x3.wr W5 (Or.inl (List.mem_of_getElem? (i := 0) rfl))
 have Vb3_x5 := Vb3.other W5 (Ne.symm ne3_a_by3)
 refine own_aloadN X5 hx hby own_d56_51 rfl rfl rfl ?_
 refine own_aload X5 hx hby own_d56_52 rfl rfl rfl ?_
 obtain ⟨T6, h6, X6, e6, W6, st6⟩ := putF X5 hx hZ hown (host := "") (Or.inl (hw _ (own_m 166 rfl))) Via.refl e5 FV_x5 EA_x5 (Or.inr ⟨(hw _ (own_m 8 rfl)), rfl, hnm⟩) (hw _ (own_m 6 rfl)) (ty := (.array .byte)) (by decide) rfl rfl (g := (mkF m 54 #[own_vr a, own_vr r, own_vi (0 : Int32), own_vi (3 : Int32), .val .null, own_vr by3] [(.ref by3), (.ref a)])) rfl rfl (hb hby own_d56_54)
 refine own_st st6 ?_
 have Fw6 := FV_x5.same W6
 have N6 := Fr.snoc X6 N5 ga
 have O0_x6 := O0_x5.wr W6 ga
 have VR_x6 := VR_x5.other W6 (Ne.symm (Exa.neArv EA VR (hw _ (own_m 6 rfl))))
 have EA_x6 := EA_x5.wr W6
 have Fw5_x6 := Fw5.other W6 (Or.inr (slot_ne (Or.inr (hw _ (own_m 9 rfl))) (Or.inr (hw _ (own_m 8 rfl))) (by decide) (t := .byte) (t' := (.array .byte)) (by decide) (by decide)))
 have K0_x6 := K0_x5.wr W6 (Or.inl (List.mem_of_getElem? (i := 0) rfl))
 have Vb3_x6 := Vb3_x5.other W6 (Ne.symm ne3_a_by3)
 show own_Rch _ _ _ _ T6 (mkF m 57 #[own_vr a, own_vr r, own_vi (0 : Int32), own_vi (3 : Int32), .val .null, own_vr by3] [])
 refine own_retV X6 hx Bd.notSynchronized Bd.returns (hb hby own_d56_57) (by decide) (by decide) ?_
 rw [e6]
 exact ⟨rfl, N6, K0_x6, _, _, EA_x6, Fw6, Fw5_x6, Vb3_x6⟩
def own_Q_own_i1_3 (Z : State) (a : Addr) (r : Addr) (kr : ClassId) (c0 : Int32) (c1 : Int32) (c2 : Int32) (cs : Int32) (h0 : Heap) (n0 : Nat) (v : Option Value) (h : Heap) (L : List Loc) : Prop := v = none ∧ Fr n0 L ∧ Keep h0 h [a] ∧ ∃ (y : Addr) (ky : ClassId), Exa Z h a "java/lang/String" ∧ Fld Z h a "java/lang/String" "value" "[B" (.ref y) ∧ Fld Z h a "java/lang/String" "coder" "B" (.int (0 : Int32)) ∧ Arv Z h y ky .byte (3 : Int32) [(.int (own_b c0)), (.int (own_b c1)), (.int (own_b c2))] (.int (0 : Int32))
theorem own_i1_3 (l : Launch) (Z : State) (a0 : Array Value) (hw : ∀ d ∈ tables_1, d.before a0 Z = true) (ws : List Jvm.Cond) (a : Addr) (r : Addr) (kr : ClassId) (c0 : Int32) (c1 : Int32) (c2 : Int32) (cs : Int32) (h0 : Heap) (n0 : Nat) (O0 : Old Z n0 h0) (SC : Sta Z Z.heap "java/lang/String" "COMPACT_STRINGS" "Z" (.int cs)) (hcs : ¬ cs = 0) (VR : Arv Z h0 r kr .char (3 : Int32) [(.int (nar .char c0)), (.int (nar .char c1)), (.int (nar .char c2))] (.int (0 : Int32))) (EA : Exa Z h0 a "java/lang/String") (FV : Fld Z h0 a "java/lang/String" "value" "[B" .null) (FC : Fld Z h0 a "java/lang/String" "coder" "B" (.int (0 : Int32))) (ga : n0 ≤ a) (hc0 : own_ch c0) (hc1 : own_ch c1) (hc2 : own_ch c2) :
    own_Mt l (⟨"java/lang/String", "<init>", "([C)V"⟩ : MethodName) own_c55 2 none ws (own_r 3 1 3 52) #[(.ref a), (.ref r)] Z h0 (own_Q_own_i1_3 Z a r kr c0 c1 c2 cs h0 n0) := by
 refine MetFree.of_bodySF (plainFor_of_name own_pn0) hisR ?_
 intro p_ e s m args below meth c_ s₁ Bd hml0 hP hK
 obtain ⟨rfl, hZ, hh⟩ := hP
 have hx := Bd.exec
 have hby := Bd.bytes
 have hml : c_.maxLocals = 2 := hml0
 have hown : s.vm.findClass "java/lang/String" = some m.cls := findClass_of_methodNamed Bd.named
 have hnm := (name_of_methodNamed Bd.named Bd.method).1
 have X0 : Stand p_ l e (own_r 3 1 3 52) s m #[(.ref a), (.ref r)] below meth c_ s₁ [] 0 0 := Stand.of_body Bd
 have e0 : s₁.heap = h0 := by rw [← hh, Bd.state]; rfl
 have N0 := Fr.nil n0
 refine own_close (s := s) (Q := (own_Q_own_i1_3 Z a r kr c0 c1 c2 cs h0 n0)) (own_st (fun _ => castTop (own_ef55 m a r)) ?_)
 have K0 := Keep.refl h0 [a]
 show own_Rch _ _ _ _ s₁ (mkF m 0 #[own_vr a, own_vr r] [])
 refine own_aloadN X0 hx hby own_d55_0 rfl rfl rfl ?_
 refine own_aloadN X0 hx hby own_d55_1 rfl rfl rfl ?_
 refine own_iconst X0 hx hby own_d55_2 rfl ?_
 refine own_aloadN X0 hx hby own_d55_3 rfl rfl rfl ?_
 obtain ⟨cl1, Ar1, -, S1, M1, -, -⟩ := id VR
 refine own_st (X0.arraylength hx (by rw [e0]; exact Ar1.1) (State.isArrayOf_alike (hZ).alike Ar1.2.1) (g := (mkF m 4 #[own_vr a, own_vr r] [(.ref r), (.int (0 : Int32)), (.ref r), (.ref a)])) rfl rfl (hb hby own_d55_4)) ?_
 rw [len_of S1 M1]
 refine own_st (fun _ => XS.aconstNull X0.here hx rfl (hb hby own_d55_5)) ?_
 obtain ⟨_, _, ⟨T2, L2, k2, n2⟩, -, X2, ⟨Lc2, hQ2, l2, y2, z2⟩, st2⟩ := X0.specialBack hx (y := own_y29) rfl hown (mvT hZ (hw _ (own_m 352 rfl))) (mvT hZ (hw _ (own_m 353 rfl))) (mvT hZ (hw _ (own_m 354 rfl))) (by decide) (backOf (W := 0) (own_i5_3 l Z a0 hw [] a r kr c0 c1 c2 cs h0 n0 O0 SC hcs VR EA FV FC ga hc0 hc1 hc2) hZ (hw _ (own_m 354 rfl)) (hw _ (own_m 5 rfl)) (by decide) (by decide)) (g := (mkF m 6 #[own_vr a, own_vr r] [.null, (.int (3 : Int32)), (.int (0 : Int32)), (.ref r), (.ref a)])) rfl (by rw [hml]; rfl) (Steps.refl _) (a := a) (argsL := [(.ref r), (.int (0 : Int32)), (.int (3 : Int32)), .null]) (rest := []) (lenOf own_pd30 rfl) rfl (by show 2 * 0 + _ ≤ _; exact Nat.le_of_eq rfl) (hb hby own_d55_6) (fun _ _ => ⟨rfl, e0, (by decide : 0 + 1 ≤ _), (by decide : 0 + 3 ≤ _)⟩)
 dsimp only [Pt.U, Pt.locs, Pt.cells, Pt.slots] at X2 l2 y2 z2 st2 hQ2
 subst l2 y2 z2
 obtain ⟨rfl, N2q, K2, yy2, ky2, Ea2, Fv2, Fc2, Vy2⟩ := hQ2
 have N2 := Fr.app N0 N2q
 refine own_st (fun _ kt => st2.trans kt) ?_
 have O0_x2 := O0.keep K2 (allS ga all0)
 have VR_x2 := VR.keep K2 (ninS (Ne.symm (Exa.neArv EA VR (hw _ (own_m 6 rfl)))) nin0)
 have EA_x2 := EA.keep K2
 have K0_x2 := K0.trans K2 (allS (Or.inl (List.mem_of_getElem? (i := 0) rfl)) all0)
 show own_Rch _ _ _ _ T2 (mkF m 9 #[own_vr a, own_vr r] [])
 refine own_retV X2 hx Bd.notSynchronized Bd.returns (hb hby own_d55_9) (by decide) (by decide) ?_
 exact ⟨rfl, N2, K0_x2, _, _, Ea2, Fv2, Fc2, Vy2⟩
def own_Q_str (Z : State) (h0 : Heap) (n0 : Nat) (v : Option Value) (h : Heap) (L : List Loc) : Prop := ∃ (b y : Addr) (ky : ClassId) (us : List Value), v = some (.ref b) ∧ Fr n0 L ∧ Keep h0 h [] ∧ us.length ≤ 3 ∧ Exa Z h b "java/lang/String" ∧ Fld Z h b "java/lang/String" "value" "[B" (.ref y) ∧ Fld Z h b "java/lang/String" "coder" "B" (.int (0 : Int32)) ∧ Arv Z h y ky .byte (Int32.ofNat us.length) us (.int (0 : Int32))
theorem own_pn8 : plainName "com/example/makewhole/makewhole/memberfiles/TableFieldsOfEntryPinLaw" = true := by first | (simp [plainName, overriddenIn]; done) | decide +kernel
theorem own_ef1 (m : MethodId) (x0 : Int32) (x1 : Int32) : entryFrame m #[(.int x0), (.int x1)] 5 = mkF m 0 #[own_vi x0, own_vi x1, .unset, .unset, .unset] [] := by first | (simp [entryFrame, mkF, argsToLocals, Value.category]; done) | rfl
abbrev own_c1 : ByteArray := method_2_code
theorem own_d1_0 : decode own_c1 0 = .ok (.iload_n 0, 1) := by decide +kernel
theorem own_d1_1 : decode own_c1 1 = .ok (.sipush 255, 3) := by decide +kernel
theorem own_d1_4 : decode own_c1 4 = .ok (.iand, 1) := by decide +kernel
theorem own_d1_5 : decode own_c1 5 = .ok (.i2c, 1) := by decide +kernel
theorem own_d1_6 : decode own_c1 6 = .ok (.istore_n 2, 1) := by decide +kernel
theorem own_d1_7 : decode own_c1 7 = .ok (.iload_n 0, 1) := by decide +kernel
theorem own_d1_8 : decode own_c1 8 = .ok (.bipush 8, 2) := by decide +kernel
theorem own_d1_10 : decode own_c1 10 = .ok (.iushr, 1) := by decide +kernel
theorem own_d1_11 : decode own_c1 11 = .ok (.sipush 255, 3) := by decide +kernel
theorem own_d1_14 : decode own_c1 14 = .ok (.iand, 1) := by decide +kernel
theorem own_d1_15 : decode own_c1 15 = .ok (.i2c, 1) := by decide +kernel
theorem own_d1_16 : decode own_c1 16 = .ok (.istore_n 3, 1) := by decide +kernel
theorem own_d1_17 : decode own_c1 17 = .ok (.iload_n 0, 1) := by decide +kernel
theorem own_d1_18 : decode own_c1 18 = .ok (.bipush 16, 2) := by decide +kernel
theorem own_d1_20 : decode own_c1 20 = .ok (.iushr, 1) := by decide +kernel
theorem own_d1_21 : decode own_c1 21 = .ok (.sipush 255, 3) := by decide +kernel
theorem own_d1_24 : decode own_c1 24 = .ok (.iand, 1) := by decide +kernel
theorem own_d1_25 : decode own_c1 25 = .ok (.i2c, 1) := by decide +kernel
theorem own_d1_26 : decode own_c1 26 = .ok (.istore 4, 2) := by decide +kernel
theorem own_d1_28 : decode own_c1 28 = .ok (.iload_n 1, 1) := by decide +kernel
theorem own_d1_29 : decode own_c1 29 = .ok (.ifCond .ne 6, 3) := by decide +kernel
theorem own_d1_32 : decode own_c1 32 = .ok (.ldc 7, 2) := by decide +kernel
theorem own_d1_34 : decode own_c1 34 = .ok (.areturn, 1) := by decide +kernel
abbrev own_y30 : MethodName := ⟨"com/example/makewhole/makewhole/memberfiles/TableFieldsOfEntryPinLaw", "str", "(II)Ljava/lang/String;"⟩
theorem own_str0 (l : Launch) (Z : State) (a0 : Array Value) (hw : ∀ d ∈ tables_1, d.before a0 Z = true) (ws : List Jvm.Cond) (p : Int32) (cs : Int32) (h0 : Heap) (n0 : Nat) (O0 : Old Z n0 h0) (SC : Sta Z Z.heap "java/lang/String" "COMPACT_STRINGS" "Z" (.int cs)) (hcs : ¬ cs = 0) :
    MetFree l own_y30 (head1 (Jvm.Cond.code own_y30 method_2_code 5 (some (.object "java/lang/String")) :: ws) (own_r 6 8 30 130)) (fun args_ U => args_ = #[(.int p), (.int (0 : Int32))] ∧ Z.Warmed39 U.vm ∧ U.heap = h0 ∧ CHv Z consts_1 U.vm h0) (fun _ _ _ _ _ => True) (fun _ U o U' => ∃ v L, o = .returned v ∧ (own_Q_str Z h0 n0) v U'.heap L ∧ CHr Z consts_1 U.vm U.heap U'.vm U'.heap ∧ ReturnedEndW U o U' L (own_r 6 8 30 130).cells (own_r 6 8 30 130).slots) := by
 refine MetFree.of_bodySF (plainFor_of_name own_pn8) hisR ?_
 intro p_ e s m args below meth c_ s₁ Bd hml0 hP hK
 obtain ⟨rfl, hZ, hh, hCH⟩ := hP
 have hx := Bd.exec
 have hby := Bd.bytes
 have hml : c_.maxLocals = 5 := hml0
 have hown : s.vm.findClass "com/example/makewhole/makewhole/memberfiles/TableFieldsOfEntryPinLaw" = some m.cls := findClass_of_methodNamed Bd.named
 have hnm := (name_of_methodNamed Bd.named Bd.method).1
 have X0 : Stand p_ l e (own_r 6 8 30 130) (s.setVm s.vm) m #[(.int p), (.int (0 : Int32))] below meth c_ s₁ [] 0 0 := Stand.of_body Bd
 have e0 : s₁.heap = h0 := by rw [← hh, Bd.state]; rfl
 have N0 := Fr.nil n0
 have hh0 : s.heap = h0 := hh
 have CR0 : CHr Z consts_1 s.vm h0 s.vm h0 := CHr.refl hCH
 have hS0 : s.Since s.vm 0 := own_since s
 have hk0 : 0 ≤ h0.size := Nat.zero_le _
 refine own_closeH (Z := Z) (EL := consts_1) (s := s) (Q := (own_Q_str Z h0 n0)) (own_st (fun _ => castTop (own_ef1 m p (0 : Int32))) ?_)
 have K0 := Keep.refl h0 []
 show own_Rch _ _ _ _ s₁ (mkF m 0 #[own_vi p, own_vi (0 : Int32), .unset, .unset, .unset] [])
 refine own_iloadN X0 hx hby own_d1_0 rfl rfl ?_
 refine own_st (fun _ => XS.sipush X0.here hx rfl (hb hby own_d1_1)) ?_
 show own_Rch _ _ _ _ s₁ (mkF m 4 #[own_vi p, own_vi (0 : Int32), .unset, .unset, .unset] [(.int (255 : Int32)), (.int p)])
 refine own_st (fun _ => XS.iand X0.here hx rfl (hb hby own_d1_4) rfl) ?_
 show own_Rch _ _ _ _ s₁ (mkF m 5 #[own_vi p, own_vi (0 : Int32), .unset, .unset, .unset] [(.int (p &&& (255 : Int32)))])
 refine own_st (fun _ => XS.i2c X0.here hx rfl (hb hby own_d1_5) rfl) ?_
 refine own_st (fun _ => XS.istoreN X0.here hx rfl (hb hby own_d1_6) rfl (l' := #[own_vi p, own_vi (0 : Int32), own_vi ((p &&& (255 : Int32)).toUInt32.toUInt16.toUInt32.toInt32), .unset, .unset]) rfl) ?_
 refine own_iloadN X0 hx hby own_d1_7 rfl rfl ?_
 refine own_st (fun _ => XS.bipush X0.here hx rfl (hb hby own_d1_8)) ?_
 show own_Rch _ _ _ _ s₁ (mkF m 10 #[own_vi p, own_vi (0 : Int32), own_vi ((p &&& (255 : Int32)).toUInt32.toUInt16.toUInt32.toInt32), .unset, .unset] [(.int (8 : Int32)), (.int p)])
 refine own_st (fun _ => XS.iushr X0.here hx rfl (hb hby own_d1_10) rfl) ?_
 refine own_st (fun _ => XS.sipush X0.here hx rfl (hb hby own_d1_11)) ?_
 show own_Rch _ _ _ _ s₁ (mkF m 14 #[own_vi p, own_vi (0 : Int32), own_vi ((p &&& (255 : Int32)).toUInt32.toUInt16.toUInt32.toInt32), .unset, .unset] [(.int (255 : Int32)), (.int ((p.toUInt32 >>> ((8 : Int32) &&& 31).toUInt32).toInt32))])
 refine own_st (fun _ => XS.iand X0.here hx rfl (hb hby own_d1_14) rfl) ?_
 show own_Rch _ _ _ _ s₁ (mkF m 15 #[own_vi p, own_vi (0 : Int32), own_vi ((p &&& (255 : Int32)).toUInt32.toUInt16.toUInt32.toInt32), .unset, .unset] [(.int (((p.toUInt32 >>> ((8 : Int32) &&& 31).toUInt32).toInt32) &&& (255 : Int32)))])
 refine own_st (fun _ => XS.i2c X0.here hx rfl (hb hby own_d1_15) rfl) ?_
 refine own_st (fun _ => XS.istoreN X0.here hx rfl (hb hby own_d1_16) rfl (l' := #[own_vi p, own_vi (0 : Int32), own_vi ((p &&& (255 : Int32)).toUInt32.toUInt16.toUInt32.toInt32), own_vi ((((p.toUInt32 >>> ((8 : Int32) &&& 31).toUInt32).toInt32) &&& (255 : Int32)).toUInt32.toUInt16.toUInt32.toInt32), .unset]) rfl) ?_
 refine own_iloadN X0 hx hby own_d1_17 rfl rfl ?_
 refine own_st (fun _ => XS.bipush X0.here hx rfl (hb hby own_d1_18)) ?_
 show own_Rch _ _ _ _ s₁ (mkF m 20 #[own_vi p, own_vi (0 : Int32), own_vi ((p &&& (255 : Int32)).toUInt32.toUInt16.toUInt32.toInt32), own_vi ((((p.toUInt32 >>> ((8 : Int32) &&& 31).toUInt32).toInt32) &&& (255 : Int32)).toUInt32.toUInt16.toUInt32.toInt32), .unset] [(.int (16 : Int32)), (.int p)])
 refine own_st (fun _ => XS.iushr X0.here hx rfl (hb hby own_d1_20) rfl) ?_
 refine own_st (fun _ => XS.sipush X0.here hx rfl (hb hby own_d1_21)) ?_
 show own_Rch _ _ _ _ s₁ (mkF m 24 #[own_vi p, own_vi (0 : Int32), own_vi ((p &&& (255 : Int32)).toUInt32.toUInt16.toUInt32.toInt32), own_vi ((((p.toUInt32 >>> ((8 : Int32) &&& 31).toUInt32).toInt32) &&& (255 : Int32)).toUInt32.toUInt16.toUInt32.toInt32), .unset] [(.int (255 : Int32)), (.int ((p.toUInt32 >>> ((16 : Int32) &&& 31).toUInt32).toInt32))])
 refine own_st (fun _ => XS.iand X0.here hx rfl (hb hby own_d1_24) rfl) ?_
 show own_Rch _ _ _ _ s₁ (mkF m 25 #[own_vi p, own_vi (0 : Int32), own_vi ((p &&& (255 : Int32)).toUInt32.toUInt16.toUInt32.toInt32), own_vi ((((p.toUInt32 >>> ((8 : Int32) &&& 31).toUInt32).toInt32) &&& (255 : Int32)).toUInt32.toUInt16.toUInt32.toInt32), .unset] [(.int (((p.toUInt32 >>> ((16 : Int32) &&& 31).toUInt32).toInt32) &&& (255 : Int32)))])
 refine own_st (fun _ => XS.i2c X0.here hx rfl (hb hby own_d1_25) rfl) ?_
 refine own_st (fun _ => XS.istore X0.here hx rfl (hb hby own_d1_26) rfl (l' := #[own_vi p, own_vi (0 : Int32), own_vi ((p &&& (255 : Int32)).toUInt32.toUInt16.toUInt32.toInt32), own_vi ((((p.toUInt32 >>> ((8 : Int32) &&& 31).toUInt32).toInt32) &&& (255 : Int32)).toUInt32.toUInt16.toUInt32.toInt32), own_vi ((((p.toUInt32 >>> ((16 : Int32) &&& 31).toUInt32).toInt32) &&& (255 : Int32)).toUInt32.toUInt16.toUInt32.toInt32)]) rfl) ?_
 refine own_iloadN X0 hx hby own_d1_28 rfl rfl ?_
 show own_Rch _ _ _ _ s₁ (mkF m 29 #[own_vi p, own_vi (0 : Int32), own_vi ((p &&& (255 : Int32)).toUInt32.toUInt16.toUInt32.toInt32), own_vi ((((p.toUInt32 >>> ((8 : Int32) &&& 31).toUInt32).toInt32) &&& (255 : Int32)).toUInt32.toUInt16.toUInt32.toInt32), own_vi ((((p.toUInt32 >>> ((16 : Int32) &&& 31).toUInt32).toInt32) &&& (255 : Int32)).toUInt32.toUInt16.toUInt32.toInt32)] [(.int (0 : Int32))])
 refine own_st (fun _ => XS.ifNo X0.here hx rfl (hb hby own_d1_29) rfl ((if0 _ _).trans (teq (rfl : (0 : Int32) = (0 : Int32))).2)) ?_
 obtain ⟨sl1, T1, h1, ks1, sd1, kd1, X1, e1, E1, hS1, hk1, hZ1, hown1, Es1, Fc1, Fv1, Va1, -, -, CB1, Lt1, hne1, st1⟩ := ldcCH (s := s) X0 hx hZ hown (hw _ (own_m 4 rfl)) (own_wS hw) e0 hS0 hk0 (own_hEL hw) (List.mem_of_getElem? (i := 1) rfl) CR0.1 (vs := []) (z := (0 : Int32)) ⟨by decide, by decide⟩ (by decide) (by decide) (g := (mkF m 32 #[own_vi p, own_vi (0 : Int32), own_vi ((p &&& (255 : Int32)).toUInt32.toUInt16.toUInt32.toInt32), own_vi ((((p.toUInt32 >>> ((8 : Int32) &&& 31).toUInt32).toInt32) &&& (255 : Int32)).toUInt32.toUInt16.toUInt32.toInt32), own_vi ((((p.toUInt32 >>> ((16 : Int32) &&& 31).toUInt32).toInt32) &&& (255 : Int32)).toUInt32.toUInt16.toUInt32.toInt32)] [])) rfl (hb hby own_d1_32) (n := 0) (by decide) (by decide) (by decide) (by decide)
 have O0_x1 := O0.ext E1
 have CR0_x1 := CR0.trans CB1
 have K0_x1 := K0.ext E1
 refine own_st st1 ?_
 show own_Rch _ _ _ _ T1 (mkF m 34 #[own_vi p, own_vi (0 : Int32), own_vi ((p &&& (255 : Int32)).toUInt32.toUInt16.toUInt32.toInt32), own_vi ((((p.toUInt32 >>> ((8 : Int32) &&& 31).toUInt32).toInt32) &&& (255 : Int32)).toUInt32.toUInt16.toUInt32.toInt32), own_vi ((((p.toUInt32 >>> ((16 : Int32) &&& 31).toUInt32).toInt32) &&& (255 : Int32)).toUInt32.toUInt16.toUInt32.toInt32)] [(.ref sl1)])
 refine own_retAH rfl rfl (by rw [hh0, e1]; exact CR0_x1.trans (CHv.at (s := s) X1 hZ1 (own_hEL hw) CR0_x1.1)) (s := s) hS1 (by rw [e1]; exact hk1) X1 hx Bd.notSynchronized Bd.returns (hb hby own_d1_34) (by decide) (by decide) ?_
 rw [e1]
 exact ⟨_, _, _, [], rfl, N0, K0_x1, by simp, Es1, Fv1, Fc1, Va1⟩
theorem own_d1_35 : decode own_c1 35 = .ok (.iload_n 1, 1) := by decide +kernel
theorem own_d1_36 : decode own_c1 36 = .ok (.iconst 1, 1) := by decide +kernel
theorem own_d1_37 : decode own_c1 37 = .ok (.if_icmp .ne 8, 3) := by decide +kernel
theorem own_d1_40 : decode own_c1 40 = .ok (.iload_n 2, 1) := by decide +kernel
theorem own_d1_41 : decode own_c1 41 = .ok (.invokestatic 9, 3) := by decide +kernel
theorem own_pd31 : parseMethodDescriptor "(C)Ljava/lang/String;" = some ⟨[.char], some (.object "java/lang/String")⟩ := by decide +kernel
theorem own_d1_44 : decode own_c1 44 = .ok (.areturn, 1) := by decide +kernel
theorem own_str1 (l : Launch) (Z : State) (a0 : Array Value) (hw : ∀ d ∈ tables_1, d.before a0 Z = true) (ws : List Jvm.Cond) (p : Int32) (cs : Int32) (h0 : Heap) (n0 : Nat) (O0 : Old Z n0 h0) (SC : Sta Z Z.heap "java/lang/String" "COMPACT_STRINGS" "Z" (.int cs)) (hcs : ¬ cs = 0) :
    MetFree l own_y30 (head1 (Jvm.Cond.code own_y30 method_2_code 5 (some (.object "java/lang/String")) :: ws) (own_r 6 8 30 130)) (fun args_ U => args_ = #[(.int p), (.int (1 : Int32))] ∧ Z.Warmed39 U.vm ∧ U.heap = h0 ∧ CHv Z consts_1 U.vm h0) (fun _ _ _ _ _ => True) (fun _ U o U' => ∃ v L, o = .returned v ∧ (own_Q_str Z h0 n0) v U'.heap L ∧ CHr Z consts_1 U.vm U.heap U'.vm U'.heap ∧ ReturnedEndW U o U' L (own_r 6 8 30 130).cells (own_r 6 8 30 130).slots) := by
 refine MetFree.of_bodySF (plainFor_of_name own_pn8) hisR ?_
 intro p_ e s m args below meth c_ s₁ Bd hml0 hP hK
 obtain ⟨rfl, hZ, hh, hCH⟩ := hP
 have hx := Bd.exec
 have hby := Bd.bytes
 have hml : c_.maxLocals = 5 := hml0
 have hown : s.vm.findClass "com/example/makewhole/makewhole/memberfiles/TableFieldsOfEntryPinLaw" = some m.cls := findClass_of_methodNamed Bd.named
 have hnm := (name_of_methodNamed Bd.named Bd.method).1
 have X0 : Stand p_ l e (own_r 6 8 30 130) (s.setVm s.vm) m #[(.int p), (.int (1 : Int32))] below meth c_ s₁ [] 0 0 := Stand.of_body Bd
 have e0 : s₁.heap = h0 := by rw [← hh, Bd.state]; rfl
 have N0 := Fr.nil n0
 have hh0 : s.heap = h0 := hh
 have CR0 : CHr Z consts_1 s.vm h0 s.vm h0 := CHr.refl hCH
 have hS0 : s.Since s.vm 0 := own_since s
 have hk0 : 0 ≤ h0.size := Nat.zero_le _
 refine own_closeH (Z := Z) (EL := consts_1) (s := s) (Q := (own_Q_str Z h0 n0)) (own_st (fun _ => castTop (own_ef1 m p (1 : Int32))) ?_)
 have K0 := Keep.refl h0 []
 show own_Rch _ _ _ _ s₁ (mkF m 0 #[own_vi p, own_vi (1 : Int32), .unset, .unset, .unset] [])
 refine own_iloadN X0 hx hby own_d1_0 rfl rfl ?_
 refine own_st (fun _ => XS.sipush X0.here hx rfl (hb hby own_d1_1)) ?_
 show own_Rch _ _ _ _ s₁ (mkF m 4 #[own_vi p, own_vi (1 : Int32), .unset, .unset, .unset] [(.int (255 : Int32)), (.int p)])
 refine own_st (fun _ => XS.iand X0.here hx rfl (hb hby own_d1_4) rfl) ?_
 show own_Rch _ _ _ _ s₁ (mkF m 5 #[own_vi p, own_vi (1 : Int32), .unset, .unset, .unset] [(.int (p &&& (255 : Int32)))])
 refine own_st (fun _ => XS.i2c X0.here hx rfl (hb hby own_d1_5) rfl) ?_
 refine own_st (fun _ => XS.istoreN X0.here hx rfl (hb hby own_d1_6) rfl (l' := #[own_vi p, own_vi (1 : Int32), own_vi ((p &&& (255 : Int32)).toUInt32.toUInt16.toUInt32.toInt32), .unset, .unset]) rfl) ?_
 refine own_iloadN X0 hx hby own_d1_7 rfl rfl ?_
 refine own_st (fun _ => XS.bipush X0.here hx rfl (hb hby own_d1_8)) ?_
 show own_Rch _ _ _ _ s₁ (mkF m 10 #[own_vi p, own_vi (1 : Int32), own_vi ((p &&& (255 : Int32)).toUInt32.toUInt16.toUInt32.toInt32), .unset, .unset] [(.int (8 : Int32)), (.int p)])
 refine own_st (fun _ => XS.iushr X0.here hx rfl (hb hby own_d1_10) rfl) ?_
 refine own_st (fun _ => XS.sipush X0.here hx rfl (hb hby own_d1_11)) ?_
 show own_Rch _ _ _ _ s₁ (mkF m 14 #[own_vi p, own_vi (1 : Int32), own_vi ((p &&& (255 : Int32)).toUInt32.toUInt16.toUInt32.toInt32), .unset, .unset] [(.int (255 : Int32)), (.int ((p.toUInt32 >>> ((8 : Int32) &&& 31).toUInt32).toInt32))])
 refine own_st (fun _ => XS.iand X0.here hx rfl (hb hby own_d1_14) rfl) ?_
 show own_Rch _ _ _ _ s₁ (mkF m 15 #[own_vi p, own_vi (1 : Int32), own_vi ((p &&& (255 : Int32)).toUInt32.toUInt16.toUInt32.toInt32), .unset, .unset] [(.int (((p.toUInt32 >>> ((8 : Int32) &&& 31).toUInt32).toInt32) &&& (255 : Int32)))])
 refine own_st (fun _ => XS.i2c X0.here hx rfl (hb hby own_d1_15) rfl) ?_
 refine own_st (fun _ => XS.istoreN X0.here hx rfl (hb hby own_d1_16) rfl (l' := #[own_vi p, own_vi (1 : Int32), own_vi ((p &&& (255 : Int32)).toUInt32.toUInt16.toUInt32.toInt32), own_vi ((((p.toUInt32 >>> ((8 : Int32) &&& 31).toUInt32).toInt32) &&& (255 : Int32)).toUInt32.toUInt16.toUInt32.toInt32), .unset]) rfl) ?_
 refine own_iloadN X0 hx hby own_d1_17 rfl rfl ?_
 refine own_st (fun _ => XS.bipush X0.here hx rfl (hb hby own_d1_18)) ?_
 show own_Rch _ _ _ _ s₁ (mkF m 20 #[own_vi p, own_vi (1 : Int32), own_vi ((p &&& (255 : Int32)).toUInt32.toUInt16.toUInt32.toInt32), own_vi ((((p.toUInt32 >>> ((8 : Int32) &&& 31).toUInt32).toInt32) &&& (255 : Int32)).toUInt32.toUInt16.toUInt32.toInt32), .unset] [(.int (16 : Int32)), (.int p)])
 refine own_st (fun _ => XS.iushr X0.here hx rfl (hb hby own_d1_20) rfl) ?_
 refine own_st (fun _ => XS.sipush X0.here hx rfl (hb hby own_d1_21)) ?_
 show own_Rch _ _ _ _ s₁ (mkF m 24 #[own_vi p, own_vi (1 : Int32), own_vi ((p &&& (255 : Int32)).toUInt32.toUInt16.toUInt32.toInt32), own_vi ((((p.toUInt32 >>> ((8 : Int32) &&& 31).toUInt32).toInt32) &&& (255 : Int32)).toUInt32.toUInt16.toUInt32.toInt32), .unset] [(.int (255 : Int32)), (.int ((p.toUInt32 >>> ((16 : Int32) &&& 31).toUInt32).toInt32))])
 refine own_st (fun _ => XS.iand X0.here hx rfl (hb hby own_d1_24) rfl) ?_
 show own_Rch _ _ _ _ s₁ (mkF m 25 #[own_vi p, own_vi (1 : Int32), own_vi ((p &&& (255 : Int32)).toUInt32.toUInt16.toUInt32.toInt32), own_vi ((((p.toUInt32 >>> ((8 : Int32) &&& 31).toUInt32).toInt32) &&& (255 : Int32)).toUInt32.toUInt16.toUInt32.toInt32), .unset] [(.int (((p.toUInt32 >>> ((16 : Int32) &&& 31).toUInt32).toInt32) &&& (255 : Int32)))])
 refine own_st (fun _ => XS.i2c X0.here hx rfl (hb hby own_d1_25) rfl) ?_
 refine own_st (fun _ => XS.istore X0.here hx rfl (hb hby own_d1_26) rfl (l' := #[own_vi p, own_vi (1 : Int32), own_vi ((p &&& (255 : Int32)).toUInt32.toUInt16.toUInt32.toInt32), own_vi ((((p.toUInt32 >>> ((8 : Int32) &&& 31).toUInt32).toInt32) &&& (255 : Int32)).toUInt32.toUInt16.toUInt32.toInt32), own_vi ((((p.toUInt32 >>> ((16 : Int32) &&& 31).toUInt32).toInt32) &&& (255 : Int32)).toUInt32.toUInt16.toUInt32.toInt32)]) rfl) ?_
 refine own_iloadN X0 hx hby own_d1_28 rfl rfl ?_
 show own_Rch _ _ _ _ s₁ (mkF m 29 #[own_vi p, own_vi (1 : Int32), own_vi ((p &&& (255 : Int32)).toUInt32.toUInt16.toUInt32.toInt32), own_vi ((((p.toUInt32 >>> ((8 : Int32) &&& 31).toUInt32).toInt32) &&& (255 : Int32)).toUInt32.toUInt16.toUInt32.toInt32), own_vi ((((p.toUInt32 >>> ((16 : Int32) &&& 31).toUInt32).toInt32) &&& (255 : Int32)).toUInt32.toUInt16.toUInt32.toInt32)] [(.int (1 : Int32))])
 refine own_st (fun _ => XS.ifYes X0.here hx rfl (pc0 := 29) (pc' := 35) rfl (hb hby own_d1_29) rfl ((if0 _ _).trans (feq ((by decide) : ¬ ((1 : Int32) = (0 : Int32)))).2) (by decide) (by decide)) ?_
 refine own_iloadN X0 hx hby own_d1_35 rfl rfl ?_
 refine own_iconst X0 hx hby own_d1_36 rfl ?_
 show own_Rch _ _ _ _ s₁ (mkF m 37 #[own_vi p, own_vi (1 : Int32), own_vi ((p &&& (255 : Int32)).toUInt32.toUInt16.toUInt32.toInt32), own_vi ((((p.toUInt32 >>> ((8 : Int32) &&& 31).toUInt32).toInt32) &&& (255 : Int32)).toUInt32.toUInt16.toUInt32.toInt32), own_vi ((((p.toUInt32 >>> ((16 : Int32) &&& 31).toUInt32).toInt32) &&& (255 : Int32)).toUInt32.toUInt16.toUInt32.toInt32)] [(.int (1 : Int32)), (.int (1 : Int32))])
 refine own_st (fun _ => XS.icmpNo X0.here hx rfl (hb hby own_d1_37) rfl (teq (rfl : (1 : Int32) = (1 : Int32))).2) ?_
 refine own_iloadN X0 hx hby own_d1_40 rfl rfl ?_
 obtain ⟨_, _, ⟨T1, L1, k1, n1⟩, -, X1, ⟨Lc1, hQ1, l1, y1, z1⟩, st1⟩ := Jvm.LawKit.callS X0 hx (y := own_y25) hown (mvT hZ (hw _ (own_m 365 rfl))) (mvT hZ (hw _ (own_m 366 rfl))) (mvT hZ (hw _ (own_m 5 rfl))) (mvT hZ (hw _ (own_m 367 rfl))) (by decide) (backOf (W := 0) (own_valof l Z a0 hw [] ((p &&& (255 : Int32)).toUInt32.toUInt16.toUInt32.toInt32) cs h0 n0 O0 SC hcs (own_char _)) hZ (hw _ (own_m 367 rfl)) (hw _ (own_m 5 rfl)) (by decide) (by decide)) (g := (mkF m 41 #[own_vi p, own_vi (1 : Int32), own_vi ((p &&& (255 : Int32)).toUInt32.toUInt16.toUInt32.toInt32), own_vi ((((p.toUInt32 >>> ((8 : Int32) &&& 31).toUInt32).toInt32) &&& (255 : Int32)).toUInt32.toUInt16.toUInt32.toInt32), own_vi ((((p.toUInt32 >>> ((16 : Int32) &&& 31).toUInt32).toInt32) &&& (255 : Int32)).toUInt32.toUInt16.toUInt32.toInt32)] [(.int ((p &&& (255 : Int32)).toUInt32.toUInt16.toUInt32.toInt32))])) rfl (by rw [hml]; rfl) (argsL := [(.int ((p &&& (255 : Int32)).toUInt32.toUInt16.toUInt32.toInt32))]) (rest := []) (lenOf own_pd31 rfl) rfl (by show 2 * 0 + _ ≤ _; exact Nat.le_of_eq rfl) (hb hby own_d1_41) (fun _ _ => ⟨rfl, e0, (by decide : 0 + 2 ≤ _), (by decide : 0 + 5 ≤ _)⟩)
 dsimp only [Pt.U, Pt.locs, Pt.cells, Pt.slots] at X1 l1 y1 z1 st1 hQ1
 subst l1 y1 z1
 obtain ⟨sb1, sy1, ks1, rfl, N1q, K1, hb1, hy1, Es1, Fv1, Fc1, Vs1⟩ := hQ1
 have N1 := Fr.app N0 N1q
 refine own_st st1 ?_
 have ge1_sb1 : n0 ≤ sb1 := Nat.le_trans (own_old_le O0) hb1
 have sz1_sb1 : h0.size ≤ sb1 := Nat.le_trans K0.1 hb1
 have ge1_sy1 : n0 ≤ sy1 := Nat.le_trans (own_old_le O0) hy1
 have sz1_sy1 : h0.size ≤ sy1 := Nat.le_trans K0.1 hy1
 have hkk1 := Nat.le_trans hk0 K1.1
 have O0_x1 := O0.keep K1 all0
 have CR0_x1 := CR0.trans (CHr.keep K1 sf0 CR0.1)
 have K0_x1 := K0.trans K1 all0
 show own_Rch _ _ _ _ T1 (mkF m 44 #[own_vi p, own_vi (1 : Int32), own_vi ((p &&& (255 : Int32)).toUInt32.toUInt16.toUInt32.toInt32), own_vi ((((p.toUInt32 >>> ((8 : Int32) &&& 31).toUInt32).toInt32) &&& (255 : Int32)).toUInt32.toUInt16.toUInt32.toInt32), own_vi ((((p.toUInt32 >>> ((16 : Int32) &&& 31).toUInt32).toInt32) &&& (255 : Int32)).toUInt32.toUInt16.toUInt32.toInt32)] [(.ref sb1)])
 refine own_retAH rfl rfl (by rw [hh0]; exact CR0_x1.trans (CHv.at (s := s) X1 hZ (own_hEL hw) CR0_x1.1)) (s := s) hS0 hkk1 X1 hx Bd.notSynchronized Bd.returns (hb hby own_d1_44) (by decide) (by decide) ?_
 exact ⟨_, _, _, [(.int (nar .byte (((p &&& (255 : Int32)).toUInt32.toUInt16.toUInt32.toInt32).toInt8.toInt32)))], rfl, N1, K0_x1, by simp, Es1, Fv1, Fc1, Vs1⟩
theorem own_d1_45 : decode own_c1 45 = .ok (.iload_n 1, 1) := by decide +kernel
theorem own_d1_46 : decode own_c1 46 = .ok (.iconst 2, 1) := by decide +kernel
theorem own_d1_47 : decode own_c1 47 = .ok (.if_icmp .ne 22, 3) := by decide +kernel
theorem own_d1_50 : decode own_c1 50 = .ok (.new 10, 3) := by decide +kernel
theorem own_d1_53 : decode own_c1 53 = .ok (.dup, 1) := by decide +kernel
theorem own_d1_54 : decode own_c1 54 = .ok (.iconst 2, 1) := by decide +kernel
theorem own_d1_55 : decode own_c1 55 = .ok (.newarray .char, 2) := by decide +kernel
theorem own_d1_57 : decode own_c1 57 = .ok (.dup, 1) := by decide +kernel
theorem own_d1_58 : decode own_c1 58 = .ok (.iconst 0, 1) := by decide +kernel
theorem own_d1_59 : decode own_c1 59 = .ok (.iload_n 2, 1) := by decide +kernel
theorem own_d1_60 : decode own_c1 60 = .ok (.castore, 1) := by decide +kernel
theorem own_d1_61 : decode own_c1 61 = .ok (.dup, 1) := by decide +kernel
theorem own_d1_62 : decode own_c1 62 = .ok (.iconst 1, 1) := by decide +kernel
theorem own_d1_63 : decode own_c1 63 = .ok (.iload_n 3, 1) := by decide +kernel
theorem own_d1_64 : decode own_c1 64 = .ok (.castore, 1) := by decide +kernel
theorem own_d1_65 : decode own_c1 65 = .ok (.invokespecial 15, 3) := by decide +kernel
theorem own_pd32 : parseMethodDescriptor "([C)V" = some ⟨[(.array .char)], none⟩ := by decide +kernel
theorem own_d1_68 : decode own_c1 68 = .ok (.areturn, 1) := by decide +kernel
theorem own_str2 (l : Launch) (Z : State) (a0 : Array Value) (hw : ∀ d ∈ tables_1, d.before a0 Z = true) (ws : List Jvm.Cond) (p : Int32) (cs : Int32) (h0 : Heap) (n0 : Nat) (O0 : Old Z n0 h0) (SC : Sta Z Z.heap "java/lang/String" "COMPACT_STRINGS" "Z" (.int cs)) (hcs : ¬ cs = 0) :
    MetFree l own_y30 (head1 (Jvm.Cond.code own_y30 method_2_code 5 (some (.object "java/lang/String")) :: ws) (own_r 6 8 30 130)) (fun args_ U => args_ = #[(.int p), (.int (2 : Int32))] ∧ Z.Warmed39 U.vm ∧ U.heap = h0 ∧ CHv Z consts_1 U.vm h0) (fun _ _ _ _ _ => True) (fun _ U o U' => ∃ v L, o = .returned v ∧ (own_Q_str Z h0 n0) v U'.heap L ∧ CHr Z consts_1 U.vm U.heap U'.vm U'.heap ∧ ReturnedEndW U o U' L (own_r 6 8 30 130).cells (own_r 6 8 30 130).slots) := by
 refine MetFree.of_bodySF (plainFor_of_name own_pn8) hisR ?_
 intro p_ e s m args below meth c_ s₁ Bd hml0 hP hK
 obtain ⟨rfl, hZ, hh, hCH⟩ := hP
 have hx := Bd.exec
 have hby := Bd.bytes
 have hml : c_.maxLocals = 5 := hml0
 have hown : s.vm.findClass "com/example/makewhole/makewhole/memberfiles/TableFieldsOfEntryPinLaw" = some m.cls := findClass_of_methodNamed Bd.named
 have hnm := (name_of_methodNamed Bd.named Bd.method).1
 have X0 : Stand p_ l e (own_r 6 8 30 130) (s.setVm s.vm) m #[(.int p), (.int (2 : Int32))] below meth c_ s₁ [] 0 0 := Stand.of_body Bd
 have e0 : s₁.heap = h0 := by rw [← hh, Bd.state]; rfl
 have N0 := Fr.nil n0
 have hh0 : s.heap = h0 := hh
 have CR0 : CHr Z consts_1 s.vm h0 s.vm h0 := CHr.refl hCH
 have hS0 : s.Since s.vm 0 := own_since s
 have hk0 : 0 ≤ h0.size := Nat.zero_le _
 refine own_closeH (Z := Z) (EL := consts_1) (s := s) (Q := (own_Q_str Z h0 n0)) (own_st (fun _ => castTop (own_ef1 m p (2 : Int32))) ?_)
 have K0 := Keep.refl h0 []
 show own_Rch _ _ _ _ s₁ (mkF m 0 #[own_vi p, own_vi (2 : Int32), .unset, .unset, .unset] [])
 refine own_iloadN X0 hx hby own_d1_0 rfl rfl ?_
 refine own_st (fun _ => XS.sipush X0.here hx rfl (hb hby own_d1_1)) ?_
 show own_Rch _ _ _ _ s₁ (mkF m 4 #[own_vi p, own_vi (2 : Int32), .unset, .unset, .unset] [(.int (255 : Int32)), (.int p)])
 refine own_st (fun _ => XS.iand X0.here hx rfl (hb hby own_d1_4) rfl) ?_
 show own_Rch _ _ _ _ s₁ (mkF m 5 #[own_vi p, own_vi (2 : Int32), .unset, .unset, .unset] [(.int (p &&& (255 : Int32)))])
 refine own_st (fun _ => XS.i2c X0.here hx rfl (hb hby own_d1_5) rfl) ?_
 refine own_st (fun _ => XS.istoreN X0.here hx rfl (hb hby own_d1_6) rfl (l' := #[own_vi p, own_vi (2 : Int32), own_vi ((p &&& (255 : Int32)).toUInt32.toUInt16.toUInt32.toInt32), .unset, .unset]) rfl) ?_
 refine own_iloadN X0 hx hby own_d1_7 rfl rfl ?_
 refine own_st (fun _ => XS.bipush X0.here hx rfl (hb hby own_d1_8)) ?_
 show own_Rch _ _ _ _ s₁ (mkF m 10 #[own_vi p, own_vi (2 : Int32), own_vi ((p &&& (255 : Int32)).toUInt32.toUInt16.toUInt32.toInt32), .unset, .unset] [(.int (8 : Int32)), (.int p)])
 refine own_st (fun _ => XS.iushr X0.here hx rfl (hb hby own_d1_10) rfl) ?_
 refine own_st (fun _ => XS.sipush X0.here hx rfl (hb hby own_d1_11)) ?_
 show own_Rch _ _ _ _ s₁ (mkF m 14 #[own_vi p, own_vi (2 : Int32), own_vi ((p &&& (255 : Int32)).toUInt32.toUInt16.toUInt32.toInt32), .unset, .unset] [(.int (255 : Int32)), (.int ((p.toUInt32 >>> ((8 : Int32) &&& 31).toUInt32).toInt32))])
 refine own_st (fun _ => XS.iand X0.here hx rfl (hb hby own_d1_14) rfl) ?_
 show own_Rch _ _ _ _ s₁ (mkF m 15 #[own_vi p, own_vi (2 : Int32), own_vi ((p &&& (255 : Int32)).toUInt32.toUInt16.toUInt32.toInt32), .unset, .unset] [(.int (((p.toUInt32 >>> ((8 : Int32) &&& 31).toUInt32).toInt32) &&& (255 : Int32)))])
 refine own_st (fun _ => XS.i2c X0.here hx rfl (hb hby own_d1_15) rfl) ?_
 refine own_st (fun _ => XS.istoreN X0.here hx rfl (hb hby own_d1_16) rfl (l' := #[own_vi p, own_vi (2 : Int32), own_vi ((p &&& (255 : Int32)).toUInt32.toUInt16.toUInt32.toInt32), own_vi ((((p.toUInt32 >>> ((8 : Int32) &&& 31).toUInt32).toInt32) &&& (255 : Int32)).toUInt32.toUInt16.toUInt32.toInt32), .unset]) rfl) ?_
 refine own_iloadN X0 hx hby own_d1_17 rfl rfl ?_
 refine own_st (fun _ => XS.bipush X0.here hx rfl (hb hby own_d1_18)) ?_
 show own_Rch _ _ _ _ s₁ (mkF m 20 #[own_vi p, own_vi (2 : Int32), own_vi ((p &&& (255 : Int32)).toUInt32.toUInt16.toUInt32.toInt32), own_vi ((((p.toUInt32 >>> ((8 : Int32) &&& 31).toUInt32).toInt32) &&& (255 : Int32)).toUInt32.toUInt16.toUInt32.toInt32), .unset] [(.int (16 : Int32)), (.int p)])
 refine own_st (fun _ => XS.iushr X0.here hx rfl (hb hby own_d1_20) rfl) ?_
 refine own_st (fun _ => XS.sipush X0.here hx rfl (hb hby own_d1_21)) ?_
 show own_Rch _ _ _ _ s₁ (mkF m 24 #[own_vi p, own_vi (2 : Int32), own_vi ((p &&& (255 : Int32)).toUInt32.toUInt16.toUInt32.toInt32), own_vi ((((p.toUInt32 >>> ((8 : Int32) &&& 31).toUInt32).toInt32) &&& (255 : Int32)).toUInt32.toUInt16.toUInt32.toInt32), .unset] [(.int (255 : Int32)), (.int ((p.toUInt32 >>> ((16 : Int32) &&& 31).toUInt32).toInt32))])
 refine own_st (fun _ => XS.iand X0.here hx rfl (hb hby own_d1_24) rfl) ?_
 show own_Rch _ _ _ _ s₁ (mkF m 25 #[own_vi p, own_vi (2 : Int32), own_vi ((p &&& (255 : Int32)).toUInt32.toUInt16.toUInt32.toInt32), own_vi ((((p.toUInt32 >>> ((8 : Int32) &&& 31).toUInt32).toInt32) &&& (255 : Int32)).toUInt32.toUInt16.toUInt32.toInt32), .unset] [(.int (((p.toUInt32 >>> ((16 : Int32) &&& 31).toUInt32).toInt32) &&& (255 : Int32)))])
 refine own_st (fun _ => XS.i2c X0.here hx rfl (hb hby own_d1_25) rfl) ?_
 refine own_st (fun _ => XS.istore X0.here hx rfl (hb hby own_d1_26) rfl (l' := #[own_vi p, own_vi (2 : Int32), own_vi ((p &&& (255 : Int32)).toUInt32.toUInt16.toUInt32.toInt32), own_vi ((((p.toUInt32 >>> ((8 : Int32) &&& 31).toUInt32).toInt32) &&& (255 : Int32)).toUInt32.toUInt16.toUInt32.toInt32), own_vi ((((p.toUInt32 >>> ((16 : Int32) &&& 31).toUInt32).toInt32) &&& (255 : Int32)).toUInt32.toUInt16.toUInt32.toInt32)]) rfl) ?_
 refine own_iloadN X0 hx hby own_d1_28 rfl rfl ?_
 show own_Rch _ _ _ _ s₁ (mkF m 29 #[own_vi p, own_vi (2 : Int32), own_vi ((p &&& (255 : Int32)).toUInt32.toUInt16.toUInt32.toInt32), own_vi ((((p.toUInt32 >>> ((8 : Int32) &&& 31).toUInt32).toInt32) &&& (255 : Int32)).toUInt32.toUInt16.toUInt32.toInt32), own_vi ((((p.toUInt32 >>> ((16 : Int32) &&& 31).toUInt32).toInt32) &&& (255 : Int32)).toUInt32.toUInt16.toUInt32.toInt32)] [(.int (2 : Int32))])
 refine own_st (fun _ => XS.ifYes X0.here hx rfl (pc0 := 29) (pc' := 35) rfl (hb hby own_d1_29) rfl ((if0 _ _).trans (feq ((by decide) : ¬ ((2 : Int32) = (0 : Int32)))).2) (by decide) (by decide)) ?_
 refine own_iloadN X0 hx hby own_d1_35 rfl rfl ?_
 refine own_iconst X0 hx hby own_d1_36 rfl ?_
 show own_Rch _ _ _ _ s₁ (mkF m 37 #[own_vi p, own_vi (2 : Int32), own_vi ((p &&& (255 : Int32)).toUInt32.toUInt16.toUInt32.toInt32), own_vi ((((p.toUInt32 >>> ((8 : Int32) &&& 31).toUInt32).toInt32) &&& (255 : Int32)).toUInt32.toUInt16.toUInt32.toInt32), own_vi ((((p.toUInt32 >>> ((16 : Int32) &&& 31).toUInt32).toInt32) &&& (255 : Int32)).toUInt32.toUInt16.toUInt32.toInt32)] [(.int (1 : Int32)), (.int (2 : Int32))])
 refine own_st (fun _ => XS.icmpYes X0.here hx rfl (pc0 := 37) (pc' := 45) rfl (hb hby own_d1_37) rfl (feq ((by decide) : ¬ ((2 : Int32) = (1 : Int32)))).2 (by decide) (by decide)) ?_
 refine own_iloadN X0 hx hby own_d1_45 rfl rfl ?_
 refine own_iconst X0 hx hby own_d1_46 rfl ?_
 show own_Rch _ _ _ _ s₁ (mkF m 47 #[own_vi p, own_vi (2 : Int32), own_vi ((p &&& (255 : Int32)).toUInt32.toUInt16.toUInt32.toInt32), own_vi ((((p.toUInt32 >>> ((8 : Int32) &&& 31).toUInt32).toInt32) &&& (255 : Int32)).toUInt32.toUInt16.toUInt32.toInt32), own_vi ((((p.toUInt32 >>> ((16 : Int32) &&& 31).toUInt32).toInt32) &&& (255 : Int32)).toUInt32.toUInt16.toUInt32.toInt32)] [(.int (2 : Int32)), (.int (2 : Int32))])
 refine own_st (fun _ => XS.icmpNo X0.here hx rfl (hb hby own_d1_47) rfl (teq (rfl : (2 : Int32) = (2 : Int32))).2) ?_
 obtain ⟨T1, h1, X1, e1, E1, A1, D1, U1, st1⟩ := newO X0 hx hZ hown (hw _ (own_m 347 rfl)) (hw _ (own_m 6 rfl)) (hw _ (own_m 5 rfl)) e0 (g := (mkF m 50 #[own_vi p, own_vi (2 : Int32), own_vi ((p &&& (255 : Int32)).toUInt32.toUInt16.toUInt32.toInt32), own_vi ((((p.toUInt32 >>> ((8 : Int32) &&& 31).toUInt32).toInt32) &&& (255 : Int32)).toUInt32.toUInt16.toUInt32.toInt32), own_vi ((((p.toUInt32 >>> ((16 : Int32) &&& 31).toUInt32).toInt32) &&& (255 : Int32)).toUInt32.toUInt16.toUInt32.toInt32)] [])) rfl (hb hby own_d1_50) (by decide) (by decide)
 obtain ⟨b1, g1⟩ : ∃ z, z = h0.size := ⟨_, rfl⟩
 rw [← g1] at A1 D1 U1 st1
 have ge1 : n0 ≤ b1 := by rw [g1]; exact own_old_le O0
 have sz1 : h0.size ≤ b1 := by rw [g1]; exact K0.1
 have hkk1 := Nat.le_trans hk0 E1.1
 have O0_x1 := O0.ext E1
 have CR0_x1 := CR0.trans (CHr.ext E1 CR0.1)
 have K0_x1 := K0.ext E1
 have Y1 := Safe.ext E1 CR0.1 (Safe.new (Nat.le_of_eq g1.symm))
 refine own_st st1 ?_
 have F1_value : Fld Z h1 b1 "java/lang/String" "value" "[B" .null := D1 (Or.inr (hw _ (own_m 8 rfl))) (ty := (.array .byte)) (by decide)
 have F1_coder : Fld Z h1 b1 "java/lang/String" "coder" "B" (.int (0 : Int32)) := D1 (Or.inr (hw _ (own_m 9 rfl))) (ty := .byte) (by decide)
 refine own_dup X1 hx hby own_d1_53 rfl rfl rfl ?_
 refine own_iconst X1 hx hby own_d1_54 rfl ?_
 obtain ⟨T2, h2, k2, X2, e2, E2, A2, st2⟩ := newP X1 hx hZ (hw _ (own_m 348 rfl)) e1 (g := (mkF m 55 #[own_vi p, own_vi (2 : Int32), own_vi ((p &&& (255 : Int32)).toUInt32.toUInt16.toUInt32.toInt32), own_vi ((((p.toUInt32 >>> ((8 : Int32) &&& 31).toUInt32).toInt32) &&& (255 : Int32)).toUInt32.toUInt16.toUInt32.toInt32), own_vi ((((p.toUInt32 >>> ((16 : Int32) &&& 31).toUInt32).toInt32) &&& (255 : Int32)).toUInt32.toUInt16.toUInt32.toInt32)] [(.int (2 : Int32)), (.ref b1), (.ref b1)])) rfl (hb hby own_d1_55) rfl (by decide) (cap := 2) (by decide) (by decide) (by decide) (by decide)
 obtain ⟨b2, g2⟩ : ∃ z, z = h1.size := ⟨_, rfl⟩
 rw [← g2] at A2 st2
 have ge2 : n0 ≤ b2 := by rw [g2]; exact own_old_le O0_x1
 have ne2_b1 : b1 ≠ b2 := by rw [g2]; exact Nat.ne_of_lt F1_value.lt
 have sz2 : h0.size ≤ b2 := by rw [g2]; exact K0_x1.1
 have hkk2 := Nat.le_trans hkk1 E2.1
 have O0_x2 := O0_x1.ext E2
 have CR0_x2 := CR0_x1.trans (CHr.ext E2 CR0_x1.1)
 have K0_x2 := K0_x1.ext E2
 have Y1_x2 := Safe.ext E2 CR0_x1.1 Y1
 have F1_value_x2 := F1_value.ext E2
 have F1_coder_x2 := F1_coder.ext E2
 have A1_x2 := A1.ext E2
 have Y2 := Safe.ext E2 CR0_x1.1 (Safe.new (Nat.le_of_eq g2.symm))
 refine own_st st2 ?_
 have V2 := Arv.new A2 (by decide)
 have V2p : Arv Z h2 b2 k2 .char (2 : Int32) [(.int (0 : Int32)), (.int (0 : Int32))] (.int (0 : Int32)) := V2.pad (pad_rep [] (.int (0 : Int32)) 2)
 refine own_dup X2 hx hby own_d1_57 rfl rfl rfl ?_
 refine own_iconst X2 hx hby own_d1_58 rfl ?_
 refine own_iloadN X2 hx hby own_d1_59 rfl rfl ?_
 obtain ⟨cl3, Ar3, q3, S3, M3, H3, G3⟩ := id V2p
 have hin3 : ¬ ((0 : Int32) < 0 ∨ cl3.slots.size ≤ ((0 : Int32)).toNatClampNeg) := inb_of S3 ⟨by decide, by decide⟩
 obtain ⟨T3, h3, X3, e3, W3, st3⟩ := stC X2 hx hZ e2 Ar3 (j := (0 : Int32)) hin3 (g := (mkF m 60 #[own_vi p, own_vi (2 : Int32), own_vi ((p &&& (255 : Int32)).toUInt32.toUInt16.toUInt32.toInt32), own_vi ((((p.toUInt32 >>> ((8 : Int32) &&& 31).toUInt32).toInt32) &&& (255 : Int32)).toUInt32.toUInt16.toUInt32.toInt32), own_vi ((((p.toUInt32 >>> ((16 : Int32) &&& 31).toUInt32).toInt32) &&& (255 : Int32)).toUInt32.toUInt16.toUInt32.toInt32)] [(.int ((p &&& (255 : Int32)).toUInt32.toUInt16.toUInt32.toInt32)), (.int (0 : Int32)), (.ref b2), (.ref b2), (.ref b1), (.ref b1)])) rfl rfl (hb hby own_d1_60)
 have V3 := Arv.set Ar3 q3 S3 M3 H3 G3 (fits_nar_char _) W3 0 rfl (Nat.le_of_ble_eq_true rfl)
 have V3s : Arv Z h3 b2 k2 .char (2 : Int32) [(.int (nar .char ((p &&& (255 : Int32)).toUInt32.toUInt16.toUInt32.toInt32))), (.int (0 : Int32))] (.int (0 : Int32)) := V3
 have N3 := Fr.snoc X3 N0 ge2
 refine own_st st3 ?_
 have hkk3 := Nat.le_trans hkk2 (Nat.le_of_eq (Wr.size W3).symm)
 have O0_x3 := O0_x2.wr W3 ge2
 have CR0_x3 := CR0_x2.trans (CHr.wr W3 Y2 CR0_x2.1)
 have K0_x3 := K0_x2.wr W3 (Or.inr sz2)
 have Y1_x3 := Safe.wr W3 Y2 CR0_x2.1 Y1_x2
 have F1_value_x3 := F1_value_x2.other W3 (Or.inl ne2_b1)
 have F1_coder_x3 := F1_coder_x2.other W3 (Or.inl ne2_b1)
 have A1_x3 := A1_x2.wr W3
 have Y2_x3 := Safe.wr W3 Y2 CR0_x2.1 Y2
 refine own_dup X3 hx hby own_d1_61 rfl rfl rfl ?_
 refine own_iconst X3 hx hby own_d1_62 rfl ?_
 refine own_iloadN X3 hx hby own_d1_63 rfl rfl ?_
 obtain ⟨cl4, Ar4, q4, S4, M4, H4, G4⟩ := id V3s
 have hin4 : ¬ ((1 : Int32) < 0 ∨ cl4.slots.size ≤ ((1 : Int32)).toNatClampNeg) := inb_of S4 ⟨by decide, by decide⟩
 obtain ⟨T4, h4, X4, e4, W4, st4⟩ := stC X3 hx hZ e3 Ar4 (j := (1 : Int32)) hin4 (g := (mkF m 64 #[own_vi p, own_vi (2 : Int32), own_vi ((p &&& (255 : Int32)).toUInt32.toUInt16.toUInt32.toInt32), own_vi ((((p.toUInt32 >>> ((8 : Int32) &&& 31).toUInt32).toInt32) &&& (255 : Int32)).toUInt32.toUInt16.toUInt32.toInt32), own_vi ((((p.toUInt32 >>> ((16 : Int32) &&& 31).toUInt32).toInt32) &&& (255 : Int32)).toUInt32.toUInt16.toUInt32.toInt32)] [(.int ((((p.toUInt32 >>> ((8 : Int32) &&& 31).toUInt32).toInt32) &&& (255 : Int32)).toUInt32.toUInt16.toUInt32.toInt32)), (.int (1 : Int32)), (.ref b2), (.ref b2), (.ref b1), (.ref b1)])) rfl rfl (hb hby own_d1_64)
 have V4 := Arv.set Ar4 q4 S4 M4 H4 G4 (fits_nar_char _) W4 1 rfl (Nat.le_of_ble_eq_true rfl)
 have V4s : Arv Z h4 b2 k2 .char (2 : Int32) [(.int (nar .char ((p &&& (255 : Int32)).toUInt32.toUInt16.toUInt32.toInt32))), (.int (nar .char ((((p.toUInt32 >>> ((8 : Int32) &&& 31).toUInt32).toInt32) &&& (255 : Int32)).toUInt32.toUInt16.toUInt32.toInt32)))] (.int (0 : Int32)) := V4
 have N4 := Fr.snoc X4 N3 ge2
 refine own_st st4 ?_
 have hkk4 := Nat.le_trans hkk3 (Nat.le_of_eq (Wr.size W4).symm)
 have O0_x4 := O0_x3.wr W4 ge2
 have CR0_x4 := CR0_x3.trans (CHr.wr W4 Y2_x3 CR0_x3.1)
 have K0_x4 := K0_x3.wr W4 (Or.inr sz2)
 have Y1_x4 := Safe.wr W4 Y2_x3 CR0_x3.1 Y1_x3
 have F1_value_x4 := F1_value_x3.other W4 (Or.inl ne2_b1)
 have F1_coder_x4 := F1_coder_x3.other W4 (Or.inl ne2_b1)
 have A1_x4 := A1_x3.wr W4
 have Y2_x4 := Safe.wr W4 Y2_x3 CR0_x3.1 Y2_x3
 obtain ⟨_, _, ⟨T5, L5, k5, n5⟩, -, X5, ⟨Lc5, hQ5, l5, y5, z5⟩, st5⟩ := X4.specialBack hx (y := (⟨"java/lang/String", "<init>", "([C)V"⟩ : MethodName)) rfl hown (mvT hZ (hw _ (own_m 349 rfl))) (mvT hZ (hw _ (own_m 350 rfl))) (mvT hZ (hw _ (own_m 351 rfl))) (by decide) (backOf (W := 1) (own_i1_2 l Z a0 hw [] b1 b2 k2 ((p &&& (255 : Int32)).toUInt32.toUInt16.toUInt32.toInt32) ((((p.toUInt32 >>> ((8 : Int32) &&& 31).toUInt32).toInt32) &&& (255 : Int32)).toUInt32.toUInt16.toUInt32.toInt32) ((p &&& (255 : Int32)).toUInt32.toUInt16.toUInt32.toInt32) cs h4 n0 O0_x4 SC hcs V4s A1_x4 F1_value_x4 F1_coder_x4 ge1 (own_chc _) (own_chc _) (own_chc _)) hZ (hw _ (own_m 351 rfl)) (hw _ (own_m 5 rfl)) (by decide) (by decide)) (g := (mkF m 65 #[own_vi p, own_vi (2 : Int32), own_vi ((p &&& (255 : Int32)).toUInt32.toUInt16.toUInt32.toInt32), own_vi ((((p.toUInt32 >>> ((8 : Int32) &&& 31).toUInt32).toInt32) &&& (255 : Int32)).toUInt32.toUInt16.toUInt32.toInt32), own_vi ((((p.toUInt32 >>> ((16 : Int32) &&& 31).toUInt32).toInt32) &&& (255 : Int32)).toUInt32.toUInt16.toUInt32.toInt32)] [(.ref b2), (.ref b1), (.ref b1)])) rfl (by rw [hml]; rfl) (Steps.refl _) (a := b1) (argsL := [(.ref b2)]) (rest := [(.ref b1)]) (lenOf own_pd32 rfl) rfl (by show 2 * 0 + _ ≤ _; exact Nat.le_of_eq rfl) (hb hby own_d1_65) (fun _ _ => ⟨rfl, e4, (by decide : 2 + 1 ≤ _), (by decide : 6 + 2 ≤ _)⟩)
 dsimp only [Pt.U, Pt.locs, Pt.cells, Pt.slots] at X5 l5 y5 z5 st5 hQ5
 subst l5 y5 z5
 obtain ⟨rfl, N5q, K5, yy5, ky5, Ea5, Fv5, Fc5, Vy5⟩ := hQ5
 have N5 := Fr.app N4 N5q
 refine own_st (fun _ kt => st5.trans kt) ?_
 have hkk5 := Nat.le_trans hkk4 K5.1
 have O0_x5 := O0_x4.keep K5 (allS ge1 all0)
 have CR0_x5 := CR0_x4.trans (CHr.keep K5 (sfS Y1_x4 sf0) CR0_x4.1)
 have K0_x5 := K0_x4.trans K5 (allS (Or.inr sz1) all0)
 have Y1_x5 := Safe.keep K5 (sfS Y1_x4 sf0) CR0_x4.1 Y1_x4
 have A1_x5 := A1_x4.keep K5
 have Y2_x5 := Safe.keep K5 (sfS Y1_x4 sf0) CR0_x4.1 Y2_x4
 have V4s_x5 := V4s.keep K5 (ninS (Ne.symm ne2_b1) nin0)
 show own_Rch _ _ _ _ T5 (mkF m 68 #[own_vi p, own_vi (2 : Int32), own_vi ((p &&& (255 : Int32)).toUInt32.toUInt16.toUInt32.toInt32), own_vi ((((p.toUInt32 >>> ((8 : Int32) &&& 31).toUInt32).toInt32) &&& (255 : Int32)).toUInt32.toUInt16.toUInt32.toInt32), own_vi ((((p.toUInt32 >>> ((16 : Int32) &&& 31).toUInt32).toInt32) &&& (255 : Int32)).toUInt32.toUInt16.toUInt32.toInt32)] [(.ref b1)])
 refine own_retAH rfl rfl (by rw [hh0]; exact CR0_x5.trans (CHv.at (s := s) X5 hZ (own_hEL hw) CR0_x5.1)) (s := s) hS0 hkk5 X5 hx Bd.notSynchronized Bd.returns (hb hby own_d1_68) (by decide) (by decide) ?_
 exact ⟨_, _, _, [(.int (own_b ((p &&& (255 : Int32)).toUInt32.toUInt16.toUInt32.toInt32))), (.int (own_b ((((p.toUInt32 >>> ((8 : Int32) &&& 31).toUInt32).toInt32) &&& (255 : Int32)).toUInt32.toUInt16.toUInt32.toInt32)))], rfl, N5, K0_x5, by simp, Ea5, Fv5, Fc5, Vy5⟩
theorem own_d1_69 : decode own_c1 69 = .ok (.new 10, 3) := by decide +kernel
theorem own_d1_72 : decode own_c1 72 = .ok (.dup, 1) := by decide +kernel
theorem own_d1_73 : decode own_c1 73 = .ok (.iconst 3, 1) := by decide +kernel
theorem own_d1_74 : decode own_c1 74 = .ok (.newarray .char, 2) := by decide +kernel
theorem own_d1_76 : decode own_c1 76 = .ok (.dup, 1) := by decide +kernel
theorem own_d1_77 : decode own_c1 77 = .ok (.iconst 0, 1) := by decide +kernel
theorem own_d1_78 : decode own_c1 78 = .ok (.iload_n 2, 1) := by decide +kernel
theorem own_d1_79 : decode own_c1 79 = .ok (.castore, 1) := by decide +kernel
theorem own_d1_80 : decode own_c1 80 = .ok (.dup, 1) := by decide +kernel
theorem own_d1_81 : decode own_c1 81 = .ok (.iconst 1, 1) := by decide +kernel
theorem own_d1_82 : decode own_c1 82 = .ok (.iload_n 3, 1) := by decide +kernel
theorem own_d1_83 : decode own_c1 83 = .ok (.castore, 1) := by decide +kernel
theorem own_d1_84 : decode own_c1 84 = .ok (.dup, 1) := by decide +kernel
theorem own_d1_85 : decode own_c1 85 = .ok (.iconst 2, 1) := by decide +kernel
theorem own_d1_86 : decode own_c1 86 = .ok (.iload 4, 2) := by decide +kernel
theorem own_d1_88 : decode own_c1 88 = .ok (.castore, 1) := by decide +kernel
theorem own_d1_89 : decode own_c1 89 = .ok (.invokespecial 15, 3) := by decide +kernel
theorem own_d1_92 : decode own_c1 92 = .ok (.areturn, 1) := by decide +kernel
theorem own_str3 (l : Launch) (Z : State) (a0 : Array Value) (hw : ∀ d ∈ tables_1, d.before a0 Z = true) (ws : List Jvm.Cond) (p : Int32) (cs : Int32) (h0 : Heap) (n0 : Nat) (O0 : Old Z n0 h0) (SC : Sta Z Z.heap "java/lang/String" "COMPACT_STRINGS" "Z" (.int cs)) (hcs : ¬ cs = 0) :
    MetFree l own_y30 (head1 (Jvm.Cond.code own_y30 method_2_code 5 (some (.object "java/lang/String")) :: ws) (own_r 6 8 30 130)) (fun args_ U => args_ = #[(.int p), (.int (3 : Int32))] ∧ Z.Warmed39 U.vm ∧ U.heap = h0 ∧ CHv Z consts_1 U.vm h0) (fun _ _ _ _ _ => True) (fun _ U o U' => ∃ v L, o = .returned v ∧ (own_Q_str Z h0 n0) v U'.heap L ∧ CHr Z consts_1 U.vm U.heap U'.vm U'.heap ∧ ReturnedEndW U o U' L (own_r 6 8 30 130).cells (own_r 6 8 30 130).slots) := by
 refine MetFree.of_bodySF (plainFor_of_name own_pn8) hisR ?_
 intro p_ e s m args below meth c_ s₁ Bd hml0 hP hK
 obtain ⟨rfl, hZ, hh, hCH⟩ := hP
 have hx := Bd.exec
 have hby := Bd.bytes
 have hml : c_.maxLocals = 5 := hml0
 have hown : s.vm.findClass "com/example/makewhole/makewhole/memberfiles/TableFieldsOfEntryPinLaw" = some m.cls := findClass_of_methodNamed Bd.named
 have hnm := (name_of_methodNamed Bd.named Bd.method).1
 have X0 : Stand p_ l e (own_r 6 8 30 130) (s.setVm s.vm) m #[(.int p), (.int (3 : Int32))] below meth c_ s₁ [] 0 0 := Stand.of_body Bd
 have e0 : s₁.heap = h0 := by rw [← hh, Bd.state]; rfl
 have N0 := Fr.nil n0
 have hh0 : s.heap = h0 := hh
 have CR0 : CHr Z consts_1 s.vm h0 s.vm h0 := CHr.refl hCH
 have hS0 : s.Since s.vm 0 := own_since s
 have hk0 : 0 ≤ h0.size := Nat.zero_le _
 refine own_closeH (Z := Z) (EL := consts_1) (s := s) (Q := (own_Q_str Z h0 n0)) (own_st (fun _ => castTop (own_ef1 m p (3 : Int32))) ?_)
 have K0 := Keep.refl h0 []
 show own_Rch _ _ _ _ s₁ (mkF m 0 #[own_vi p, own_vi (3 : Int32), .unset, .unset, .unset] [])
 refine own_iloadN X0 hx hby own_d1_0 rfl rfl ?_
 refine own_st (fun _ => XS.sipush X0.here hx rfl (hb hby own_d1_1)) ?_
 show own_Rch _ _ _ _ s₁ (mkF m 4 #[own_vi p, own_vi (3 : Int32), .unset, .unset, .unset] [(.int (255 : Int32)), (.int p)])
 refine own_st (fun _ => XS.iand X0.here hx rfl (hb hby own_d1_4) rfl) ?_
 show own_Rch _ _ _ _ s₁ (mkF m 5 #[own_vi p, own_vi (3 : Int32), .unset, .unset, .unset] [(.int (p &&& (255 : Int32)))])
 refine own_st (fun _ => XS.i2c X0.here hx rfl (hb hby own_d1_5) rfl) ?_
 refine own_st (fun _ => XS.istoreN X0.here hx rfl (hb hby own_d1_6) rfl (l' := #[own_vi p, own_vi (3 : Int32), own_vi ((p &&& (255 : Int32)).toUInt32.toUInt16.toUInt32.toInt32), .unset, .unset]) rfl) ?_
 refine own_iloadN X0 hx hby own_d1_7 rfl rfl ?_
 refine own_st (fun _ => XS.bipush X0.here hx rfl (hb hby own_d1_8)) ?_
 show own_Rch _ _ _ _ s₁ (mkF m 10 #[own_vi p, own_vi (3 : Int32), own_vi ((p &&& (255 : Int32)).toUInt32.toUInt16.toUInt32.toInt32), .unset, .unset] [(.int (8 : Int32)), (.int p)])
 refine own_st (fun _ => XS.iushr X0.here hx rfl (hb hby own_d1_10) rfl) ?_
 refine own_st (fun _ => XS.sipush X0.here hx rfl (hb hby own_d1_11)) ?_
 show own_Rch _ _ _ _ s₁ (mkF m 14 #[own_vi p, own_vi (3 : Int32), own_vi ((p &&& (255 : Int32)).toUInt32.toUInt16.toUInt32.toInt32), .unset, .unset] [(.int (255 : Int32)), (.int ((p.toUInt32 >>> ((8 : Int32) &&& 31).toUInt32).toInt32))])
 refine own_st (fun _ => XS.iand X0.here hx rfl (hb hby own_d1_14) rfl) ?_
 show own_Rch _ _ _ _ s₁ (mkF m 15 #[own_vi p, own_vi (3 : Int32), own_vi ((p &&& (255 : Int32)).toUInt32.toUInt16.toUInt32.toInt32), .unset, .unset] [(.int (((p.toUInt32 >>> ((8 : Int32) &&& 31).toUInt32).toInt32) &&& (255 : Int32)))])
 refine own_st (fun _ => XS.i2c X0.here hx rfl (hb hby own_d1_15) rfl) ?_
 refine own_st (fun _ => XS.istoreN X0.here hx rfl (hb hby own_d1_16) rfl (l' := #[own_vi p, own_vi (3 : Int32), own_vi ((p &&& (255 : Int32)).toUInt32.toUInt16.toUInt32.toInt32), own_vi ((((p.toUInt32 >>> ((8 : Int32) &&& 31).toUInt32).toInt32) &&& (255 : Int32)).toUInt32.toUInt16.toUInt32.toInt32), .unset]) rfl) ?_
 refine own_iloadN X0 hx hby own_d1_17 rfl rfl ?_
 refine own_st (fun _ => XS.bipush X0.here hx rfl (hb hby own_d1_18)) ?_
 show own_Rch _ _ _ _ s₁ (mkF m 20 #[own_vi p, own_vi (3 : Int32), own_vi ((p &&& (255 : Int32)).toUInt32.toUInt16.toUInt32.toInt32), own_vi ((((p.toUInt32 >>> ((8 : Int32) &&& 31).toUInt32).toInt32) &&& (255 : Int32)).toUInt32.toUInt16.toUInt32.toInt32), .unset] [(.int (16 : Int32)), (.int p)])
 refine own_st (fun _ => XS.iushr X0.here hx rfl (hb hby own_d1_20) rfl) ?_
 refine own_st (fun _ => XS.sipush X0.here hx rfl (hb hby own_d1_21)) ?_
 show own_Rch _ _ _ _ s₁ (mkF m 24 #[own_vi p, own_vi (3 : Int32), own_vi ((p &&& (255 : Int32)).toUInt32.toUInt16.toUInt32.toInt32), own_vi ((((p.toUInt32 >>> ((8 : Int32) &&& 31).toUInt32).toInt32) &&& (255 : Int32)).toUInt32.toUInt16.toUInt32.toInt32), .unset] [(.int (255 : Int32)), (.int ((p.toUInt32 >>> ((16 : Int32) &&& 31).toUInt32).toInt32))])
 refine own_st (fun _ => XS.iand X0.here hx rfl (hb hby own_d1_24) rfl) ?_
 show own_Rch _ _ _ _ s₁ (mkF m 25 #[own_vi p, own_vi (3 : Int32), own_vi ((p &&& (255 : Int32)).toUInt32.toUInt16.toUInt32.toInt32), own_vi ((((p.toUInt32 >>> ((8 : Int32) &&& 31).toUInt32).toInt32) &&& (255 : Int32)).toUInt32.toUInt16.toUInt32.toInt32), .unset] [(.int (((p.toUInt32 >>> ((16 : Int32) &&& 31).toUInt32).toInt32) &&& (255 : Int32)))])
 refine own_st (fun _ => XS.i2c X0.here hx rfl (hb hby own_d1_25) rfl) ?_
 refine own_st (fun _ => XS.istore X0.here hx rfl (hb hby own_d1_26) rfl (l' := #[own_vi p, own_vi (3 : Int32), own_vi ((p &&& (255 : Int32)).toUInt32.toUInt16.toUInt32.toInt32), own_vi ((((p.toUInt32 >>> ((8 : Int32) &&& 31).toUInt32).toInt32) &&& (255 : Int32)).toUInt32.toUInt16.toUInt32.toInt32), own_vi ((((p.toUInt32 >>> ((16 : Int32) &&& 31).toUInt32).toInt32) &&& (255 : Int32)).toUInt32.toUInt16.toUInt32.toInt32)]) rfl) ?_
 refine own_iloadN X0 hx hby own_d1_28 rfl rfl ?_
 show own_Rch _ _ _ _ s₁ (mkF m 29 #[own_vi p, own_vi (3 : Int32), own_vi ((p &&& (255 : Int32)).toUInt32.toUInt16.toUInt32.toInt32), own_vi ((((p.toUInt32 >>> ((8 : Int32) &&& 31).toUInt32).toInt32) &&& (255 : Int32)).toUInt32.toUInt16.toUInt32.toInt32), own_vi ((((p.toUInt32 >>> ((16 : Int32) &&& 31).toUInt32).toInt32) &&& (255 : Int32)).toUInt32.toUInt16.toUInt32.toInt32)] [(.int (3 : Int32))])
 refine own_st (fun _ => XS.ifYes X0.here hx rfl (pc0 := 29) (pc' := 35) rfl (hb hby own_d1_29) rfl ((if0 _ _).trans (feq ((by decide) : ¬ ((3 : Int32) = (0 : Int32)))).2) (by decide) (by decide)) ?_
 refine own_iloadN X0 hx hby own_d1_35 rfl rfl ?_
 refine own_iconst X0 hx hby own_d1_36 rfl ?_
 show own_Rch _ _ _ _ s₁ (mkF m 37 #[own_vi p, own_vi (3 : Int32), own_vi ((p &&& (255 : Int32)).toUInt32.toUInt16.toUInt32.toInt32), own_vi ((((p.toUInt32 >>> ((8 : Int32) &&& 31).toUInt32).toInt32) &&& (255 : Int32)).toUInt32.toUInt16.toUInt32.toInt32), own_vi ((((p.toUInt32 >>> ((16 : Int32) &&& 31).toUInt32).toInt32) &&& (255 : Int32)).toUInt32.toUInt16.toUInt32.toInt32)] [(.int (1 : Int32)), (.int (3 : Int32))])
 refine own_st (fun _ => XS.icmpYes X0.here hx rfl (pc0 := 37) (pc' := 45) rfl (hb hby own_d1_37) rfl (feq ((by decide) : ¬ ((3 : Int32) = (1 : Int32)))).2 (by decide) (by decide)) ?_
 refine own_iloadN X0 hx hby own_d1_45 rfl rfl ?_
 refine own_iconst X0 hx hby own_d1_46 rfl ?_
 show own_Rch _ _ _ _ s₁ (mkF m 47 #[own_vi p, own_vi (3 : Int32), own_vi ((p &&& (255 : Int32)).toUInt32.toUInt16.toUInt32.toInt32), own_vi ((((p.toUInt32 >>> ((8 : Int32) &&& 31).toUInt32).toInt32) &&& (255 : Int32)).toUInt32.toUInt16.toUInt32.toInt32), own_vi ((((p.toUInt32 >>> ((16 : Int32) &&& 31).toUInt32).toInt32) &&& (255 : Int32)).toUInt32.toUInt16.toUInt32.toInt32)] [(.int (2 : Int32)), (.int (3 : Int32))])
 refine own_st (fun _ => XS.icmpYes X0.here hx rfl (pc0 := 47) (pc' := 69) rfl (hb hby own_d1_47) rfl (feq ((by decide) : ¬ ((3 : Int32) = (2 : Int32)))).2 (by decide) (by decide)) ?_
 obtain ⟨T1, h1, X1, e1, E1, A1, D1, U1, st1⟩ := newO X0 hx hZ hown (hw _ (own_m 347 rfl)) (hw _ (own_m 6 rfl)) (hw _ (own_m 5 rfl)) e0 (g := (mkF m 69 #[own_vi p, own_vi (3 : Int32), own_vi ((p &&& (255 : Int32)).toUInt32.toUInt16.toUInt32.toInt32), own_vi ((((p.toUInt32 >>> ((8 : Int32) &&& 31).toUInt32).toInt32) &&& (255 : Int32)).toUInt32.toUInt16.toUInt32.toInt32), own_vi ((((p.toUInt32 >>> ((16 : Int32) &&& 31).toUInt32).toInt32) &&& (255 : Int32)).toUInt32.toUInt16.toUInt32.toInt32)] [])) rfl (hb hby own_d1_69) (by decide) (by decide)
 obtain ⟨b1, g1⟩ : ∃ z, z = h0.size := ⟨_, rfl⟩
 rw [← g1] at A1 D1 U1 st1
 have ge1 : n0 ≤ b1 := by rw [g1]; exact own_old_le O0
 have sz1 : h0.size ≤ b1 := by rw [g1]; exact K0.1
 have hkk1 := Nat.le_trans hk0 E1.1
 have O0_x1 := O0.ext E1
 have CR0_x1 := CR0.trans (CHr.ext E1 CR0.1)
 have K0_x1 := K0.ext E1
 have Y1 := Safe.ext E1 CR0.1 (Safe.new (Nat.le_of_eq g1.symm))
 refine own_st st1 ?_
 have F1_value : Fld Z h1 b1 "java/lang/String" "value" "[B" .null := D1 (Or.inr (hw _ (own_m 8 rfl))) (ty := (.array .byte)) (by decide)
 have F1_coder : Fld Z h1 b1 "java/lang/String" "coder" "B" (.int (0 : Int32)) := D1 (Or.inr (hw _ (own_m 9 rfl))) (ty := .byte) (by decide)
 refine own_dup X1 hx hby own_d1_72 rfl rfl rfl ?_
 refine own_iconst X1 hx hby own_d1_73 rfl ?_
 obtain ⟨T2, h2, k2, X2, e2, E2, A2, st2⟩ := newP X1 hx hZ (hw _ (own_m 348 rfl)) e1 (g := (mkF m 74 #[own_vi p, own_vi (3 : Int32), own_vi ((p &&& (255 : Int32)).toUInt32.toUInt16.toUInt32.toInt32), own_vi ((((p.toUInt32 >>> ((8 : Int32) &&& 31).toUInt32).toInt32) &&& (255 : Int32)).toUInt32.toUInt16.toUInt32.toInt32), own_vi ((((p.toUInt32 >>> ((16 : Int32) &&& 31).toUInt32).toInt32) &&& (255 : Int32)).toUInt32.toUInt16.toUInt32.toInt32)] [(.int (3 : Int32)), (.ref b1), (.ref b1)])) rfl (hb hby own_d1_74) rfl (by decide) (cap := 3) (by decide) (by decide) (by decide) (by decide)
 obtain ⟨b2, g2⟩ : ∃ z, z = h1.size := ⟨_, rfl⟩
 rw [← g2] at A2 st2
 have ge2 : n0 ≤ b2 := by rw [g2]; exact own_old_le O0_x1
 have ne2_b1 : b1 ≠ b2 := by rw [g2]; exact Nat.ne_of_lt F1_value.lt
 have sz2 : h0.size ≤ b2 := by rw [g2]; exact K0_x1.1
 have hkk2 := Nat.le_trans hkk1 E2.1
 have O0_x2 := O0_x1.ext E2
 have CR0_x2 := CR0_x1.trans (CHr.ext E2 CR0_x1.1)
 have K0_x2 := K0_x1.ext E2
 have Y1_x2 := Safe.ext E2 CR0_x1.1 Y1
 have F1_value_x2 := F1_value.ext E2
 have F1_coder_x2 := F1_coder.ext E2
 have A1_x2 := A1.ext E2
 have Y2 := Safe.ext E2 CR0_x1.1 (Safe.new (Nat.le_of_eq g2.symm))
 refine own_st st2 ?_
 have V2 := Arv.new A2 (by decide)
 have V2p : Arv Z h2 b2 k2 .char (3 : Int32) [(.int (0 : Int32)), (.int (0 : Int32)), (.int (0 : Int32))] (.int (0 : Int32)) := V2.pad (pad_rep [] (.int (0 : Int32)) 3)
 refine own_dup X2 hx hby own_d1_76 rfl rfl rfl ?_
 refine own_iconst X2 hx hby own_d1_77 rfl ?_
 refine own_iloadN X2 hx hby own_d1_78 rfl rfl ?_
 obtain ⟨cl3, Ar3, q3, S3, M3, H3, G3⟩ := id V2p
 have hin3 : ¬ ((0 : Int32) < 0 ∨ cl3.slots.size ≤ ((0 : Int32)).toNatClampNeg) := inb_of S3 ⟨by decide, by decide⟩
 obtain ⟨T3, h3, X3, e3, W3, st3⟩ := stC X2 hx hZ e2 Ar3 (j := (0 : Int32)) hin3 (g := (mkF m 79 #[own_vi p, own_vi (3 : Int32), own_vi ((p &&& (255 : Int32)).toUInt32.toUInt16.toUInt32.toInt32), own_vi ((((p.toUInt32 >>> ((8 : Int32) &&& 31).toUInt32).toInt32) &&& (255 : Int32)).toUInt32.toUInt16.toUInt32.toInt32), own_vi ((((p.toUInt32 >>> ((16 : Int32) &&& 31).toUInt32).toInt32) &&& (255 : Int32)).toUInt32.toUInt16.toUInt32.toInt32)] [(.int ((p &&& (255 : Int32)).toUInt32.toUInt16.toUInt32.toInt32)), (.int (0 : Int32)), (.ref b2), (.ref b2), (.ref b1), (.ref b1)])) rfl rfl (hb hby own_d1_79)
 have V3 := Arv.set Ar3 q3 S3 M3 H3 G3 (fits_nar_char _) W3 0 rfl (Nat.le_of_ble_eq_true rfl)
 have V3s : Arv Z h3 b2 k2 .char (3 : Int32) [(.int (nar .char ((p &&& (255 : Int32)).toUInt32.toUInt16.toUInt32.toInt32))), (.int (0 : Int32)), (.int (0 : Int32))] (.int (0 : Int32)) := V3
 have N3 := Fr.snoc X3 N0 ge2
 refine own_st st3 ?_
 have hkk3 := Nat.le_trans hkk2 (Nat.le_of_eq (Wr.size W3).symm)
 have O0_x3 := O0_x2.wr W3 ge2
 have CR0_x3 := CR0_x2.trans (CHr.wr W3 Y2 CR0_x2.1)
 have K0_x3 := K0_x2.wr W3 (Or.inr sz2)
 have Y1_x3 := Safe.wr W3 Y2 CR0_x2.1 Y1_x2
 have F1_value_x3 := F1_value_x2.other W3 (Or.inl ne2_b1)
 have F1_coder_x3 := F1_coder_x2.other W3 (Or.inl ne2_b1)
 have A1_x3 := A1_x2.wr W3
 have Y2_x3 := Safe.wr W3 Y2 CR0_x2.1 Y2
 refine own_dup X3 hx hby own_d1_80 rfl rfl rfl ?_
 refine own_iconst X3 hx hby own_d1_81 rfl ?_
 refine own_iloadN X3 hx hby own_d1_82 rfl rfl ?_
 obtain ⟨cl4, Ar4, q4, S4, M4, H4, G4⟩ := id V3s
 have hin4 : ¬ ((1 : Int32) < 0 ∨ cl4.slots.size ≤ ((1 : Int32)).toNatClampNeg) := inb_of S4 ⟨by decide, by decide⟩
 obtain ⟨T4, h4, X4, e4, W4, st4⟩ := stC X3 hx hZ e3 Ar4 (j := (1 : Int32)) hin4 (g := (mkF m 83 #[own_vi p, own_vi (3 : Int32), own_vi ((p &&& (255 : Int32)).toUInt32.toUInt16.toUInt32.toInt32), own_vi ((((p.toUInt32 >>> ((8 : Int32) &&& 31).toUInt32).toInt32) &&& (255 : Int32)).toUInt32.toUInt16.toUInt32.toInt32), own_vi ((((p.toUInt32 >>> ((16 : Int32) &&& 31).toUInt32).toInt32) &&& (255 : Int32)).toUInt32.toUInt16.toUInt32.toInt32)] [(.int ((((p.toUInt32 >>> ((8 : Int32) &&& 31).toUInt32).toInt32) &&& (255 : Int32)).toUInt32.toUInt16.toUInt32.toInt32)), (.int (1 : Int32)), (.ref b2), (.ref b2), (.ref b1), (.ref b1)])) rfl rfl (hb hby own_d1_83)
 have V4 := Arv.set Ar4 q4 S4 M4 H4 G4 (fits_nar_char _) W4 1 rfl (Nat.le_of_ble_eq_true rfl)
 have V4s : Arv Z h4 b2 k2 .char (3 : Int32) [(.int (nar .char ((p &&& (255 : Int32)).toUInt32.toUInt16.toUInt32.toInt32))), (.int (nar .char ((((p.toUInt32 >>> ((8 : Int32) &&& 31).toUInt32).toInt32) &&& (255 : Int32)).toUInt32.toUInt16.toUInt32.toInt32))), (.int (0 : Int32))] (.int (0 : Int32)) := V4
 have N4 := Fr.snoc X4 N3 ge2
 refine own_st st4 ?_
 have hkk4 := Nat.le_trans hkk3 (Nat.le_of_eq (Wr.size W4).symm)
 have O0_x4 := O0_x3.wr W4 ge2
 have CR0_x4 := CR0_x3.trans (CHr.wr W4 Y2_x3 CR0_x3.1)
 have K0_x4 := K0_x3.wr W4 (Or.inr sz2)
 have Y1_x4 := Safe.wr W4 Y2_x3 CR0_x3.1 Y1_x3
 have F1_value_x4 := F1_value_x3.other W4 (Or.inl ne2_b1)
 have F1_coder_x4 := F1_coder_x3.other W4 (Or.inl ne2_b1)
 have A1_x4 := A1_x3.wr W4
 have Y2_x4 := Safe.wr W4 Y2_x3 CR0_x3.1 Y2_x3
 refine own_dup X4 hx hby own_d1_84 rfl rfl rfl ?_
 refine own_iconst X4 hx hby own_d1_85 rfl ?_
 refine own_iload X4 hx hby own_d1_86 rfl rfl ?_
 obtain ⟨cl5, Ar5, q5, S5, M5, H5, G5⟩ := id V4s
 have hin5 : ¬ ((2 : Int32) < 0 ∨ cl5.slots.size ≤ ((2 : Int32)).toNatClampNeg) := inb_of S5 ⟨by decide, by decide⟩
 obtain ⟨T5, h5, X5, e5, W5, st5⟩ := stC X4 hx hZ e4 Ar5 (j := (2 : Int32)) hin5 (g := (mkF m 88 #[own_vi p, own_vi (3 : Int32), own_vi ((p &&& (255 : Int32)).toUInt32.toUInt16.toUInt32.toInt32), own_vi ((((p.toUInt32 >>> ((8 : Int32) &&& 31).toUInt32).toInt32) &&& (255 : Int32)).toUInt32.toUInt16.toUInt32.toInt32), own_vi ((((p.toUInt32 >>> ((16 : Int32) &&& 31).toUInt32).toInt32) &&& (255 : Int32)).toUInt32.toUInt16.toUInt32.toInt32)] [(.int ((((p.toUInt32 >>> ((16 : Int32) &&& 31).toUInt32).toInt32) &&& (255 : Int32)).toUInt32.toUInt16.toUInt32.toInt32)), (.int (2 : Int32)), (.ref b2), (.ref b2), (.ref b1), (.ref b1)])) rfl rfl (hb hby own_d1_88)
 have V5 := Arv.set Ar5 q5 S5 M5 H5 G5 (fits_nar_char _) W5 2 rfl (Nat.le_of_ble_eq_true rfl)
 have V5s : Arv Z h5 b2 k2 .char (3 : Int32) [(.int (nar .char ((p &&& (255 : Int32)).toUInt32.toUInt16.toUInt32.toInt32))), (.int (nar .char ((((p.toUInt32 >>> ((8 : Int32) &&& 31).toUInt32).toInt32) &&& (255 : Int32)).toUInt32.toUInt16.toUInt32.toInt32))), (.int (nar .char ((((p.toUInt32 >>> ((16 : Int32) &&& 31).toUInt32).toInt32) &&& (255 : Int32)).toUInt32.toUInt16.toUInt32.toInt32)))] (.int (0 : Int32)) := V5
 have N5 := Fr.snoc X5 N4 ge2
 refine own_st st5 ?_
 have hkk5 := Nat.le_trans hkk4 (Nat.le_of_eq (Wr.size W5).symm)
 have O0_x5 := O0_x4.wr W5 ge2
 have CR0_x5 := CR0_x4.trans (CHr.wr W5 Y2_x4 CR0_x4.1)
 have K0_x5 := K0_x4.wr W5 (Or.inr sz2)
 have Y1_x5 := Safe.wr W5 Y2_x4 CR0_x4.1 Y1_x4
 have F1_value_x5 := F1_value_x4.other W5 (Or.inl ne2_b1)
 have F1_coder_x5 := F1_coder_x4.other W5 (Or.inl ne2_b1)
 have A1_x5 := A1_x4.wr W5
 have Y2_x5 := Safe.wr W5 Y2_x4 CR0_x4.1 Y2_x4
 obtain ⟨_, _, ⟨T6, L6, k6, n6⟩, -, X6, ⟨Lc6, hQ6, l6, y6, z6⟩, st6⟩ := X5.specialBack hx (y := (⟨"java/lang/String", "<init>", "([C)V"⟩ : MethodName)) rfl hown (mvT hZ (hw _ (own_m 349 rfl))) (mvT hZ (hw _ (own_m 350 rfl))) (mvT hZ (hw _ (own_m 351 rfl))) (by decide) (backOf (W := 1) (own_i1_3 l Z a0 hw [] b1 b2 k2 ((p &&& (255 : Int32)).toUInt32.toUInt16.toUInt32.toInt32) ((((p.toUInt32 >>> ((8 : Int32) &&& 31).toUInt32).toInt32) &&& (255 : Int32)).toUInt32.toUInt16.toUInt32.toInt32) ((((p.toUInt32 >>> ((16 : Int32) &&& 31).toUInt32).toInt32) &&& (255 : Int32)).toUInt32.toUInt16.toUInt32.toInt32) cs h5 n0 O0_x5 SC hcs V5s A1_x5 F1_value_x5 F1_coder_x5 ge1 (own_chc _) (own_chc _) (own_chc _)) hZ (hw _ (own_m 351 rfl)) (hw _ (own_m 5 rfl)) (by decide) (by decide)) (g := (mkF m 89 #[own_vi p, own_vi (3 : Int32), own_vi ((p &&& (255 : Int32)).toUInt32.toUInt16.toUInt32.toInt32), own_vi ((((p.toUInt32 >>> ((8 : Int32) &&& 31).toUInt32).toInt32) &&& (255 : Int32)).toUInt32.toUInt16.toUInt32.toInt32), own_vi ((((p.toUInt32 >>> ((16 : Int32) &&& 31).toUInt32).toInt32) &&& (255 : Int32)).toUInt32.toUInt16.toUInt32.toInt32)] [(.ref b2), (.ref b1), (.ref b1)])) rfl (by rw [hml]; rfl) (Steps.refl _) (a := b1) (argsL := [(.ref b2)]) (rest := [(.ref b1)]) (lenOf own_pd32 rfl) rfl (by show 2 * 0 + _ ≤ _; exact Nat.le_of_eq rfl) (hb hby own_d1_89) (fun _ _ => ⟨rfl, e5, (by decide : 2 + 1 ≤ _), (by decide : 7 + 3 ≤ _)⟩)
 dsimp only [Pt.U, Pt.locs, Pt.cells, Pt.slots] at X6 l6 y6 z6 st6 hQ6
 subst l6 y6 z6
 obtain ⟨rfl, N6q, K6, yy6, ky6, Ea6, Fv6, Fc6, Vy6⟩ := hQ6
 have N6 := Fr.app N5 N6q
 refine own_st (fun _ kt => st6.trans kt) ?_
 have hkk6 := Nat.le_trans hkk5 K6.1
 have O0_x6 := O0_x5.keep K6 (allS ge1 all0)
 have CR0_x6 := CR0_x5.trans (CHr.keep K6 (sfS Y1_x5 sf0) CR0_x5.1)
 have K0_x6 := K0_x5.trans K6 (allS (Or.inr sz1) all0)
 have Y1_x6 := Safe.keep K6 (sfS Y1_x5 sf0) CR0_x5.1 Y1_x5
 have A1_x6 := A1_x5.keep K6
 have Y2_x6 := Safe.keep K6 (sfS Y1_x5 sf0) CR0_x5.1 Y2_x5
 have V5s_x6 := V5s.keep K6 (ninS (Ne.symm ne2_b1) nin0)
 show own_Rch _ _ _ _ T6 (mkF m 92 #[own_vi p, own_vi (3 : Int32), own_vi ((p &&& (255 : Int32)).toUInt32.toUInt16.toUInt32.toInt32), own_vi ((((p.toUInt32 >>> ((8 : Int32) &&& 31).toUInt32).toInt32) &&& (255 : Int32)).toUInt32.toUInt16.toUInt32.toInt32), own_vi ((((p.toUInt32 >>> ((16 : Int32) &&& 31).toUInt32).toInt32) &&& (255 : Int32)).toUInt32.toUInt16.toUInt32.toInt32)] [(.ref b1)])
 refine own_retAH rfl rfl (by rw [hh0]; exact CR0_x6.trans (CHv.at (s := s) X6 hZ (own_hEL hw) CR0_x6.1)) (s := s) hS0 hkk6 X6 hx Bd.notSynchronized Bd.returns (hb hby own_d1_92) (by decide) (by decide) ?_
 exact ⟨_, _, _, [(.int (own_b ((p &&& (255 : Int32)).toUInt32.toUInt16.toUInt32.toInt32))), (.int (own_b ((((p.toUInt32 >>> ((8 : Int32) &&& 31).toUInt32).toInt32) &&& (255 : Int32)).toUInt32.toUInt16.toUInt32.toInt32))), (.int (own_b ((((p.toUInt32 >>> ((16 : Int32) &&& 31).toUInt32).toInt32) &&& (255 : Int32)).toUInt32.toUInt16.toUInt32.toInt32)))], rfl, N6, K0_x6, by simp, Ea6, Fv6, Fc6, Vy6⟩
theorem own_str (l : Launch) (Z : State) (a0 : Array Value) (hw : ∀ d ∈ tables_1, d.before a0 Z = true) (ws : List Jvm.Cond) (p n cs : Int32) (h0 : Heap) (n0 : Nat) (O0 : Old Z n0 h0) (SC : Sta Z Z.heap "java/lang/String" "COMPACT_STRINGS" "Z" (.int cs)) (hcs : ¬ cs = 0) (hn : n = 0 ∨ n = 1 ∨ n = 2 ∨ n = 3) :
    MetFree l own_y30 (head1 (Jvm.Cond.code own_y30 method_2_code 5 (some (.object "java/lang/String")) :: ws) ({ frames := 6, cells := 8, slots := 30, locals := 130 } : Room)) (fun args_ U => args_ = #[(.int p), (.int n)] ∧ Z.Warmed39 U.vm ∧ U.heap = h0 ∧ CHv Z consts_1 U.vm h0) (fun _ _ _ _ _ => True) (fun _ U o U' => ∃ v L, o = .returned v ∧ (own_Q_str Z h0 n0) v U'.heap L ∧ CHr Z consts_1 U.vm U.heap U'.vm U'.heap ∧ ReturnedEndW U o U' L ({ frames := 6, cells := 8, slots := 30, locals := 130 } : Room).cells ({ frames := 6, cells := 8, slots := 30, locals := 130 } : Room).slots) := by
  rcases hn with rfl | rfl | rfl | rfl
  · exact own_str0 l Z a0 hw ws p cs h0 n0 O0 SC hcs
  · exact own_str1 l Z a0 hw ws p cs h0 n0 O0 SC hcs
  · exact own_str2 l Z a0 hw ws p cs h0 n0 O0 SC hcs
  · exact own_str3 l Z a0 hw ws p cs h0 n0 O0 SC hcs
section OwnX
open Jvm.Free.Exc LibCode.Throwable
theorem own_par {x : MethodName} {sg : MethodDescriptor} {ps : List FieldType} (h : parseMethodDescriptor x.desc = some sg) (q : (parseMethodDescriptor x.desc).map (·.parameters) = some ps) : sg.parameters = ps := by
  rw [h] at q; exact Option.some.inj q
/-- Throwable's tables at a state where its fields are laid in MemberRecordException (the sheet lacks one 'lays' of Throwable's own) -/
theorem own_thr {args : Array Value} {s : State} {pl : Platform} (howns : pl.frameOwnsMonitors = true) (hfin : pl.finalization = false) (hpl : pl.magicAccessors = ({} : Platform).magicAccessors) (g : ∀ {i : Nat} {d : Jvm.Cond}, tables_1[i]? = some d → xOk d = true → d.before args s = true) :
    ∃ T : ThrowableC, T.Links pl s ∧ s.vm.findClass tN = some T.cT ∧ s.methodNamed? tFill = some T.fill ∧ s.methodNamed? tFill0 = some T.fill0 ∧ s.fieldFound? tN "stackTrace" steD = some (T.cT, T.kT, T.i17, T.fStack) ∧ T.fStack.type = .array (.object "java/lang/StackTraceElement") ∧ s.fieldFound? tN "UNASSIGNED_STACK" steD = some (T.cT, T.kT, T.i13, T.fUnassigned) := by
  -- the class
  obtain ⟨cT, _, _, _, _, _, hcT, -⟩ := Cond.laysStatic_spec (owner := tN) (g (i := 65) rfl rfl)
  obtain ⟨kT, hkT, hnameT⟩ := Vm.findClass_spec hcT
  obtain ⟨_, kS, _, _, hkS, _, _, -, _, notFace⟩ := Cond.superclass_spec hcT (g (i := 52) rfl rfl)
  cases hkS.symm.trans hkT
  -- what it links
  obtain ⟨nA, iA, fA, lkA, rtA, atA, stA, fiA, -, -, -⟩ := Cond.ownField (t := .object tN) hcT hkT (by decide +kernel) (g (i := 37) rfl rfl) (g (i := 38) rfl rfl) pl hpl
  obtain ⟨nB, iB, fB, lkB, rtB, atB, stB, fiB, nmB, tyB, ffB⟩ := Cond.ownField (t := .array (.object "java/lang/StackTraceElement")) hcT hkT (by decide +kernel) (g (i := 40) rfl rfl) (g (i := 41) rfl rfl) pl hpl
  obtain ⟨nC, iC, fC, lkC, rtC, atC, stC, fiC, nmC, -, ffC⟩ := Cond.ownField (t := .object "java/util/List") hcT hkT (by decide +kernel) (g (i := 43) rfl rfl) (g (i := 44) rfl rfl) pl hpl
  obtain ⟨nD, iD, fD, aS, _, lkD, rtD, atD, stD, -, -, stat, -, -, -, -, ffD⟩ := Cond.ownStatic (t := .array (.object "java/lang/StackTraceElement")) hcT hkT (by decide +kernel) (g (i := 39) rfl rfl) (g (i := 65) rfl rfl) pl hpl
  obtain ⟨nE, iE, fE, _, _, lkE, rtE, atE, stE, -⟩ := Cond.ownStatic (t := .object "java/util/List") hcT hkT (by decide +kernel) (g (i := 42) rfl rfl) (g (i := 66) rfl rfl) pl hpl
  obtain ⟨_, _, _, _, _, fM, -, -, -, stM, fiM, -⟩ := Cond.lays_spec (g (i := 68) rfl rfl)
  -- two fields apart in the receiver
  have apart : fB.slot ≠ fC.slot := by
    obtain ⟨_, _, hcX, hkX, -⟩ := Cond.instantiable_spec (g (i := 13) rfl rfl)
    obtain ⟨-, _, u1, u2⟩ := Cond.laysAt hcX hkX ffB (g (i := 41) rfl rfl)
    obtain ⟨-, _, v1, v2⟩ := Cond.laysAt hcX hkX ffC (g (i := 44) rfl rfl)
    exact Cond.laysApart u1 v1 u2 v2 (by rw [nmB, nmC]; decide)
  -- its two methods, and Object's constructor
  obtain ⟨jF, mF, nF, vF, kF, sF, bF, -, -⟩ := Cond.ownMethod (x := tFill) hcT hkT (g (i := 47) rfl rfl)
  obtain ⟨mF2, oF, vF2, oF1, oF2, oF3, oF4, oF5, -, pF⟩ := Cond.codeSync_spec nF (g (i := 53) rfl rfl)
  cases vF.symm.trans vF2
  obtain ⟨jG, mG, nG, vG, kG, sG, bG, dG1, dG2⟩ := Cond.ownMethod (x := tFill0) hcT hkT (g (i := 54) rfl rfl)
  obtain ⟨wG, mG2, nG2, vG2, tG1, tG2, tG3, pG⟩ := Cond.native_spec (x := tFill0) (g (i := 55) rfl rfl)
  cases nG.symm.trans nG2
  cases vG.symm.trans vG2
  obtain ⟨wO, mO, nO, vO, sO, bO⟩ := Cond.instanceMethod_spec (x := oInit) (g (i := 35) rfl rfl)
  obtain ⟨mO2, oO, vO2, oO1, oO2, -, -, oO3, -, pO⟩ := Cond.code_spec nO (g (i := 36) rfl rfl)
  cases vO.symm.trans vO2
  obtain ⟨kO, hkO, hnameO⟩ := Vm.findClass_spec (findClass_of_methodNamed nO)
  obtain ⟨dO1, dO2⟩ := name_of_methodNamed nO vO
  obtain ⟨x1, y1, cf, ml1, mr1, hcf, mp1⟩ := Cond.linkedMethod hcT hkT nO (g (i := 34) rfl rfl) pl hpl
  obtain ⟨x2, y2, cf2, ml2, mr2, hcf2, mp2⟩ := Cond.linkedMethod hcT hkT nF (g (i := 45) rfl rfl) pl hpl
  obtain ⟨x3, y3, cf3, ml3, mr3, hcf3, mp3⟩ := Cond.linkedMethod hcT hkT nG (g (i := 58) rfl rfl) pl hpl
  cases hcf.symm.trans hcf2
  cases hcf.symm.trans hcf3
  refine ⟨{ cT := cT, kT := kT, cO := cT, aS := aS, fillIdx := jF, fill0Idx := jG, initSIdx := jF, obj := wO, kObj := kO, methFill := mF, methFill0 := mG, methInitS := mF, methObj := mO, codeFill := oF, codeInitS := oF, codeObj := oO, fBack := fA, fDepth := fA, fStack := fB, fCause := fA, fSupp := fC, fMsg := fM, fUnassigned := fD, fSentinel := fE, cfT := cf, ci1 := x1, n1 := y1, ci27 := x2, n27 := y2, ci202 := x3, n202 := y3, ci7 := nA, i7 := iA, ci13 := nD, i13 := iD, ci17 := nB, i17 := iB, ci20 := nE, i20 := iE, ci24 := nC, i24 := iC }, ?_, hcT, nF, nG, ffB, tyB, ffD⟩
  constructor
  all_goals first | assumption | exact own_par pF (by decide +kernel) | exact own_par pG (by decide +kernel) | skip
  · exact Vm.findClass_boot hcT hkT
  · exact Cond.initialized_spec hcT hkT (g (i := 32) rfl rfl)
  · show lookupSpecial s.vm wO.cls "<init>" mO.desc = .method wO
    rw [dO2]; exact lookupSpecial_of_named nO vO sO
  · show mO.sig.parameters.length = 0
    rw [own_par (ps := []) pO (by decide +kernel)]; rfl
theorem own_fillB {p : Program} {l : Launch} {e : Env} {R : Room} {s : State} {args : Array Value} {below : List Frame} {Z : State} {a0 : Array Value} {h : Heap} {n0 W : Nat} (hexec : p.tables.exec = Jvm.exec) (hlt : l.stackTraces = true) (hZ : Z.Warmed39 s.vm) (hw : ∀ d ∈ tables_1, d.before a0 Z = true) (hT0 : ThS Z s.heap) (hTK : s.vm.MethodsKnown) (hFK : s.vm.FramesKnown below)
    (a ua : Addr) (O : Old Z n0 h) (SU : Sta Z Z.heap "java/lang/Throwable" "UNASSIGNED_STACK" "[Ljava/lang/StackTraceElement;" (.ref ua)) (E : Exa Z h a "com/example/makewhole/makewhole/member/MemberRecordException") (U : Unt h a) (FS : Fld Z h a "java/lang/Throwable" "stackTrace" "[Ljava/lang/StackTraceElement;" (.ref ua)) (FB : Fld Z h a "java/lang/Throwable" "backtrace" "Ljava/lang/Object;" .null) (K0 : Keep s.heap h [a]) (ga : n0 ≤ a) (hf : 3 ≤ R.frames) (hl : W + 42 ≤ R.locals) :
    Back l R p e below s args tFill 3 W (fun A b => b = #[.ref a] ∧ A.U.heap = h ∧ (A.cells = 0 ∧ ∀ w ∈ A.locs, w.base = a) ∧ A.cells + 1 ≤ R.cells ∧ A.slots + 2752 ≤ R.slots)
      (fun A _ v B => ∃ L, (v = some (.ref a) ∧ Fr n0 L ∧ Keep h B.U.heap [a] ∧ ∀ (O n d : String) (ty : FieldType) (w : Value), Laid Z a0 "com/example/makewhole/makewhole/member/MemberRecordException" O n d → parseFieldDescriptor d = some ty → n ≠ "backtrace" → n ≠ "depth" → n ≠ "stackTrace" → Fld Z h a O n d w → Fld Z B.U.heap a O n d w) ∧ B.locs = A.locs ++ L ∧ B.cells = A.cells + 1 ∧ B.slots = A.slots + 2752) := by
  intro m meth c A g ig mk b X hg hs hd hW hn hp
  obtain ⟨rfl, hA, ⟨hA0, hAL⟩, hc, hsl⟩ := hp
  have htr : e.platform.stackTraces = true := by rw [X.admits.platform]; exact hlt
  have hpl : e.platform.magicAccessors = ({} : Platform).magicAccessors := by rw [X.admits.platform]
  have wS : ∀ {i : Nat} {d : Jvm.Cond}, tables_1[i]? = some d → xOk d = true → d.before args s = true := fun {i d} h1 h2 => mvX hT0 hZ h2 (hw d (List.mem_of_getElem? h1))
  obtain ⟨T, L, hcT, hF, hF0, hff17, ht17, hff13⟩ := own_thr (by rw [X.admits.platform]) (by rw [X.admits.platform]) hpl wS
  obtain ⟨cell, u1, uvm, umon⟩ := U
  obtain ⟨cell', kZ, e1, e2, e3, e4, e5⟩ := E
  cases u1.symm.trans e1
  have hfound : s.vm.findClass "com/example/makewhole/makewhole/member/MemberRecordException" = some cell.cls := by rw [hZ.alike.findClass]; exact e2
  obtain ⟨kX, hkX, ekX⟩ := hZ.alike.2.2 _ _ e3
  obtain ⟨cX, kX', hcX, hkX', hord, -⟩ := Cond.instantiable_spec (wS (i := 13) rfl rfl)
  cases hcX.symm.trans hfound
  cases hkX'.symm.trans hkX
  have hsz : cell.slots.size = kX.instanceTypes.size := by
    have q1 : kX.kind = kZ.kind := by rw [ekX]
    have q2 : kX.instanceTypes = kZ.instanceTypes := by rw [ekX]
    rw [q2]; exact e5 (by rw [← q1]; exact hord)
  have tk : ∀ {f : Field} {v : Value}, kX.instanceTypes[f.slot]? = some f.type → fits f.type v = true → Jvm.Takes s cell f v := fun {f v} h1 h2 => by
    obtain ⟨q1, q2⟩ := Takes.of_laid (v := v) hkX hord h1 h2
    exact ⟨by rw [hsz]; simpa using q1, by rw [uvm]; exact q2⟩
  obtain ⟨ci198, i198, fB, hk198, hg198, ha198, hsB, -, hnB, htB, hffB⟩ := Cond.ownField (t := .object "java/lang/Object") hcT L.cls (by decide +kernel) (wS (i := 63) rfl rfl) (wS (i := 69) rfl rfl) e.platform hpl
  obtain ⟨cD1, kD1, cD, kD, iD, fD, -, -, hffD, hstD, -, -, -, -⟩ := Cond.lays_spec (wS (i := 70) rfl rfl)
  cases Option.some.inj ((Cond.lays_declared (wS (i := 70) rfl rfl) hffD).symm.trans hcT)
  obtain ⟨hkD, hatD⟩ := State.fieldFound?_spec hffD
  cases Option.some.inj (hkD.symm.trans L.cls)
  obtain ⟨hnD, htD⟩ := State.fieldFound?_type hffD (t := .int) (by decide +kernel)
  have hfb := Cond.soleField_find hcT L.cls (wS (i := 50) rfl rfl) ha198 hnB hsB
  have hfd := Cond.soleField_find hcT L.cls (wS (i := 51) rfl rfl) hatD hnD hstD
  obtain ⟨comp, cO, kO, -, -, hkO, hkindO, hO⟩ := Cond.arrayOver_spec (wS (i := 49) rfl rfl)
  obtain ⟨tyS, dS, hdS, hdnS⟩ := Cond.laysAt hfound hkX hff17 (wS (i := 41) rfl rfl)
  obtain ⟨tyB, dB, hdB, hdnB⟩ := Cond.laysAt hfound hkX hffB (wS (i := 69) rfl rfl)
  obtain ⟨tyD, dD, hdD, hdnD⟩ := Cond.laysAt hfound hkX hffD (wS (i := 70) rfl rfl)
  have hsel0 : selectMethod e.platform s.vm cell.cls T.fill0 = .method T.fill0 := by
    obtain ⟨c2, r2, m2, q1, q2, q3, q4, -⟩ := Cond.selects_spec (wS (i := 67) rfl rfl)
    cases Option.some.inj (q1.symm.trans hfound)
    cases Option.some.inj (q2.symm.trans (State.methodFound?_of_named hF0 (by decide)))
    cases Option.some.inj (q3.symm.trans hF0)
    rw [Launch.admits_selectMethod X.admits]; exact q4
  have vS : cell.slots[T.fStack.slot]? = some (.ref ua) := by
    obtain ⟨c2, cf, k2, i2, f2, g1, g2, -, -, -, -, g7⟩ := FS
    cases u1.symm.trans g1
    obtain ⟨k3, q3, -⟩ := State.fieldFound?_setVm (s := Z) hZ.alike g2
    have q4 := (show s.fieldFound? _ _ _ = _ from q3).symm.trans hff17
    simp only [Option.some.injEq, Prod.mk.injEq] at q4
    rw [← q4.2.2.2]; exact g7
  have vB : cell.slots[fB.slot]? = some .null := by
    obtain ⟨c2, cf, k2, i2, f2, g1, g2, -, -, -, -, g7⟩ := FB
    cases u1.symm.trans g1
    obtain ⟨k3, q3, -⟩ := State.fieldFound?_setVm (s := Z) hZ.alike g2
    have q4 := (show s.fieldFound? _ _ _ = _ from q3).symm.trans hffB
    simp only [Option.some.injEq, Prod.mk.injEq] at q4
    rw [← q4.2.2.2]; exact g7
  obtain ⟨cf, i2, k2, f2, st, cellS, g1, g2, g3, g4, g5, g6, g7⟩ := SU
  obtain ⟨k3, q3, ek3⟩ := State.fieldFound?_setVm (s := Z) hZ.alike g1
  have q4 := (show s.fieldFound? _ _ _ = _ from q3).symm.trans hff13
  simp only [Option.some.injEq, Prod.mk.injEq] at q4
  have est : T.aS = st := by
    have r1 : T.kT.statics = some st := by rw [← q4.2.1, ek3]; exact g4
    exact Option.some.inj (L.statics.symm.trans r1)
  have hst : A.U.heap[T.aS]? = some cellS := by rw [est, hA]; exact O.2.2 _ _ g5
  have hneS : T.aS ≠ a := by
    have r1 := (Array.getElem?_eq_some_iff.mp g5).1
    have r2 := O.1
    rw [est]; intro r3; subst r3; omega
  obtain ⟨v, B, X', ⟨hv, C, n, hn1, hC, c1, c2, c3, c4, hL, hBc, hBs⟩, stp⟩ := fillPaysAny (l := l) (R := R) (sargs := args) (len := 3) (W := W) hexec htr T L hF (u0 := ⟨.ref ua, rfl⟩) (self := a) (cell := cell) (cellS := cellS) (fun k q => by rw [uvm] at q; cases q) (by rw [uvm]; simp) (by rw [umon]) (by rw [umon]) vS hsel0 hneS (fun q => by rw [q] at g6; cases g6) (by rw [← q4.2.2.2]; exact g7)
    (tk tyS (by rw [ht17]; rfl)) ⟨⟨ci198, i198, fB⟩, ⟨hk198, hg198, ha198, hsB⟩, vB⟩ hTK hFK hcT hO hkO hkindO hfb hfd (fun q => tk tyB (by rw [htB]; rfl)) (fun q => tk tyD (by rw [htD]; rfl)) (by omega) (by omega) m meth c A g ig mk _ X hg hs hd hW hn ⟨rfl, hc, hsl, by rw [hA]; exact u1, hst⟩
  have e1h : s.heap.size = h.size := by
    have r1 := X.same.2.2.1
    have r2 : (A.U.setVm s.vm).heap.size ≤ s.heap.size + A.cells := r1
    have r3 : A.U.heap.size ≤ s.heap.size := by rw [hA0] at r2; exact r2
    rw [hA] at r3
    exact Nat.le_antisymm K0.1 r3
  have hkeep : ∀ (y : Addr) (cy : Cell), y ≠ a → s.heap[y]? = some cy → B.U.heap[y]? = some cy := fun y cy hy hcy => by
    refine kept_of_same (U := s) (V := B.U.setVm s.vm) (keep := fun y => y ≠ a) X'.same (fun q hq => ?_) y cy hy hcy
    rw [hL] at hq
    rcases List.mem_append.mp hq with r | r
    · simp [hAL q r]
    · simp only [List.mem_cons, List.not_mem_nil, or_false] at r
      rcases r with rfl | rfl | rfl <;> simp
  have hback : ∀ (y : Addr) (cy : Cell), y ≠ a → h[y]? = some cy → s.heap[y]? = some cy := fun y cy hy hcy => by
    have r1 : y < s.heap.size := by rw [e1h]; exact (Array.getElem?_eq_some_iff.mp hcy).1
    have r2 := K0.2.1 y _ (Array.getElem?_eq_getElem r1) (by simp [hy])
    cases r2.symm.trans hcy
    exact Array.getElem?_eq_getElem r1
  refine ⟨v, ⟨B.U, B.locs, A.cells + 1, A.slots + 2752⟩, X'.more (by rw [hBc]; exact Nat.le_refl _) (by rw [hBs]; exact Nat.add_le_add_left hn1 _), ⟨_, ⟨hv, fun q hq => ?_, ⟨?_, fun y cy h1 h2 => hkeep y cy (fun r => h2 (by rw [r]; simp)) (hback y cy (fun r => h2 (by rw [r]; simp)) h1), fun y cy h1 => ?_⟩, fun O n d ty w Lf ht n1 n2 n3 F => ?_⟩, hL, rfl, rfl⟩, stp⟩
  · simp only [List.mem_cons, List.not_mem_nil, or_false] at hq
    rcases hq with rfl | rfl | rfl <;> exact ga
  · rw [← e1h]; exact X'.same.2.1
  · by_cases r : y = a
    · subst r; cases u1.symm.trans h1; exact ⟨C, hC, c1, c2, c3⟩
    · exact ⟨cy, hkeep y cy r (hback y cy r h1), rfl, rfl, rfl⟩
  · obtain ⟨c5, cf5, k5, i5, f5, r1, r2, r3, r4, r5, r6, r7⟩ := F
    cases u1.symm.trans r1
    have sn : ∀ {n' d' : String} {t' : FieldType}, Laid Z a0 "com/example/makewhole/makewhole/member/MemberRecordException" tN n' d' → parseFieldDescriptor d' = some t' → n ≠ n' → Jvm.RoadKit.slotOf Z O n d ≠ Jvm.RoadKit.slotOf Z tN n' d' := fun {n' d' t'} Lf' ht' hnn => Jvm.RoadKit.slot_ne Lf Lf' hnn ht ht'
    have so : Jvm.RoadKit.slotOf Z O n d = f5.slot := by simp [Jvm.RoadKit.slotOf, r2]
    have sb : Jvm.RoadKit.slotOf Z tN "backtrace" obD = fB.slot := by
      obtain ⟨c6, k6, i6, q6⟩ := Jvm.Free.BdW.found_ride (U := s) (U' := Z) hZ.alike.symm ⟨_, _, _, hffB⟩
      simp [Jvm.RoadKit.slotOf, q6]
    have sd : Jvm.RoadKit.slotOf Z tN "depth" "I" = fD.slot := by
      obtain ⟨c6, k6, i6, q6⟩ := Jvm.Free.BdW.found_ride (U := s) (U' := Z) hZ.alike.symm ⟨_, _, _, hffD⟩
      have q7 : Z.fieldFound? tN "depth" "I" = some (c6, k6, i6, fD) := q6
      simp [Jvm.RoadKit.slotOf, q7]
    have ss : Jvm.RoadKit.slotOf Z tN "stackTrace" steD = T.fStack.slot := by
      obtain ⟨c6, k6, i6, q6⟩ := Jvm.Free.BdW.found_ride (U := s) (U' := Z) hZ.alike.symm ⟨_, _, _, hff17⟩
      simp [Jvm.RoadKit.slotOf, q6]
    refine ⟨C, cf5, k5, i5, f5, hC, r2, r3, by rw [c2]; exact r4, by rw [c2]; exact r5, by rw [c1]; exact r6, ?_⟩
    rw [c4 f5.slot (by rw [← so, ← sb]; exact sn (Or.inl (hw _ (List.mem_of_getElem? (i := 69) rfl))) (t' := .object "java/lang/Object") (by decide) n1) (by rw [← so, ← sd]; exact sn (Or.inl (hw _ (List.mem_of_getElem? (i := 70) rfl))) (t' := .int) (by decide) n2) (by rw [← so, ← ss]; exact sn (Or.inl (hw _ (List.mem_of_getElem? (i := 41) rfl))) (t' := .array (.object "java/lang/StackTraceElement")) (by decide) n3)]
    exact r7
end OwnX

theorem own_pn9 : plainName "java/lang/Throwable" = true := by first | (simp [plainName, overriddenIn]; done) | decide +kernel
theorem own_ef5 (m : MethodId) (x0 : Addr) (x1 : Addr) : entryFrame m #[(.ref x0), (.ref x1)] 2 = mkF m 0 #[own_vr x0, own_vr x1] [] := by first | (simp [entryFrame, mkF, argsToLocals, Value.category]; done) | rfl
abbrev own_c5 : ByteArray := jdk_78_method_2_code
theorem own_d5_0 : decode own_c5 0 = .ok (.aload_n 0, 1) := by decide +kernel
theorem own_d5_1 : decode own_c5 1 = .ok (.invokespecial 1, 3) := by decide +kernel
theorem own_d5_4 : decode own_c5 4 = .ok (.aload_n 0, 1) := by decide +kernel
theorem own_d5_5 : decode own_c5 5 = .ok (.aload_n 0, 1) := by decide +kernel
theorem own_d5_6 : decode own_c5 6 = .ok (.putfield 7, 3) := by decide +kernel
theorem own_d5_9 : decode own_c5 9 = .ok (.aload_n 0, 1) := by decide +kernel
theorem own_d5_10 : decode own_c5 10 = .ok (.getstatic 13, 3) := by decide +kernel
theorem own_d5_13 : decode own_c5 13 = .ok (.putfield 17, 3) := by decide +kernel
theorem own_d5_16 : decode own_c5 16 = .ok (.aload_n 0, 1) := by decide +kernel
theorem own_d5_17 : decode own_c5 17 = .ok (.getstatic 20, 3) := by decide +kernel
theorem own_d5_20 : decode own_c5 20 = .ok (.putfield 24, 3) := by decide +kernel
theorem own_d5_23 : decode own_c5 23 = .ok (.aload_n 0, 1) := by decide +kernel
abbrev own_y31 : MethodName := ⟨"java/lang/Throwable", "fillInStackTrace", "()Ljava/lang/Throwable;"⟩
theorem own_pd33 : parseMethodDescriptor "()Ljava/lang/Throwable;" = some ⟨[], some (.object "java/lang/Throwable")⟩ := by decide +kernel
theorem own_d5_24 : decode own_c5 24 = .ok (.invokevirtual 27, 3) := by decide +kernel
theorem own_d5_27 : decode own_c5 27 = .ok (.pop, 1) := by decide +kernel
theorem own_d5_28 : decode own_c5 28 = .ok (.aload_n 0, 1) := by decide +kernel
theorem own_d5_29 : decode own_c5 29 = .ok (.aload_n 1, 1) := by decide +kernel
theorem own_d5_30 : decode own_c5 30 = .ok (.putfield 31, 3) := by decide +kernel
theorem own_d5_33 : decode own_c5 33 = .ok (.return_, 1) := by decide +kernel
abbrev own_y32 : MethodName := ⟨"java/lang/Throwable", "<init>", "(Ljava/lang/String;)V"⟩
def own_Q_own_thi (Z : State) (a : Addr) (mm : Addr) (ua : Addr) (se : Addr) (h0 : Heap) (n0 : Nat) (v : Option Value) (h : Heap) (L : List Loc) : Prop := v = none ∧ Fr n0 L ∧ Keep h0 h [a] ∧ Exa Z h a "com/example/makewhole/makewhole/member/MemberRecordException" ∧ Fld Z h a "java/lang/Throwable" "detailMessage" "Ljava/lang/String;" (.ref mm) ∧ Fld Z h a "com/example/makewhole/makewhole/member/MemberRecordException" "id" "Ljava/lang/String;" .null ∧ Fld Z h a "com/example/makewhole/makewhole/member/MemberRecordException" "place" "Ljava/lang/String;" .null
theorem own_thi (l : Launch) (Z : State) (a0 : Array Value) (hw : ∀ d ∈ tables_1, d.before a0 Z = true) (ws : List Jvm.Cond) (a : Addr) (mm : Addr) (ua : Addr) (se : Addr) (h0 : Heap) (n0 : Nat) (O0 : Old Z n0 h0) (hlt : l.stackTraces = true) (SU : Sta Z Z.heap "java/lang/Throwable" "UNASSIGNED_STACK" "[Ljava/lang/StackTraceElement;" (.ref ua)) (SQ : Sta Z Z.heap "java/lang/Throwable" "SUPPRESSED_SENTINEL" "Ljava/util/List;" (.ref se)) (EA : Exa Z h0 a "com/example/makewhole/makewhole/member/MemberRecordException") (UA : Unt h0 a) (J0 : Fld Z h0 a "java/lang/Throwable" "cause" "Ljava/lang/Throwable;" .null) (J1 : Fld Z h0 a "java/lang/Throwable" "stackTrace" "[Ljava/lang/StackTraceElement;" .null) (J2 : Fld Z h0 a "java/lang/Throwable" "suppressedExceptions" "Ljava/util/List;" .null) (J3 : Fld Z h0 a "java/lang/Throwable" "detailMessage" "Ljava/lang/String;" .null) (J4 : Fld Z h0 a "java/lang/Throwable" "backtrace" "Ljava/lang/Object;" .null) (XI : Fld Z h0 a "com/example/makewhole/makewhole/member/MemberRecordException" "id" "Ljava/lang/String;" .null) (XP : Fld Z h0 a "com/example/makewhole/makewhole/member/MemberRecordException" "place" "Ljava/lang/String;" .null) (ga : n0 ≤ a) :
    own_MtK l own_y32 own_c5 2 none ws (own_r 3 1 2752 42) #[(.ref a), (.ref mm)] Z h0 (own_Q_own_thi Z a mm ua se h0 n0) := by
 refine MetFree.of_bodySF (plainFor_of_name own_pn9) hisR ?_
 intro p_ e s m args below meth c_ s₁ Bd hml0 hP hK
 obtain ⟨rfl, hZ, hh⟩ := hP
 obtain ⟨hTK, hFK⟩ := hK
 have hx := Bd.exec
 have hby := Bd.bytes
 have hml : c_.maxLocals = 2 := hml0
 have hown : s.vm.findClass "java/lang/Throwable" = some m.cls := findClass_of_methodNamed Bd.named
 have hnm := (name_of_methodNamed Bd.named Bd.method).1
 have X0 : Stand p_ l e (own_r 3 1 2752 42) s m #[(.ref a), (.ref mm)] below meth c_ s₁ [] 0 0 := Stand.of_body Bd
 have e0 : s₁.heap = h0 := by rw [← hh, Bd.state]; rfl
 have N0 := Fr.nil n0
 refine own_close (s := s) (Q := (own_Q_own_thi Z a mm ua se h0 n0)) (own_st (fun _ => castTop (own_ef5 m a mm)) ?_)
 have K0 := Keep.refl h0 [a]
 show own_Rch _ _ _ _ s₁ (mkF m 0 #[own_vr a, own_vr mm] [])
 refine own_aloadN X0 hx hby own_d5_0 rfl rfl rfl ?_
 obtain ⟨T1, X1, e1, st1⟩ := initO X0 hx hZ hown (hw _ (own_m 34 rfl)) (hw _ (own_m 35 rfl)) (hw _ (own_m 36 rfl)) e0 (g := (mkF m 1 #[own_vr a, own_vr mm] [(.ref a)])) rfl (by rw [hml]; rfl) rfl (hb hby own_d5_1) (by decide) (W := 0) (by show 2 * 0 + _ ≤ _; exact Nat.le_of_eq rfl) (by decide)
 refine own_st st1 ?_
 refine own_aloadN X1 hx hby own_d5_4 rfl rfl rfl ?_
 refine own_aloadN X1 hx hby own_d5_5 rfl rfl rfl ?_
 obtain ⟨T2, h2, X2, e2, W2, st2⟩ := putF X1 hx hZ hown (host := "") (Or.inl (hw _ (own_m 37 rfl))) Via.refl e1 J0 EA (Or.inl (hw _ (own_m 38 rfl))) (hw _ (own_m 13 rfl)) (ty := (.object "java/lang/Throwable")) (by decide) rfl rfl (g := (mkF m 6 #[own_vr a, own_vr mm] [(.ref a), (.ref a)])) rfl rfl (hb hby own_d5_6)
 refine own_st st2 ?_
 have Fw2 := J0.same W2
 have N2 := Fr.snoc X2 N0 ga
 have O0_x2 := O0.wr W2 ga
 have EA_x2 := EA.wr W2
 have UA_x2 := Unt.wr W2 UA
 have J1_x2 := J1.other W2 (Or.inr (slot_ne (Or.inl (hw _ (own_m 41 rfl))) (Or.inl (hw _ (own_m 38 rfl))) (by decide) (t := (.array (.object "java/lang/StackTraceElement"))) (t' := (.object "java/lang/Throwable")) (by decide) (by decide)))
 have J2_x2 := J2.other W2 (Or.inr (slot_ne (Or.inl (hw _ (own_m 44 rfl))) (Or.inl (hw _ (own_m 38 rfl))) (by decide) (t := (.object "java/util/List")) (t' := (.object "java/lang/Throwable")) (by decide) (by decide)))
 have J3_x2 := J3.other W2 (Or.inr (slot_ne (Or.inl (hw _ (own_m 68 rfl))) (Or.inl (hw _ (own_m 38 rfl))) (by decide) (t := (.object "java/lang/String")) (t' := (.object "java/lang/Throwable")) (by decide) (by decide)))
 have J4_x2 := J4.other W2 (Or.inr (slot_ne (Or.inl (hw _ (own_m 69 rfl))) (Or.inl (hw _ (own_m 38 rfl))) (by decide) (t := (.object "java/lang/Object")) (t' := (.object "java/lang/Throwable")) (by decide) (by decide)))
 have XI_x2 := XI.other W2 (Or.inr (slot_ne (Or.inr (hw _ (own_m 74 rfl))) (Or.inl (hw _ (own_m 38 rfl))) (by decide) (t := (.object "java/lang/String")) (t' := (.object "java/lang/Throwable")) (by decide) (by decide)))
 have XP_x2 := XP.other W2 (Or.inr (slot_ne (Or.inr (hw _ (own_m 76 rfl))) (Or.inl (hw _ (own_m 38 rfl))) (by decide) (t := (.object "java/lang/String")) (t' := (.object "java/lang/Throwable")) (by decide) (by decide)))
 have K0_x2 := K0.wr W2 (Or.inl (List.mem_of_getElem? (i := 0) rfl))
 refine own_aloadN X2 hx hby own_d5_9 rfl rfl rfl ?_
 obtain ⟨T3, X3, e3, st3⟩ := getS2 X2 hx hZ hown (host := "") (Or.inl (hw _ (own_m 39 rfl))) Via.refl e2 (SU.ext O0_x2.2) (g := (mkF m 10 #[own_vr a, own_vr mm] [(.ref a)])) rfl (hb hby own_d5_10)
 refine own_st st3 ?_
 obtain ⟨T4, h4, X4, e4, W4, st4⟩ := putF X3 hx hZ hown (host := "") (Or.inl (hw _ (own_m 40 rfl))) Via.refl e3 J1_x2 EA_x2 (Or.inl (hw _ (own_m 41 rfl))) (hw _ (own_m 13 rfl)) (ty := (.array (.object "java/lang/StackTraceElement"))) (by decide) rfl rfl (g := (mkF m 13 #[own_vr a, own_vr mm] [(.ref ua), (.ref a)])) rfl rfl (hb hby own_d5_13)
 refine own_st st4 ?_
 have Fw4 := J1_x2.same W4
 have N4 := Fr.snoc X4 N2 ga
 have O0_x4 := O0_x2.wr W4 ga
 have EA_x4 := EA_x2.wr W4
 have UA_x4 := Unt.wr W4 UA_x2
 have Fw2_x4 := Fw2.other W4 (Or.inr (slot_ne (Or.inl (hw _ (own_m 38 rfl))) (Or.inl (hw _ (own_m 41 rfl))) (by decide) (t := (.object "java/lang/Throwable")) (t' := (.array (.object "java/lang/StackTraceElement"))) (by decide) (by decide)))
 have J2_x4 := J2_x2.other W4 (Or.inr (slot_ne (Or.inl (hw _ (own_m 44 rfl))) (Or.inl (hw _ (own_m 41 rfl))) (by decide) (t := (.object "java/util/List")) (t' := (.array (.object "java/lang/StackTraceElement"))) (by decide) (by decide)))
 have J3_x4 := J3_x2.other W4 (Or.inr (slot_ne (Or.inl (hw _ (own_m 68 rfl))) (Or.inl (hw _ (own_m 41 rfl))) (by decide) (t := (.object "java/lang/String")) (t' := (.array (.object "java/lang/StackTraceElement"))) (by decide) (by decide)))
 have J4_x4 := J4_x2.other W4 (Or.inr (slot_ne (Or.inl (hw _ (own_m 69 rfl))) (Or.inl (hw _ (own_m 41 rfl))) (by decide) (t := (.object "java/lang/Object")) (t' := (.array (.object "java/lang/StackTraceElement"))) (by decide) (by decide)))
 have XI_x4 := XI_x2.other W4 (Or.inr (slot_ne (Or.inr (hw _ (own_m 74 rfl))) (Or.inl (hw _ (own_m 41 rfl))) (by decide) (t := (.object "java/lang/String")) (t' := (.array (.object "java/lang/StackTraceElement"))) (by decide) (by decide)))
 have XP_x4 := XP_x2.other W4 (Or.inr (slot_ne (Or.inr (hw _ (own_m 76 rfl))) (Or.inl (hw _ (own_m 41 rfl))) (by decide) (t := (.object "java/lang/String")) (t' := (.array (.object "java/lang/StackTraceElement"))) (by decide) (by decide)))
 have K0_x4 := K0_x2.wr W4 (Or.inl (List.mem_of_getElem? (i := 0) rfl))
 refine own_aloadN X4 hx hby own_d5_16 rfl rfl rfl ?_
 obtain ⟨T5, X5, e5, st5⟩ := getS2 X4 hx hZ hown (host := "") (Or.inl (hw _ (own_m 42 rfl))) Via.refl e4 (SQ.ext O0_x4.2) (g := (mkF m 17 #[own_vr a, own_vr mm] [(.ref a)])) rfl (hb hby own_d5_17)
 refine own_st st5 ?_
 obtain ⟨T6, h6, X6, e6, W6, st6⟩ := putF X5 hx hZ hown (host := "") (Or.inl (hw _ (own_m 43 rfl))) Via.refl e5 J2_x4 EA_x4 (Or.inl (hw _ (own_m 44 rfl))) (hw _ (own_m 13 rfl)) (ty := (.object "java/util/List")) (by decide) rfl rfl (g := (mkF m 20 #[own_vr a, own_vr mm] [(.ref se), (.ref a)])) rfl rfl (hb hby own_d5_20)
 refine own_st st6 ?_
 have Fw6 := J2_x4.same W6
 have N6 := Fr.snoc X6 N4 ga
 have O0_x6 := O0_x4.wr W6 ga
 have EA_x6 := EA_x4.wr W6
 have UA_x6 := Unt.wr W6 UA_x4
 have Fw2_x6 := Fw2_x4.other W6 (Or.inr (slot_ne (Or.inl (hw _ (own_m 38 rfl))) (Or.inl (hw _ (own_m 44 rfl))) (by decide) (t := (.object "java/lang/Throwable")) (t' := (.object "java/util/List")) (by decide) (by decide)))
 have Fw4_x6 := Fw4.other W6 (Or.inr (slot_ne (Or.inl (hw _ (own_m 41 rfl))) (Or.inl (hw _ (own_m 44 rfl))) (by decide) (t := (.array (.object "java/lang/StackTraceElement"))) (t' := (.object "java/util/List")) (by decide) (by decide)))
 have J3_x6 := J3_x4.other W6 (Or.inr (slot_ne (Or.inl (hw _ (own_m 68 rfl))) (Or.inl (hw _ (own_m 44 rfl))) (by decide) (t := (.object "java/lang/String")) (t' := (.object "java/util/List")) (by decide) (by decide)))
 have J4_x6 := J4_x4.other W6 (Or.inr (slot_ne (Or.inl (hw _ (own_m 69 rfl))) (Or.inl (hw _ (own_m 44 rfl))) (by decide) (t := (.object "java/lang/Object")) (t' := (.object "java/util/List")) (by decide) (by decide)))
 have XI_x6 := XI_x4.other W6 (Or.inr (slot_ne (Or.inr (hw _ (own_m 74 rfl))) (Or.inl (hw _ (own_m 44 rfl))) (by decide) (t := (.object "java/lang/String")) (t' := (.object "java/util/List")) (by decide) (by decide)))
 have XP_x6 := XP_x4.other W6 (Or.inr (slot_ne (Or.inr (hw _ (own_m 76 rfl))) (Or.inl (hw _ (own_m 44 rfl))) (by decide) (t := (.object "java/lang/String")) (t' := (.object "java/util/List")) (by decide) (by decide)))
 have K0_x6 := K0_x4.wr W6 (Or.inl (List.mem_of_getElem? (i := 0) rfl))
 refine own_aloadN X6 hx hby own_d5_23 rfl rfl rfl ?_
 show own_Rch _ _ _ _ T6 (mkF m 24 #[own_vr a, own_vr mm] [(.ref a)])
 obtain ⟨cq7, kq7, q7a, q7b, q7c⟩ := isOf hZ e6 EA_x6
 obtain ⟨_, _, ⟨T7, L7, k7, n7⟩, -, X7, ⟨Lc7, hQ7, l7, y7, z7⟩, st7⟩ := X6.virtualBack hx (y := own_y31) (z := own_y31) hown (mvT hZ (hw _ (own_m 45 rfl))) (mvT hZ (hw _ (own_m 46 rfl))) (notFace_of_selects (args := #[]) (mvT hZ (hw _ (own_m 48 rfl)))) (mvT hZ (hw _ (own_m 48 rfl))) (mvT hZ (hw _ (own_m 47 rfl))) (by decide) (own_fillB (W := 0) hx hlt hZ hw (by rw [hh]; exact ThS.ext O0.2 ThS.start) hTK hFK a ua O0_x6 SU EA_x6 UA_x6 Fw4_x6 J4_x6 (by rw [hh]; exact K0_x6) ga (by decide) (by decide)) q7a q7c (g := (mkF m 24 #[own_vr a, own_vr mm] [(.ref a)])) rfl (by rw [hml]; rfl) (Steps.refl _) (argsL := []) (rest := []) (lenOf own_pd33 rfl) rfl (by show 2 * 0 + _ ≤ _; exact Nat.le_of_eq rfl) (hb hby own_d5_24) (fun _ _ => ⟨rfl, e6, ⟨rfl, by simp [Pt.locs]⟩, (by decide : 0 + 1 ≤ _), (by decide : 0 + 2752 ≤ _)⟩)
 dsimp only [Pt.U, Pt.locs, Pt.cells, Pt.slots] at X7 l7 y7 z7 st7 hQ7
 subst l7 y7 z7
 obtain ⟨rfl, N7q, K7, Q7⟩ := hQ7
 have N7 := Fr.app N6 N7q
 have Fq7_detailMessage := Q7 _ _ _ (.object "java/lang/String") _ (Or.inl (hw _ (own_m 68 rfl))) (by decide) (by decide) (by decide) (by decide) J3_x6
 have Fq7_id := Q7 _ _ _ (.object "java/lang/String") _ (Or.inr (hw _ (own_m 74 rfl))) (by decide) (by decide) (by decide) (by decide) XI_x6
 have Fq7_place := Q7 _ _ _ (.object "java/lang/String") _ (Or.inr (hw _ (own_m 76 rfl))) (by decide) (by decide) (by decide) (by decide) XP_x6
 refine own_st (fun _ kt => st7.trans kt) ?_
 have O0_x7 := O0_x6.keep K7 (allS ga all0)
 have EA_x7 := EA_x6.keep K7
 have K0_x7 := K0_x6.trans K7 (allS (Or.inl (List.mem_of_getElem? (i := 0) rfl)) all0)
 refine own_st (fun _ => XS.pop X7.here hx rfl (hb hby own_d5_27) rfl rfl) ?_
 refine own_aloadN X7 hx hby own_d5_28 rfl rfl rfl ?_
 refine own_aloadN X7 hx hby own_d5_29 rfl rfl rfl ?_
 obtain ⟨T8, h8, X8, e8, W8, st8⟩ := putF X7 hx hZ hown (host := "") (Or.inl (hw _ (own_m 72 rfl))) Via.refl rfl Fq7_detailMessage EA_x7 (Or.inl (hw _ (own_m 68 rfl))) (hw _ (own_m 13 rfl)) (ty := (.object "java/lang/String")) (by decide) rfl rfl (g := (mkF m 30 #[own_vr a, own_vr mm] [(.ref mm), (.ref a)])) rfl rfl (hb hby own_d5_30)
 refine own_st st8 ?_
 have Fw8 := Fq7_detailMessage.same W8
 have N8 := Fr.snoc X8 N7 ga
 have O0_x8 := O0_x7.wr W8 ga
 have EA_x8 := EA_x7.wr W8
 have K0_x8 := K0_x7.wr W8 (Or.inl (List.mem_of_getElem? (i := 0) rfl))
 have Fq7_id_x8 := Fq7_id.other W8 (Or.inr (slot_ne (Or.inr (hw _ (own_m 74 rfl))) (Or.inl (hw _ (own_m 68 rfl))) (by decide) (t := (.object "java/lang/String")) (t' := (.object "java/lang/String")) (by decide) (by decide)))
 have Fq7_place_x8 := Fq7_place.other W8 (Or.inr (slot_ne (Or.inr (hw _ (own_m 76 rfl))) (Or.inl (hw _ (own_m 68 rfl))) (by decide) (t := (.object "java/lang/String")) (t' := (.object "java/lang/String")) (by decide) (by decide)))
 show own_Rch _ _ _ _ T8 (mkF m 33 #[own_vr a, own_vr mm] [])
 refine own_retV X8 hx Bd.notSynchronized Bd.returns (hb hby own_d5_33) (by decide) (by decide) ?_
 rw [e8]
 exact ⟨rfl, N8, K0_x8, EA_x8, Fw8, Fq7_id_x8, Fq7_place_x8⟩
theorem own_pn10 : plainName "java/lang/Exception" = true := by first | (simp [plainName, overriddenIn]; done) | decide +kernel
theorem own_ef4 (m : MethodId) (x0 : Addr) (x1 : Addr) : entryFrame m #[(.ref x0), (.ref x1)] 2 = mkF m 0 #[own_vr x0, own_vr x1] [] := by first | (simp [entryFrame, mkF, argsToLocals, Value.category]; done) | rfl
abbrev own_c4 : ByteArray := jdk_59_method_2_code
theorem own_d4_0 : decode own_c4 0 = .ok (.aload_n 0, 1) := by decide +kernel
theorem own_d4_1 : decode own_c4 1 = .ok (.aload_n 1, 1) := by decide +kernel
theorem own_d4_2 : decode own_c4 2 = .ok (.invokespecial 7, 3) := by decide +kernel
theorem own_d4_5 : decode own_c4 5 = .ok (.return_, 1) := by decide +kernel
abbrev own_y33 : MethodName := ⟨"java/lang/Exception", "<init>", "(Ljava/lang/String;)V"⟩
def own_Q_own_exi (Z : State) (a : Addr) (mm : Addr) (ua : Addr) (se : Addr) (h0 : Heap) (n0 : Nat) (v : Option Value) (h : Heap) (L : List Loc) : Prop := v = none ∧ Fr n0 L ∧ Keep h0 h [a] ∧ Exa Z h a "com/example/makewhole/makewhole/member/MemberRecordException" ∧ Fld Z h a "java/lang/Throwable" "detailMessage" "Ljava/lang/String;" (.ref mm) ∧ Fld Z h a "com/example/makewhole/makewhole/member/MemberRecordException" "id" "Ljava/lang/String;" .null ∧ Fld Z h a "com/example/makewhole/makewhole/member/MemberRecordException" "place" "Ljava/lang/String;" .null
theorem own_exi (l : Launch) (Z : State) (a0 : Array Value) (hw : ∀ d ∈ tables_1, d.before a0 Z = true) (ws : List Jvm.Cond) (a : Addr) (mm : Addr) (ua : Addr) (se : Addr) (h0 : Heap) (n0 : Nat) (O0 : Old Z n0 h0) (hlt : l.stackTraces = true) (SU : Sta Z Z.heap "java/lang/Throwable" "UNASSIGNED_STACK" "[Ljava/lang/StackTraceElement;" (.ref ua)) (SQ : Sta Z Z.heap "java/lang/Throwable" "SUPPRESSED_SENTINEL" "Ljava/util/List;" (.ref se)) (EA : Exa Z h0 a "com/example/makewhole/makewhole/member/MemberRecordException") (UA : Unt h0 a) (J0 : Fld Z h0 a "java/lang/Throwable" "cause" "Ljava/lang/Throwable;" .null) (J1 : Fld Z h0 a "java/lang/Throwable" "stackTrace" "[Ljava/lang/StackTraceElement;" .null) (J2 : Fld Z h0 a "java/lang/Throwable" "suppressedExceptions" "Ljava/util/List;" .null) (J3 : Fld Z h0 a "java/lang/Throwable" "detailMessage" "Ljava/lang/String;" .null) (J4 : Fld Z h0 a "java/lang/Throwable" "backtrace" "Ljava/lang/Object;" .null) (XI : Fld Z h0 a "com/example/makewhole/makewhole/member/MemberRecordException" "id" "Ljava/lang/String;" .null) (XP : Fld Z h0 a "com/example/makewhole/makewhole/member/MemberRecordException" "place" "Ljava/lang/String;" .null) (ga : n0 ≤ a) :
    own_MtK l own_y33 own_c4 2 none ws (own_r 4 1 2752 55) #[(.ref a), (.ref mm)] Z h0 (own_Q_own_exi Z a mm ua se h0 n0) := by
 refine MetFree.of_bodySF (plainFor_of_name own_pn10) hisR ?_
 intro p_ e s m args below meth c_ s₁ Bd hml0 hP hK
 obtain ⟨rfl, hZ, hh⟩ := hP
 obtain ⟨hTK, hFK⟩ := hK
 have hx := Bd.exec
 have hby := Bd.bytes
 have hml : c_.maxLocals = 2 := hml0
 have hown : s.vm.findClass "java/lang/Exception" = some m.cls := findClass_of_methodNamed Bd.named
 have hnm := (name_of_methodNamed Bd.named Bd.method).1
 have X0 : Stand p_ l e (own_r 4 1 2752 55) s m #[(.ref a), (.ref mm)] below meth c_ s₁ [] 0 0 := Stand.of_body Bd
 have e0 : s₁.heap = h0 := by rw [← hh, Bd.state]; rfl
 have N0 := Fr.nil n0
 refine own_close (s := s) (Q := (own_Q_own_exi Z a mm ua se h0 n0)) (own_st (fun _ => castTop (own_ef4 m a mm)) ?_)
 have K0 := Keep.refl h0 [a]
 show own_Rch _ _ _ _ s₁ (mkF m 0 #[own_vr a, own_vr mm] [])
 refine own_aloadN X0 hx hby own_d4_0 rfl rfl rfl ?_
 refine own_aloadN X0 hx hby own_d4_1 rfl rfl rfl ?_
 obtain ⟨_, _, ⟨T1, L1, k1, n1⟩, -, X1, ⟨Lc1, hQ1, l1, y1, z1⟩, st1⟩ := X0.specialBack hx (y := own_y32) rfl hown (mvT hZ (hw _ (own_m 28 rfl))) (mvT hZ (hw _ (own_m 29 rfl))) (mvT hZ (hw _ (own_m 33 rfl))) (by decide) (backOfKL (W := 0) (own_thi l Z a0 hw [] a mm ua se h0 n0 O0 hlt SU SQ EA UA J0 J1 J2 J3 J4 XI XP ga) hZ (hw _ (own_m 33 rfl)) (hw _ (own_m 32 rfl)) (by decide) (by decide) hTK hFK) (g := (mkF m 2 #[own_vr a, own_vr mm] [(.ref mm), (.ref a)])) rfl (by rw [hml]; rfl) (Steps.refl _) (a := a) (argsL := [(.ref mm)]) (rest := []) (lenOf own_pd1 rfl) rfl (by show 2 * 0 + _ ≤ _; exact Nat.le_of_eq rfl) (hb hby own_d4_2) (fun _ _ => ⟨rfl, e0, (by decide : 0 + 1 ≤ _), (by decide : 0 + 2752 ≤ _)⟩)
 dsimp only [Pt.U, Pt.locs, Pt.cells, Pt.slots] at X1 l1 y1 z1 st1 hQ1
 subst l1 y1 z1
 obtain ⟨rfl, N1q, K1, Em1, Fm1, Fi1, Fp1⟩ := hQ1
 have N1 := Fr.app N0 N1q
 refine own_st (fun _ kt => st1.trans kt) ?_
 have O0_x1 := O0.keep K1 (allS ga all0)
 have EA_x1 := EA.keep K1
 have K0_x1 := K0.trans K1 (allS (Or.inl (List.mem_of_getElem? (i := 0) rfl)) all0)
 show own_Rch _ _ _ _ T1 (mkF m 5 #[own_vr a, own_vr mm] [])
 refine own_retV X1 hx Bd.notSynchronized Bd.returns (hb hby own_d4_5) (by decide) (by decide) ?_
 exact ⟨rfl, N1, K0_x1, Em1, Fm1, Fi1, Fp1⟩
theorem own_pn11 : plainName "com/example/makewhole/makewhole/refusal/RefusedException" = true := by first | (simp [plainName, overriddenIn]; done) | decide +kernel
theorem own_ef3 (m : MethodId) (x0 : Addr) (x1 : Addr) : entryFrame m #[(.ref x0), (.ref x1)] 2 = mkF m 0 #[own_vr x0, own_vr x1] [] := by first | (simp [entryFrame, mkF, argsToLocals, Value.category]; done) | rfl
abbrev own_c3 : ByteArray := prog_50_method_1_code
theorem own_d3_0 : decode own_c3 0 = .ok (.aload_n 0, 1) := by decide +kernel
theorem own_d3_1 : decode own_c3 1 = .ok (.aload_n 1, 1) := by decide +kernel
theorem own_d3_2 : decode own_c3 2 = .ok (.invokespecial 1, 3) := by decide +kernel
theorem own_d3_5 : decode own_c3 5 = .ok (.return_, 1) := by decide +kernel
abbrev own_y34 : MethodName := ⟨"com/example/makewhole/makewhole/refusal/RefusedException", "<init>", "(Ljava/lang/String;)V"⟩
def own_Q_own_rfi (Z : State) (a : Addr) (mm : Addr) (ua : Addr) (se : Addr) (h0 : Heap) (n0 : Nat) (v : Option Value) (h : Heap) (L : List Loc) : Prop := v = none ∧ Fr n0 L ∧ Keep h0 h [a] ∧ Exa Z h a "com/example/makewhole/makewhole/member/MemberRecordException" ∧ Fld Z h a "java/lang/Throwable" "detailMessage" "Ljava/lang/String;" (.ref mm) ∧ Fld Z h a "com/example/makewhole/makewhole/member/MemberRecordException" "id" "Ljava/lang/String;" .null ∧ Fld Z h a "com/example/makewhole/makewhole/member/MemberRecordException" "place" "Ljava/lang/String;" .null
theorem own_rfi (l : Launch) (Z : State) (a0 : Array Value) (hw : ∀ d ∈ tables_1, d.before a0 Z = true) (ws : List Jvm.Cond) (a : Addr) (mm : Addr) (ua : Addr) (se : Addr) (h0 : Heap) (n0 : Nat) (O0 : Old Z n0 h0) (hlt : l.stackTraces = true) (SU : Sta Z Z.heap "java/lang/Throwable" "UNASSIGNED_STACK" "[Ljava/lang/StackTraceElement;" (.ref ua)) (SQ : Sta Z Z.heap "java/lang/Throwable" "SUPPRESSED_SENTINEL" "Ljava/util/List;" (.ref se)) (EA : Exa Z h0 a "com/example/makewhole/makewhole/member/MemberRecordException") (UA : Unt h0 a) (J0 : Fld Z h0 a "java/lang/Throwable" "cause" "Ljava/lang/Throwable;" .null) (J1 : Fld Z h0 a "java/lang/Throwable" "stackTrace" "[Ljava/lang/StackTraceElement;" .null) (J2 : Fld Z h0 a "java/lang/Throwable" "suppressedExceptions" "Ljava/util/List;" .null) (J3 : Fld Z h0 a "java/lang/Throwable" "detailMessage" "Ljava/lang/String;" .null) (J4 : Fld Z h0 a "java/lang/Throwable" "backtrace" "Ljava/lang/Object;" .null) (XI : Fld Z h0 a "com/example/makewhole/makewhole/member/MemberRecordException" "id" "Ljava/lang/String;" .null) (XP : Fld Z h0 a "com/example/makewhole/makewhole/member/MemberRecordException" "place" "Ljava/lang/String;" .null) (ga : n0 ≤ a) :
    own_MtK l own_y34 own_c3 2 none ws (own_r 5 1 2752 68) #[(.ref a), (.ref mm)] Z h0 (own_Q_own_rfi Z a mm ua se h0 n0) := by
 refine MetFree.of_bodySF (plainFor_of_name own_pn11) hisR ?_
 intro p_ e s m args below meth c_ s₁ Bd hml0 hP hK
 obtain ⟨rfl, hZ, hh⟩ := hP
 obtain ⟨hTK, hFK⟩ := hK
 have hx := Bd.exec
 have hby := Bd.bytes
 have hml : c_.maxLocals = 2 := hml0
 have hown : s.vm.findClass "com/example/makewhole/makewhole/refusal/RefusedException" = some m.cls := findClass_of_methodNamed Bd.named
 have hnm := (name_of_methodNamed Bd.named Bd.method).1
 have X0 : Stand p_ l e (own_r 5 1 2752 68) s m #[(.ref a), (.ref mm)] below meth c_ s₁ [] 0 0 := Stand.of_body Bd
 have e0 : s₁.heap = h0 := by rw [← hh, Bd.state]; rfl
 have N0 := Fr.nil n0
 refine own_close (s := s) (Q := (own_Q_own_rfi Z a mm ua se h0 n0)) (own_st (fun _ => castTop (own_ef3 m a mm)) ?_)
 have K0 := Keep.refl h0 [a]
 show own_Rch _ _ _ _ s₁ (mkF m 0 #[own_vr a, own_vr mm] [])
 refine own_aloadN X0 hx hby own_d3_0 rfl rfl rfl ?_
 refine own_aloadN X0 hx hby own_d3_1 rfl rfl rfl ?_
 obtain ⟨_, _, ⟨T1, L1, k1, n1⟩, -, X1, ⟨Lc1, hQ1, l1, y1, z1⟩, st1⟩ := X0.specialBack hx (y := own_y33) rfl hown (mvT hZ (hw _ (own_m 23 rfl))) (mvT hZ (hw _ (own_m 24 rfl))) (mvT hZ (hw _ (own_m 27 rfl))) (by decide) (backOfKL (W := 0) (own_exi l Z a0 hw [] a mm ua se h0 n0 O0 hlt SU SQ EA UA J0 J1 J2 J3 J4 XI XP ga) hZ (hw _ (own_m 27 rfl)) (hw _ (own_m 26 rfl)) (by decide) (by decide) hTK hFK) (g := (mkF m 2 #[own_vr a, own_vr mm] [(.ref mm), (.ref a)])) rfl (by rw [hml]; rfl) (Steps.refl _) (a := a) (argsL := [(.ref mm)]) (rest := []) (lenOf own_pd1 rfl) rfl (by show 2 * 0 + _ ≤ _; exact Nat.le_of_eq rfl) (hb hby own_d3_2) (fun _ _ => ⟨rfl, e0, (by decide : 0 + 1 ≤ _), (by decide : 0 + 2752 ≤ _)⟩)
 dsimp only [Pt.U, Pt.locs, Pt.cells, Pt.slots] at X1 l1 y1 z1 st1 hQ1
 subst l1 y1 z1
 obtain ⟨rfl, N1q, K1, Em1, Fm1, Fi1, Fp1⟩ := hQ1
 have N1 := Fr.app N0 N1q
 refine own_st (fun _ kt => st1.trans kt) ?_
 have O0_x1 := O0.keep K1 (allS ga all0)
 have EA_x1 := EA.keep K1
 have K0_x1 := K0.trans K1 (allS (Or.inl (List.mem_of_getElem? (i := 0) rfl)) all0)
 show own_Rch _ _ _ _ T1 (mkF m 5 #[own_vr a, own_vr mm] [])
 refine own_retV X1 hx Bd.notSynchronized Bd.returns (hb hby own_d3_5) (by decide) (by decide) ?_
 exact ⟨rfl, N1, K0_x1, Em1, Fm1, Fi1, Fp1⟩
theorem own_pn12 : plainName "com/example/makewhole/makewhole/member/MemberRecordException" = true := by first | (simp [plainName, overriddenIn]; done) | decide +kernel
theorem own_ef2 (m : MethodId) (x0 : Addr) (x1 : Addr) : entryFrame m #[(.ref x0), (.ref x1)] 2 = mkF m 0 #[own_vr x0, own_vr x1] [] := by first | (simp [entryFrame, mkF, argsToLocals, Value.category]; done) | rfl
abbrev own_c2 : ByteArray := prog_26_method_1_code
theorem own_d2_0 : decode own_c2 0 = .ok (.aload_n 0, 1) := by decide +kernel
theorem own_d2_1 : decode own_c2 1 = .ok (.aload_n 1, 1) := by decide +kernel
theorem own_d2_2 : decode own_c2 2 = .ok (.invokespecial 1, 3) := by decide +kernel
theorem own_d2_5 : decode own_c2 5 = .ok (.aload_n 0, 1) := by decide +kernel
theorem own_d2_6 : decode own_c2 6 = .ok (.aconst_null, 1) := by decide +kernel
theorem own_d2_7 : decode own_c2 7 = .ok (.putfield 7, 3) := by decide +kernel
theorem own_d2_10 : decode own_c2 10 = .ok (.aload_n 0, 1) := by decide +kernel
theorem own_d2_11 : decode own_c2 11 = .ok (.aconst_null, 1) := by decide +kernel
theorem own_d2_12 : decode own_c2 12 = .ok (.putfield 13, 3) := by decide +kernel
theorem own_d2_15 : decode own_c2 15 = .ok (.return_, 1) := by decide +kernel
abbrev own_y35 : MethodName := ⟨"com/example/makewhole/makewhole/member/MemberRecordException", "<init>", "(Ljava/lang/String;)V"⟩
def own_Q_own_me1 (Z : State) (a : Addr) (mm : Addr) (ua : Addr) (se : Addr) (h0 : Heap) (n0 : Nat) (v : Option Value) (h : Heap) (L : List Loc) : Prop := v = none ∧ Fr n0 L ∧ Keep h0 h [a] ∧ Exa Z h a "com/example/makewhole/makewhole/member/MemberRecordException" ∧ Fld Z h a "java/lang/Throwable" "detailMessage" "Ljava/lang/String;" (.ref mm) ∧ Fld Z h a "com/example/makewhole/makewhole/member/MemberRecordException" "id" "Ljava/lang/String;" .null ∧ Fld Z h a "com/example/makewhole/makewhole/member/MemberRecordException" "place" "Ljava/lang/String;" .null
theorem own_me1 (l : Launch) (Z : State) (a0 : Array Value) (hw : ∀ d ∈ tables_1, d.before a0 Z = true) (ws : List Jvm.Cond) (a : Addr) (mm : Addr) (ua : Addr) (se : Addr) (h0 : Heap) (n0 : Nat) (O0 : Old Z n0 h0) (hlt : l.stackTraces = true) (SU : Sta Z Z.heap "java/lang/Throwable" "UNASSIGNED_STACK" "[Ljava/lang/StackTraceElement;" (.ref ua)) (SQ : Sta Z Z.heap "java/lang/Throwable" "SUPPRESSED_SENTINEL" "Ljava/util/List;" (.ref se)) (EA : Exa Z h0 a "com/example/makewhole/makewhole/member/MemberRecordException") (UA : Unt h0 a) (J0 : Fld Z h0 a "java/lang/Throwable" "cause" "Ljava/lang/Throwable;" .null) (J1 : Fld Z h0 a "java/lang/Throwable" "stackTrace" "[Ljava/lang/StackTraceElement;" .null) (J2 : Fld Z h0 a "java/lang/Throwable" "suppressedExceptions" "Ljava/util/List;" .null) (J3 : Fld Z h0 a "java/lang/Throwable" "detailMessage" "Ljava/lang/String;" .null) (J4 : Fld Z h0 a "java/lang/Throwable" "backtrace" "Ljava/lang/Object;" .null) (XI : Fld Z h0 a "com/example/makewhole/makewhole/member/MemberRecordException" "id" "Ljava/lang/String;" .null) (XP : Fld Z h0 a "com/example/makewhole/makewhole/member/MemberRecordException" "place" "Ljava/lang/String;" .null) (ga : n0 ≤ a) :
    own_MtK l own_y35 own_c2 2 none ws (own_r 6 1 2752 81) #[(.ref a), (.ref mm)] Z h0 (own_Q_own_me1 Z a mm ua se h0 n0) := by
 refine MetFree.of_bodySF (plainFor_of_name own_pn12) hisR ?_
 intro p_ e s m args below meth c_ s₁ Bd hml0 hP hK
 obtain ⟨rfl, hZ, hh⟩ := hP
 obtain ⟨hTK, hFK⟩ := hK
 have hx := Bd.exec
 have hby := Bd.bytes
 have hml : c_.maxLocals = 2 := hml0
 have hown : s.vm.findClass "com/example/makewhole/makewhole/member/MemberRecordException" = some m.cls := findClass_of_methodNamed Bd.named
 have hnm := (name_of_methodNamed Bd.named Bd.method).1
 have X0 : Stand p_ l e (own_r 6 1 2752 81) s m #[(.ref a), (.ref mm)] below meth c_ s₁ [] 0 0 := Stand.of_body Bd
 have e0 : s₁.heap = h0 := by rw [← hh, Bd.state]; rfl
 have N0 := Fr.nil n0
 refine own_close (s := s) (Q := (own_Q_own_me1 Z a mm ua se h0 n0)) (own_st (fun _ => castTop (own_ef2 m a mm)) ?_)
 have K0 := Keep.refl h0 [a]
 show own_Rch _ _ _ _ s₁ (mkF m 0 #[own_vr a, own_vr mm] [])
 refine own_aloadN X0 hx hby own_d2_0 rfl rfl rfl ?_
 refine own_aloadN X0 hx hby own_d2_1 rfl rfl rfl ?_
 obtain ⟨_, _, ⟨T1, L1, k1, n1⟩, -, X1, ⟨Lc1, hQ1, l1, y1, z1⟩, st1⟩ := X0.specialBack hx (y := own_y34) rfl hown (mvT hZ (hw _ (own_m 18 rfl))) (mvT hZ (hw _ (own_m 19 rfl))) (mvT hZ (hw _ (own_m 22 rfl))) (by decide) (backOfKL (W := 0) (own_rfi l Z a0 hw [] a mm ua se h0 n0 O0 hlt SU SQ EA UA J0 J1 J2 J3 J4 XI XP ga) hZ (hw _ (own_m 22 rfl)) (hw _ (own_m 21 rfl)) (by decide) (by decide) hTK hFK) (g := (mkF m 2 #[own_vr a, own_vr mm] [(.ref mm), (.ref a)])) rfl (by rw [hml]; rfl) (Steps.refl _) (a := a) (argsL := [(.ref mm)]) (rest := []) (lenOf own_pd1 rfl) rfl (by show 2 * 0 + _ ≤ _; exact Nat.le_of_eq rfl) (hb hby own_d2_2) (fun _ _ => ⟨rfl, e0, (by decide : 0 + 1 ≤ _), (by decide : 0 + 2752 ≤ _)⟩)
 dsimp only [Pt.U, Pt.locs, Pt.cells, Pt.slots] at X1 l1 y1 z1 st1 hQ1
 subst l1 y1 z1
 obtain ⟨rfl, N1q, K1, Em1, Fm1, Fi1, Fp1⟩ := hQ1
 have N1 := Fr.app N0 N1q
 refine own_st (fun _ kt => st1.trans kt) ?_
 have O0_x1 := O0.keep K1 (allS ga all0)
 have EA_x1 := EA.keep K1
 have K0_x1 := K0.trans K1 (allS (Or.inl (List.mem_of_getElem? (i := 0) rfl)) all0)
 refine own_aloadN X1 hx hby own_d2_5 rfl rfl rfl ?_
 refine own_st (fun _ => XS.aconstNull X1.here hx rfl (hb hby own_d2_6)) ?_
 obtain ⟨T2, h2, X2, e2, W2, st2⟩ := putF X1 hx hZ hown (host := "") (Or.inl (hw _ (own_m 73 rfl))) Via.refl rfl Fi1 Em1 (Or.inr ⟨(hw _ (own_m 74 rfl)), rfl, hnm⟩) (hw _ (own_m 13 rfl)) (ty := (.object "java/lang/String")) (by decide) rfl rfl (g := (mkF m 7 #[own_vr a, own_vr mm] [.null, (.ref a)])) rfl rfl (hb hby own_d2_7)
 refine own_st st2 ?_
 have Fw2 := Fi1.same W2
 have N2 := Fr.snoc X2 N1 ga
 have O0_x2 := O0_x1.wr W2 ga
 have Em1_x2 := Em1.wr W2
 have K0_x2 := K0_x1.wr W2 (Or.inl (List.mem_of_getElem? (i := 0) rfl))
 have Fm1_x2 := Fm1.other W2 (Or.inr (slot_ne (Or.inl (hw _ (own_m 68 rfl))) (Or.inr (hw _ (own_m 74 rfl))) (by decide) (t := (.object "java/lang/String")) (t' := (.object "java/lang/String")) (by decide) (by decide)))
 have Fp1_x2 := Fp1.other W2 (Or.inr (slot_ne (Or.inr (hw _ (own_m 76 rfl))) (Or.inr (hw _ (own_m 74 rfl))) (by decide) (t := (.object "java/lang/String")) (t' := (.object "java/lang/String")) (by decide) (by decide)))
 refine own_aloadN X2 hx hby own_d2_10 rfl rfl rfl ?_
 refine own_st (fun _ => XS.aconstNull X2.here hx rfl (hb hby own_d2_11)) ?_
 obtain ⟨T3, h3, X3, e3, W3, st3⟩ := putF X2 hx hZ hown (host := "") (Or.inl (hw _ (own_m 75 rfl))) Via.refl e2 Fp1_x2 Em1_x2 (Or.inr ⟨(hw _ (own_m 76 rfl)), rfl, hnm⟩) (hw _ (own_m 13 rfl)) (ty := (.object "java/lang/String")) (by decide) rfl rfl (g := (mkF m 12 #[own_vr a, own_vr mm] [.null, (.ref a)])) rfl rfl (hb hby own_d2_12)
 refine own_st st3 ?_
 have Fw3 := Fp1_x2.same W3
 have N3 := Fr.snoc X3 N2 ga
 have O0_x3 := O0_x2.wr W3 ga
 have Em1_x3 := Em1_x2.wr W3
 have K0_x3 := K0_x2.wr W3 (Or.inl (List.mem_of_getElem? (i := 0) rfl))
 have Fm1_x3 := Fm1_x2.other W3 (Or.inr (slot_ne (Or.inl (hw _ (own_m 68 rfl))) (Or.inr (hw _ (own_m 76 rfl))) (by decide) (t := (.object "java/lang/String")) (t' := (.object "java/lang/String")) (by decide) (by decide)))
 have Fw2_x3 := Fw2.other W3 (Or.inr (slot_ne (Or.inr (hw _ (own_m 74 rfl))) (Or.inr (hw _ (own_m 76 rfl))) (by decide) (t := (.object "java/lang/String")) (t' := (.object "java/lang/String")) (by decide) (by decide)))
 show own_Rch _ _ _ _ T3 (mkF m 15 #[own_vr a, own_vr mm] [])
 refine own_retV X3 hx Bd.notSynchronized Bd.returns (hb hby own_d2_15) (by decide) (by decide) ?_
 rw [e3]
 exact ⟨rfl, N3, K0_x3, Em1_x3, Fm1_x3, Fw2_x3, Fw3⟩
theorem own_ef43 (m : MethodId) (x0 : Addr) : entryFrame m #[(.ref x0)] 1 = mkF m 0 #[own_vr x0] [] := by first | (simp [entryFrame, mkF, argsToLocals, Value.category]; done) | rfl
abbrev own_c43 : ByteArray := jdk_78_method_6_code
theorem own_d43_0 : decode own_c43 0 = .ok (.aload_n 0, 1) := by decide +kernel
theorem own_d43_1 : decode own_c43 1 = .ok (.getfield 31, 3) := by decide +kernel
theorem own_d43_4 : decode own_c43 4 = .ok (.areturn, 1) := by decide +kernel
abbrev own_y36 : MethodName := ⟨"java/lang/Throwable", "getMessage", "()Ljava/lang/String;"⟩
def own_Q_own_gm (Z : State) (q : Addr) (mm : Addr) (h0 : Heap) (n0 : Nat) (v : Option Value) (h : Heap) (L : List Loc) : Prop := v = some (.ref mm) ∧ Fr n0 L ∧ h = h0
theorem own_gm (l : Launch) (Z : State) (a0 : Array Value) (hw : ∀ d ∈ tables_1, d.before a0 Z = true) (ws : List Jvm.Cond) (q : Addr) (mm : Addr) (h0 : Heap) (n0 : Nat) (O0 : Old Z n0 h0) (FM : Fld Z h0 q "java/lang/Throwable" "detailMessage" "Ljava/lang/String;" (.ref mm)) :
    own_Mt l own_y36 own_c43 1 (some (.object "java/lang/String")) ws (own_r 0 0 0 0) #[(.ref q)] Z h0 (own_Q_own_gm Z q mm h0 n0) := by
 refine MetFree.of_bodySF (plainFor_of_name own_pn9) hisR ?_
 intro p_ e s m args below meth c_ s₁ Bd hml0 hP hK
 obtain ⟨rfl, hZ, hh⟩ := hP
 have hx := Bd.exec
 have hby := Bd.bytes
 have hml : c_.maxLocals = 1 := hml0
 have hown : s.vm.findClass "java/lang/Throwable" = some m.cls := findClass_of_methodNamed Bd.named
 have hnm := (name_of_methodNamed Bd.named Bd.method).1
 have X0 : Stand p_ l e (own_r 0 0 0 0) s m #[(.ref q)] below meth c_ s₁ [] 0 0 := Stand.of_body Bd
 have e0 : s₁.heap = h0 := by rw [← hh, Bd.state]; rfl
 have N0 := Fr.nil n0
 refine own_close (s := s) (Q := (own_Q_own_gm Z q mm h0 n0)) (own_st (fun _ => castTop (own_ef43 m q)) ?_)
 show own_Rch _ _ _ _ s₁ (mkF m 0 #[own_vr q] [])
 refine own_aloadN X0 hx hby own_d43_0 rfl rfl rfl ?_
 obtain ⟨T1, X1, e1, st1⟩ := own_gF X0 hx hZ hown (hw _ (own_m 72 rfl)) e0 FM (g := (mkF m 1 #[own_vr q] [(.ref q)])) rfl rfl (hb hby own_d43_1)
 refine own_st st1 ?_
 show own_Rch _ _ _ _ T1 (mkF m 4 #[own_vr q] [(.ref mm)])
 refine own_retA rfl rfl X1 hx Bd.notSynchronized Bd.returns (hb hby own_d43_4) (by decide) (by decide) ?_
 rw [e1]
 exact ⟨rfl, N0, rfl⟩
theorem own_ef42 (m : MethodId) (x0 : Addr) (x1 : Addr) (x2 : Addr) (x3 : Addr) : entryFrame m #[(.ref x0), (.ref x1), (.ref x2), (.ref x3)] 4 = mkF m 0 #[own_vr x0, own_vr x1, own_vr x2, own_vr x3] [] := by first | (simp [entryFrame, mkF, argsToLocals, Value.category]; done) | rfl
abbrev own_c42 : ByteArray := prog_26_method_3_code
theorem own_d42_0 : decode own_c42 0 = .ok (.aload_n 0, 1) := by decide +kernel
theorem own_d42_1 : decode own_c42 1 = .ok (.aload_n 1, 1) := by decide +kernel
theorem own_d42_2 : decode own_c42 2 = .ok (.invokevirtual 19, 3) := by decide +kernel
abbrev own_y37 : MethodName := ⟨"com/example/makewhole/makewhole/member/MemberRecordException", "getMessage", "()Ljava/lang/String;"⟩
theorem own_d42_5 : decode own_c42 5 = .ok (.invokespecial 1, 3) := by decide +kernel
theorem own_d42_8 : decode own_c42 8 = .ok (.aload_n 0, 1) := by decide +kernel
theorem own_d42_9 : decode own_c42 9 = .ok (.aload_n 2, 1) := by decide +kernel
theorem own_d42_10 : decode own_c42 10 = .ok (.putfield 7, 3) := by decide +kernel
theorem own_d42_13 : decode own_c42 13 = .ok (.aload_n 0, 1) := by decide +kernel
theorem own_d42_14 : decode own_c42 14 = .ok (.aload_n 3, 1) := by decide +kernel
theorem own_d42_15 : decode own_c42 15 = .ok (.putfield 13, 3) := by decide +kernel
theorem own_d42_18 : decode own_c42 18 = .ok (.return_, 1) := by decide +kernel
abbrev own_y38 : MethodName := ⟨"com/example/makewhole/makewhole/member/MemberRecordException", "<init>", "(Lcom/example/makewhole/makewhole/member/MemberRecordException;Ljava/lang/String;Ljava/lang/String;)V"⟩
def own_Q_own_me3_RR (Z : State) (a : Addr) (q : Addr) (mm : Addr) (ii : Addr) (pp : Addr) (ua : Addr) (se : Addr) (h0 : Heap) (n0 : Nat) (v : Option Value) (h : Heap) (L : List Loc) : Prop := v = none ∧ Fr n0 L ∧ Keep h0 h [a] ∧ Exa Z h a "com/example/makewhole/makewhole/member/MemberRecordException" ∧ Fld Z h a "java/lang/Throwable" "detailMessage" "Ljava/lang/String;" (.ref mm) ∧ Fld Z h a "com/example/makewhole/makewhole/member/MemberRecordException" "id" "Ljava/lang/String;" (.ref ii) ∧ Fld Z h a "com/example/makewhole/makewhole/member/MemberRecordException" "place" "Ljava/lang/String;" (.ref pp)
theorem own_me3_RR (l : Launch) (Z : State) (a0 : Array Value) (hw : ∀ d ∈ tables_1, d.before a0 Z = true) (ws : List Jvm.Cond) (a : Addr) (q : Addr) (mm : Addr) (ii : Addr) (pp : Addr) (ua : Addr) (se : Addr) (h0 : Heap) (n0 : Nat) (O0 : Old Z n0 h0) (hlt : l.stackTraces = true) (SU : Sta Z Z.heap "java/lang/Throwable" "UNASSIGNED_STACK" "[Ljava/lang/StackTraceElement;" (.ref ua)) (SQ : Sta Z Z.heap "java/lang/Throwable" "SUPPRESSED_SENTINEL" "Ljava/util/List;" (.ref se)) (EA : Exa Z h0 a "com/example/makewhole/makewhole/member/MemberRecordException") (UA : Unt h0 a) (J0 : Fld Z h0 a "java/lang/Throwable" "cause" "Ljava/lang/Throwable;" .null) (J1 : Fld Z h0 a "java/lang/Throwable" "stackTrace" "[Ljava/lang/StackTraceElement;" .null) (J2 : Fld Z h0 a "java/lang/Throwable" "suppressedExceptions" "Ljava/util/List;" .null) (J3 : Fld Z h0 a "java/lang/Throwable" "detailMessage" "Ljava/lang/String;" .null) (J4 : Fld Z h0 a "java/lang/Throwable" "backtrace" "Ljava/lang/Object;" .null) (XI : Fld Z h0 a "com/example/makewhole/makewhole/member/MemberRecordException" "id" "Ljava/lang/String;" .null) (XP : Fld Z h0 a "com/example/makewhole/makewhole/member/MemberRecordException" "place" "Ljava/lang/String;" .null) (ga : n0 ≤ a) (EQ : Exa Z h0 q "com/example/makewhole/makewhole/member/MemberRecordException") (FM : Fld Z h0 q "java/lang/Throwable" "detailMessage" "Ljava/lang/String;" (.ref mm)) (hqa : q ≠ a) :
    own_MtK l own_y38 own_c42 4 none ws (own_r 6 1 2752 81) #[(.ref a), (.ref q), (.ref ii), (.ref pp)] Z h0 (own_Q_own_me3_RR Z a q mm ii pp ua se h0 n0) := by
 refine MetFree.of_bodySF (plainFor_of_name own_pn12) hisR ?_
 intro p_ e s m args below meth c_ s₁ Bd hml0 hP hK
 obtain ⟨rfl, hZ, hh⟩ := hP
 obtain ⟨hTK, hFK⟩ := hK
 have hx := Bd.exec
 have hby := Bd.bytes
 have hml : c_.maxLocals = 4 := hml0
 have hown : s.vm.findClass "com/example/makewhole/makewhole/member/MemberRecordException" = some m.cls := findClass_of_methodNamed Bd.named
 have hnm := (name_of_methodNamed Bd.named Bd.method).1
 have X0 : Stand p_ l e (own_r 6 1 2752 81) s m #[(.ref a), (.ref q), (.ref ii), (.ref pp)] below meth c_ s₁ [] 0 0 := Stand.of_body Bd
 have e0 : s₁.heap = h0 := by rw [← hh, Bd.state]; rfl
 have N0 := Fr.nil n0
 refine own_close (s := s) (Q := (own_Q_own_me3_RR Z a q mm ii pp ua se h0 n0)) (own_st (fun _ => castTop (own_ef42 m a q ii pp)) ?_)
 have K0 := Keep.refl h0 [a]
 show own_Rch _ _ _ _ s₁ (mkF m 0 #[own_vr a, own_vr q, own_vr ii, own_vr pp] [])
 refine own_aloadN X0 hx hby own_d42_0 rfl rfl rfl ?_
 refine own_aloadN X0 hx hby own_d42_1 rfl rfl rfl ?_
 obtain ⟨cq1, kq1, q1a, q1b, q1c⟩ := isOf hZ e0 EQ
 obtain ⟨_, _, ⟨T1, L1, k1, n1⟩, -, X1, ⟨Lc1, hQ1, l1, y1, z1⟩, st1⟩ := X0.virtualBackUp hx (owner := "java/lang/Throwable") (x := own_y37) (y := own_y36) hown (mvT hZ (hw _ (own_m 273 rfl))) (mvT hZ (hw _ (own_m 274 rfl))) (mvT hZ (hw _ (own_m 275 rfl))) (by decide) (mvT hZ (hw _ (own_m 277 rfl))) (mvT hZ (hw _ (own_m 276 rfl))) (backOf (W := 1) (own_gm l Z a0 hw [] q mm h0 n0 O0 FM) hZ (hw _ (own_m 278 rfl)) (hw _ (own_m 32 rfl)) (by decide) (by decide)) q1a q1c (g := (mkF m 2 #[own_vr a, own_vr q, own_vr ii, own_vr pp] [(.ref q), (.ref a)])) rfl (by rw [hml]; rfl) (Steps.refl _) (argsL := []) (rest := [(.ref a)]) (lenOf own_pd23 rfl) rfl (by show 2 * 0 + _ ≤ _; exact Nat.le_of_eq rfl) (hb hby own_d42_2) (fun _ _ => ⟨rfl, e0, (by decide : 0 + 0 ≤ _), (by decide : 0 + 0 ≤ _)⟩)
 dsimp only [Pt.U, Pt.locs, Pt.cells, Pt.slots] at X1 l1 y1 z1 st1 hQ1
 subst l1 y1 z1
 obtain ⟨rfl, N1q, hh1⟩ := hQ1
 have N1 := Fr.app N0 N1q
 refine own_st (fun _ kt => st1.trans kt) ?_
 obtain ⟨_, _, ⟨T2, L2, k2, n2⟩, -, X2, ⟨Lc2, hQ2, l2, y2, z2⟩, st2⟩ := X1.specialBack hx (y := own_y34) rfl hown (mvT hZ (hw _ (own_m 18 rfl))) (mvT hZ (hw _ (own_m 19 rfl))) (mvT hZ (hw _ (own_m 22 rfl))) (by decide) (backOfKL (W := 0) (own_rfi l Z a0 hw [] a mm ua se h0 n0 O0 hlt SU SQ EA UA J0 J1 J2 J3 J4 XI XP ga) hZ (hw _ (own_m 22 rfl)) (hw _ (own_m 21 rfl)) (by decide) (by decide) hTK hFK) (g := (mkF m 5 #[own_vr a, own_vr q, own_vr ii, own_vr pp] [(.ref mm), (.ref a)])) rfl (by rw [hml]; rfl) (Steps.refl _) (a := a) (argsL := [(.ref mm)]) (rest := []) (lenOf own_pd1 rfl) rfl (by show 2 * 0 + _ ≤ _; exact Nat.le_of_eq rfl) (hb hby own_d42_5) (fun _ _ => ⟨rfl, hh1, (by decide : 0 + 1 ≤ _), (by decide : 0 + 2752 ≤ _)⟩)
 dsimp only [Pt.U, Pt.locs, Pt.cells, Pt.slots] at X2 l2 y2 z2 st2 hQ2
 subst l2 y2 z2
 obtain ⟨rfl, N2q, K2, Em2, Fm2, Fi2, Fp2⟩ := hQ2
 have N2 := Fr.app N1 N2q
 refine own_st (fun _ kt => st2.trans kt) ?_
 have O0_x2 := O0.keep K2 (allS ga all0)
 have EA_x2 := EA.keep K2
 have EQ_x2 := EQ.keep K2
 have FM_x2 := FM.keep K2 (ninS hqa nin0)
 have K0_x2 := K0.trans K2 (allS (Or.inl (List.mem_of_getElem? (i := 0) rfl)) all0)
 refine own_aloadN X2 hx hby own_d42_8 rfl rfl rfl ?_
 refine own_aloadN X2 hx hby own_d42_9 rfl rfl rfl ?_
 obtain ⟨T3, h3, X3, e3, W3, st3⟩ := putF X2 hx hZ hown (host := "") (Or.inl (hw _ (own_m 73 rfl))) Via.refl rfl Fi2 Em2 (Or.inr ⟨(hw _ (own_m 74 rfl)), rfl, hnm⟩) (hw _ (own_m 13 rfl)) (ty := (.object "java/lang/String")) (by decide) rfl rfl (g := (mkF m 10 #[own_vr a, own_vr q, own_vr ii, own_vr pp] [(.ref ii), (.ref a)])) rfl rfl (hb hby own_d42_10)
 refine own_st st3 ?_
 have Fw3 := Fi2.same W3
 have N3 := Fr.snoc X3 N2 ga
 have O0_x3 := O0_x2.wr W3 ga
 have Em2_x3 := Em2.wr W3
 have EQ_x3 := EQ_x2.wr W3
 have FM_x3 := FM_x2.other W3 (Or.inl hqa)
 have K0_x3 := K0_x2.wr W3 (Or.inl (List.mem_of_getElem? (i := 0) rfl))
 have Fm2_x3 := Fm2.other W3 (Or.inr (slot_ne (Or.inl (hw _ (own_m 68 rfl))) (Or.inr (hw _ (own_m 74 rfl))) (by decide) (t := (.object "java/lang/String")) (t' := (.object "java/lang/String")) (by decide) (by decide)))
 have Fp2_x3 := Fp2.other W3 (Or.inr (slot_ne (Or.inr (hw _ (own_m 76 rfl))) (Or.inr (hw _ (own_m 74 rfl))) (by decide) (t := (.object "java/lang/String")) (t' := (.object "java/lang/String")) (by decide) (by decide)))
 refine own_aloadN X3 hx hby own_d42_13 rfl rfl rfl ?_
 refine own_aloadN X3 hx hby own_d42_14 rfl rfl rfl ?_
 obtain ⟨T4, h4, X4, e4, W4, st4⟩ := putF X3 hx hZ hown (host := "") (Or.inl (hw _ (own_m 75 rfl))) Via.refl e3 Fp2_x3 Em2_x3 (Or.inr ⟨(hw _ (own_m 76 rfl)), rfl, hnm⟩) (hw _ (own_m 13 rfl)) (ty := (.object "java/lang/String")) (by decide) rfl rfl (g := (mkF m 15 #[own_vr a, own_vr q, own_vr ii, own_vr pp] [(.ref pp), (.ref a)])) rfl rfl (hb hby own_d42_15)
 refine own_st st4 ?_
 have Fw4 := Fp2_x3.same W4
 have N4 := Fr.snoc X4 N3 ga
 have O0_x4 := O0_x3.wr W4 ga
 have Em2_x4 := Em2_x3.wr W4
 have EQ_x4 := EQ_x3.wr W4
 have FM_x4 := FM_x3.other W4 (Or.inl hqa)
 have K0_x4 := K0_x3.wr W4 (Or.inl (List.mem_of_getElem? (i := 0) rfl))
 have Fm2_x4 := Fm2_x3.other W4 (Or.inr (slot_ne (Or.inl (hw _ (own_m 68 rfl))) (Or.inr (hw _ (own_m 76 rfl))) (by decide) (t := (.object "java/lang/String")) (t' := (.object "java/lang/String")) (by decide) (by decide)))
 have Fw3_x4 := Fw3.other W4 (Or.inr (slot_ne (Or.inr (hw _ (own_m 74 rfl))) (Or.inr (hw _ (own_m 76 rfl))) (by decide) (t := (.object "java/lang/String")) (t' := (.object "java/lang/String")) (by decide) (by decide)))
 show own_Rch _ _ _ _ T4 (mkF m 18 #[own_vr a, own_vr q, own_vr ii, own_vr pp] [])
 refine own_retV X4 hx Bd.notSynchronized Bd.returns (hb hby own_d42_18) (by decide) (by decide) ?_
 rw [e4]
 exact ⟨rfl, N4, K0_x4, Em2_x4, Fm2_x4, Fw3_x4, Fw4⟩
theorem own_ef42n3 (m : MethodId) (x0 : Addr) (x1 : Addr) (x2 : Addr) : entryFrame m #[(.ref x0), (.ref x1), (.ref x2), .null] 4 = mkF m 0 #[own_vr x0, own_vr x1, own_vr x2, .val .null] [] := by first | (simp [entryFrame, mkF, argsToLocals, Value.category]; done) | rfl
def own_Q_own_me3_RN (Z : State) (a : Addr) (q : Addr) (mm : Addr) (ii : Addr) (ua : Addr) (se : Addr) (h0 : Heap) (n0 : Nat) (v : Option Value) (h : Heap) (L : List Loc) : Prop := v = none ∧ Fr n0 L ∧ Keep h0 h [a] ∧ Exa Z h a "com/example/makewhole/makewhole/member/MemberRecordException" ∧ Fld Z h a "java/lang/Throwable" "detailMessage" "Ljava/lang/String;" (.ref mm) ∧ Fld Z h a "com/example/makewhole/makewhole/member/MemberRecordException" "id" "Ljava/lang/String;" (.ref ii) ∧ Fld Z h a "com/example/makewhole/makewhole/member/MemberRecordException" "place" "Ljava/lang/String;" .null
theorem own_me3_RN (l : Launch) (Z : State) (a0 : Array Value) (hw : ∀ d ∈ tables_1, d.before a0 Z = true) (ws : List Jvm.Cond) (a : Addr) (q : Addr) (mm : Addr) (ii : Addr) (ua : Addr) (se : Addr) (h0 : Heap) (n0 : Nat) (O0 : Old Z n0 h0) (hlt : l.stackTraces = true) (SU : Sta Z Z.heap "java/lang/Throwable" "UNASSIGNED_STACK" "[Ljava/lang/StackTraceElement;" (.ref ua)) (SQ : Sta Z Z.heap "java/lang/Throwable" "SUPPRESSED_SENTINEL" "Ljava/util/List;" (.ref se)) (EA : Exa Z h0 a "com/example/makewhole/makewhole/member/MemberRecordException") (UA : Unt h0 a) (J0 : Fld Z h0 a "java/lang/Throwable" "cause" "Ljava/lang/Throwable;" .null) (J1 : Fld Z h0 a "java/lang/Throwable" "stackTrace" "[Ljava/lang/StackTraceElement;" .null) (J2 : Fld Z h0 a "java/lang/Throwable" "suppressedExceptions" "Ljava/util/List;" .null) (J3 : Fld Z h0 a "java/lang/Throwable" "detailMessage" "Ljava/lang/String;" .null) (J4 : Fld Z h0 a "java/lang/Throwable" "backtrace" "Ljava/lang/Object;" .null) (XI : Fld Z h0 a "com/example/makewhole/makewhole/member/MemberRecordException" "id" "Ljava/lang/String;" .null) (XP : Fld Z h0 a "com/example/makewhole/makewhole/member/MemberRecordException" "place" "Ljava/lang/String;" .null) (ga : n0 ≤ a) (EQ : Exa Z h0 q "com/example/makewhole/makewhole/member/MemberRecordException") (FM : Fld Z h0 q "java/lang/Throwable" "detailMessage" "Ljava/lang/String;" (.ref mm)) (hqa : q ≠ a) :
    own_MtK l own_y38 own_c42 4 none ws (own_r 6 1 2752 81) #[(.ref a), (.ref q), (.ref ii), .null] Z h0 (own_Q_own_me3_RN Z a q mm ii ua se h0 n0) := by
 refine MetFree.of_bodySF (plainFor_of_name own_pn12) hisR ?_
 intro p_ e s m args below meth c_ s₁ Bd hml0 hP hK
 obtain ⟨rfl, hZ, hh⟩ := hP
 obtain ⟨hTK, hFK⟩ := hK
 have hx := Bd.exec
 have hby := Bd.bytes
 have hml : c_.maxLocals = 4 := hml0
 have hown : s.vm.findClass "com/example/makewhole/makewhole/member/MemberRecordException" = some m.cls := findClass_of_methodNamed Bd.named
 have hnm := (name_of_methodNamed Bd.named Bd.method).1
 have X0 : Stand p_ l e (own_r 6 1 2752 81) s m #[(.ref a), (.ref q), (.ref ii), .null] below meth c_ s₁ [] 0 0 := Stand.of_body Bd
 have e0 : s₁.heap = h0 := by rw [← hh, Bd.state]; rfl
 have N0 := Fr.nil n0
 refine own_close (s := s) (Q := (own_Q_own_me3_RN Z a q mm ii ua se h0 n0)) (own_st (fun _ => castTop (own_ef42n3 m a q ii)) ?_)
 have K0 := Keep.refl h0 [a]
 show own_Rch _ _ _ _ s₁ (mkF m 0 #[own_vr a, own_vr q, own_vr ii, .val .null] [])
 refine own_aloadN X0 hx hby own_d42_0 rfl rfl rfl ?_
 refine own_aloadN X0 hx hby own_d42_1 rfl rfl rfl ?_
 obtain ⟨cq1, kq1, q1a, q1b, q1c⟩ := isOf hZ e0 EQ
 obtain ⟨_, _, ⟨T1, L1, k1, n1⟩, -, X1, ⟨Lc1, hQ1, l1, y1, z1⟩, st1⟩ := X0.virtualBackUp hx (owner := "java/lang/Throwable") (x := own_y37) (y := own_y36) hown (mvT hZ (hw _ (own_m 273 rfl))) (mvT hZ (hw _ (own_m 274 rfl))) (mvT hZ (hw _ (own_m 275 rfl))) (by decide) (mvT hZ (hw _ (own_m 277 rfl))) (mvT hZ (hw _ (own_m 276 rfl))) (backOf (W := 1) (own_gm l Z a0 hw [] q mm h0 n0 O0 FM) hZ (hw _ (own_m 278 rfl)) (hw _ (own_m 32 rfl)) (by decide) (by decide)) q1a q1c (g := (mkF m 2 #[own_vr a, own_vr q, own_vr ii, .val .null] [(.ref q), (.ref a)])) rfl (by rw [hml]; rfl) (Steps.refl _) (argsL := []) (rest := [(.ref a)]) (lenOf own_pd23 rfl) rfl (by show 2 * 0 + _ ≤ _; exact Nat.le_of_eq rfl) (hb hby own_d42_2) (fun _ _ => ⟨rfl, e0, (by decide : 0 + 0 ≤ _), (by decide : 0 + 0 ≤ _)⟩)
 dsimp only [Pt.U, Pt.locs, Pt.cells, Pt.slots] at X1 l1 y1 z1 st1 hQ1
 subst l1 y1 z1
 obtain ⟨rfl, N1q, hh1⟩ := hQ1
 have N1 := Fr.app N0 N1q
 refine own_st (fun _ kt => st1.trans kt) ?_
 obtain ⟨_, _, ⟨T2, L2, k2, n2⟩, -, X2, ⟨Lc2, hQ2, l2, y2, z2⟩, st2⟩ := X1.specialBack hx (y := own_y34) rfl hown (mvT hZ (hw _ (own_m 18 rfl))) (mvT hZ (hw _ (own_m 19 rfl))) (mvT hZ (hw _ (own_m 22 rfl))) (by decide) (backOfKL (W := 0) (own_rfi l Z a0 hw [] a mm ua se h0 n0 O0 hlt SU SQ EA UA J0 J1 J2 J3 J4 XI XP ga) hZ (hw _ (own_m 22 rfl)) (hw _ (own_m 21 rfl)) (by decide) (by decide) hTK hFK) (g := (mkF m 5 #[own_vr a, own_vr q, own_vr ii, .val .null] [(.ref mm), (.ref a)])) rfl (by rw [hml]; rfl) (Steps.refl _) (a := a) (argsL := [(.ref mm)]) (rest := []) (lenOf own_pd1 rfl) rfl (by show 2 * 0 + _ ≤ _; exact Nat.le_of_eq rfl) (hb hby own_d42_5) (fun _ _ => ⟨rfl, hh1, (by decide : 0 + 1 ≤ _), (by decide : 0 + 2752 ≤ _)⟩)
 dsimp only [Pt.U, Pt.locs, Pt.cells, Pt.slots] at X2 l2 y2 z2 st2 hQ2
 subst l2 y2 z2
 obtain ⟨rfl, N2q, K2, Em2, Fm2, Fi2, Fp2⟩ := hQ2
 have N2 := Fr.app N1 N2q
 refine own_st (fun _ kt => st2.trans kt) ?_
 have O0_x2 := O0.keep K2 (allS ga all0)
 have EA_x2 := EA.keep K2
 have EQ_x2 := EQ.keep K2
 have FM_x2 := FM.keep K2 (ninS hqa nin0)
 have K0_x2 := K0.trans K2 (allS (Or.inl (List.mem_of_getElem? (i := 0) rfl)) all0)
 refine own_aloadN X2 hx hby own_d42_8 rfl rfl rfl ?_
 refine own_aloadN X2 hx hby own_d42_9 rfl rfl rfl ?_
 obtain ⟨T3, h3, X3, e3, W3, st3⟩ := putF X2 hx hZ hown (host := "") (Or.inl (hw _ (own_m 73 rfl))) Via.refl rfl Fi2 Em2 (Or.inr ⟨(hw _ (own_m 74 rfl)), rfl, hnm⟩) (hw _ (own_m 13 rfl)) (ty := (.object "java/lang/String")) (by decide) rfl rfl (g := (mkF m 10 #[own_vr a, own_vr q, own_vr ii, .val .null] [(.ref ii), (.ref a)])) rfl rfl (hb hby own_d42_10)
 refine own_st st3 ?_
 have Fw3 := Fi2.same W3
 have N3 := Fr.snoc X3 N2 ga
 have O0_x3 := O0_x2.wr W3 ga
 have Em2_x3 := Em2.wr W3
 have EQ_x3 := EQ_x2.wr W3
 have FM_x3 := FM_x2.other W3 (Or.inl hqa)
 have K0_x3 := K0_x2.wr W3 (Or.inl (List.mem_of_getElem? (i := 0) rfl))
 have Fm2_x3 := Fm2.other W3 (Or.inr (slot_ne (Or.inl (hw _ (own_m 68 rfl))) (Or.inr (hw _ (own_m 74 rfl))) (by decide) (t := (.object "java/lang/String")) (t' := (.object "java/lang/String")) (by decide) (by decide)))
 have Fp2_x3 := Fp2.other W3 (Or.inr (slot_ne (Or.inr (hw _ (own_m 76 rfl))) (Or.inr (hw _ (own_m 74 rfl))) (by decide) (t := (.object "java/lang/String")) (t' := (.object "java/lang/String")) (by decide) (by decide)))
 refine own_aloadN X3 hx hby own_d42_13 rfl rfl rfl ?_
 refine own_aloadN X3 hx hby own_d42_14 rfl rfl rfl ?_
 obtain ⟨T4, h4, X4, e4, W4, st4⟩ := putF X3 hx hZ hown (host := "") (Or.inl (hw _ (own_m 75 rfl))) Via.refl e3 Fp2_x3 Em2_x3 (Or.inr ⟨(hw _ (own_m 76 rfl)), rfl, hnm⟩) (hw _ (own_m 13 rfl)) (ty := (.object "java/lang/String")) (by decide) rfl rfl (g := (mkF m 15 #[own_vr a, own_vr q, own_vr ii, .val .null] [.null, (.ref a)])) rfl rfl (hb hby own_d42_15)
 refine own_st st4 ?_
 have Fw4 := Fp2_x3.same W4
 have N4 := Fr.snoc X4 N3 ga
 have O0_x4 := O0_x3.wr W4 ga
 have Em2_x4 := Em2_x3.wr W4
 have EQ_x4 := EQ_x3.wr W4
 have FM_x4 := FM_x3.other W4 (Or.inl hqa)
 have K0_x4 := K0_x3.wr W4 (Or.inl (List.mem_of_getElem? (i := 0) rfl))
 have Fm2_x4 := Fm2_x3.other W4 (Or.inr (slot_ne (Or.inl (hw _ (own_m 68 rfl))) (Or.inr (hw _ (own_m 76 rfl))) (by decide) (t := (.object "java/lang/String")) (t' := (.object "java/lang/String")) (by decide) (by decide)))
 have Fw3_x4 := Fw3.other W4 (Or.inr (slot_ne (Or.inr (hw _ (own_m 74 rfl))) (Or.inr (hw _ (own_m 76 rfl))) (by decide) (t := (.object "java/lang/String")) (t' := (.object "java/lang/String")) (by decide) (by decide)))
 show own_Rch _ _ _ _ T4 (mkF m 18 #[own_vr a, own_vr q, own_vr ii, .val .null] [])
 refine own_retV X4 hx Bd.notSynchronized Bd.returns (hb hby own_d42_18) (by decide) (by decide) ?_
 rw [e4]
 exact ⟨rfl, N4, K0_x4, Em2_x4, Fm2_x4, Fw3_x4, Fw4⟩
theorem own_ef42n2 (m : MethodId) (x0 : Addr) (x1 : Addr) (x3 : Addr) : entryFrame m #[(.ref x0), (.ref x1), .null, (.ref x3)] 4 = mkF m 0 #[own_vr x0, own_vr x1, .val .null, own_vr x3] [] := by first | (simp [entryFrame, mkF, argsToLocals, Value.category]; done) | rfl
def own_Q_own_me3_NR (Z : State) (a : Addr) (q : Addr) (mm : Addr) (pp : Addr) (ua : Addr) (se : Addr) (h0 : Heap) (n0 : Nat) (v : Option Value) (h : Heap) (L : List Loc) : Prop := v = none ∧ Fr n0 L ∧ Keep h0 h [a] ∧ Exa Z h a "com/example/makewhole/makewhole/member/MemberRecordException" ∧ Fld Z h a "java/lang/Throwable" "detailMessage" "Ljava/lang/String;" (.ref mm) ∧ Fld Z h a "com/example/makewhole/makewhole/member/MemberRecordException" "id" "Ljava/lang/String;" .null ∧ Fld Z h a "com/example/makewhole/makewhole/member/MemberRecordException" "place" "Ljava/lang/String;" (.ref pp)
theorem own_me3_NR (l : Launch) (Z : State) (a0 : Array Value) (hw : ∀ d ∈ tables_1, d.before a0 Z = true) (ws : List Jvm.Cond) (a : Addr) (q : Addr) (mm : Addr) (pp : Addr) (ua : Addr) (se : Addr) (h0 : Heap) (n0 : Nat) (O0 : Old Z n0 h0) (hlt : l.stackTraces = true) (SU : Sta Z Z.heap "java/lang/Throwable" "UNASSIGNED_STACK" "[Ljava/lang/StackTraceElement;" (.ref ua)) (SQ : Sta Z Z.heap "java/lang/Throwable" "SUPPRESSED_SENTINEL" "Ljava/util/List;" (.ref se)) (EA : Exa Z h0 a "com/example/makewhole/makewhole/member/MemberRecordException") (UA : Unt h0 a) (J0 : Fld Z h0 a "java/lang/Throwable" "cause" "Ljava/lang/Throwable;" .null) (J1 : Fld Z h0 a "java/lang/Throwable" "stackTrace" "[Ljava/lang/StackTraceElement;" .null) (J2 : Fld Z h0 a "java/lang/Throwable" "suppressedExceptions" "Ljava/util/List;" .null) (J3 : Fld Z h0 a "java/lang/Throwable" "detailMessage" "Ljava/lang/String;" .null) (J4 : Fld Z h0 a "java/lang/Throwable" "backtrace" "Ljava/lang/Object;" .null) (XI : Fld Z h0 a "com/example/makewhole/makewhole/member/MemberRecordException" "id" "Ljava/lang/String;" .null) (XP : Fld Z h0 a "com/example/makewhole/makewhole/member/MemberRecordException" "place" "Ljava/lang/String;" .null) (ga : n0 ≤ a) (EQ : Exa Z h0 q "com/example/makewhole/makewhole/member/MemberRecordException") (FM : Fld Z h0 q "java/lang/Throwable" "detailMessage" "Ljava/lang/String;" (.ref mm)) (hqa : q ≠ a) :
    own_MtK l own_y38 own_c42 4 none ws (own_r 6 1 2752 81) #[(.ref a), (.ref q), .null, (.ref pp)] Z h0 (own_Q_own_me3_NR Z a q mm pp ua se h0 n0) := by
 refine MetFree.of_bodySF (plainFor_of_name own_pn12) hisR ?_
 intro p_ e s m args below meth c_ s₁ Bd hml0 hP hK
 obtain ⟨rfl, hZ, hh⟩ := hP
 obtain ⟨hTK, hFK⟩ := hK
 have hx := Bd.exec
 have hby := Bd.bytes
 have hml : c_.maxLocals = 4 := hml0
 have hown : s.vm.findClass "com/example/makewhole/makewhole/member/MemberRecordException" = some m.cls := findClass_of_methodNamed Bd.named
 have hnm := (name_of_methodNamed Bd.named Bd.method).1
 have X0 : Stand p_ l e (own_r 6 1 2752 81) s m #[(.ref a), (.ref q), .null, (.ref pp)] below meth c_ s₁ [] 0 0 := Stand.of_body Bd
 have e0 : s₁.heap = h0 := by rw [← hh, Bd.state]; rfl
 have N0 := Fr.nil n0
 refine own_close (s := s) (Q := (own_Q_own_me3_NR Z a q mm pp ua se h0 n0)) (own_st (fun _ => castTop (own_ef42n2 m a q pp)) ?_)
 have K0 := Keep.refl h0 [a]
 show own_Rch _ _ _ _ s₁ (mkF m 0 #[own_vr a, own_vr q, .val .null, own_vr pp] [])
 refine own_aloadN X0 hx hby own_d42_0 rfl rfl rfl ?_
 refine own_aloadN X0 hx hby own_d42_1 rfl rfl rfl ?_
 obtain ⟨cq1, kq1, q1a, q1b, q1c⟩ := isOf hZ e0 EQ
 obtain ⟨_, _, ⟨T1, L1, k1, n1⟩, -, X1, ⟨Lc1, hQ1, l1, y1, z1⟩, st1⟩ := X0.virtualBackUp hx (owner := "java/lang/Throwable") (x := own_y37) (y := own_y36) hown (mvT hZ (hw _ (own_m 273 rfl))) (mvT hZ (hw _ (own_m 274 rfl))) (mvT hZ (hw _ (own_m 275 rfl))) (by decide) (mvT hZ (hw _ (own_m 277 rfl))) (mvT hZ (hw _ (own_m 276 rfl))) (backOf (W := 1) (own_gm l Z a0 hw [] q mm h0 n0 O0 FM) hZ (hw _ (own_m 278 rfl)) (hw _ (own_m 32 rfl)) (by decide) (by decide)) q1a q1c (g := (mkF m 2 #[own_vr a, own_vr q, .val .null, own_vr pp] [(.ref q), (.ref a)])) rfl (by rw [hml]; rfl) (Steps.refl _) (argsL := []) (rest := [(.ref a)]) (lenOf own_pd23 rfl) rfl (by show 2 * 0 + _ ≤ _; exact Nat.le_of_eq rfl) (hb hby own_d42_2) (fun _ _ => ⟨rfl, e0, (by decide : 0 + 0 ≤ _), (by decide : 0 + 0 ≤ _)⟩)
 dsimp only [Pt.U, Pt.locs, Pt.cells, Pt.slots] at X1 l1 y1 z1 st1 hQ1
 subst l1 y1 z1
 obtain ⟨rfl, N1q, hh1⟩ := hQ1
 have N1 := Fr.app N0 N1q
 refine own_st (fun _ kt => st1.trans kt) ?_
 obtain ⟨_, _, ⟨T2, L2, k2, n2⟩, -, X2, ⟨Lc2, hQ2, l2, y2, z2⟩, st2⟩ := X1.specialBack hx (y := own_y34) rfl hown (mvT hZ (hw _ (own_m 18 rfl))) (mvT hZ (hw _ (own_m 19 rfl))) (mvT hZ (hw _ (own_m 22 rfl))) (by decide) (backOfKL (W := 0) (own_rfi l Z a0 hw [] a mm ua se h0 n0 O0 hlt SU SQ EA UA J0 J1 J2 J3 J4 XI XP ga) hZ (hw _ (own_m 22 rfl)) (hw _ (own_m 21 rfl)) (by decide) (by decide) hTK hFK) (g := (mkF m 5 #[own_vr a, own_vr q, .val .null, own_vr pp] [(.ref mm), (.ref a)])) rfl (by rw [hml]; rfl) (Steps.refl _) (a := a) (argsL := [(.ref mm)]) (rest := []) (lenOf own_pd1 rfl) rfl (by show 2 * 0 + _ ≤ _; exact Nat.le_of_eq rfl) (hb hby own_d42_5) (fun _ _ => ⟨rfl, hh1, (by decide : 0 + 1 ≤ _), (by decide : 0 + 2752 ≤ _)⟩)
 dsimp only [Pt.U, Pt.locs, Pt.cells, Pt.slots] at X2 l2 y2 z2 st2 hQ2
 subst l2 y2 z2
 obtain ⟨rfl, N2q, K2, Em2, Fm2, Fi2, Fp2⟩ := hQ2
 have N2 := Fr.app N1 N2q
 refine own_st (fun _ kt => st2.trans kt) ?_
 have O0_x2 := O0.keep K2 (allS ga all0)
 have EA_x2 := EA.keep K2
 have EQ_x2 := EQ.keep K2
 have FM_x2 := FM.keep K2 (ninS hqa nin0)
 have K0_x2 := K0.trans K2 (allS (Or.inl (List.mem_of_getElem? (i := 0) rfl)) all0)
 refine own_aloadN X2 hx hby own_d42_8 rfl rfl rfl ?_
 refine own_aloadN X2 hx hby own_d42_9 rfl rfl rfl ?_
 obtain ⟨T3, h3, X3, e3, W3, st3⟩ := putF X2 hx hZ hown (host := "") (Or.inl (hw _ (own_m 73 rfl))) Via.refl rfl Fi2 Em2 (Or.inr ⟨(hw _ (own_m 74 rfl)), rfl, hnm⟩) (hw _ (own_m 13 rfl)) (ty := (.object "java/lang/String")) (by decide) rfl rfl (g := (mkF m 10 #[own_vr a, own_vr q, .val .null, own_vr pp] [.null, (.ref a)])) rfl rfl (hb hby own_d42_10)
 refine own_st st3 ?_
 have Fw3 := Fi2.same W3
 have N3 := Fr.snoc X3 N2 ga
 have O0_x3 := O0_x2.wr W3 ga
 have Em2_x3 := Em2.wr W3
 have EQ_x3 := EQ_x2.wr W3
 have FM_x3 := FM_x2.other W3 (Or.inl hqa)
 have K0_x3 := K0_x2.wr W3 (Or.inl (List.mem_of_getElem? (i := 0) rfl))
 have Fm2_x3 := Fm2.other W3 (Or.inr (slot_ne (Or.inl (hw _ (own_m 68 rfl))) (Or.inr (hw _ (own_m 74 rfl))) (by decide) (t := (.object "java/lang/String")) (t' := (.object "java/lang/String")) (by decide) (by decide)))
 have Fp2_x3 := Fp2.other W3 (Or.inr (slot_ne (Or.inr (hw _ (own_m 76 rfl))) (Or.inr (hw _ (own_m 74 rfl))) (by decide) (t := (.object "java/lang/String")) (t' := (.object "java/lang/String")) (by decide) (by decide)))
 refine own_aloadN X3 hx hby own_d42_13 rfl rfl rfl ?_
 refine own_aloadN X3 hx hby own_d42_14 rfl rfl rfl ?_
 obtain ⟨T4, h4, X4, e4, W4, st4⟩ := putF X3 hx hZ hown (host := "") (Or.inl (hw _ (own_m 75 rfl))) Via.refl e3 Fp2_x3 Em2_x3 (Or.inr ⟨(hw _ (own_m 76 rfl)), rfl, hnm⟩) (hw _ (own_m 13 rfl)) (ty := (.object "java/lang/String")) (by decide) rfl rfl (g := (mkF m 15 #[own_vr a, own_vr q, .val .null, own_vr pp] [(.ref pp), (.ref a)])) rfl rfl (hb hby own_d42_15)
 refine own_st st4 ?_
 have Fw4 := Fp2_x3.same W4
 have N4 := Fr.snoc X4 N3 ga
 have O0_x4 := O0_x3.wr W4 ga
 have Em2_x4 := Em2_x3.wr W4
 have EQ_x4 := EQ_x3.wr W4
 have FM_x4 := FM_x3.other W4 (Or.inl hqa)
 have K0_x4 := K0_x3.wr W4 (Or.inl (List.mem_of_getElem? (i := 0) rfl))
 have Fm2_x4 := Fm2_x3.other W4 (Or.inr (slot_ne (Or.inl (hw _ (own_m 68 rfl))) (Or.inr (hw _ (own_m 76 rfl))) (by decide) (t := (.object "java/lang/String")) (t' := (.object "java/lang/String")) (by decide) (by decide)))
 have Fw3_x4 := Fw3.other W4 (Or.inr (slot_ne (Or.inr (hw _ (own_m 74 rfl))) (Or.inr (hw _ (own_m 76 rfl))) (by decide) (t := (.object "java/lang/String")) (t' := (.object "java/lang/String")) (by decide) (by decide)))
 show own_Rch _ _ _ _ T4 (mkF m 18 #[own_vr a, own_vr q, .val .null, own_vr pp] [])
 refine own_retV X4 hx Bd.notSynchronized Bd.returns (hb hby own_d42_18) (by decide) (by decide) ?_
 rw [e4]
 exact ⟨rfl, N4, K0_x4, Em2_x4, Fm2_x4, Fw3_x4, Fw4⟩
theorem own_pn13 : plainName "java/util/Optional" = true := by first | (simp [plainName, overriddenIn]; done) | decide +kernel
theorem own_ef53 (m : MethodId) (x0 : Addr) (x1 : Addr) : entryFrame m #[(.ref x0), (.ref x1)] 2 = mkF m 0 #[own_vr x0, own_vr x1] [] := by first | (simp [entryFrame, mkF, argsToLocals, Value.category]; done) | rfl
abbrev own_c53 : ByteArray := jdk_32_method_2_code
theorem own_d53_0 : decode own_c53 0 = .ok (.aload_n 0, 1) := by decide +kernel
theorem own_d53_1 : decode own_c53 1 = .ok (.invokespecial 7, 3) := by decide +kernel
theorem own_d53_4 : decode own_c53 4 = .ok (.aload_n 0, 1) := by decide +kernel
theorem own_d53_5 : decode own_c53 5 = .ok (.aload_n 1, 1) := by decide +kernel
theorem own_d53_6 : decode own_c53 6 = .ok (.putfield 13, 3) := by decide +kernel
theorem own_d53_9 : decode own_c53 9 = .ok (.return_, 1) := by decide +kernel
abbrev own_y39 : MethodName := ⟨"java/util/Optional", "<init>", "(Ljava/lang/Object;)V"⟩
def own_Q_own_oi (Z : State) (o : Addr) (x : Addr) (h0 : Heap) (n0 : Nat) (v : Option Value) (h : Heap) (L : List Loc) : Prop := v = none ∧ Fr n0 L ∧ Keep h0 h [o] ∧ Exa Z h o "java/util/Optional" ∧ Fld Z h o "java/util/Optional" "value" "Ljava/lang/Object;" (.ref x)
theorem own_oi (l : Launch) (Z : State) (a0 : Array Value) (hw : ∀ d ∈ tables_1, d.before a0 Z = true) (ws : List Jvm.Cond) (o : Addr) (x : Addr) (h0 : Heap) (n0 : Nat) (O0 : Old Z n0 h0) (EO : Exa Z h0 o "java/util/Optional") (FO : Fld Z h0 o "java/util/Optional" "value" "Ljava/lang/Object;" .null) (go : n0 ≤ o) :
    own_Mt l own_y39 own_c53 2 none ws (own_r 1 0 0 12) #[(.ref o), (.ref x)] Z h0 (own_Q_own_oi Z o x h0 n0) := by
 refine MetFree.of_bodySF (plainFor_of_name own_pn13) hisR ?_
 intro p_ e s m args below meth c_ s₁ Bd hml0 hP hK
 obtain ⟨rfl, hZ, hh⟩ := hP
 have hx := Bd.exec
 have hby := Bd.bytes
 have hml : c_.maxLocals = 2 := hml0
 have hown : s.vm.findClass "java/util/Optional" = some m.cls := findClass_of_methodNamed Bd.named
 have hnm := (name_of_methodNamed Bd.named Bd.method).1
 have X0 : Stand p_ l e (own_r 1 0 0 12) s m #[(.ref o), (.ref x)] below meth c_ s₁ [] 0 0 := Stand.of_body Bd
 have e0 : s₁.heap = h0 := by rw [← hh, Bd.state]; rfl
 have N0 := Fr.nil n0
 refine own_close (s := s) (Q := (own_Q_own_oi Z o x h0 n0)) (own_st (fun _ => castTop (own_ef53 m o x)) ?_)
 have K0 := Keep.refl h0 [o]
 show own_Rch _ _ _ _ s₁ (mkF m 0 #[own_vr o, own_vr x] [])
 refine own_aloadN X0 hx hby own_d53_0 rfl rfl rfl ?_
 obtain ⟨T1, X1, e1, st1⟩ := initO X0 hx hZ hown (hw _ (own_m 341 rfl)) (hw _ (own_m 35 rfl)) (hw _ (own_m 36 rfl)) e0 (g := (mkF m 1 #[own_vr o, own_vr x] [(.ref o)])) rfl (by rw [hml]; rfl) rfl (hb hby own_d53_1) (by decide) (W := 0) (by show 2 * 0 + _ ≤ _; exact Nat.le_of_eq rfl) (by decide)
 refine own_st st1 ?_
 refine own_aloadN X1 hx hby own_d53_4 rfl rfl rfl ?_
 refine own_aloadN X1 hx hby own_d53_5 rfl rfl rfl ?_
 obtain ⟨T2, h2, X2, e2, W2, st2⟩ := putF X1 hx hZ hown (host := "") (Or.inl (hw _ (own_m 127 rfl))) Via.refl e1 FO EO (Or.inr ⟨(hw _ (own_m 128 rfl)), rfl, hnm⟩) (hw _ (own_m 336 rfl)) (ty := (.object "java/lang/Object")) (by decide) rfl rfl (g := (mkF m 6 #[own_vr o, own_vr x] [(.ref x), (.ref o)])) rfl rfl (hb hby own_d53_6)
 refine own_st st2 ?_
 have Fw2 := FO.same W2
 have N2 := Fr.snoc X2 N0 go
 have O0_x2 := O0.wr W2 go
 have EO_x2 := EO.wr W2
 have K0_x2 := K0.wr W2 (Or.inl (List.mem_of_getElem? (i := 0) rfl))
 show own_Rch _ _ _ _ T2 (mkF m 9 #[own_vr o, own_vr x] [])
 refine own_retV X2 hx Bd.notSynchronized Bd.returns (hb hby own_d53_9) (by decide) (by decide) ?_
 rw [e2]
 exact ⟨rfl, N2, K0_x2, EO_x2, Fw2⟩
theorem own_ef14n0 (m : MethodId)  : entryFrame m #[.null] 1 = mkF m 0 #[.val .null] [] := by first | (simp [entryFrame, mkF, argsToLocals, Value.category]; done) | rfl
abbrev own_c14 : ByteArray := jdk_32_method_4_code
theorem own_d14_0 : decode own_c14 0 = .ok (.aload_n 0, 1) := by decide +kernel
theorem own_d14_1 : decode own_c14 1 = .ok (.ifnonnull 9, 3) := by decide +kernel
theorem own_d14_4 : decode own_c14 4 = .ok (.getstatic 1, 3) := by decide +kernel
theorem own_d14_7 : decode own_c14 7 = .ok (.goto 11, 3) := by decide +kernel
theorem own_d14_18 : decode own_c14 18 = .ok (.areturn, 1) := by decide +kernel
abbrev own_y40 : MethodName := ⟨"java/util/Optional", "ofNullable", "(Ljava/lang/Object;)Ljava/util/Optional;"⟩
def own_Q_own_onN (Z : State) (eo : Addr) (h0 : Heap) (n0 : Nat) (v : Option Value) (h : Heap) (L : List Loc) : Prop := v = some (.ref eo) ∧ Fr n0 L ∧ h = h0
theorem own_onN (l : Launch) (Z : State) (a0 : Array Value) (hw : ∀ d ∈ tables_1, d.before a0 Z = true) (ws : List Jvm.Cond) (eo : Addr) (h0 : Heap) (n0 : Nat) (O0 : Old Z n0 h0) (SP : Sta Z Z.heap "java/util/Optional" "EMPTY" "Ljava/util/Optional;" (.ref eo)) :
    own_Mt l own_y40 own_c14 1 (some (.object "java/util/Optional")) ws (own_r 0 0 0 0) #[.null] Z h0 (own_Q_own_onN Z eo h0 n0) := by
 refine MetFree.of_bodySF (plainFor_of_name own_pn13) hisR ?_
 intro p_ e s m args below meth c_ s₁ Bd hml0 hP hK
 obtain ⟨rfl, hZ, hh⟩ := hP
 have hx := Bd.exec
 have hby := Bd.bytes
 have hml : c_.maxLocals = 1 := hml0
 have hown : s.vm.findClass "java/util/Optional" = some m.cls := findClass_of_methodNamed Bd.named
 have hnm := (name_of_methodNamed Bd.named Bd.method).1
 have X0 : Stand p_ l e (own_r 0 0 0 0) s m #[.null] below meth c_ s₁ [] 0 0 := Stand.of_body Bd
 have e0 : s₁.heap = h0 := by rw [← hh, Bd.state]; rfl
 have N0 := Fr.nil n0
 refine own_close (s := s) (Q := (own_Q_own_onN Z eo h0 n0)) (own_st (fun _ => castTop (own_ef14n0 m )) ?_)
 show own_Rch _ _ _ _ s₁ (mkF m 0 #[.val .null] [])
 refine own_aloadN X0 hx hby own_d14_0 rfl rfl rfl ?_
 show own_Rch _ _ _ _ s₁ (mkF m 1 #[.val .null] [.null])
 refine own_st (fun _ => XS.ifnonnullNo X0.here hx rfl (hb hby own_d14_1) rfl) ?_
 obtain ⟨T1, X1, e1, st1⟩ := getS2 X0 hx hZ hown (host := "") (Or.inl (hw _ (own_m 121 rfl))) Via.refl e0 (SP.ext O0.2) (g := (mkF m 4 #[.val .null] [])) rfl (hb hby own_d14_4)
 refine own_st st1 ?_
 refine own_st (fun _ => XS.goto X1.here hx rfl (pc0 := 7) (pc' := 18) rfl (hb hby own_d14_7) (by decide) (by decide)) ?_
 show own_Rch _ _ _ _ T1 (mkF m 18 #[.val .null] [(.ref eo)])
 refine own_retA rfl rfl X1 hx Bd.notSynchronized Bd.returns (hb hby own_d14_18) (by decide) (by decide) ?_
 rw [e1]
 exact ⟨rfl, N0, rfl⟩
theorem own_ef14 (m : MethodId) (x0 : Addr) : entryFrame m #[(.ref x0)] 1 = mkF m 0 #[own_vr x0] [] := by first | (simp [entryFrame, mkF, argsToLocals, Value.category]; done) | rfl
theorem own_d14_10 : decode own_c14 10 = .ok (.new 2, 3) := by decide +kernel
theorem own_d14_13 : decode own_c14 13 = .ok (.dup, 1) := by decide +kernel
theorem own_d14_14 : decode own_c14 14 = .ok (.aload_n 0, 1) := by decide +kernel
theorem own_d14_15 : decode own_c14 15 = .ok (.invokespecial 23, 3) := by decide +kernel
theorem own_pd34 : parseMethodDescriptor "(Ljava/lang/Object;)V" = some ⟨[(.object "java/lang/Object")], none⟩ := by decide +kernel
def own_Q_own_onR (Z : State) (x : Addr) (h0 : Heap) (n0 : Nat) (v : Option Value) (h : Heap) (L : List Loc) : Prop := ∃ o : Addr, v = some (.ref o) ∧ Fr n0 L ∧ Keep h0 h [] ∧ h0.size ≤ o ∧ Exa Z h o "java/util/Optional" ∧ Fld Z h o "java/util/Optional" "value" "Ljava/lang/Object;" (.ref x)
theorem own_onR (l : Launch) (Z : State) (a0 : Array Value) (hw : ∀ d ∈ tables_1, d.before a0 Z = true) (ws : List Jvm.Cond) (x : Addr) (h0 : Heap) (n0 : Nat) (O0 : Old Z n0 h0) :
    own_Mt l own_y40 own_c14 1 (some (.object "java/util/Optional")) ws (own_r 2 1 1 26) #[(.ref x)] Z h0 (own_Q_own_onR Z x h0 n0) := by
 refine MetFree.of_bodySF (plainFor_of_name own_pn13) hisR ?_
 intro p_ e s m args below meth c_ s₁ Bd hml0 hP hK
 obtain ⟨rfl, hZ, hh⟩ := hP
 have hx := Bd.exec
 have hby := Bd.bytes
 have hml : c_.maxLocals = 1 := hml0
 have hown : s.vm.findClass "java/util/Optional" = some m.cls := findClass_of_methodNamed Bd.named
 have hnm := (name_of_methodNamed Bd.named Bd.method).1
 have X0 : Stand p_ l e (own_r 2 1 1 26) s m #[(.ref x)] below meth c_ s₁ [] 0 0 := Stand.of_body Bd
 have e0 : s₁.heap = h0 := by rw [← hh, Bd.state]; rfl
 have N0 := Fr.nil n0
 refine own_close (s := s) (Q := (own_Q_own_onR Z x h0 n0)) (own_st (fun _ => castTop (own_ef14 m x)) ?_)
 have K0 := Keep.refl h0 []
 show own_Rch _ _ _ _ s₁ (mkF m 0 #[own_vr x] [])
 refine own_aloadN X0 hx hby own_d14_0 rfl rfl rfl ?_
 show own_Rch _ _ _ _ s₁ (mkF m 1 #[own_vr x] [(.ref x)])
 refine own_st (fun _ => XS.ifnonnullYes X0.here hx rfl (pc0 := 1) (pc' := 10) rfl (hb hby own_d14_1) rfl (by decide) (by decide)) ?_
 obtain ⟨T1, h1, X1, e1, E1, A1, D1, U1, st1⟩ := newO X0 hx hZ hown (hw _ (own_m 335 rfl)) (hw _ (own_m 336 rfl)) (hw _ (own_m 119 rfl)) e0 (g := (mkF m 10 #[own_vr x] [])) rfl (hb hby own_d14_10) (by decide) (by decide)
 obtain ⟨b1, g1⟩ : ∃ z, z = h0.size := ⟨_, rfl⟩
 rw [← g1] at A1 D1 U1 st1
 have ge1 : n0 ≤ b1 := by rw [g1]; exact own_old_le O0
 have sz1 : h0.size ≤ b1 := by rw [g1]; exact K0.1
 have O0_x1 := O0.ext E1
 have K0_x1 := K0.ext E1
 refine own_st st1 ?_
 have F1_value : Fld Z h1 b1 "java/util/Optional" "value" "Ljava/lang/Object;" .null := D1 (Or.inr (hw _ (own_m 128 rfl))) (ty := (.object "java/lang/Object")) (by decide)
 refine own_dup X1 hx hby own_d14_13 rfl rfl rfl ?_
 refine own_aloadN X1 hx hby own_d14_14 rfl rfl rfl ?_
 obtain ⟨_, _, ⟨T2, L2, k2, n2⟩, -, X2, ⟨Lc2, hQ2, l2, y2, z2⟩, st2⟩ := X1.specialBack hx (y := own_y39) rfl hown (mvT hZ (hw _ (own_m 337 rfl))) (mvT hZ (hw _ (own_m 338 rfl))) (mvT hZ (hw _ (own_m 340 rfl))) (by decide) (backOf (W := 1) (own_oi l Z a0 hw [] b1 x h1 n0 O0_x1 A1 F1_value ge1) hZ (hw _ (own_m 340 rfl)) (hw _ (own_m 119 rfl)) (by decide) (by decide)) (g := (mkF m 15 #[own_vr x] [(.ref x), (.ref b1), (.ref b1)])) rfl (by rw [hml]; rfl) (Steps.refl _) (a := b1) (argsL := [(.ref x)]) (rest := [(.ref b1)]) (lenOf own_pd34 rfl) rfl (by show 2 * 0 + _ ≤ _; exact Nat.le_of_eq rfl) (hb hby own_d14_15) (fun _ _ => ⟨rfl, e1, (by decide : 1 + 0 ≤ _), (by decide : 1 + 0 ≤ _)⟩)
 dsimp only [Pt.U, Pt.locs, Pt.cells, Pt.slots] at X2 l2 y2 z2 st2 hQ2
 subst l2 y2 z2
 obtain ⟨rfl, N2q, K2, Eo2, Fo2⟩ := hQ2
 have N2 := Fr.app N0 N2q
 refine own_st (fun _ kt => st2.trans kt) ?_
 have O0_x2 := O0_x1.keep K2 (allS ge1 all0)
 have K0_x2 := K0_x1.trans K2 (allS (Or.inr sz1) all0)
 have A1_x2 := A1.keep K2
 show own_Rch _ _ _ _ T2 (mkF m 18 #[own_vr x] [(.ref b1)])
 refine own_retA rfl rfl X2 hx Bd.notSynchronized Bd.returns (hb hby own_d14_18) (by decide) (by decide) ?_
 exact ⟨_, rfl, N2, K0_x2, sz1, Eo2, Fo2⟩
theorem own_ef13 (m : MethodId) (x0 : Addr) : entryFrame m #[(.ref x0)] 1 = mkF m 0 #[own_vr x0] [] := by first | (simp [entryFrame, mkF, argsToLocals, Value.category]; done) | rfl
abbrev own_c13 : ByteArray := prog_26_method_4_code
theorem own_d13_0 : decode own_c13 0 = .ok (.aload_n 0, 1) := by decide +kernel
theorem own_d13_1 : decode own_c13 1 = .ok (.getfield 7, 3) := by decide +kernel
theorem own_d13_4 : decode own_c13 4 = .ok (.invokestatic 23, 3) := by decide +kernel
theorem own_pd35 : parseMethodDescriptor "(Ljava/lang/Object;)Ljava/util/Optional;" = some ⟨[(.object "java/lang/Object")], some (.object "java/util/Optional")⟩ := by decide +kernel
theorem own_d13_7 : decode own_c13 7 = .ok (.areturn, 1) := by decide +kernel
abbrev own_y41 : MethodName := ⟨"com/example/makewhole/makewhole/member/MemberRecordException", "getId", "()Ljava/util/Optional;"⟩
def own_Q_own_giR (Z : State) (q : Addr) (x : Addr) (h0 : Heap) (n0 : Nat) (v : Option Value) (h : Heap) (L : List Loc) : Prop := ∃ o : Addr, v = some (.ref o) ∧ Fr n0 L ∧ Keep h0 h [] ∧ h0.size ≤ o ∧ Exa Z h o "java/util/Optional" ∧ Fld Z h o "java/util/Optional" "value" "Ljava/lang/Object;" (.ref x)
theorem own_giR (l : Launch) (Z : State) (a0 : Array Value) (hw : ∀ d ∈ tables_1, d.before a0 Z = true) (ws : List Jvm.Cond) (q : Addr) (x : Addr) (h0 : Heap) (n0 : Nat) (O0 : Old Z n0 h0) (FI : Fld Z h0 q "com/example/makewhole/makewhole/member/MemberRecordException" "id" "Ljava/lang/String;" (.ref x)) :
    own_Mt l own_y41 own_c13 1 (some (.object "java/util/Optional")) ws (own_r 3 1 1 38) #[(.ref q)] Z h0 (own_Q_own_giR Z q x h0 n0) := by
 refine MetFree.of_bodySF (plainFor_of_name own_pn12) hisR ?_
 intro p_ e s m args below meth c_ s₁ Bd hml0 hP hK
 obtain ⟨rfl, hZ, hh⟩ := hP
 have hx := Bd.exec
 have hby := Bd.bytes
 have hml : c_.maxLocals = 1 := hml0
 have hown : s.vm.findClass "com/example/makewhole/makewhole/member/MemberRecordException" = some m.cls := findClass_of_methodNamed Bd.named
 have hnm := (name_of_methodNamed Bd.named Bd.method).1
 have X0 : Stand p_ l e (own_r 3 1 1 38) s m #[(.ref q)] below meth c_ s₁ [] 0 0 := Stand.of_body Bd
 have e0 : s₁.heap = h0 := by rw [← hh, Bd.state]; rfl
 have N0 := Fr.nil n0
 refine own_close (s := s) (Q := (own_Q_own_giR Z q x h0 n0)) (own_st (fun _ => castTop (own_ef13 m q)) ?_)
 have K0 := Keep.refl h0 []
 show own_Rch _ _ _ _ s₁ (mkF m 0 #[own_vr q] [])
 refine own_aloadN X0 hx hby own_d13_0 rfl rfl rfl ?_
 obtain ⟨T1, X1, e1, st1⟩ := own_gF X0 hx hZ hown (hw _ (own_m 73 rfl)) e0 FI (g := (mkF m 1 #[own_vr q] [(.ref q)])) rfl rfl (hb hby own_d13_1)
 refine own_st st1 ?_
 obtain ⟨_, _, ⟨T2, L2, k2, n2⟩, -, X2, ⟨Lc2, hQ2, l2, y2, z2⟩, st2⟩ := Jvm.LawKit.callS X1 hx (y := own_y40) hown (mvT hZ (hw _ (own_m 117 rfl))) (mvT hZ (hw _ (own_m 118 rfl))) (mvT hZ (hw _ (own_m 119 rfl))) (mvT hZ (hw _ (own_m 120 rfl))) (by decide) (backOf (W := 0) (own_onR l Z a0 hw [] x h0 n0 O0 ) hZ (hw _ (own_m 120 rfl)) (hw _ (own_m 119 rfl)) (by decide) (by decide)) (g := (mkF m 4 #[own_vr q] [(.ref x)])) rfl (by rw [hml]; rfl) (argsL := [(.ref x)]) (rest := []) (lenOf own_pd35 rfl) rfl (by show 2 * 0 + _ ≤ _; exact Nat.le_of_eq rfl) (hb hby own_d13_4) (fun _ _ => ⟨rfl, e1, (by decide : 0 + 1 ≤ _), (by decide : 0 + 1 ≤ _)⟩)
 dsimp only [Pt.U, Pt.locs, Pt.cells, Pt.slots] at X2 l2 y2 z2 st2 hQ2
 subst l2 y2 z2
 obtain ⟨oo2, rfl, N2q, K2, ho2, Eo2, Fo2⟩ := hQ2
 have N2 := Fr.app N0 N2q
 refine own_st st2 ?_
 have ne2_q_oo2 : q ≠ oo2 := Nat.ne_of_lt (Nat.lt_of_lt_of_le FI.lt ho2)
 have ge2_oo2 : n0 ≤ oo2 := Nat.le_trans (own_old_le O0) ho2
 have sz2_oo2 : h0.size ≤ oo2 := Nat.le_trans K0.1 ho2
 have O0_x2 := O0.keep K2 all0
 have FI_x2 := FI.keep K2 nin0
 have K0_x2 := K0.trans K2 all0
 show own_Rch _ _ _ _ T2 (mkF m 7 #[own_vr q] [(.ref oo2)])
 refine own_retA rfl rfl X2 hx Bd.notSynchronized Bd.returns (hb hby own_d13_7) (by decide) (by decide) ?_
 exact ⟨_, rfl, N2, K0_x2, sz2_oo2, Eo2, Fo2⟩
def own_Q_own_giN (Z : State) (q : Addr) (eo : Addr) (h0 : Heap) (n0 : Nat) (v : Option Value) (h : Heap) (L : List Loc) : Prop := v = some (.ref eo) ∧ Fr n0 L ∧ h = h0
theorem own_giN (l : Launch) (Z : State) (a0 : Array Value) (hw : ∀ d ∈ tables_1, d.before a0 Z = true) (ws : List Jvm.Cond) (q : Addr) (eo : Addr) (h0 : Heap) (n0 : Nat) (O0 : Old Z n0 h0) (SP : Sta Z Z.heap "java/util/Optional" "EMPTY" "Ljava/util/Optional;" (.ref eo)) (FI : Fld Z h0 q "com/example/makewhole/makewhole/member/MemberRecordException" "id" "Ljava/lang/String;" .null) :
    own_Mt l own_y41 own_c13 1 (some (.object "java/util/Optional")) ws (own_r 1 0 0 12) #[(.ref q)] Z h0 (own_Q_own_giN Z q eo h0 n0) := by
 refine MetFree.of_bodySF (plainFor_of_name own_pn12) hisR ?_
 intro p_ e s m args below meth c_ s₁ Bd hml0 hP hK
 obtain ⟨rfl, hZ, hh⟩ := hP
 have hx := Bd.exec
 have hby := Bd.bytes
 have hml : c_.maxLocals = 1 := hml0
 have hown : s.vm.findClass "com/example/makewhole/makewhole/member/MemberRecordException" = some m.cls := findClass_of_methodNamed Bd.named
 have hnm := (name_of_methodNamed Bd.named Bd.method).1
 have X0 : Stand p_ l e (own_r 1 0 0 12) s m #[(.ref q)] below meth c_ s₁ [] 0 0 := Stand.of_body Bd
 have e0 : s₁.heap = h0 := by rw [← hh, Bd.state]; rfl
 have N0 := Fr.nil n0
 refine own_close (s := s) (Q := (own_Q_own_giN Z q eo h0 n0)) (own_st (fun _ => castTop (own_ef13 m q)) ?_)
 show own_Rch _ _ _ _ s₁ (mkF m 0 #[own_vr q] [])
 refine own_aloadN X0 hx hby own_d13_0 rfl rfl rfl ?_
 obtain ⟨T1, X1, e1, st1⟩ := own_gF X0 hx hZ hown (hw _ (own_m 73 rfl)) e0 FI (g := (mkF m 1 #[own_vr q] [(.ref q)])) rfl rfl (hb hby own_d13_1)
 refine own_st st1 ?_
 obtain ⟨_, _, ⟨T2, L2, k2, n2⟩, -, X2, ⟨Lc2, hQ2, l2, y2, z2⟩, st2⟩ := Jvm.LawKit.callS X1 hx (y := own_y40) hown (mvT hZ (hw _ (own_m 117 rfl))) (mvT hZ (hw _ (own_m 118 rfl))) (mvT hZ (hw _ (own_m 119 rfl))) (mvT hZ (hw _ (own_m 120 rfl))) (by decide) (backOf (W := 0) (own_onN l Z a0 hw [] eo h0 n0 O0 SP) hZ (hw _ (own_m 120 rfl)) (hw _ (own_m 119 rfl)) (by decide) (by decide)) (g := (mkF m 4 #[own_vr q] [.null])) rfl (by rw [hml]; rfl) (argsL := [.null]) (rest := []) (lenOf own_pd35 rfl) rfl (by show 2 * 0 + _ ≤ _; exact Nat.le_of_eq rfl) (hb hby own_d13_4) (fun _ _ => ⟨rfl, e1, (by decide : 0 + 0 ≤ _), (by decide : 0 + 0 ≤ _)⟩)
 dsimp only [Pt.U, Pt.locs, Pt.cells, Pt.slots] at X2 l2 y2 z2 st2 hQ2
 subst l2 y2 z2
 obtain ⟨rfl, N2q, hh2⟩ := hQ2
 have N2 := Fr.app N0 N2q
 refine own_st st2 ?_
 show own_Rch _ _ _ _ T2 (mkF m 7 #[own_vr q] [(.ref eo)])
 refine own_retA rfl rfl X2 hx Bd.notSynchronized Bd.returns (hb hby own_d13_7) (by decide) (by decide) ?_
 rw [hh2]
 exact ⟨rfl, N2, rfl⟩
theorem own_ef52 (m : MethodId) (x0 : Addr) : entryFrame m #[(.ref x0)] 1 = mkF m 0 #[own_vr x0] [] := by first | (simp [entryFrame, mkF, argsToLocals, Value.category]; done) | rfl
abbrev own_c52 : ByteArray := prog_26_method_5_code
theorem own_d52_0 : decode own_c52 0 = .ok (.aload_n 0, 1) := by decide +kernel
theorem own_d52_1 : decode own_c52 1 = .ok (.getfield 13, 3) := by decide +kernel
theorem own_d52_4 : decode own_c52 4 = .ok (.invokestatic 23, 3) := by decide +kernel
theorem own_d52_7 : decode own_c52 7 = .ok (.areturn, 1) := by decide +kernel
abbrev own_y42 : MethodName := ⟨"com/example/makewhole/makewhole/member/MemberRecordException", "getPlace", "()Ljava/util/Optional;"⟩
def own_Q_own_gpR (Z : State) (q : Addr) (x : Addr) (h0 : Heap) (n0 : Nat) (v : Option Value) (h : Heap) (L : List Loc) : Prop := ∃ o : Addr, v = some (.ref o) ∧ Fr n0 L ∧ Keep h0 h [] ∧ h0.size ≤ o ∧ Exa Z h o "java/util/Optional" ∧ Fld Z h o "java/util/Optional" "value" "Ljava/lang/Object;" (.ref x)
theorem own_gpR (l : Launch) (Z : State) (a0 : Array Value) (hw : ∀ d ∈ tables_1, d.before a0 Z = true) (ws : List Jvm.Cond) (q : Addr) (x : Addr) (h0 : Heap) (n0 : Nat) (O0 : Old Z n0 h0) (FI : Fld Z h0 q "com/example/makewhole/makewhole/member/MemberRecordException" "place" "Ljava/lang/String;" (.ref x)) :
    own_Mt l own_y42 own_c52 1 (some (.object "java/util/Optional")) ws (own_r 3 1 1 38) #[(.ref q)] Z h0 (own_Q_own_gpR Z q x h0 n0) := by
 refine MetFree.of_bodySF (plainFor_of_name own_pn12) hisR ?_
 intro p_ e s m args below meth c_ s₁ Bd hml0 hP hK
 obtain ⟨rfl, hZ, hh⟩ := hP
 have hx := Bd.exec
 have hby := Bd.bytes
 have hml : c_.maxLocals = 1 := hml0
 have hown : s.vm.findClass "com/example/makewhole/makewhole/member/MemberRecordException" = some m.cls := findClass_of_methodNamed Bd.named
 have hnm := (name_of_methodNamed Bd.named Bd.method).1
 have X0 : Stand p_ l e (own_r 3 1 1 38) s m #[(.ref q)] below meth c_ s₁ [] 0 0 := Stand.of_body Bd
 have e0 : s₁.heap = h0 := by rw [← hh, Bd.state]; rfl
 have N0 := Fr.nil n0
 refine own_close (s := s) (Q := (own_Q_own_gpR Z q x h0 n0)) (own_st (fun _ => castTop (own_ef52 m q)) ?_)
 have K0 := Keep.refl h0 []
 show own_Rch _ _ _ _ s₁ (mkF m 0 #[own_vr q] [])
 refine own_aloadN X0 hx hby own_d52_0 rfl rfl rfl ?_
 obtain ⟨T1, X1, e1, st1⟩ := own_gF X0 hx hZ hown (hw _ (own_m 75 rfl)) e0 FI (g := (mkF m 1 #[own_vr q] [(.ref q)])) rfl rfl (hb hby own_d52_1)
 refine own_st st1 ?_
 obtain ⟨_, _, ⟨T2, L2, k2, n2⟩, -, X2, ⟨Lc2, hQ2, l2, y2, z2⟩, st2⟩ := Jvm.LawKit.callS X1 hx (y := own_y40) hown (mvT hZ (hw _ (own_m 117 rfl))) (mvT hZ (hw _ (own_m 118 rfl))) (mvT hZ (hw _ (own_m 119 rfl))) (mvT hZ (hw _ (own_m 120 rfl))) (by decide) (backOf (W := 0) (own_onR l Z a0 hw [] x h0 n0 O0 ) hZ (hw _ (own_m 120 rfl)) (hw _ (own_m 119 rfl)) (by decide) (by decide)) (g := (mkF m 4 #[own_vr q] [(.ref x)])) rfl (by rw [hml]; rfl) (argsL := [(.ref x)]) (rest := []) (lenOf own_pd35 rfl) rfl (by show 2 * 0 + _ ≤ _; exact Nat.le_of_eq rfl) (hb hby own_d52_4) (fun _ _ => ⟨rfl, e1, (by decide : 0 + 1 ≤ _), (by decide : 0 + 1 ≤ _)⟩)
 dsimp only [Pt.U, Pt.locs, Pt.cells, Pt.slots] at X2 l2 y2 z2 st2 hQ2
 subst l2 y2 z2
 obtain ⟨oo2, rfl, N2q, K2, ho2, Eo2, Fo2⟩ := hQ2
 have N2 := Fr.app N0 N2q
 refine own_st st2 ?_
 have ne2_q_oo2 : q ≠ oo2 := Nat.ne_of_lt (Nat.lt_of_lt_of_le FI.lt ho2)
 have ge2_oo2 : n0 ≤ oo2 := Nat.le_trans (own_old_le O0) ho2
 have sz2_oo2 : h0.size ≤ oo2 := Nat.le_trans K0.1 ho2
 have O0_x2 := O0.keep K2 all0
 have FI_x2 := FI.keep K2 nin0
 have K0_x2 := K0.trans K2 all0
 show own_Rch _ _ _ _ T2 (mkF m 7 #[own_vr q] [(.ref oo2)])
 refine own_retA rfl rfl X2 hx Bd.notSynchronized Bd.returns (hb hby own_d52_7) (by decide) (by decide) ?_
 exact ⟨_, rfl, N2, K0_x2, sz2_oo2, Eo2, Fo2⟩
theorem own_ef15n1 (m : MethodId) (x0 : Addr) : entryFrame m #[(.ref x0), .null] 2 = mkF m 0 #[own_vr x0, .val .null] [] := by first | (simp [entryFrame, mkF, argsToLocals, Value.category]; done) | rfl
abbrev own_c15 : ByteArray := jdk_32_method_15_code
theorem own_d15_0 : decode own_c15 0 = .ok (.aload_n 0, 1) := by decide +kernel
theorem own_d15_1 : decode own_c15 1 = .ok (.getfield 13, 3) := by decide +kernel
theorem own_d15_4 : decode own_c15 4 = .ok (.ifnull 10, 3) := by decide +kernel
theorem own_d15_14 : decode own_c15 14 = .ok (.aload_n 1, 1) := by decide +kernel
theorem own_d15_15 : decode own_c15 15 = .ok (.areturn, 1) := by decide +kernel
abbrev own_y43 : MethodName := ⟨"java/util/Optional", "orElse", "(Ljava/lang/Object;)Ljava/lang/Object;"⟩
def own_Q_own_oeN (Z : State) (o : Addr) (h0 : Heap) (n0 : Nat) (v : Option Value) (h : Heap) (L : List Loc) : Prop := v = some .null ∧ Fr n0 L ∧ h = h0
theorem own_oeN (l : Launch) (Z : State) (a0 : Array Value) (hw : ∀ d ∈ tables_1, d.before a0 Z = true) (ws : List Jvm.Cond) (o : Addr) (h0 : Heap) (n0 : Nat) (O0 : Old Z n0 h0) (FO : Fld Z h0 o "java/util/Optional" "value" "Ljava/lang/Object;" .null) :
    own_Mt l own_y43 own_c15 2 (some (.object "java/lang/Object")) ws (own_r 0 0 0 0) #[(.ref o), .null] Z h0 (own_Q_own_oeN Z o h0 n0) := by
 refine MetFree.of_bodySF (plainFor_of_name own_pn13) hisR ?_
 intro p_ e s m args below meth c_ s₁ Bd hml0 hP hK
 obtain ⟨rfl, hZ, hh⟩ := hP
 have hx := Bd.exec
 have hby := Bd.bytes
 have hml : c_.maxLocals = 2 := hml0
 have hown : s.vm.findClass "java/util/Optional" = some m.cls := findClass_of_methodNamed Bd.named
 have hnm := (name_of_methodNamed Bd.named Bd.method).1
 have X0 : Stand p_ l e (own_r 0 0 0 0) s m #[(.ref o), .null] below meth c_ s₁ [] 0 0 := Stand.of_body Bd
 have e0 : s₁.heap = h0 := by rw [← hh, Bd.state]; rfl
 have N0 := Fr.nil n0
 refine own_close (s := s) (Q := (own_Q_own_oeN Z o h0 n0)) (own_st (fun _ => castTop (own_ef15n1 m o)) ?_)
 show own_Rch _ _ _ _ s₁ (mkF m 0 #[own_vr o, .val .null] [])
 refine own_aloadN X0 hx hby own_d15_0 rfl rfl rfl ?_
 obtain ⟨T1, X1, e1, st1⟩ := own_gF X0 hx hZ hown (hw _ (own_m 127 rfl)) e0 FO (g := (mkF m 1 #[own_vr o, .val .null] [(.ref o)])) rfl rfl (hb hby own_d15_1)
 refine own_st st1 ?_
 show own_Rch _ _ _ _ T1 (mkF m 4 #[own_vr o, .val .null] [.null])
 refine own_st (fun _ => XS.ifnullYes X1.here hx rfl (pc0 := 4) (pc' := 14) rfl (hb hby own_d15_4) rfl (by decide) (by decide)) ?_
 refine own_aloadN X1 hx hby own_d15_14 rfl rfl rfl ?_
 show own_Rch _ _ _ _ T1 (mkF m 15 #[own_vr o, .val .null] [.null])
 refine own_retA rfl rfl X1 hx Bd.notSynchronized Bd.returns (hb hby own_d15_15) (by decide) (by decide) ?_
 rw [e1]
 exact ⟨rfl, N0, rfl⟩
theorem own_d15_7 : decode own_c15 7 = .ok (.aload_n 0, 1) := by decide +kernel
theorem own_d15_8 : decode own_c15 8 = .ok (.getfield 13, 3) := by decide +kernel
theorem own_d15_11 : decode own_c15 11 = .ok (.goto 4, 3) := by decide +kernel
def own_Q_own_oeR (Z : State) (o : Addr) (x : Addr) (h0 : Heap) (n0 : Nat) (v : Option Value) (h : Heap) (L : List Loc) : Prop := v = some (.ref x) ∧ Fr n0 L ∧ h = h0
theorem own_oeR (l : Launch) (Z : State) (a0 : Array Value) (hw : ∀ d ∈ tables_1, d.before a0 Z = true) (ws : List Jvm.Cond) (o : Addr) (x : Addr) (h0 : Heap) (n0 : Nat) (O0 : Old Z n0 h0) (FO : Fld Z h0 o "java/util/Optional" "value" "Ljava/lang/Object;" (.ref x)) :
    own_Mt l own_y43 own_c15 2 (some (.object "java/lang/Object")) ws (own_r 0 0 0 0) #[(.ref o), .null] Z h0 (own_Q_own_oeR Z o x h0 n0) := by
 refine MetFree.of_bodySF (plainFor_of_name own_pn13) hisR ?_
 intro p_ e s m args below meth c_ s₁ Bd hml0 hP hK
 obtain ⟨rfl, hZ, hh⟩ := hP
 have hx := Bd.exec
 have hby := Bd.bytes
 have hml : c_.maxLocals = 2 := hml0
 have hown : s.vm.findClass "java/util/Optional" = some m.cls := findClass_of_methodNamed Bd.named
 have hnm := (name_of_methodNamed Bd.named Bd.method).1
 have X0 : Stand p_ l e (own_r 0 0 0 0) s m #[(.ref o), .null] below meth c_ s₁ [] 0 0 := Stand.of_body Bd
 have e0 : s₁.heap = h0 := by rw [← hh, Bd.state]; rfl
 have N0 := Fr.nil n0
 refine own_close (s := s) (Q := (own_Q_own_oeR Z o x h0 n0)) (own_st (fun _ => castTop (own_ef15n1 m o)) ?_)
 show own_Rch _ _ _ _ s₁ (mkF m 0 #[own_vr o, .val .null] [])
 refine own_aloadN X0 hx hby own_d15_0 rfl rfl rfl ?_
 obtain ⟨T1, X1, e1, st1⟩ := own_gF X0 hx hZ hown (hw _ (own_m 127 rfl)) e0 FO (g := (mkF m 1 #[own_vr o, .val .null] [(.ref o)])) rfl rfl (hb hby own_d15_1)
 refine own_st st1 ?_
 show own_Rch _ _ _ _ T1 (mkF m 4 #[own_vr o, .val .null] [(.ref x)])
 refine own_st (fun _ => XS.ifnullNo X1.here hx rfl (hb hby own_d15_4) rfl) ?_
 refine own_aloadN X1 hx hby own_d15_7 rfl rfl rfl ?_
 obtain ⟨T2, X2, e2, st2⟩ := own_gF X1 hx hZ hown (hw _ (own_m 127 rfl)) e1 FO (g := (mkF m 8 #[own_vr o, .val .null] [(.ref o)])) rfl rfl (hb hby own_d15_8)
 refine own_st st2 ?_
 refine own_st (fun _ => XS.goto X2.here hx rfl (pc0 := 11) (pc' := 15) rfl (hb hby own_d15_11) (by decide) (by decide)) ?_
 show own_Rch _ _ _ _ T2 (mkF m 15 #[own_vr o, .val .null] [(.ref x)])
 refine own_retA rfl rfl X2 hx Bd.notSynchronized Bd.returns (hb hby own_d15_15) (by decide) (by decide) ?_
 rw [e2]
 exact ⟨rfl, N0, rfl⟩
theorem own_pn14 : plainName "java/util/Map" = true := by first | (simp [plainName, overriddenIn]; done) | decide +kernel
theorem own_ef10 (m : MethodId)  : entryFrame m #[] 0 = mkF m 0 #[] [] := by first | (simp [entryFrame, mkF, argsToLocals, Value.category]; done) | rfl
abbrev own_c10 : ByteArray := jdk_72_method_26_code
theorem own_d10_0 : decode own_c10 0 = .ok (.getstatic 81, 3) := by decide +kernel
theorem own_d10_3 : decode own_c10 3 = .ok (.areturn, 1) := by decide +kernel
abbrev own_y44 : MethodName := ⟨"java/util/Map", "of", "()Ljava/util/Map;"⟩
def own_Q_own_mof (Z : State) (em : Addr) (h0 : Heap) (n0 : Nat) (v : Option Value) (h : Heap) (L : List Loc) : Prop := v = some (.ref em) ∧ Fr n0 L ∧ h = h0
theorem own_mof (l : Launch) (Z : State) (a0 : Array Value) (hw : ∀ d ∈ tables_1, d.before a0 Z = true) (ws : List Jvm.Cond) (em : Addr) (h0 : Heap) (n0 : Nat) (O0 : Old Z n0 h0) (SM : Sta Z Z.heap "java/util/ImmutableCollections" "EMPTY_MAP" "Ljava/util/ImmutableCollections$MapN;" (.ref em)) :
    own_Mt l own_y44 own_c10 0 (some (.object "java/util/Map")) ws (own_r 0 0 0 0) #[] Z h0 (own_Q_own_mof Z em h0 n0) := by
 refine MetFree.of_bodySF (plainFor_of_name own_pn14) hisR ?_
 intro p_ e s m args below meth c_ s₁ Bd hml0 hP hK
 obtain ⟨rfl, hZ, hh⟩ := hP
 have hx := Bd.exec
 have hby := Bd.bytes
 have hml : c_.maxLocals = 0 := hml0
 have hown : s.vm.findClass "java/util/Map" = some m.cls := findClass_of_methodNamed Bd.named
 have hnm := (name_of_methodNamed Bd.named Bd.method).1
 have X0 : Stand p_ l e (own_r 0 0 0 0) s m #[] below meth c_ s₁ [] 0 0 := Stand.of_body Bd
 have e0 : s₁.heap = h0 := by rw [← hh, Bd.state]; rfl
 have N0 := Fr.nil n0
 refine own_close (s := s) (Q := (own_Q_own_mof Z em h0 n0)) (own_st (fun _ => castTop (own_ef10 m )) ?_)
 obtain ⟨T1, X1, e1, st1⟩ := getS2 X0 hx hZ hown (host := "") (Or.inl (hw _ (own_m 88 rfl))) Via.refl e0 (SM.ext O0.2) (g := (mkF m 0 #[] [])) rfl (hb hby own_d10_0)
 refine own_st st1 ?_
 show own_Rch _ _ _ _ T1 (mkF m 3 #[] [(.ref em)])
 refine own_retA rfl rfl X1 hx Bd.notSynchronized Bd.returns (hb hby own_d10_3) (by decide) (by decide) ?_
 rw [e1]
 exact ⟨rfl, N0, rfl⟩
theorem own_pn15 : plainName "com/example/makewhole/makewhole/memberfiles/TableFields" = true := by first | (simp [plainName, overriddenIn]; done) | decide +kernel
theorem own_ef11n1 (m : MethodId) (x0 : Addr) (x2 : Addr) (x3 : Addr) (x4 : Addr) (x5 : Addr) (x6 : Int64) : entryFrame m #[(.ref x0), .null, (.ref x2), (.ref x3), (.ref x4), (.ref x5), (.long x6)] 8 = mkF m 0 #[own_vr x0, .val .null, own_vr x2, own_vr x3, own_vr x4, own_vr x5, own_vl x6, .second] [] := by first | (simp [entryFrame, mkF, argsToLocals, Value.category]; done) | rfl
abbrev own_c11 : ByteArray := prog_32_method_1_code
theorem own_d11_0 : decode own_c11 0 = .ok (.aload_n 0, 1) := by decide +kernel
theorem own_d11_1 : decode own_c11 1 = .ok (.invokespecial 1, 3) := by decide +kernel
theorem own_d11_4 : decode own_c11 4 = .ok (.aload_n 0, 1) := by decide +kernel
theorem own_d11_5 : decode own_c11 5 = .ok (.aload_n 1, 1) := by decide +kernel
theorem own_d11_6 : decode own_c11 6 = .ok (.putfield 7, 3) := by decide +kernel
theorem own_d11_9 : decode own_c11 9 = .ok (.aload_n 0, 1) := by decide +kernel
theorem own_d11_10 : decode own_c11 10 = .ok (.aload_n 2, 1) := by decide +kernel
theorem own_d11_11 : decode own_c11 11 = .ok (.putfield 13, 3) := by decide +kernel
theorem own_d11_14 : decode own_c11 14 = .ok (.aload_n 0, 1) := by decide +kernel
theorem own_d11_15 : decode own_c11 15 = .ok (.aload_n 3, 1) := by decide +kernel
theorem own_d11_16 : decode own_c11 16 = .ok (.putfield 17, 3) := by decide +kernel
theorem own_d11_19 : decode own_c11 19 = .ok (.aload_n 0, 1) := by decide +kernel
theorem own_d11_20 : decode own_c11 20 = .ok (.aload 4, 2) := by decide +kernel
theorem own_d11_22 : decode own_c11 22 = .ok (.putfield 20, 3) := by decide +kernel
theorem own_d11_25 : decode own_c11 25 = .ok (.aload_n 0, 1) := by decide +kernel
theorem own_d11_26 : decode own_c11 26 = .ok (.aload 5, 2) := by decide +kernel
theorem own_d11_28 : decode own_c11 28 = .ok (.putfield 23, 3) := by decide +kernel
theorem own_d11_31 : decode own_c11 31 = .ok (.aload_n 0, 1) := by decide +kernel
theorem own_d11_32 : decode own_c11 32 = .ok (.lload 6, 2) := by decide +kernel
theorem own_d11_34 : decode own_c11 34 = .ok (.putfield 26, 3) := by decide +kernel
theorem own_d11_37 : decode own_c11 37 = .ok (.return_, 1) := by decide +kernel
abbrev own_y45 : MethodName := ⟨"com/example/makewhole/makewhole/memberfiles/TableFields", "<init>", "(Ljava/util/Map;Ljava/lang/String;Ljava/lang/String;Ljava/util/Map;Ljava/lang/String;J)V"⟩
def own_Q_own_tfi (Z : State) (f : Addr) (nm : Addr) (pf : Addr) (em : Addr) (tb : Addr) (x : Int64) (h0 : Heap) (n0 : Nat) (v : Option Value) (h : Heap) (L : List Loc) : Prop := v = none ∧ Fr n0 L ∧ Keep h0 h [f] ∧ Exa Z h f "com/example/makewhole/makewhole/memberfiles/TableFields" ∧ Fld Z h f "com/example/makewhole/makewhole/memberfiles/TableFields" "name" "Ljava/lang/String;" (.ref nm) ∧ Fld Z h f "com/example/makewhole/makewhole/memberfiles/TableFields" "entries" "Ljava/util/Map;" (.ref em) ∧ Fld Z h f "com/example/makewhole/makewhole/memberfiles/TableFields" "table" "Ljava/lang/String;" (.ref tb) ∧ Fld Z h f "com/example/makewhole/makewhole/memberfiles/TableFields" "line" "J" (.long x)
theorem own_tfi (l : Launch) (Z : State) (a0 : Array Value) (hw : ∀ d ∈ tables_1, d.before a0 Z = true) (ws : List Jvm.Cond) (f : Addr) (nm : Addr) (pf : Addr) (em : Addr) (tb : Addr) (x : Int64) (h0 : Heap) (n0 : Nat) (O0 : Old Z n0 h0) (EF : Exa Z h0 f "com/example/makewhole/makewhole/memberfiles/TableFields") (J0 : Fld Z h0 f "com/example/makewhole/makewhole/memberfiles/TableFields" "cells" "Ljava/util/Map;" .null) (J1 : Fld Z h0 f "com/example/makewhole/makewhole/memberfiles/TableFields" "name" "Ljava/lang/String;" .null) (J2 : Fld Z h0 f "com/example/makewhole/makewhole/memberfiles/TableFields" "columnPrefix" "Ljava/lang/String;" .null) (J3 : Fld Z h0 f "com/example/makewhole/makewhole/memberfiles/TableFields" "entries" "Ljava/util/Map;" .null) (J4 : Fld Z h0 f "com/example/makewhole/makewhole/memberfiles/TableFields" "table" "Ljava/lang/String;" .null) (J5 : Fld Z h0 f "com/example/makewhole/makewhole/memberfiles/TableFields" "line" "J" (.long (0 : Int64))) (gf : n0 ≤ f) :
    own_Mt l own_y45 own_c11 8 none ws (own_r 1 0 0 12) #[(.ref f), .null, (.ref nm), (.ref pf), (.ref em), (.ref tb), (.long x)] Z h0 (own_Q_own_tfi Z f nm pf em tb x h0 n0) := by
 refine MetFree.of_bodySF (plainFor_of_name own_pn15) hisR ?_
 intro p_ e s m args below meth c_ s₁ Bd hml0 hP hK
 obtain ⟨rfl, hZ, hh⟩ := hP
 have hx := Bd.exec
 have hby := Bd.bytes
 have hml : c_.maxLocals = 8 := hml0
 have hown : s.vm.findClass "com/example/makewhole/makewhole/memberfiles/TableFields" = some m.cls := findClass_of_methodNamed Bd.named
 have hnm := (name_of_methodNamed Bd.named Bd.method).1
 have X0 : Stand p_ l e (own_r 1 0 0 12) s m #[(.ref f), .null, (.ref nm), (.ref pf), (.ref em), (.ref tb), (.long x)] below meth c_ s₁ [] 0 0 := Stand.of_body Bd
 have e0 : s₁.heap = h0 := by rw [← hh, Bd.state]; rfl
 have N0 := Fr.nil n0
 refine own_close (s := s) (Q := (own_Q_own_tfi Z f nm pf em tb x h0 n0)) (own_st (fun _ => castTop (own_ef11n1 m f nm pf em tb x)) ?_)
 have K0 := Keep.refl h0 [f]
 show own_Rch _ _ _ _ s₁ (mkF m 0 #[own_vr f, .val .null, own_vr nm, own_vr pf, own_vr em, own_vr tb, own_vl x, .second] [])
 refine own_aloadN X0 hx hby own_d11_0 rfl rfl rfl ?_
 obtain ⟨T1, X1, e1, st1⟩ := initO X0 hx hZ hown (hw _ (own_m 93 rfl)) (hw _ (own_m 35 rfl)) (hw _ (own_m 36 rfl)) e0 (g := (mkF m 1 #[own_vr f, .val .null, own_vr nm, own_vr pf, own_vr em, own_vr tb, own_vl x, .second] [(.ref f)])) rfl (by rw [hml]; rfl) rfl (hb hby own_d11_1) (by decide) (W := 0) (by show 2 * 0 + _ ≤ _; exact Nat.le_of_eq rfl) (by decide)
 refine own_st st1 ?_
 refine own_aloadN X1 hx hby own_d11_4 rfl rfl rfl ?_
 refine own_aloadN X1 hx hby own_d11_5 rfl rfl rfl ?_
 obtain ⟨T2, h2, X2, e2, W2, st2⟩ := putF X1 hx hZ hown (host := "") (Or.inl (hw _ (own_m 94 rfl))) Via.refl e1 J0 EF (Or.inr ⟨(hw _ (own_m 95 rfl)), rfl, hnm⟩) (hw _ (own_m 82 rfl)) (ty := (.object "java/util/Map")) (by decide) rfl rfl (g := (mkF m 6 #[own_vr f, .val .null, own_vr nm, own_vr pf, own_vr em, own_vr tb, own_vl x, .second] [.null, (.ref f)])) rfl rfl (hb hby own_d11_6)
 refine own_st st2 ?_
 have Fw2 := J0.same W2
 have N2 := Fr.snoc X2 N0 gf
 have O0_x2 := O0.wr W2 gf
 have EF_x2 := EF.wr W2
 have J1_x2 := J1.other W2 (Or.inr (slot_ne (Or.inr (hw _ (own_m 97 rfl))) (Or.inr (hw _ (own_m 95 rfl))) (by decide) (t := (.object "java/lang/String")) (t' := (.object "java/util/Map")) (by decide) (by decide)))
 have J2_x2 := J2.other W2 (Or.inr (slot_ne (Or.inr (hw _ (own_m 99 rfl))) (Or.inr (hw _ (own_m 95 rfl))) (by decide) (t := (.object "java/lang/String")) (t' := (.object "java/util/Map")) (by decide) (by decide)))
 have J3_x2 := J3.other W2 (Or.inr (slot_ne (Or.inr (hw _ (own_m 101 rfl))) (Or.inr (hw _ (own_m 95 rfl))) (by decide) (t := (.object "java/util/Map")) (t' := (.object "java/util/Map")) (by decide) (by decide)))
 have J4_x2 := J4.other W2 (Or.inr (slot_ne (Or.inr (hw _ (own_m 103 rfl))) (Or.inr (hw _ (own_m 95 rfl))) (by decide) (t := (.object "java/lang/String")) (t' := (.object "java/util/Map")) (by decide) (by decide)))
 have J5_x2 := J5.other W2 (Or.inr (slot_ne (Or.inr (hw _ (own_m 105 rfl))) (Or.inr (hw _ (own_m 95 rfl))) (by decide) (t := .long) (t' := (.object "java/util/Map")) (by decide) (by decide)))
 have K0_x2 := K0.wr W2 (Or.inl (List.mem_of_getElem? (i := 0) rfl))
 refine own_aloadN X2 hx hby own_d11_9 rfl rfl rfl ?_
 refine own_aloadN X2 hx hby own_d11_10 rfl rfl rfl ?_
 obtain ⟨T3, h3, X3, e3, W3, st3⟩ := putF X2 hx hZ hown (host := "") (Or.inl (hw _ (own_m 96 rfl))) Via.refl e2 J1_x2 EF_x2 (Or.inr ⟨(hw _ (own_m 97 rfl)), rfl, hnm⟩) (hw _ (own_m 82 rfl)) (ty := (.object "java/lang/String")) (by decide) rfl rfl (g := (mkF m 11 #[own_vr f, .val .null, own_vr nm, own_vr pf, own_vr em, own_vr tb, own_vl x, .second] [(.ref nm), (.ref f)])) rfl rfl (hb hby own_d11_11)
 refine own_st st3 ?_
 have Fw3 := J1_x2.same W3
 have N3 := Fr.snoc X3 N2 gf
 have O0_x3 := O0_x2.wr W3 gf
 have EF_x3 := EF_x2.wr W3
 have Fw2_x3 := Fw2.other W3 (Or.inr (slot_ne (Or.inr (hw _ (own_m 95 rfl))) (Or.inr (hw _ (own_m 97 rfl))) (by decide) (t := (.object "java/util/Map")) (t' := (.object "java/lang/String")) (by decide) (by decide)))
 have J2_x3 := J2_x2.other W3 (Or.inr (slot_ne (Or.inr (hw _ (own_m 99 rfl))) (Or.inr (hw _ (own_m 97 rfl))) (by decide) (t := (.object "java/lang/String")) (t' := (.object "java/lang/String")) (by decide) (by decide)))
 have J3_x3 := J3_x2.other W3 (Or.inr (slot_ne (Or.inr (hw _ (own_m 101 rfl))) (Or.inr (hw _ (own_m 97 rfl))) (by decide) (t := (.object "java/util/Map")) (t' := (.object "java/lang/String")) (by decide) (by decide)))
 have J4_x3 := J4_x2.other W3 (Or.inr (slot_ne (Or.inr (hw _ (own_m 103 rfl))) (Or.inr (hw _ (own_m 97 rfl))) (by decide) (t := (.object "java/lang/String")) (t' := (.object "java/lang/String")) (by decide) (by decide)))
 have J5_x3 := J5_x2.other W3 (Or.inr (slot_ne (Or.inr (hw _ (own_m 105 rfl))) (Or.inr (hw _ (own_m 97 rfl))) (by decide) (t := .long) (t' := (.object "java/lang/String")) (by decide) (by decide)))
 have K0_x3 := K0_x2.wr W3 (Or.inl (List.mem_of_getElem? (i := 0) rfl))
 refine own_aloadN X3 hx hby own_d11_14 rfl rfl rfl ?_
 refine own_aloadN X3 hx hby own_d11_15 rfl rfl rfl ?_
 obtain ⟨T4, h4, X4, e4, W4, st4⟩ := putF X3 hx hZ hown (host := "") (Or.inl (hw _ (own_m 98 rfl))) Via.refl e3 J2_x3 EF_x3 (Or.inr ⟨(hw _ (own_m 99 rfl)), rfl, hnm⟩) (hw _ (own_m 82 rfl)) (ty := (.object "java/lang/String")) (by decide) rfl rfl (g := (mkF m 16 #[own_vr f, .val .null, own_vr nm, own_vr pf, own_vr em, own_vr tb, own_vl x, .second] [(.ref pf), (.ref f)])) rfl rfl (hb hby own_d11_16)
 refine own_st st4 ?_
 have Fw4 := J2_x3.same W4
 have N4 := Fr.snoc X4 N3 gf
 have O0_x4 := O0_x3.wr W4 gf
 have EF_x4 := EF_x3.wr W4
 have Fw2_x4 := Fw2_x3.other W4 (Or.inr (slot_ne (Or.inr (hw _ (own_m 95 rfl))) (Or.inr (hw _ (own_m 99 rfl))) (by decide) (t := (.object "java/util/Map")) (t' := (.object "java/lang/String")) (by decide) (by decide)))
 have Fw3_x4 := Fw3.other W4 (Or.inr (slot_ne (Or.inr (hw _ (own_m 97 rfl))) (Or.inr (hw _ (own_m 99 rfl))) (by decide) (t := (.object "java/lang/String")) (t' := (.object "java/lang/String")) (by decide) (by decide)))
 have J3_x4 := J3_x3.other W4 (Or.inr (slot_ne (Or.inr (hw _ (own_m 101 rfl))) (Or.inr (hw _ (own_m 99 rfl))) (by decide) (t := (.object "java/util/Map")) (t' := (.object "java/lang/String")) (by decide) (by decide)))
 have J4_x4 := J4_x3.other W4 (Or.inr (slot_ne (Or.inr (hw _ (own_m 103 rfl))) (Or.inr (hw _ (own_m 99 rfl))) (by decide) (t := (.object "java/lang/String")) (t' := (.object "java/lang/String")) (by decide) (by decide)))
 have J5_x4 := J5_x3.other W4 (Or.inr (slot_ne (Or.inr (hw _ (own_m 105 rfl))) (Or.inr (hw _ (own_m 99 rfl))) (by decide) (t := .long) (t' := (.object "java/lang/String")) (by decide) (by decide)))
 have K0_x4 := K0_x3.wr W4 (Or.inl (List.mem_of_getElem? (i := 0) rfl))
 refine own_aloadN X4 hx hby own_d11_19 rfl rfl rfl ?_
 refine own_aload X4 hx hby own_d11_20 rfl rfl rfl ?_
 obtain ⟨T5, h5, X5, e5, W5, st5⟩ := putF X4 hx hZ hown (host := "") (Or.inl (hw _ (own_m 100 rfl))) Via.refl e4 J3_x4 EF_x4 (Or.inr ⟨(hw _ (own_m 101 rfl)), rfl, hnm⟩) (hw _ (own_m 82 rfl)) (ty := (.object "java/util/Map")) (by decide) rfl rfl (g := (mkF m 22 #[own_vr f, .val .null, own_vr nm, own_vr pf, own_vr em, own_vr tb, own_vl x, .second] [(.ref em), (.ref f)])) rfl rfl (hb hby own_d11_22)
 refine own_st st5 ?_
 have Fw5 := J3_x4.same W5
 have N5 := Fr.snoc X5 N4 gf
 have O0_x5 := O0_x4.wr W5 gf
 have EF_x5 := EF_x4.wr W5
 have Fw2_x5 := Fw2_x4.other W5 (Or.inr (slot_ne (Or.inr (hw _ (own_m 95 rfl))) (Or.inr (hw _ (own_m 101 rfl))) (by decide) (t := (.object "java/util/Map")) (t' := (.object "java/util/Map")) (by decide) (by decide)))
 have Fw3_x5 := Fw3_x4.other W5 (Or.inr (slot_ne (Or.inr (hw _ (own_m 97 rfl))) (Or.inr (hw _ (own_m 101 rfl))) (by decide) (t := (.object "java/lang/String")) (t' := (.object "java/util/Map")) (by decide) (by decide)))
 have Fw4_x5 := Fw4.other W5 (Or.inr (slot_ne (Or.inr (hw _ (own_m 99 rfl))) (Or.inr (hw _ (own_m 101 rfl))) (by decide) (t := (.object "java/lang/String")) (t' := (.object "java/util/Map")) (by decide) (by decide)))
 have J4_x5 := J4_x4.other W5 (Or.inr (slot_ne (Or.inr (hw _ (own_m 103 rfl))) (Or.inr (hw _ (own_m 101 rfl))) (by decide) (t := (.object "java/lang/String")) (t' := (.object "java/util/Map")) (by decide) (by decide)))
 have J5_x5 := J5_x4.other W5 (Or.inr (slot_ne (Or.inr (hw _ (own_m 105 rfl))) (Or.inr (hw _ (own_m 101 rfl))) (by decide) (t := .long) (t' := (.object "java/util/Map")) (by decide) (by decide)))
 have K0_x5 := K0_x4.wr W5 (Or.inl (List.mem_of_getElem? (i := 0) rfl))
 refine own_aloadN X5 hx hby own_d11_25 rfl rfl rfl ?_
 refine own_aload X5 hx hby own_d11_26 rfl rfl rfl ?_
 obtain ⟨T6, h6, X6, e6, W6, st6⟩ := putF X5 hx hZ hown (host := "") (Or.inl (hw _ (own_m 102 rfl))) Via.refl e5 J4_x5 EF_x5 (Or.inr ⟨(hw _ (own_m 103 rfl)), rfl, hnm⟩) (hw _ (own_m 82 rfl)) (ty := (.object "java/lang/String")) (by decide) rfl rfl (g := (mkF m 28 #[own_vr f, .val .null, own_vr nm, own_vr pf, own_vr em, own_vr tb, own_vl x, .second] [(.ref tb), (.ref f)])) rfl rfl (hb hby own_d11_28)
 refine own_st st6 ?_
 have Fw6 := J4_x5.same W6
 have N6 := Fr.snoc X6 N5 gf
 have O0_x6 := O0_x5.wr W6 gf
 have EF_x6 := EF_x5.wr W6
 have Fw2_x6 := Fw2_x5.other W6 (Or.inr (slot_ne (Or.inr (hw _ (own_m 95 rfl))) (Or.inr (hw _ (own_m 103 rfl))) (by decide) (t := (.object "java/util/Map")) (t' := (.object "java/lang/String")) (by decide) (by decide)))
 have Fw3_x6 := Fw3_x5.other W6 (Or.inr (slot_ne (Or.inr (hw _ (own_m 97 rfl))) (Or.inr (hw _ (own_m 103 rfl))) (by decide) (t := (.object "java/lang/String")) (t' := (.object "java/lang/String")) (by decide) (by decide)))
 have Fw4_x6 := Fw4_x5.other W6 (Or.inr (slot_ne (Or.inr (hw _ (own_m 99 rfl))) (Or.inr (hw _ (own_m 103 rfl))) (by decide) (t := (.object "java/lang/String")) (t' := (.object "java/lang/String")) (by decide) (by decide)))
 have Fw5_x6 := Fw5.other W6 (Or.inr (slot_ne (Or.inr (hw _ (own_m 101 rfl))) (Or.inr (hw _ (own_m 103 rfl))) (by decide) (t := (.object "java/util/Map")) (t' := (.object "java/lang/String")) (by decide) (by decide)))
 have J5_x6 := J5_x5.other W6 (Or.inr (slot_ne (Or.inr (hw _ (own_m 105 rfl))) (Or.inr (hw _ (own_m 103 rfl))) (by decide) (t := .long) (t' := (.object "java/lang/String")) (by decide) (by decide)))
 have K0_x6 := K0_x5.wr W6 (Or.inl (List.mem_of_getElem? (i := 0) rfl))
 refine own_aloadN X6 hx hby own_d11_31 rfl rfl rfl ?_
 refine own_st (fun _ => XS.lload X6.here hx rfl (hb hby own_d11_32) rfl) ?_
 obtain ⟨T7, h7, X7, e7, W7, st7⟩ := putF X6 hx hZ hown (host := "") (Or.inl (hw _ (own_m 104 rfl))) Via.refl e6 J5_x6 EF_x6 (Or.inr ⟨(hw _ (own_m 105 rfl)), rfl, hnm⟩) (hw _ (own_m 82 rfl)) (ty := .long) (by decide) rfl rfl (g := (mkF m 34 #[own_vr f, .val .null, own_vr nm, own_vr pf, own_vr em, own_vr tb, own_vl x, .second] [(.long x), (.ref f)])) rfl rfl (hb hby own_d11_34)
 refine own_st st7 ?_
 have Fw7 := J5_x6.same W7
 have N7 := Fr.snoc X7 N6 gf
 have O0_x7 := O0_x6.wr W7 gf
 have EF_x7 := EF_x6.wr W7
 have Fw2_x7 := Fw2_x6.other W7 (Or.inr (slot_ne (Or.inr (hw _ (own_m 95 rfl))) (Or.inr (hw _ (own_m 105 rfl))) (by decide) (t := (.object "java/util/Map")) (t' := .long) (by decide) (by decide)))
 have Fw3_x7 := Fw3_x6.other W7 (Or.inr (slot_ne (Or.inr (hw _ (own_m 97 rfl))) (Or.inr (hw _ (own_m 105 rfl))) (by decide) (t := (.object "java/lang/String")) (t' := .long) (by decide) (by decide)))
 have Fw4_x7 := Fw4_x6.other W7 (Or.inr (slot_ne (Or.inr (hw _ (own_m 99 rfl))) (Or.inr (hw _ (own_m 105 rfl))) (by decide) (t := (.object "java/lang/String")) (t' := .long) (by decide) (by decide)))
 have Fw5_x7 := Fw5_x6.other W7 (Or.inr (slot_ne (Or.inr (hw _ (own_m 101 rfl))) (Or.inr (hw _ (own_m 105 rfl))) (by decide) (t := (.object "java/util/Map")) (t' := .long) (by decide) (by decide)))
 have Fw6_x7 := Fw6.other W7 (Or.inr (slot_ne (Or.inr (hw _ (own_m 103 rfl))) (Or.inr (hw _ (own_m 105 rfl))) (by decide) (t := (.object "java/lang/String")) (t' := .long) (by decide) (by decide)))
 have K0_x7 := K0_x6.wr W7 (Or.inl (List.mem_of_getElem? (i := 0) rfl))
 show own_Rch _ _ _ _ T7 (mkF m 37 #[own_vr f, .val .null, own_vr nm, own_vr pf, own_vr em, own_vr tb, own_vl x, .second] [])
 refine own_retV X7 hx Bd.notSynchronized Bd.returns (hb hby own_d11_37) (by decide) (by decide) ?_
 rw [e7]
 exact ⟨rfl, N7, K0_x7, EF_x7, Fw3_x7, Fw5_x7, Fw6_x7, Fw7⟩
theorem own_ef9n0 (m : MethodId) (x1 : Addr) (x2 : Addr) (x3 : Int64) : entryFrame m #[.null, (.ref x1), (.ref x2), (.long x3)] 5 = mkF m 0 #[.val .null, own_vr x1, own_vr x2, own_vl x3, .second] [] := by first | (simp [entryFrame, mkF, argsToLocals, Value.category]; done) | rfl
abbrev own_c9 : ByteArray := prog_32_method_3_code
theorem own_d9_0 : decode own_c9 0 = .ok (.new 8, 3) := by decide +kernel
theorem own_d9_3 : decode own_c9 3 = .ok (.dup, 1) := by decide +kernel
theorem own_d9_4 : decode own_c9 4 = .ok (.aload_n 0, 1) := by decide +kernel
theorem own_d9_5 : decode own_c9 5 = .ok (.aload_n 1, 1) := by decide +kernel
theorem own_d9_6 : decode own_c9 6 = .ok (.ldc 30, 2) := by decide +kernel
theorem own_d9_8 : decode own_c9 8 = .ok (.invokestatic 35, 3) := by decide +kernel
theorem own_pd36 : parseMethodDescriptor "()Ljava/util/Map;" = some ⟨[], some (.object "java/util/Map")⟩ := by decide +kernel
theorem own_d9_11 : decode own_c9 11 = .ok (.aload_n 2, 1) := by decide +kernel
theorem own_d9_12 : decode own_c9 12 = .ok (.lload_n 3, 1) := by decide +kernel
theorem own_d9_13 : decode own_c9 13 = .ok (.invokespecial 32, 3) := by decide +kernel
theorem own_pd37 : parseMethodDescriptor "(Ljava/util/Map;Ljava/lang/String;Ljava/lang/String;Ljava/util/Map;Ljava/lang/String;J)V" = some ⟨[(.object "java/util/Map"), (.object "java/lang/String"), (.object "java/lang/String"), (.object "java/util/Map"), (.object "java/lang/String"), .long], none⟩ := by decide +kernel
theorem own_d9_16 : decode own_c9 16 = .ok (.areturn, 1) := by decide +kernel
abbrev own_y46 : MethodName := ⟨"com/example/makewhole/makewhole/memberfiles/TableFields", "ofEntry", "(Ljava/util/Map;Ljava/lang/String;Ljava/lang/String;J)Lcom/example/makewhole/makewhole/memberfiles/TableFields;"⟩
def own_Q_own_ofe (Z : State) (nm : Addr) (tb : Addr) (x : Int64) (em : Addr) (h0 : Heap) (n0 : Nat) (v : Option Value) (h : Heap) (L : List Loc) : Prop := ∃ f : Addr, v = some (.ref f) ∧ Fr n0 L ∧ Keep h0 h [] ∧ h0.size ≤ f ∧ Exa Z h f "com/example/makewhole/makewhole/memberfiles/TableFields" ∧ Fld Z h f "com/example/makewhole/makewhole/memberfiles/TableFields" "name" "Ljava/lang/String;" (.ref nm) ∧ Fld Z h f "com/example/makewhole/makewhole/memberfiles/TableFields" "entries" "Ljava/util/Map;" (.ref em) ∧ Fld Z h f "com/example/makewhole/makewhole/memberfiles/TableFields" "table" "Ljava/lang/String;" (.ref tb) ∧ Fld Z h f "com/example/makewhole/makewhole/memberfiles/TableFields" "line" "J" (.long x)
theorem own_ofe (l : Launch) (Z : State) (a0 : Array Value) (hw : ∀ d ∈ tables_1, d.before a0 Z = true) (ws : List Jvm.Cond) (nm : Addr) (tb : Addr) (x : Int64) (em : Addr) (h0 : Heap) (n0 : Nat) (O0 : Old Z n0 h0) (SM : Sta Z Z.heap "java/util/ImmutableCollections" "EMPTY_MAP" "Ljava/util/ImmutableCollections$MapN;" (.ref em)) :
    MetFree l own_y46 (head1 (Jvm.Cond.code own_y46 prog_32_method_3_code 5 (some (.object "com/example/makewhole/makewhole/memberfiles/TableFields")) :: ws) (own_r 2 3 10 32)) (fun args_ U => args_ = #[.null, (.ref nm), (.ref tb), (.long x)] ∧ Z.Warmed39 U.vm ∧ U.heap = h0 ∧ CHv Z consts_1 U.vm h0) (fun _ _ _ _ _ => True) (fun _ U o U' => ∃ v L, o = .returned v ∧ (own_Q_own_ofe Z nm tb x em h0 n0) v U'.heap L ∧ CHr Z consts_1 U.vm U.heap U'.vm U'.heap ∧ ReturnedEndW U o U' L (own_r 2 3 10 32).cells (own_r 2 3 10 32).slots) := by
 refine MetFree.of_bodySF (plainFor_of_name own_pn15) hisR ?_
 intro p_ e s m args below meth c_ s₁ Bd hml0 hP hK
 obtain ⟨rfl, hZ, hh, hCH⟩ := hP
 have hx := Bd.exec
 have hby := Bd.bytes
 have hml : c_.maxLocals = 5 := hml0
 have hown : s.vm.findClass "com/example/makewhole/makewhole/memberfiles/TableFields" = some m.cls := findClass_of_methodNamed Bd.named
 have hnm := (name_of_methodNamed Bd.named Bd.method).1
 have X0 : Stand p_ l e (own_r 2 3 10 32) (s.setVm s.vm) m #[.null, (.ref nm), (.ref tb), (.long x)] below meth c_ s₁ [] 0 0 := Stand.of_body Bd
 have e0 : s₁.heap = h0 := by rw [← hh, Bd.state]; rfl
 have N0 := Fr.nil n0
 have hh0 : s.heap = h0 := hh
 have CR0 : CHr Z consts_1 s.vm h0 s.vm h0 := CHr.refl hCH
 have hS0 : s.Since s.vm 0 := own_since s
 have hk0 : 0 ≤ h0.size := Nat.zero_le _
 refine own_closeH (Z := Z) (EL := consts_1) (s := s) (Q := (own_Q_own_ofe Z nm tb x em h0 n0)) (own_st (fun _ => castTop (own_ef9n0 m nm tb x)) ?_)
 have K0 := Keep.refl h0 []
 obtain ⟨T1, h1, X1, e1, E1, A1, D1, U1, st1⟩ := newO X0 hx hZ hown (hw _ (own_m 81 rfl)) (hw _ (own_m 82 rfl)) (hw _ (own_m 79 rfl)) e0 (g := (mkF m 0 #[.val .null, own_vr nm, own_vr tb, own_vl x, .second] [])) rfl (hb hby own_d9_0) (by decide) (by decide)
 obtain ⟨b1, g1⟩ : ∃ z, z = h0.size := ⟨_, rfl⟩
 rw [← g1] at A1 D1 U1 st1
 have ge1 : n0 ≤ b1 := by rw [g1]; exact own_old_le O0
 have sz1 : h0.size ≤ b1 := by rw [g1]; exact K0.1
 have hkk1 := Nat.le_trans hk0 E1.1
 have O0_x1 := O0.ext E1
 have CR0_x1 := CR0.trans (CHr.ext E1 CR0.1)
 have K0_x1 := K0.ext E1
 have Y1 := Safe.ext E1 CR0.1 (Safe.new (Nat.le_of_eq g1.symm))
 refine own_st st1 ?_
 have F1_cells : Fld Z h1 b1 "com/example/makewhole/makewhole/memberfiles/TableFields" "cells" "Ljava/util/Map;" .null := D1 (Or.inr (hw _ (own_m 95 rfl))) (ty := (.object "java/util/Map")) (by decide)
 have F1_name : Fld Z h1 b1 "com/example/makewhole/makewhole/memberfiles/TableFields" "name" "Ljava/lang/String;" .null := D1 (Or.inr (hw _ (own_m 97 rfl))) (ty := (.object "java/lang/String")) (by decide)
 have F1_columnPrefix : Fld Z h1 b1 "com/example/makewhole/makewhole/memberfiles/TableFields" "columnPrefix" "Ljava/lang/String;" .null := D1 (Or.inr (hw _ (own_m 99 rfl))) (ty := (.object "java/lang/String")) (by decide)
 have F1_entries : Fld Z h1 b1 "com/example/makewhole/makewhole/memberfiles/TableFields" "entries" "Ljava/util/Map;" .null := D1 (Or.inr (hw _ (own_m 101 rfl))) (ty := (.object "java/util/Map")) (by decide)
 have F1_table : Fld Z h1 b1 "com/example/makewhole/makewhole/memberfiles/TableFields" "table" "Ljava/lang/String;" .null := D1 (Or.inr (hw _ (own_m 103 rfl))) (ty := (.object "java/lang/String")) (by decide)
 have F1_line : Fld Z h1 b1 "com/example/makewhole/makewhole/memberfiles/TableFields" "line" "J" (.long (0 : Int64)) := D1 (Or.inr (hw _ (own_m 105 rfl))) (ty := .long) (by decide)
 refine own_dup X1 hx hby own_d9_3 rfl rfl rfl ?_
 refine own_aloadN X1 hx hby own_d9_4 rfl rfl rfl ?_
 refine own_aloadN X1 hx hby own_d9_5 rfl rfl rfl ?_
 obtain ⟨sl2, T2, h2, ks2, sd2, kd2, X2, e2, E2, hS2, hk2, hZ2, hown2, Es2, Fc2, Fv2, Va2, -, -, CB2, Lt2, hne2, st2⟩ := ldcCH (s := s) X1 hx hZ hown (hw _ (own_m 83 rfl)) (own_wS hw) e1 hS0 hkk1 (own_hEL hw) (List.mem_of_getElem? (i := 0) rfl) CR0_x1.1 (vs := []) (z := (0 : Int32)) ⟨by decide, by decide⟩ (by decide) (by decide) (g := (mkF m 6 #[.val .null, own_vr nm, own_vr tb, own_vl x, .second] [(.ref nm), .null, (.ref b1), (.ref b1)])) rfl (hb hby own_d9_6) (n := 0) (by decide) (by decide) (by decide) (by decide)
 have Yq2_b1 := CB2.safe F1_cells.lt Y1
 have O0_x2 := O0_x1.ext E2
 have CR0_x2 := CR0_x1.trans CB2
 have K0_x2 := K0_x1.ext E2
 have F1_cells_x2 := F1_cells.ext E2
 have F1_name_x2 := F1_name.ext E2
 have F1_columnPrefix_x2 := F1_columnPrefix.ext E2
 have F1_entries_x2 := F1_entries.ext E2
 have F1_table_x2 := F1_table.ext E2
 have F1_line_x2 := F1_line.ext E2
 have A1_x2 := A1.ext E2
 have nq2_b1 := hne2 b1 Yq2_b1
 refine own_st st2 ?_
 obtain ⟨_, _, ⟨T3, L3, k3, n3⟩, -, X3, ⟨Lc3, hQ3, l3, y3, z3⟩, st3⟩ := Jvm.LawKit.callS X2 hx (y := own_y44) hown2 (mvT hZ2 (hw _ (own_m 84 rfl))) (mvT hZ2 (hw _ (own_m 85 rfl))) (mvT hZ2 (hw _ (own_m 86 rfl))) (mvT hZ2 (hw _ (own_m 87 rfl))) (by decide) (backOf (W := 5) (own_mof l Z a0 hw [] em h2 n0 O0_x2 SM) hZ2 (hw _ (own_m 87 rfl)) (hw _ (own_m 86 rfl)) (by decide) (by decide)) (g := (mkF m 8 #[.val .null, own_vr nm, own_vr tb, own_vl x, .second] [(.ref sl2), (.ref nm), .null, (.ref b1), (.ref b1)])) rfl (by rw [hml]; rfl) (argsL := []) (rest := [(.ref sl2), (.ref nm), .null, (.ref b1), (.ref b1)]) (lenOf own_pd36 rfl) rfl (by show 2 * 0 + _ ≤ _; exact Nat.le_of_eq rfl) (hb hby own_d9_8) (fun _ _ => ⟨rfl, e2, (by decide : 3 + 0 ≤ _), (by decide : 10 + 0 ≤ _)⟩)
 dsimp only [Pt.U, Pt.locs, Pt.cells, Pt.slots] at X3 l3 y3 z3 st3 hQ3
 subst l3 y3 z3
 obtain ⟨rfl, N3q, hh3⟩ := hQ3
 have N3 := Fr.app N0 N3q
 refine own_st st3 ?_
 refine own_aloadN X3 hx hby own_d9_11 rfl rfl rfl ?_
 refine own_st (fun _ => XS.lloadN X3.here hx rfl (hb hby own_d9_12) rfl) ?_
 obtain ⟨_, _, ⟨T4, L4, k4, n4⟩, -, X4, ⟨Lc4, hQ4, l4, y4, z4⟩, st4⟩ := X3.specialBack hx (y := own_y45) rfl hown2 (mvT hZ2 (hw _ (own_m 90 rfl))) (mvT hZ2 (hw _ (own_m 91 rfl))) (mvT hZ2 (hw _ (own_m 92 rfl))) (by decide) (backOf (W := 1) (own_tfi l Z a0 hw [] b1 nm sl2 em tb x h2 n0 O0_x2 A1_x2 F1_cells_x2 F1_name_x2 F1_columnPrefix_x2 F1_entries_x2 F1_table_x2 F1_line_x2 ge1) hZ2 (hw _ (own_m 92 rfl)) (hw _ (own_m 79 rfl)) (by decide) (by decide)) (g := (mkF m 13 #[.val .null, own_vr nm, own_vr tb, own_vl x, .second] [(.long x), (.ref tb), (.ref em), (.ref sl2), (.ref nm), .null, (.ref b1), (.ref b1)])) rfl (by rw [hml]; rfl) (Steps.refl _) (a := b1) (argsL := [.null, (.ref nm), (.ref sl2), (.ref em), (.ref tb), (.long x)]) (rest := [(.ref b1)]) (lenOf own_pd37 rfl) rfl (by show 2 * 0 + _ ≤ _; exact Nat.le_of_eq rfl) (hb hby own_d9_13) (fun _ _ => ⟨rfl, hh3, (by decide : 3 + 0 ≤ _), (by decide : 10 + 0 ≤ _)⟩)
 dsimp only [Pt.U, Pt.locs, Pt.cells, Pt.slots] at X4 l4 y4 z4 st4 hQ4
 subst l4 y4 z4
 obtain ⟨rfl, N4q, K4, Et4, Fa4, Fb4, Fd4, Fe4⟩ := hQ4
 have N4 := Fr.app N3 N4q
 refine own_st (fun _ kt => st4.trans kt) ?_
 have hkk4 := Nat.le_trans hk2 K4.1
 have O0_x4 := O0_x2.keep K4 (allS ge1 all0)
 have CR0_x4 := CR0_x2.trans (CHr.keep K4 (sfS Yq2_b1 sf0) CR0_x2.1)
 have K0_x4 := K0_x2.trans K4 (allS (Or.inr sz1) all0)
 have A1_x4 := A1_x2.keep K4
 have Yq2_b1_x4 := Safe.keep K4 (sfS Yq2_b1 sf0) CR0_x2.1 Yq2_b1
 have Es2_x4 := Es2.keep K4
 have Fc2_x4 := Fc2.keep K4 (ninS (Ne.symm nq2_b1.1) nin0)
 have Fv2_x4 := Fv2.keep K4 (ninS (Ne.symm nq2_b1.1) nin0)
 have Va2_x4 := Va2.keep K4 (ninS (Ne.symm nq2_b1.2) nin0)
 show own_Rch _ _ _ _ T4 (mkF m 16 #[.val .null, own_vr nm, own_vr tb, own_vl x, .second] [(.ref b1)])
 refine own_retAH rfl rfl (by rw [hh0]; exact CR0_x4.trans (CHv.at (s := s) X4 hZ2 (own_hEL hw) CR0_x4.1)) (s := s) hS2 hkk4 X4 hx Bd.notSynchronized Bd.returns (hb hby own_d9_16) (by decide) (by decide) ?_
 exact ⟨_, rfl, N4, K0_x4, sz1, Et4, Fa4, Fb4, Fd4, Fe4⟩
theorem own_ef44 (m : MethodId) (x0 : Addr) : entryFrame m #[(.ref x0)] 1 = mkF m 0 #[own_vr x0] [] := by first | (simp [entryFrame, mkF, argsToLocals, Value.category]; done) | rfl
abbrev own_c44 : ByteArray := prog_32_method_4_code
theorem own_d44_0 : decode own_c44 0 = .ok (.aload_n 0, 1) := by decide +kernel
theorem own_d44_1 : decode own_c44 1 = .ok (.getfield 13, 3) := by decide +kernel
theorem own_d44_4 : decode own_c44 4 = .ok (.areturn, 1) := by decide +kernel
abbrev own_y47 : MethodName := ⟨"com/example/makewhole/makewhole/memberfiles/TableFields", "getName", "()Ljava/lang/String;"⟩
def own_Q_own_gn (Z : State) (f : Addr) (nm : Addr) (h0 : Heap) (n0 : Nat) (v : Option Value) (h : Heap) (L : List Loc) : Prop := v = some (.ref nm) ∧ Fr n0 L ∧ h = h0
theorem own_gn (l : Launch) (Z : State) (a0 : Array Value) (hw : ∀ d ∈ tables_1, d.before a0 Z = true) (ws : List Jvm.Cond) (f : Addr) (nm : Addr) (h0 : Heap) (n0 : Nat) (O0 : Old Z n0 h0) (FA : Fld Z h0 f "com/example/makewhole/makewhole/memberfiles/TableFields" "name" "Ljava/lang/String;" (.ref nm)) :
    own_Mt l own_y47 own_c44 1 (some (.object "java/lang/String")) ws (own_r 0 0 0 0) #[(.ref f)] Z h0 (own_Q_own_gn Z f nm h0 n0) := by
 refine MetFree.of_bodySF (plainFor_of_name own_pn15) hisR ?_
 intro p_ e s m args below meth c_ s₁ Bd hml0 hP hK
 obtain ⟨rfl, hZ, hh⟩ := hP
 have hx := Bd.exec
 have hby := Bd.bytes
 have hml : c_.maxLocals = 1 := hml0
 have hown : s.vm.findClass "com/example/makewhole/makewhole/memberfiles/TableFields" = some m.cls := findClass_of_methodNamed Bd.named
 have hnm := (name_of_methodNamed Bd.named Bd.method).1
 have X0 : Stand p_ l e (own_r 0 0 0 0) s m #[(.ref f)] below meth c_ s₁ [] 0 0 := Stand.of_body Bd
 have e0 : s₁.heap = h0 := by rw [← hh, Bd.state]; rfl
 have N0 := Fr.nil n0
 refine own_close (s := s) (Q := (own_Q_own_gn Z f nm h0 n0)) (own_st (fun _ => castTop (own_ef44 m f)) ?_)
 show own_Rch _ _ _ _ s₁ (mkF m 0 #[own_vr f] [])
 refine own_aloadN X0 hx hby own_d44_0 rfl rfl rfl ?_
 obtain ⟨T1, X1, e1, st1⟩ := own_gF X0 hx hZ hown (hw _ (own_m 96 rfl)) e0 FA (g := (mkF m 1 #[own_vr f] [(.ref f)])) rfl rfl (hb hby own_d44_1)
 refine own_st st1 ?_
 show own_Rch _ _ _ _ T1 (mkF m 4 #[own_vr f] [(.ref nm)])
 refine own_retA rfl rfl X1 hx Bd.notSynchronized Bd.returns (hb hby own_d44_4) (by decide) (by decide) ?_
 rw [e1]
 exact ⟨rfl, N0, rfl⟩
theorem own_pn16 : plainName "java/util/Objects" = true := by first | (simp [plainName, overriddenIn]; done) | decide +kernel
theorem own_ef48 (m : MethodId) (x0 : Addr) : entryFrame m #[(.ref x0)] 1 = mkF m 0 #[own_vr x0] [] := by first | (simp [entryFrame, mkF, argsToLocals, Value.category]; done) | rfl
abbrev own_c48 : ByteArray := jdk_31_method_10_code
theorem own_d48_0 : decode own_c48 0 = .ok (.aload_n 0, 1) := by decide +kernel
theorem own_d48_1 : decode own_c48 1 = .ok (.ifnonnull 11, 3) := by decide +kernel
theorem own_d48_12 : decode own_c48 12 = .ok (.aload_n 0, 1) := by decide +kernel
theorem own_d48_13 : decode own_c48 13 = .ok (.areturn, 1) := by decide +kernel
abbrev own_y48 : MethodName := ⟨"java/util/Objects", "requireNonNull", "(Ljava/lang/Object;)Ljava/lang/Object;"⟩
def own_Q_own_rnn (Z : State) (k : Addr) (h0 : Heap) (n0 : Nat) (v : Option Value) (h : Heap) (L : List Loc) : Prop := v = some (.ref k) ∧ Fr n0 L ∧ h = h0
theorem own_rnn (l : Launch) (Z : State) (a0 : Array Value) (hw : ∀ d ∈ tables_1, d.before a0 Z = true) (ws : List Jvm.Cond) (k : Addr) (h0 : Heap) (n0 : Nat) (O0 : Old Z n0 h0) :
    own_Mt l own_y48 own_c48 1 (some (.object "java/lang/Object")) ws (own_r 0 0 0 0) #[(.ref k)] Z h0 (own_Q_own_rnn Z k h0 n0) := by
 refine MetFree.of_bodySF (plainFor_of_name own_pn16) hisR ?_
 intro p_ e s m args below meth c_ s₁ Bd hml0 hP hK
 obtain ⟨rfl, hZ, hh⟩ := hP
 have hx := Bd.exec
 have hby := Bd.bytes
 have hml : c_.maxLocals = 1 := hml0
 have hown : s.vm.findClass "java/util/Objects" = some m.cls := findClass_of_methodNamed Bd.named
 have hnm := (name_of_methodNamed Bd.named Bd.method).1
 have X0 : Stand p_ l e (own_r 0 0 0 0) s m #[(.ref k)] below meth c_ s₁ [] 0 0 := Stand.of_body Bd
 have e0 : s₁.heap = h0 := by rw [← hh, Bd.state]; rfl
 have N0 := Fr.nil n0
 refine own_close (s := s) (Q := (own_Q_own_rnn Z k h0 n0)) (own_st (fun _ => castTop (own_ef48 m k)) ?_)
 show own_Rch _ _ _ _ s₁ (mkF m 0 #[own_vr k] [])
 refine own_aloadN X0 hx hby own_d48_0 rfl rfl rfl ?_
 show own_Rch _ _ _ _ s₁ (mkF m 1 #[own_vr k] [(.ref k)])
 refine own_st (fun _ => XS.ifnonnullYes X0.here hx rfl (pc0 := 1) (pc' := 12) rfl (hb hby own_d48_1) rfl (by decide) (by decide)) ?_
 refine own_aloadN X0 hx hby own_d48_12 rfl rfl rfl ?_
 show own_Rch _ _ _ _ s₁ (mkF m 13 #[own_vr k] [(.ref k)])
 refine own_retA rfl rfl X0 hx Bd.notSynchronized Bd.returns (hb hby own_d48_13) (by decide) (by decide) ?_
 rw [e0]
 exact ⟨rfl, N0, rfl⟩
theorem own_pn17 : plainName "java/util/ImmutableCollections$MapN" = true := by first | (simp [plainName, overriddenIn]; done) | decide +kernel
theorem own_ef47 (m : MethodId) (x0 : Addr) (x1 : Addr) : entryFrame m #[(.ref x0), (.ref x1)] 2 = mkF m 0 #[own_vr x0, own_vr x1] [] := by first | (simp [entryFrame, mkF, argsToLocals, Value.category]; done) | rfl
abbrev own_c47 : ByteArray := jdk_2605_method_2_code
theorem own_d47_0 : decode own_c47 0 = .ok (.aload_n 1, 1) := by decide +kernel
theorem own_d47_1 : decode own_c47 1 = .ok (.invokestatic 28, 3) := by decide +kernel
theorem own_pd38 : parseMethodDescriptor "(Ljava/lang/Object;)Ljava/lang/Object;" = some ⟨[(.object "java/lang/Object")], some (.object "java/lang/Object")⟩ := by decide +kernel
theorem own_d47_4 : decode own_c47 4 = .ok (.pop, 1) := by decide +kernel
theorem own_d47_5 : decode own_c47 5 = .ok (.aload_n 0, 1) := by decide +kernel
theorem own_d47_6 : decode own_c47 6 = .ok (.getfield 16, 3) := by decide +kernel
theorem own_d47_9 : decode own_c47 9 = .ok (.ifCond .le 15, 3) := by decide +kernel
theorem own_d47_24 : decode own_c47 24 = .ok (.iconst 0, 1) := by decide +kernel
theorem own_d47_25 : decode own_c47 25 = .ok (.ireturn, 1) := by decide +kernel
abbrev own_y49 : MethodName := ⟨"java/util/ImmutableCollections$MapN", "containsKey", "(Ljava/lang/Object;)Z"⟩
def own_Q_own_ck (Z : State) (em : Addr) (k : Addr) (h0 : Heap) (n0 : Nat) (v : Option Value) (h : Heap) (L : List Loc) : Prop := v = some (.int (0 : Int32)) ∧ Fr n0 L ∧ h = h0
theorem own_ck (l : Launch) (Z : State) (a0 : Array Value) (hw : ∀ d ∈ tables_1, d.before a0 Z = true) (ws : List Jvm.Cond) (em : Addr) (k : Addr) (h0 : Heap) (n0 : Nat) (O0 : Old Z n0 h0) (EM : Exa Z Z.heap em "java/util/ImmutableCollections$MapN") (FZ : Fld Z Z.heap em "java/util/ImmutableCollections$MapN" "size" "I" (.int (0 : Int32))) :
    own_Mt l own_y49 own_c47 2 (some .boolean) ws (own_r 1 0 0 12) #[(.ref em), (.ref k)] Z h0 (own_Q_own_ck Z em k h0 n0) := by
 refine MetFree.of_bodySF (plainFor_of_name own_pn17) hisR ?_
 intro p_ e s m args below meth c_ s₁ Bd hml0 hP hK
 obtain ⟨rfl, hZ, hh⟩ := hP
 have hx := Bd.exec
 have hby := Bd.bytes
 have hml : c_.maxLocals = 2 := hml0
 have hown : s.vm.findClass "java/util/ImmutableCollections$MapN" = some m.cls := findClass_of_methodNamed Bd.named
 have hnm := (name_of_methodNamed Bd.named Bd.method).1
 have X0 : Stand p_ l e (own_r 1 0 0 12) s m #[(.ref em), (.ref k)] below meth c_ s₁ [] 0 0 := Stand.of_body Bd
 have e0 : s₁.heap = h0 := by rw [← hh, Bd.state]; rfl
 have N0 := Fr.nil n0
 refine own_close (s := s) (Q := (own_Q_own_ck Z em k h0 n0)) (own_st (fun _ => castTop (own_ef47 m em k)) ?_)
 show own_Rch _ _ _ _ s₁ (mkF m 0 #[own_vr em, own_vr k] [])
 refine own_aloadN X0 hx hby own_d47_0 rfl rfl rfl ?_
 obtain ⟨_, _, ⟨T1, L1, k1, n1⟩, -, X1, ⟨Lc1, hQ1, l1, y1, z1⟩, st1⟩ := Jvm.LawKit.callS X0 hx (y := own_y48) hown (mvT hZ (hw _ (own_m 305 rfl))) (mvT hZ (hw _ (own_m 306 rfl))) (mvT hZ (hw _ (own_m 307 rfl))) (mvT hZ (hw _ (own_m 308 rfl))) (by decide) (backOf (W := 0) (own_rnn l Z a0 hw [] k h0 n0 O0 ) hZ (hw _ (own_m 308 rfl)) (hw _ (own_m 307 rfl)) (by decide) (by decide)) (g := (mkF m 1 #[own_vr em, own_vr k] [(.ref k)])) rfl (by rw [hml]; rfl) (argsL := [(.ref k)]) (rest := []) (lenOf own_pd38 rfl) rfl (by show 2 * 0 + _ ≤ _; exact Nat.le_of_eq rfl) (hb hby own_d47_1) (fun _ _ => ⟨rfl, e0, (by decide : 0 + 0 ≤ _), (by decide : 0 + 0 ≤ _)⟩)
 dsimp only [Pt.U, Pt.locs, Pt.cells, Pt.slots] at X1 l1 y1 z1 st1 hQ1
 subst l1 y1 z1
 obtain ⟨rfl, N1q, hh1⟩ := hQ1
 have N1 := Fr.app N0 N1q
 refine own_st st1 ?_
 refine own_st (fun _ => XS.pop X1.here hx rfl (hb hby own_d47_4) rfl rfl) ?_
 refine own_aloadN X1 hx hby own_d47_5 rfl rfl rfl ?_
 obtain ⟨T2, X2, e2, st2⟩ := own_gF X1 hx hZ hown (hw _ (own_m 309 rfl)) hh1 (FZ.ext O0.2) (g := (mkF m 6 #[own_vr em, own_vr k] [(.ref em)])) rfl rfl (hb hby own_d47_6)
 refine own_st st2 ?_
 show own_Rch _ _ _ _ T2 (mkF m 9 #[own_vr em, own_vr k] [(.int (0 : Int32))])
 refine own_st (fun _ => XS.ifYes X2.here hx rfl (pc0 := 9) (pc' := 24) rfl (hb hby own_d47_9) rfl ((if0 _ _).trans (flt ((by decide) : ¬ ((0 : Int32) < (0 : Int32)))).2.2.2) (by decide) (by decide)) ?_
 refine own_iconst X2 hx hby own_d47_24 rfl ?_
 show own_Rch _ _ _ _ T2 (mkF m 25 #[own_vr em, own_vr k] [(.int (0 : Int32))])
 refine own_retN (t := .boolean) (by simp) X2 hx Bd.notSynchronized Bd.returns (hb hby own_d47_25) (by decide) (by decide) ?_
 rw [e2]
 exact ⟨by decide, N1, rfl⟩
theorem own_ef50 (m : MethodId) (x0 : Addr) (x1 : Addr) : entryFrame m #[(.ref x0), (.ref x1)] 3 = mkF m 0 #[own_vr x0, own_vr x1, .unset] [] := by first | (simp [entryFrame, mkF, argsToLocals, Value.category]; done) | rfl
abbrev own_c50 : ByteArray := jdk_2605_method_5_code
theorem own_d50_0 : decode own_c50 0 = .ok (.aload_n 0, 1) := by decide +kernel
theorem own_d50_1 : decode own_c50 1 = .ok (.getfield 16, 3) := by decide +kernel
theorem own_d50_4 : decode own_c50 4 = .ok (.ifCond .ne 10, 3) := by decide +kernel
theorem own_d50_7 : decode own_c50 7 = .ok (.aload_n 1, 1) := by decide +kernel
theorem own_d50_8 : decode own_c50 8 = .ok (.invokestatic 28, 3) := by decide +kernel
theorem own_d50_11 : decode own_c50 11 = .ok (.pop, 1) := by decide +kernel
theorem own_d50_12 : decode own_c50 12 = .ok (.aconst_null, 1) := by decide +kernel
theorem own_d50_13 : decode own_c50 13 = .ok (.areturn, 1) := by decide +kernel
abbrev own_y50 : MethodName := ⟨"java/util/ImmutableCollections$MapN", "get", "(Ljava/lang/Object;)Ljava/lang/Object;"⟩
def own_Q_own_mg (Z : State) (em : Addr) (k : Addr) (h0 : Heap) (n0 : Nat) (v : Option Value) (h : Heap) (L : List Loc) : Prop := v = some .null ∧ Fr n0 L ∧ h = h0
theorem own_mg (l : Launch) (Z : State) (a0 : Array Value) (hw : ∀ d ∈ tables_1, d.before a0 Z = true) (ws : List Jvm.Cond) (em : Addr) (k : Addr) (h0 : Heap) (n0 : Nat) (O0 : Old Z n0 h0) (EM : Exa Z Z.heap em "java/util/ImmutableCollections$MapN") (FZ : Fld Z Z.heap em "java/util/ImmutableCollections$MapN" "size" "I" (.int (0 : Int32))) :
    own_Mt l own_y50 own_c50 3 (some (.object "java/lang/Object")) ws (own_r 1 0 0 12) #[(.ref em), (.ref k)] Z h0 (own_Q_own_mg Z em k h0 n0) := by
 refine MetFree.of_bodySF (plainFor_of_name own_pn17) hisR ?_
 intro p_ e s m args below meth c_ s₁ Bd hml0 hP hK
 obtain ⟨rfl, hZ, hh⟩ := hP
 have hx := Bd.exec
 have hby := Bd.bytes
 have hml : c_.maxLocals = 3 := hml0
 have hown : s.vm.findClass "java/util/ImmutableCollections$MapN" = some m.cls := findClass_of_methodNamed Bd.named
 have hnm := (name_of_methodNamed Bd.named Bd.method).1
 have X0 : Stand p_ l e (own_r 1 0 0 12) s m #[(.ref em), (.ref k)] below meth c_ s₁ [] 0 0 := Stand.of_body Bd
 have e0 : s₁.heap = h0 := by rw [← hh, Bd.state]; rfl
 have N0 := Fr.nil n0
 refine own_close (s := s) (Q := (own_Q_own_mg Z em k h0 n0)) (own_st (fun _ => castTop (own_ef50 m em k)) ?_)
 show own_Rch _ _ _ _ s₁ (mkF m 0 #[own_vr em, own_vr k, .unset] [])
 refine own_aloadN X0 hx hby own_d50_0 rfl rfl rfl ?_
 obtain ⟨T1, X1, e1, st1⟩ := own_gF X0 hx hZ hown (hw _ (own_m 309 rfl)) e0 (FZ.ext O0.2) (g := (mkF m 1 #[own_vr em, own_vr k, .unset] [(.ref em)])) rfl rfl (hb hby own_d50_1)
 refine own_st st1 ?_
 show own_Rch _ _ _ _ T1 (mkF m 4 #[own_vr em, own_vr k, .unset] [(.int (0 : Int32))])
 refine own_st (fun _ => XS.ifNo X1.here hx rfl (hb hby own_d50_4) rfl ((if0 _ _).trans (teq (rfl : (0 : Int32) = (0 : Int32))).2)) ?_
 refine own_aloadN X1 hx hby own_d50_7 rfl rfl rfl ?_
 obtain ⟨_, _, ⟨T2, L2, k2, n2⟩, -, X2, ⟨Lc2, hQ2, l2, y2, z2⟩, st2⟩ := Jvm.LawKit.callS X1 hx (y := own_y48) hown (mvT hZ (hw _ (own_m 305 rfl))) (mvT hZ (hw _ (own_m 306 rfl))) (mvT hZ (hw _ (own_m 307 rfl))) (mvT hZ (hw _ (own_m 308 rfl))) (by decide) (backOf (W := 0) (own_rnn l Z a0 hw [] k h0 n0 O0 ) hZ (hw _ (own_m 308 rfl)) (hw _ (own_m 307 rfl)) (by decide) (by decide)) (g := (mkF m 8 #[own_vr em, own_vr k, .unset] [(.ref k)])) rfl (by rw [hml]; rfl) (argsL := [(.ref k)]) (rest := []) (lenOf own_pd38 rfl) rfl (by show 2 * 0 + _ ≤ _; exact Nat.le_of_eq rfl) (hb hby own_d50_8) (fun _ _ => ⟨rfl, e1, (by decide : 0 + 0 ≤ _), (by decide : 0 + 0 ≤ _)⟩)
 dsimp only [Pt.U, Pt.locs, Pt.cells, Pt.slots] at X2 l2 y2 z2 st2 hQ2
 subst l2 y2 z2
 obtain ⟨rfl, N2q, hh2⟩ := hQ2
 have N2 := Fr.app N0 N2q
 refine own_st st2 ?_
 refine own_st (fun _ => XS.pop X2.here hx rfl (hb hby own_d50_11) rfl rfl) ?_
 refine own_st (fun _ => XS.aconstNull X2.here hx rfl (hb hby own_d50_12)) ?_
 show own_Rch _ _ _ _ T2 (mkF m 13 #[own_vr em, own_vr k, .unset] [.null])
 refine own_retA rfl rfl X2 hx Bd.notSynchronized Bd.returns (hb hby own_d50_13) (by decide) (by decide) ?_
 rw [hh2]
 exact ⟨rfl, N2, rfl⟩
theorem own_ef46 (m : MethodId) (x0 : Addr) (x1 : Addr) : entryFrame m #[(.ref x0), (.ref x1)] 2 = mkF m 0 #[own_vr x0, own_vr x1] [] := by first | (simp [entryFrame, mkF, argsToLocals, Value.category]; done) | rfl
abbrev own_c46 : ByteArray := prog_32_method_5_code
theorem own_d46_0 : decode own_c46 0 = .ok (.aload_n 0, 1) := by decide +kernel
theorem own_d46_1 : decode own_c46 1 = .ok (.getfield 20, 3) := by decide +kernel
theorem own_d46_4 : decode own_c46 4 = .ok (.aload_n 1, 1) := by decide +kernel
theorem own_d46_5 : decode own_c46 5 = .ok (.invokeinterface 41 2, 5) := by decide +kernel
theorem own_pd39 : parseMethodDescriptor "(Ljava/lang/Object;)Z" = some ⟨[(.object "java/lang/Object")], some .boolean⟩ := by decide +kernel
abbrev own_y51 : MethodName := ⟨"java/util/Map", "containsKey", "(Ljava/lang/Object;)Z"⟩
theorem own_d46_10 : decode own_c46 10 = .ok (.ireturn, 1) := by decide +kernel
abbrev own_y52 : MethodName := ⟨"com/example/makewhole/makewhole/memberfiles/TableFields", "hasArray", "(Ljava/lang/String;)Z"⟩
def own_Q_own_ha (Z : State) (f : Addr) (k : Addr) (em : Addr) (h0 : Heap) (n0 : Nat) (v : Option Value) (h : Heap) (L : List Loc) : Prop := v = some (.int (0 : Int32)) ∧ Fr n0 L ∧ h = h0
theorem own_ha (l : Launch) (Z : State) (a0 : Array Value) (hw : ∀ d ∈ tables_1, d.before a0 Z = true) (ws : List Jvm.Cond) (f : Addr) (k : Addr) (em : Addr) (h0 : Heap) (n0 : Nat) (O0 : Old Z n0 h0) (EM : Exa Z Z.heap em "java/util/ImmutableCollections$MapN") (FZ : Fld Z Z.heap em "java/util/ImmutableCollections$MapN" "size" "I" (.int (0 : Int32))) (FB : Fld Z h0 f "com/example/makewhole/makewhole/memberfiles/TableFields" "entries" "Ljava/util/Map;" (.ref em)) :
    own_Mt l own_y52 own_c46 2 (some .boolean) ws (own_r 2 0 0 25) #[(.ref f), (.ref k)] Z h0 (own_Q_own_ha Z f k em h0 n0) := by
 refine MetFree.of_bodySF (plainFor_of_name own_pn15) hisR ?_
 intro p_ e s m args below meth c_ s₁ Bd hml0 hP hK
 obtain ⟨rfl, hZ, hh⟩ := hP
 have hx := Bd.exec
 have hby := Bd.bytes
 have hml : c_.maxLocals = 2 := hml0
 have hown : s.vm.findClass "com/example/makewhole/makewhole/memberfiles/TableFields" = some m.cls := findClass_of_methodNamed Bd.named
 have hnm := (name_of_methodNamed Bd.named Bd.method).1
 have X0 : Stand p_ l e (own_r 2 0 0 25) s m #[(.ref f), (.ref k)] below meth c_ s₁ [] 0 0 := Stand.of_body Bd
 have e0 : s₁.heap = h0 := by rw [← hh, Bd.state]; rfl
 have N0 := Fr.nil n0
 refine own_close (s := s) (Q := (own_Q_own_ha Z f k em h0 n0)) (own_st (fun _ => castTop (own_ef46 m f k)) ?_)
 show own_Rch _ _ _ _ s₁ (mkF m 0 #[own_vr f, own_vr k] [])
 refine own_aloadN X0 hx hby own_d46_0 rfl rfl rfl ?_
 obtain ⟨T1, X1, e1, st1⟩ := own_gF X0 hx hZ hown (hw _ (own_m 100 rfl)) e0 FB (g := (mkF m 1 #[own_vr f, own_vr k] [(.ref f)])) rfl rfl (hb hby own_d46_1)
 refine own_st st1 ?_
 refine own_aloadN X1 hx hby own_d46_4 rfl rfl rfl ?_
 obtain ⟨cq2, kq2, q2a, q2b, q2c⟩ := isOf hZ e1 (EM.ext O0.2)
 obtain ⟨_, _, ⟨T2, L2, k2, n2⟩, -, X2, ⟨Lc2, hQ2, l2, y2, z2⟩, st2⟩ := X1.interfaceBack hx (xi := own_y51) (y := own_y49) hown (mvT hZ (hw _ (own_m 295 rfl))) (mvT hZ (hw _ (own_m 296 rfl))) (mvT hZ (hw _ (own_m 297 rfl))) (mvT hZ (hw _ (own_m 298 rfl))) (mvT hZ (hw _ (own_m 299 rfl))) (mvT hZ (hw _ (own_m 300 rfl))) (mvT hZ (hw _ (own_m 301 rfl))) (mvT hZ (hw _ (own_m 302 rfl))) (by decide) (backOf (W := 0) (own_ck l Z a0 hw [] em k h0 n0 O0 EM FZ) hZ (hw _ (own_m 304 rfl)) (hw _ (own_m 303 rfl)) (by decide) (by decide)) q2a q2b q2c (g := (mkF m 5 #[own_vr f, own_vr k] [(.ref k), (.ref em)])) rfl (by rw [hml]; rfl) (Steps.refl _) (argsL := [(.ref k)]) (rest := []) (lenOf own_pd39 rfl) rfl (by show 2 * 0 + _ ≤ _; exact Nat.le_of_eq rfl) (hb hby own_d46_5) (fun _ _ => ⟨rfl, e1, (by decide : 0 + 0 ≤ _), (by decide : 0 + 0 ≤ _)⟩)
 dsimp only [Pt.U, Pt.locs, Pt.cells, Pt.slots] at X2 l2 y2 z2 st2 hQ2
 subst l2 y2 z2
 obtain ⟨rfl, N2q, hh2⟩ := hQ2
 have N2 := Fr.app N0 N2q
 refine own_st (fun _ kt => st2.trans kt) ?_
 show own_Rch _ _ _ _ T2 (mkF m 10 #[own_vr f, own_vr k] [(.int (0 : Int32))])
 refine own_retN (t := .boolean) (by simp) X2 hx Bd.notSynchronized Bd.returns (hb hby own_d46_10) (by decide) (by decide) ?_
 rw [hh2]
 exact ⟨by decide, N2, rfl⟩
theorem own_ef49 (m : MethodId) (x0 : Addr) (x1 : Addr) (x2 : Addr) : entryFrame m #[(.ref x0), (.ref x1), (.ref x2)] 3 = mkF m 0 #[own_vr x0, own_vr x1, own_vr x2] [] := by first | (simp [entryFrame, mkF, argsToLocals, Value.category]; done) | rfl
abbrev own_c49 : ByteArray := prog_32_method_10_code
theorem own_d49_0 : decode own_c49 0 = .ok (.aload_n 0, 1) := by decide +kernel
theorem own_d49_1 : decode own_c49 1 = .ok (.getfield 20, 3) := by decide +kernel
theorem own_d49_4 : decode own_c49 4 = .ok (.aload_n 1, 1) := by decide +kernel
theorem own_d49_5 : decode own_c49 5 = .ok (.invokeinterface 123 2, 5) := by decide +kernel
abbrev own_y53 : MethodName := ⟨"java/util/Map", "get", "(Ljava/lang/Object;)Ljava/lang/Object;"⟩
theorem own_d49_10 : decode own_c49 10 = .ok (.checkcast 126, 3) := by decide +kernel
theorem own_d49_13 : decode own_c49 13 = .ok (.areturn, 1) := by decide +kernel
abbrev own_y54 : MethodName := ⟨"com/example/makewhole/makewhole/memberfiles/TableFields", "entries", "(Ljava/lang/String;Ljava/lang/String;)Ljava/util/List;"⟩
def own_Q_own_ent (Z : State) (f : Addr) (k : Addr) (k2 : Addr) (em : Addr) (h0 : Heap) (n0 : Nat) (v : Option Value) (h : Heap) (L : List Loc) : Prop := v = some .null ∧ Fr n0 L ∧ h = h0
theorem own_ent (l : Launch) (Z : State) (a0 : Array Value) (hw : ∀ d ∈ tables_1, d.before a0 Z = true) (ws : List Jvm.Cond) (f : Addr) (k : Addr) (k2 : Addr) (em : Addr) (h0 : Heap) (n0 : Nat) (O0 : Old Z n0 h0) (EM : Exa Z Z.heap em "java/util/ImmutableCollections$MapN") (FZ : Fld Z Z.heap em "java/util/ImmutableCollections$MapN" "size" "I" (.int (0 : Int32))) (FB : Fld Z h0 f "com/example/makewhole/makewhole/memberfiles/TableFields" "entries" "Ljava/util/Map;" (.ref em)) :
    own_Mt l own_y54 own_c49 3 (some (.object "java/util/List")) ws (own_r 2 0 0 26) #[(.ref f), (.ref k), (.ref k2)] Z h0 (own_Q_own_ent Z f k k2 em h0 n0) := by
 refine MetFree.of_bodySF (plainFor_of_name own_pn15) hisR ?_
 intro p_ e s m args below meth c_ s₁ Bd hml0 hP hK
 obtain ⟨rfl, hZ, hh⟩ := hP
 have hx := Bd.exec
 have hby := Bd.bytes
 have hml : c_.maxLocals = 3 := hml0
 have hown : s.vm.findClass "com/example/makewhole/makewhole/memberfiles/TableFields" = some m.cls := findClass_of_methodNamed Bd.named
 have hnm := (name_of_methodNamed Bd.named Bd.method).1
 have X0 : Stand p_ l e (own_r 2 0 0 26) s m #[(.ref f), (.ref k), (.ref k2)] below meth c_ s₁ [] 0 0 := Stand.of_body Bd
 have e0 : s₁.heap = h0 := by rw [← hh, Bd.state]; rfl
 have N0 := Fr.nil n0
 refine own_close (s := s) (Q := (own_Q_own_ent Z f k k2 em h0 n0)) (own_st (fun _ => castTop (own_ef49 m f k k2)) ?_)
 show own_Rch _ _ _ _ s₁ (mkF m 0 #[own_vr f, own_vr k, own_vr k2] [])
 refine own_aloadN X0 hx hby own_d49_0 rfl rfl rfl ?_
 obtain ⟨T1, X1, e1, st1⟩ := own_gF X0 hx hZ hown (hw _ (own_m 100 rfl)) e0 FB (g := (mkF m 1 #[own_vr f, own_vr k, own_vr k2] [(.ref f)])) rfl rfl (hb hby own_d49_1)
 refine own_st st1 ?_
 refine own_aloadN X1 hx hby own_d49_4 rfl rfl rfl ?_
 obtain ⟨cq2, kq2, q2a, q2b, q2c⟩ := isOf hZ e1 (EM.ext O0.2)
 obtain ⟨_, _, ⟨T2, L2, k2, n2⟩, -, X2, ⟨Lc2, hQ2, l2, y2, z2⟩, st2⟩ := X1.interfaceBack hx (xi := own_y53) (y := own_y50) hown (mvT hZ (hw _ (own_m 316 rfl))) (mvT hZ (hw _ (own_m 317 rfl))) (mvT hZ (hw _ (own_m 318 rfl))) (mvT hZ (hw _ (own_m 319 rfl))) (mvT hZ (hw _ (own_m 320 rfl))) (mvT hZ (hw _ (own_m 321 rfl))) (mvT hZ (hw _ (own_m 322 rfl))) (mvT hZ (hw _ (own_m 302 rfl))) (by decide) (backOf (W := 0) (own_mg l Z a0 hw [] em k h0 n0 O0 EM FZ) hZ (hw _ (own_m 323 rfl)) (hw _ (own_m 303 rfl)) (by decide) (by decide)) q2a q2b q2c (g := (mkF m 5 #[own_vr f, own_vr k, own_vr k2] [(.ref k), (.ref em)])) rfl (by rw [hml]; rfl) (Steps.refl _) (argsL := [(.ref k)]) (rest := []) (lenOf own_pd38 rfl) rfl (by show 2 * 0 + _ ≤ _; exact Nat.le_of_eq rfl) (hb hby own_d49_5) (fun _ _ => ⟨rfl, e1, (by decide : 0 + 0 ≤ _), (by decide : 0 + 0 ≤ _)⟩)
 dsimp only [Pt.U, Pt.locs, Pt.cells, Pt.slots] at X2 l2 y2 z2 st2 hQ2
 subst l2 y2 z2
 obtain ⟨rfl, N2q, hh2⟩ := hQ2
 have N2 := Fr.app N0 N2q
 refine own_st (fun _ kt => st2.trans kt) ?_
 show own_Rch _ _ _ _ T2 (mkF m 10 #[own_vr f, own_vr k, own_vr k2] [.null])
 refine own_st (X2.checkcastNull hx (g := (mkF m 10 #[own_vr f, own_vr k, own_vr k2] [.null])) rfl rfl (hb hby own_d49_10)) ?_
 show own_Rch _ _ _ _ T2 (mkF m 13 #[own_vr f, own_vr k, own_vr k2] [.null])
 refine own_retA rfl rfl X2 hx Bd.notSynchronized Bd.returns (hb hby own_d49_13) (by decide) (by decide) ?_
 rw [hh2]
 exact ⟨rfl, N2, rfl⟩
theorem own_inr {j n : Nat} (h : j < n) (hn : n < 2147483648) : ¬ Int32.ofNat j < 0 ∧ Int32.ofNat j < Int32.ofNat n := ⟨own_nneg (by omega), Jvm.Free.XT.lt32 hn h⟩
theorem own_ef54 (m : MethodId) (x0 : Addr) (x1 : Addr) : entryFrame m #[(.ref x0), (.ref x1)] 3 = mkF m 0 #[own_vr x0, own_vr x1, .unset] [] := by first | (simp [entryFrame, mkF, argsToLocals, Value.category]; done) | rfl
abbrev own_c54 : ByteArray := jdk_43_method_13_code
theorem own_d54_0 : decode own_c54 0 = .ok (.aload_n 0, 1) := by decide +kernel
theorem own_d54_1 : decode own_c54 1 = .ok (.arraylength, 1) := by decide +kernel
theorem own_d54_2 : decode own_c54 2 = .ok (.aload_n 1, 1) := by decide +kernel
theorem own_d54_3 : decode own_c54 3 = .ok (.arraylength, 1) := by decide +kernel
theorem own_d54_4 : decode own_c54 4 = .ok (.if_icmp .ne 30, 3) := by decide +kernel
theorem own_d54_7 : decode own_c54 7 = .ok (.iconst 0, 1) := by decide +kernel
theorem own_d54_8 : decode own_c54 8 = .ok (.istore_n 2, 1) := by decide +kernel
theorem own_d54_9 : decode own_c54 9 = .ok (.iload_n 2, 1) := by decide +kernel
theorem own_d54_10 : decode own_c54 10 = .ok (.aload_n 0, 1) := by decide +kernel
theorem own_d54_11 : decode own_c54 11 = .ok (.arraylength, 1) := by decide +kernel
theorem own_d54_12 : decode own_c54 12 = .ok (.if_icmp .ge 20, 3) := by decide +kernel
theorem own_d54_32 : decode own_c54 32 = .ok (.iconst 1, 1) := by decide +kernel
theorem own_d54_33 : decode own_c54 33 = .ok (.ireturn, 1) := by decide +kernel
theorem own_d54_15 : decode own_c54 15 = .ok (.aload_n 0, 1) := by decide +kernel
theorem own_d54_16 : decode own_c54 16 = .ok (.iload_n 2, 1) := by decide +kernel
theorem own_d54_17 : decode own_c54 17 = .ok (.baload, 1) := by decide +kernel
theorem own_d54_18 : decode own_c54 18 = .ok (.aload_n 1, 1) := by decide +kernel
theorem own_d54_19 : decode own_c54 19 = .ok (.iload_n 2, 1) := by decide +kernel
theorem own_d54_20 : decode own_c54 20 = .ok (.baload, 1) := by decide +kernel
theorem own_d54_21 : decode own_c54 21 = .ok (.if_icmp .eq 5, 3) := by decide +kernel
theorem own_d54_26 : decode own_c54 26 = .ok (.iinc 2 1, 3) := by decide +kernel
theorem own_d54_29 : decode own_c54 29 = .ok (.goto (-20), 3) := by decide +kernel
abbrev own_y55 : MethodName := ⟨"java/lang/StringLatin1", "equals", "([B[B)Z"⟩
def own_Q_own_leq (Z : State) (a : Addr) (b : Addr) (ka : ClassId) (kb : ClassId) (vs : List Value) (h0 : Heap) (n0 : Nat) (v : Option Value) (h : Heap) (L : List Loc) : Prop := v = some (.int (1 : Int32)) ∧ Fr n0 L ∧ h = h0
theorem own_leq (l : Launch) (Z : State) (a0 : Array Value) (hw : ∀ d ∈ tables_1, d.before a0 Z = true) (ws : List Jvm.Cond) (a : Addr) (b : Addr) (ka : ClassId) (kb : ClassId) (vs : List Value) (h0 : Heap) (n0 : Nat) (O0 : Old Z n0 h0) (VA : Arv Z h0 a ka .byte (Int32.ofNat vs.length) vs (.int (0 : Int32))) (VB : Arv Z h0 b kb .byte (Int32.ofNat vs.length) vs (.int (0 : Int32))) (hl : vs.length < 2147483648) :
    own_Mt l own_y55 own_c54 3 (some .boolean) ws (own_r 0 0 0 0) #[(.ref a), (.ref b)] Z h0 (own_Q_own_leq Z a b ka kb vs h0 n0) := by
 refine MetFree.of_bodySF (plainFor_of_name own_pn6) hisR ?_
 intro p_ e s m args below meth c_ s₁ Bd hml0 hP hK
 obtain ⟨rfl, hZ, hh⟩ := hP
 have hx := Bd.exec
 have hby := Bd.bytes
 have hml : c_.maxLocals = 3 := hml0
 have hown : s.vm.findClass "java/lang/StringLatin1" = some m.cls := findClass_of_methodNamed Bd.named
 have hnm := (name_of_methodNamed Bd.named Bd.method).1
 have X0 : Stand p_ l e (own_r 0 0 0 0) s m #[(.ref a), (.ref b)] below meth c_ s₁ [] 0 0 := Stand.of_body Bd
 have e0 : s₁.heap = h0 := by rw [← hh, Bd.state]; rfl
 have N0 := Fr.nil n0
 refine own_close (s := s) (Q := (own_Q_own_leq Z a b ka kb vs h0 n0)) (own_st (fun _ => castTop (own_ef54 m a b)) ?_)
 show own_Rch _ _ _ _ s₁ (mkF m 0 #[own_vr a, own_vr b, .unset] [])
 refine own_aloadN X0 hx hby own_d54_0 rfl rfl rfl ?_
 obtain ⟨cl1, Ar1, -, S1, M1, -, -⟩ := id VA
 refine own_st (X0.arraylength hx (by rw [e0]; exact Ar1.1) (State.isArrayOf_alike (hZ).alike Ar1.2.1) (g := (mkF m 1 #[own_vr a, own_vr b, .unset] [(.ref a)])) rfl rfl (hb hby own_d54_1)) ?_
 rw [len_of S1 M1]
 refine own_aloadN X0 hx hby own_d54_2 rfl rfl rfl ?_
 obtain ⟨cl2, Ar2, -, S2, M2, -, -⟩ := id VB
 refine own_st (X0.arraylength hx (by rw [e0]; exact Ar2.1) (State.isArrayOf_alike (hZ).alike Ar2.2.1) (g := (mkF m 3 #[own_vr a, own_vr b, .unset] [(.ref b), (.int (Int32.ofNat vs.length))])) rfl rfl (hb hby own_d54_3)) ?_
 rw [len_of S2 M2]
 show own_Rch _ _ _ _ s₁ (mkF m 4 #[own_vr a, own_vr b, .unset] [(.int (Int32.ofNat vs.length)), (.int (Int32.ofNat vs.length))])
 refine own_st (fun _ => XS.icmpNo X0.here hx rfl (hb hby own_d54_4) rfl (teq (rfl : (Int32.ofNat vs.length) = (Int32.ofNat vs.length))).2) ?_
 refine own_iconst X0 hx hby own_d54_7 rfl ?_
 refine own_st (fun _ => XS.istoreN X0.here hx rfl (hb hby own_d54_8) rfl (l' := #[own_vr a, own_vr b, own_vi (0 : Int32)]) rfl) ?_
 have c9 : ∀ (dd j : Nat), j + dd = vs.length → own_Rch p_ e below (own_End s below (own_Q_own_leq Z a b ka kb vs h0 n0) ((own_r 0 0 0 0)).cells ((own_r 0 0 0 0)).slots) s₁ (mkF m 9 #[own_vr a, own_vr b, own_vi (Int32.ofNat j)] []) := by
  intro dd
  induction dd with
  | zero =>
   intro j hj
   refine own_iloadN X0 hx hby own_d54_9 rfl rfl ?_
   refine own_aloadN X0 hx hby own_d54_10 rfl rfl rfl ?_
   obtain ⟨cl3, Ar3, -, S3, M3, -, -⟩ := id VA
   refine own_st (X0.arraylength hx (by rw [e0]; exact Ar3.1) (State.isArrayOf_alike (hZ).alike Ar3.2.1) (g := (mkF m 11 #[own_vr a, own_vr b, own_vi (Int32.ofNat j)] [(.ref a), (.int (Int32.ofNat j))])) rfl rfl (hb hby own_d54_11)) ?_
   rw [len_of S3 M3]
   show own_Rch _ _ _ _ s₁ (mkF m 12 #[own_vr a, own_vr b, own_vi (Int32.ofNat j)] [(.int (Int32.ofNat vs.length)), (.int (Int32.ofNat j))])
   refine own_st (fun _ => XS.icmpYes X0.here hx rfl (pc0 := 12) (pc' := 32) rfl (hb hby own_d54_12) rfl (flt (Jvm.Free.XT.nlt32 (by omega) (by omega) : ¬ ((Int32.ofNat j) < (Int32.ofNat vs.length)))).2.1 (by decide) (by decide)) ?_
   refine own_iconst X0 hx hby own_d54_32 rfl ?_
   show own_Rch _ _ _ _ s₁ (mkF m 33 #[own_vr a, own_vr b, own_vi (Int32.ofNat j)] [(.int (1 : Int32))])
   refine own_retN (t := .boolean) (by simp) X0 hx Bd.notSynchronized Bd.returns (hb hby own_d54_33) (by decide) (by decide) ?_
   rw [e0]
   exact ⟨by decide, N0, rfl⟩
  | succ dd ih =>
   intro j hj
   refine own_iloadN X0 hx hby own_d54_9 rfl rfl ?_
   refine own_aloadN X0 hx hby own_d54_10 rfl rfl rfl ?_
   obtain ⟨cl4, Ar4, -, S4, M4, -, -⟩ := id VA
   refine own_st (X0.arraylength hx (by rw [e0]; exact Ar4.1) (State.isArrayOf_alike (hZ).alike Ar4.2.1) (g := (mkF m 11 #[own_vr a, own_vr b, own_vi (Int32.ofNat j)] [(.ref a), (.int (Int32.ofNat j))])) rfl rfl (hb hby own_d54_11)) ?_
   rw [len_of S4 M4]
   show own_Rch _ _ _ _ s₁ (mkF m 12 #[own_vr a, own_vr b, own_vi (Int32.ofNat j)] [(.int (Int32.ofNat vs.length)), (.int (Int32.ofNat j))])
   refine own_st (fun _ => XS.icmpNo X0.here hx rfl (hb hby own_d54_12) rfl (tlt (Jvm.Free.XT.lt32 hl (by omega) : (Int32.ofNat j) < (Int32.ofNat vs.length))).2.1) ?_
   refine own_aloadN X0 hx hby own_d54_15 rfl rfl rfl ?_
   refine own_iloadN X0 hx hby own_d54_16 rfl rfl ?_
   obtain ⟨cl5, Ar5, q5, S5, M5, H5, G5⟩ := id VA
   have hin5 : ¬ ((Int32.ofNat j) < 0 ∨ cl5.slots.size ≤ ((Int32.ofNat j)).toNatClampNeg) := inb_of S5 (own_inr (by omega) hl)
   refine own_st (X0.baloadBytes hx (j := (Int32.ofNat j)) (v := (.int (own_iv (vs.getD j (.int (0 : Int32)))))) (by rw [e0]; exact Ar5.1) (State.isArrayOf_alike (hZ).alike Ar5.2.1) Ar5.2.2 hin5 (H5.at hin5 (by rw [own_n32 (by omega)]; exact own_ints VA hl j (by omega))) (g := (mkF m 17 #[own_vr a, own_vr b, own_vi (Int32.ofNat j)] [(.int (Int32.ofNat j)), (.ref a)])) rfl rfl (hb hby own_d54_17)) ?_
   refine own_aloadN X0 hx hby own_d54_18 rfl rfl rfl ?_
   refine own_iloadN X0 hx hby own_d54_19 rfl rfl ?_
   obtain ⟨cl6, Ar6, q6, S6, M6, H6, G6⟩ := id VB
   have hin6 : ¬ ((Int32.ofNat j) < 0 ∨ cl6.slots.size ≤ ((Int32.ofNat j)).toNatClampNeg) := inb_of S6 (own_inr (by omega) hl)
   refine own_st (X0.baloadBytes hx (j := (Int32.ofNat j)) (v := (.int (own_iv (vs.getD j (.int (0 : Int32)))))) (by rw [e0]; exact Ar6.1) (State.isArrayOf_alike (hZ).alike Ar6.2.1) Ar6.2.2 hin6 (H6.at hin6 (by rw [own_n32 (by omega)]; exact own_ints VA hl j (by omega))) (g := (mkF m 20 #[own_vr a, own_vr b, own_vi (Int32.ofNat j)] [(.int (Int32.ofNat j)), (.ref b), (.int (own_iv (vs.getD j (.int (0 : Int32)))))])) rfl rfl (hb hby own_d54_20)) ?_
   show own_Rch _ _ _ _ s₁ (mkF m 21 #[own_vr a, own_vr b, own_vi (Int32.ofNat j)] [(.int (own_iv (vs.getD j (.int (0 : Int32))))), (.int (own_iv (vs.getD j (.int (0 : Int32)))))])
   refine own_st (fun _ => XS.icmpYes X0.here hx rfl (pc0 := 21) (pc' := 26) rfl (hb hby own_d54_21) rfl (teq (rfl : (own_iv (vs.getD j (.int (0 : Int32)))) = (own_iv (vs.getD j (.int (0 : Int32)))))).1 (by decide) (by decide)) ?_
   show own_Rch _ _ _ _ s₁ (mkF m 26 #[own_vr a, own_vr b, own_vi (Int32.ofNat j)] [])
   refine own_st (fun _ => XS.iinc X0.here hx rfl (hb hby own_d54_26) rfl (l' := #[own_vr a, own_vr b, own_vi ((Int32.ofNat j) + (1 : Int32))]) rfl) ?_
   refine own_st (fun _ => XS.goto X0.here hx rfl (pc0 := 29) (pc' := 9) rfl (hb hby own_d54_29) (by decide) (by decide)) ?_
   show own_Rch _ _ _ _ s₁ (mkF m 9 #[own_vr a, own_vr b, own_vi ((Int32.ofNat j) + (1 : Int32))] [])
   rw [Jvm.Free.XT.succ32]
   exact ih (j + 1) (by omega)
 exact c9 vs.length 0 (Nat.zero_add _)
theorem own_ef45 (m : MethodId) (x0 : Addr) (x1 : Addr) : entryFrame m #[(.ref x0), (.ref x1)] 3 = mkF m 0 #[own_vr x0, own_vr x1, .unset] [] := by first | (simp [entryFrame, mkF, argsToLocals, Value.category]; done) | rfl
abbrev own_c45 : ByteArray := jdk_42_method_66_code
theorem own_d45_0 : decode own_c45 0 = .ok (.aload_n 0, 1) := by decide +kernel
theorem own_d45_1 : decode own_c45 1 = .ok (.aload_n 1, 1) := by decide +kernel
theorem own_d45_2 : decode own_c45 2 = .ok (.if_acmp .ne 5, 3) := by decide +kernel
theorem own_d45_5 : decode own_c45 5 = .ok (.iconst 1, 1) := by decide +kernel
theorem own_d45_6 : decode own_c45 6 = .ok (.ireturn, 1) := by decide +kernel
abbrev own_y56 : MethodName := ⟨"java/lang/String", "equals", "(Ljava/lang/Object;)Z"⟩
def own_Q_own_eqS (Z : State) (a : Addr) (h0 : Heap) (n0 : Nat) (v : Option Value) (h : Heap) (L : List Loc) : Prop := v = some (.int (1 : Int32)) ∧ Fr n0 L ∧ h = h0
theorem own_eqS (l : Launch) (Z : State) (a0 : Array Value) (hw : ∀ d ∈ tables_1, d.before a0 Z = true) (ws : List Jvm.Cond) (a : Addr) (h0 : Heap) (n0 : Nat) (O0 : Old Z n0 h0) :
    own_Mt l own_y56 own_c45 3 (some .boolean) ws (own_r 0 0 0 0) #[(.ref a), (.ref a)] Z h0 (own_Q_own_eqS Z a h0 n0) := by
 refine MetFree.of_bodySF (plainFor_of_name own_pn0) hisR ?_
 intro p_ e s m args below meth c_ s₁ Bd hml0 hP hK
 obtain ⟨rfl, hZ, hh⟩ := hP
 have hx := Bd.exec
 have hby := Bd.bytes
 have hml : c_.maxLocals = 3 := hml0
 have hown : s.vm.findClass "java/lang/String" = some m.cls := findClass_of_methodNamed Bd.named
 have hnm := (name_of_methodNamed Bd.named Bd.method).1
 have X0 : Stand p_ l e (own_r 0 0 0 0) s m #[(.ref a), (.ref a)] below meth c_ s₁ [] 0 0 := Stand.of_body Bd
 have e0 : s₁.heap = h0 := by rw [← hh, Bd.state]; rfl
 have N0 := Fr.nil n0
 refine own_close (s := s) (Q := (own_Q_own_eqS Z a h0 n0)) (own_st (fun _ => castTop (own_ef45 m a a)) ?_)
 show own_Rch _ _ _ _ s₁ (mkF m 0 #[own_vr a, own_vr a, .unset] [])
 refine own_aloadN X0 hx hby own_d45_0 rfl rfl rfl ?_
 refine own_aloadN X0 hx hby own_d45_1 rfl rfl rfl ?_
 show own_Rch _ _ _ _ s₁ (mkF m 2 #[own_vr a, own_vr a, .unset] [(.ref a), (.ref a)])
 refine own_st (fun _ => Jvm.RoadKit.acmp (g := (mkF m 2 #[own_vr a, own_vr a, .unset] [(.ref a), (.ref a)])) X0 hx rfl rfl rfl (pc0 := 2) (pc' := 5) (same := true) rfl (hb hby own_d45_2) rfl (decide_eq_true rfl) (by decide) (by decide)) ?_
 refine own_iconst X0 hx hby own_d45_5 rfl ?_
 show own_Rch _ _ _ _ s₁ (mkF m 6 #[own_vr a, own_vr a, .unset] [(.int (1 : Int32))])
 refine own_retN (t := .boolean) (by simp) X0 hx Bd.notSynchronized Bd.returns (hb hby own_d45_6) (by decide) (by decide) ?_
 rw [e0]
 exact ⟨by decide, N0, rfl⟩
theorem own_d45_7 : decode own_c45 7 = .ok (.aload_n 1, 1) := by decide +kernel
theorem own_d45_8 : decode own_c45 8 = .ok (.instanceof 10, 3) := by decide +kernel
theorem own_d45_11 : decode own_c45 11 = .ok (.ifCond .eq 43, 3) := by decide +kernel
theorem own_d45_14 : decode own_c45 14 = .ok (.aload_n 1, 1) := by decide +kernel
theorem own_d45_15 : decode own_c45 15 = .ok (.checkcast 10, 3) := by decide +kernel
theorem own_d45_18 : decode own_c45 18 = .ok (.astore_n 2, 1) := by decide +kernel
theorem own_d45_19 : decode own_c45 19 = .ok (.getstatic 38, 3) := by decide +kernel
theorem own_d45_22 : decode own_c45 22 = .ok (.ifCond .eq 14, 3) := by decide +kernel
theorem own_d45_25 : decode own_c45 25 = .ok (.aload_n 0, 1) := by decide +kernel
theorem own_d45_26 : decode own_c45 26 = .ok (.getfield 15, 3) := by decide +kernel
theorem own_d45_29 : decode own_c45 29 = .ok (.aload_n 2, 1) := by decide +kernel
theorem own_d45_30 : decode own_c45 30 = .ok (.getfield 15, 3) := by decide +kernel
theorem own_d45_33 : decode own_c45 33 = .ok (.if_icmp .ne 21, 3) := by decide +kernel
theorem own_d45_36 : decode own_c45 36 = .ok (.aload_n 0, 1) := by decide +kernel
theorem own_d45_37 : decode own_c45 37 = .ok (.getfield 9, 3) := by decide +kernel
theorem own_d45_40 : decode own_c45 40 = .ok (.aload_n 2, 1) := by decide +kernel
theorem own_d45_41 : decode own_c45 41 = .ok (.getfield 9, 3) := by decide +kernel
theorem own_d45_44 : decode own_c45 44 = .ok (.invokestatic 541, 3) := by decide +kernel
theorem own_pd40 : parseMethodDescriptor "([B[B)Z" = some ⟨[(.array .byte), (.array .byte)], some .boolean⟩ := by decide +kernel
theorem own_d45_47 : decode own_c45 47 = .ok (.ifCond .eq 7, 3) := by decide +kernel
theorem own_d45_50 : decode own_c45 50 = .ok (.iconst 1, 1) := by decide +kernel
theorem own_d45_51 : decode own_c45 51 = .ok (.goto 4, 3) := by decide +kernel
theorem own_d45_55 : decode own_c45 55 = .ok (.ireturn, 1) := by decide +kernel
def own_Q_own_eqC (Z : State) (a : Addr) (ya : Addr) (ka : ClassId) (vs : List Value) (b : Addr) (yb : Addr) (kb : ClassId) (cs : Int32) (h0 : Heap) (n0 : Nat) (v : Option Value) (h : Heap) (L : List Loc) : Prop := v = some (.int (1 : Int32)) ∧ Fr n0 L ∧ h = h0
theorem own_eqC (l : Launch) (Z : State) (a0 : Array Value) (hw : ∀ d ∈ tables_1, d.before a0 Z = true) (ws : List Jvm.Cond) (a : Addr) (ya : Addr) (ka : ClassId) (vs : List Value) (b : Addr) (yb : Addr) (kb : ClassId) (cs : Int32) (h0 : Heap) (n0 : Nat) (O0 : Old Z n0 h0) (SC : Sta Z Z.heap "java/lang/String" "COMPACT_STRINGS" "Z" (.int cs)) (hcs : ¬ cs = 0) (E1 : Exa Z h0 a "java/lang/String") (F1 : Fld Z h0 a "java/lang/String" "value" "[B" (.ref ya)) (G1 : Fld Z h0 a "java/lang/String" "coder" "B" (.int (0 : Int32))) (V1 : Arv Z h0 ya ka .byte (Int32.ofNat vs.length) vs (.int (0 : Int32))) (E2 : Exa Z h0 b "java/lang/String") (F2 : Fld Z h0 b "java/lang/String" "value" "[B" (.ref yb)) (G2 : Fld Z h0 b "java/lang/String" "coder" "B" (.int (0 : Int32))) (V2 : Arv Z h0 yb kb .byte (Int32.ofNat vs.length) vs (.int (0 : Int32))) (hl : vs.length < 2147483648) (hab : a ≠ b) :
    own_Mt l own_y56 own_c45 3 (some .boolean) ws (own_r 1 0 0 14) #[(.ref a), (.ref b)] Z h0 (own_Q_own_eqC Z a ya ka vs b yb kb cs h0 n0) := by
 refine MetFree.of_bodySF (plainFor_of_name own_pn0) hisR ?_
 intro p_ e s m args below meth c_ s₁ Bd hml0 hP hK
 obtain ⟨rfl, hZ, hh⟩ := hP
 have hx := Bd.exec
 have hby := Bd.bytes
 have hml : c_.maxLocals = 3 := hml0
 have hown : s.vm.findClass "java/lang/String" = some m.cls := findClass_of_methodNamed Bd.named
 have hnm := (name_of_methodNamed Bd.named Bd.method).1
 have X0 : Stand p_ l e (own_r 1 0 0 14) s m #[(.ref a), (.ref b)] below meth c_ s₁ [] 0 0 := Stand.of_body Bd
 have e0 : s₁.heap = h0 := by rw [← hh, Bd.state]; rfl
 have N0 := Fr.nil n0
 refine own_close (s := s) (Q := (own_Q_own_eqC Z a ya ka vs b yb kb cs h0 n0)) (own_st (fun _ => castTop (own_ef45 m a b)) ?_)
 show own_Rch _ _ _ _ s₁ (mkF m 0 #[own_vr a, own_vr b, .unset] [])
 refine own_aloadN X0 hx hby own_d45_0 rfl rfl rfl ?_
 refine own_aloadN X0 hx hby own_d45_1 rfl rfl rfl ?_
 show own_Rch _ _ _ _ s₁ (mkF m 2 #[own_vr a, own_vr b, .unset] [(.ref b), (.ref a)])
 refine own_st (fun _ => Jvm.RoadKit.acmp (g := (mkF m 2 #[own_vr a, own_vr b, .unset] [(.ref b), (.ref a)])) X0 hx rfl rfl rfl (pc0 := 2) (pc' := 7) (same := false) rfl (hb hby own_d45_2) rfl (decide_eq_false fun q => hab (Value.ref.inj q)) (by decide) (by decide)) ?_
 refine own_aloadN X0 hx hby own_d45_7 rfl rfl rfl ?_
 obtain ⟨T1, X1, e1, st1⟩ := instY X0 hx hZ hown (hw _ (own_m 342 rfl)) e0 (Ins.self E2) (g := (mkF m 8 #[own_vr a, own_vr b, .unset] [(.ref b)])) rfl rfl (hb hby own_d45_8)
 refine own_st st1 ?_
 show own_Rch _ _ _ _ T1 (mkF m 11 #[own_vr a, own_vr b, .unset] [(.int (1 : Int32))])
 refine own_st (fun _ => XS.ifNo X1.here hx rfl (hb hby own_d45_11) rfl ((if0 _ _).trans (feq ((by decide) : ¬ ((1 : Int32) = (0 : Int32)))).1)) ?_
 refine own_aloadN X1 hx hby own_d45_14 rfl rfl rfl ?_
 obtain ⟨T2, X2, e2, st2⟩ := castY X1 hx hZ hown (hw _ (own_m 342 rfl)) e1 (Ins.self E2) (g := (mkF m 15 #[own_vr a, own_vr b, .unset] [(.ref b)])) rfl rfl (hb hby own_d45_15)
 refine own_st st2 ?_
 refine own_st (fun _ => XS.astoreN X2.here hx rfl (hb hby own_d45_18) rfl rfl (l' := #[own_vr a, own_vr b, own_vr b]) rfl) ?_
 obtain ⟨T3, X3, e3, st3⟩ := getS2 X2 hx hZ hown (host := "") (Or.inl (hw _ (own_m 172 rfl))) Via.refl e2 (SC.ext O0.2) (g := (mkF m 19 #[own_vr a, own_vr b, own_vr b] [])) rfl (hb hby own_d45_19)
 refine own_st st3 ?_
 show own_Rch _ _ _ _ T3 (mkF m 22 #[own_vr a, own_vr b, own_vr b] [(.int cs)])
 refine own_st (fun _ => XS.ifNo X3.here hx rfl (hb hby own_d45_22) rfl ((if0 _ _).trans (feq (hcs : ¬ (cs = (0 : Int32)))).1)) ?_
 refine own_aloadN X3 hx hby own_d45_25 rfl rfl rfl ?_
 obtain ⟨T4, X4, e4, st4⟩ := own_gF X3 hx hZ hown (hw _ (own_m 173 rfl)) e3 G1 (g := (mkF m 26 #[own_vr a, own_vr b, own_vr b] [(.ref a)])) rfl rfl (hb hby own_d45_26)
 refine own_st st4 ?_
 refine own_aloadN X4 hx hby own_d45_29 rfl rfl rfl ?_
 obtain ⟨T5, X5, e5, st5⟩ := own_gF X4 hx hZ hown (hw _ (own_m 173 rfl)) e4 G2 (g := (mkF m 30 #[own_vr a, own_vr b, own_vr b] [(.ref b), (.int (0 : Int32))])) rfl rfl (hb hby own_d45_30)
 refine own_st st5 ?_
 show own_Rch _ _ _ _ T5 (mkF m 33 #[own_vr a, own_vr b, own_vr b] [(.int (0 : Int32)), (.int (0 : Int32))])
 refine own_st (fun _ => XS.icmpNo X5.here hx rfl (hb hby own_d45_33) rfl (teq (rfl : (0 : Int32) = (0 : Int32))).2) ?_
 refine own_aloadN X5 hx hby own_d45_36 rfl rfl rfl ?_
 obtain ⟨T6, X6, e6, st6⟩ := own_gF X5 hx hZ hown (hw _ (own_m 166 rfl)) e5 F1 (g := (mkF m 37 #[own_vr a, own_vr b, own_vr b] [(.ref a)])) rfl rfl (hb hby own_d45_37)
 refine own_st st6 ?_
 refine own_aloadN X6 hx hby own_d45_40 rfl rfl rfl ?_
 obtain ⟨T7, X7, e7, st7⟩ := own_gF X6 hx hZ hown (hw _ (own_m 166 rfl)) e6 F2 (g := (mkF m 41 #[own_vr a, own_vr b, own_vr b] [(.ref b), (.ref ya)])) rfl rfl (hb hby own_d45_41)
 refine own_st st7 ?_
 obtain ⟨_, _, ⟨T8, L8, k8, n8⟩, -, X8, ⟨Lc8, hQ8, l8, y8, z8⟩, st8⟩ := Jvm.LawKit.callS X7 hx (y := own_y55) hown (mvT hZ (hw _ (own_m 343 rfl))) (mvT hZ (hw _ (own_m 344 rfl))) (mvT hZ (hw _ (own_m 345 rfl))) (mvT hZ (hw _ (own_m 346 rfl))) (by decide) (backOf (W := 0) (own_leq l Z a0 hw [] ya yb ka kb vs h0 n0 O0 V1 V2 hl) hZ (hw _ (own_m 346 rfl)) (hw _ (own_m 345 rfl)) (by decide) (by decide)) (g := (mkF m 44 #[own_vr a, own_vr b, own_vr b] [(.ref yb), (.ref ya)])) rfl (by rw [hml]; rfl) (argsL := [(.ref ya), (.ref yb)]) (rest := []) (lenOf own_pd40 rfl) rfl (by show 2 * 0 + _ ≤ _; exact Nat.le_of_eq rfl) (hb hby own_d45_44) (fun _ _ => ⟨rfl, e7, (by decide : 0 + 0 ≤ _), (by decide : 0 + 0 ≤ _)⟩)
 dsimp only [Pt.U, Pt.locs, Pt.cells, Pt.slots] at X8 l8 y8 z8 st8 hQ8
 subst l8 y8 z8
 obtain ⟨rfl, N8q, hh8⟩ := hQ8
 have N8 := Fr.app N0 N8q
 refine own_st st8 ?_
 show own_Rch _ _ _ _ T8 (mkF m 47 #[own_vr a, own_vr b, own_vr b] [(.int (1 : Int32))])
 refine own_st (fun _ => XS.ifNo X8.here hx rfl (hb hby own_d45_47) rfl ((if0 _ _).trans (feq ((by decide) : ¬ ((1 : Int32) = (0 : Int32)))).1)) ?_
 refine own_iconst X8 hx hby own_d45_50 rfl ?_
 refine own_st (fun _ => XS.goto X8.here hx rfl (pc0 := 51) (pc' := 55) rfl (hb hby own_d45_51) (by decide) (by decide)) ?_
 show own_Rch _ _ _ _ T8 (mkF m 55 #[own_vr a, own_vr b, own_vr b] [(.int (1 : Int32))])
 refine own_retN (t := .boolean) (by simp) X8 hx Bd.notSynchronized Bd.returns (hb hby own_d45_55) (by decide) (by decide) ?_
 rw [hh8]
 exact ⟨by decide, N8, rfl⟩
theorem own_ef51n01 (m : MethodId)  : entryFrame m #[.null, .null] 2 = mkF m 0 #[.val .null, .val .null] [] := by first | (simp [entryFrame, mkF, argsToLocals, Value.category]; done) | rfl
abbrev own_c51 : ByteArray := method_3_code
theorem own_d51_0 : decode own_c51 0 = .ok (.aload_n 0, 1) := by decide +kernel
theorem own_d51_1 : decode own_c51 1 = .ok (.ifnonnull 13, 3) := by decide +kernel
theorem own_d51_4 : decode own_c51 4 = .ok (.aload_n 1, 1) := by decide +kernel
theorem own_d51_5 : decode own_c51 5 = .ok (.ifnonnull 7, 3) := by decide +kernel
theorem own_d51_8 : decode own_c51 8 = .ok (.iconst 1, 1) := by decide +kernel
theorem own_d51_9 : decode own_c51 9 = .ok (.goto 4, 3) := by decide +kernel
theorem own_d51_13 : decode own_c51 13 = .ok (.ireturn, 1) := by decide +kernel
abbrev own_y57 : MethodName := ⟨"com/example/makewhole/makewhole/memberfiles/TableFieldsOfEntryPinLaw", "same", "(Ljava/lang/String;Ljava/lang/String;)Z"⟩
def own_Q_own_smN (Z : State) (h0 : Heap) (n0 : Nat) (v : Option Value) (h : Heap) (L : List Loc) : Prop := v = some (.int (1 : Int32)) ∧ Fr n0 L ∧ h = h0
theorem own_smN (l : Launch) (Z : State) (a0 : Array Value) (hw : ∀ d ∈ tables_1, d.before a0 Z = true) (ws : List Jvm.Cond) (h0 : Heap) (n0 : Nat) (O0 : Old Z n0 h0) :
    own_Mt l own_y57 own_c51 2 (some .boolean) ws (own_r 0 0 0 0) #[.null, .null] Z h0 (own_Q_own_smN Z  h0 n0) := by
 refine MetFree.of_bodySF (plainFor_of_name own_pn8) hisR ?_
 intro p_ e s m args below meth c_ s₁ Bd hml0 hP hK
 obtain ⟨rfl, hZ, hh⟩ := hP
 have hx := Bd.exec
 have hby := Bd.bytes
 have hml : c_.maxLocals = 2 := hml0
 have hown : s.vm.findClass "com/example/makewhole/makewhole/memberfiles/TableFieldsOfEntryPinLaw" = some m.cls := findClass_of_methodNamed Bd.named
 have hnm := (name_of_methodNamed Bd.named Bd.method).1
 have X0 : Stand p_ l e (own_r 0 0 0 0) s m #[.null, .null] below meth c_ s₁ [] 0 0 := Stand.of_body Bd
 have e0 : s₁.heap = h0 := by rw [← hh, Bd.state]; rfl
 have N0 := Fr.nil n0
 refine own_close (s := s) (Q := (own_Q_own_smN Z  h0 n0)) (own_st (fun _ => castTop (own_ef51n01 m )) ?_)
 show own_Rch _ _ _ _ s₁ (mkF m 0 #[.val .null, .val .null] [])
 refine own_aloadN X0 hx hby own_d51_0 rfl rfl rfl ?_
 show own_Rch _ _ _ _ s₁ (mkF m 1 #[.val .null, .val .null] [.null])
 refine own_st (fun _ => XS.ifnonnullNo X0.here hx rfl (hb hby own_d51_1) rfl) ?_
 refine own_aloadN X0 hx hby own_d51_4 rfl rfl rfl ?_
 show own_Rch _ _ _ _ s₁ (mkF m 5 #[.val .null, .val .null] [.null])
 refine own_st (fun _ => XS.ifnonnullNo X0.here hx rfl (hb hby own_d51_5) rfl) ?_
 refine own_iconst X0 hx hby own_d51_8 rfl ?_
 refine own_st (fun _ => XS.goto X0.here hx rfl (pc0 := 9) (pc' := 13) rfl (hb hby own_d51_9) (by decide) (by decide)) ?_
 show own_Rch _ _ _ _ s₁ (mkF m 13 #[.val .null, .val .null] [(.int (1 : Int32))])
 refine own_retN (t := .boolean) (by simp) X0 hx Bd.notSynchronized Bd.returns (hb hby own_d51_13) (by decide) (by decide) ?_
 rw [e0]
 exact ⟨by decide, N0, rfl⟩
theorem own_ef51 (m : MethodId) (x0 : Addr) (x1 : Addr) : entryFrame m #[(.ref x0), (.ref x1)] 2 = mkF m 0 #[own_vr x0, own_vr x1] [] := by first | (simp [entryFrame, mkF, argsToLocals, Value.category]; done) | rfl
theorem own_d51_14 : decode own_c51 14 = .ok (.aload_n 0, 1) := by decide +kernel
theorem own_d51_15 : decode own_c51 15 = .ok (.aload_n 1, 1) := by decide +kernel
theorem own_d51_16 : decode own_c51 16 = .ok (.invokevirtual 18, 3) := by decide +kernel
theorem own_d51_19 : decode own_c51 19 = .ok (.ireturn, 1) := by decide +kernel
def own_Q_own_smR (Z : State) (a : Addr) (h0 : Heap) (n0 : Nat) (v : Option Value) (h : Heap) (L : List Loc) : Prop := v = some (.int (1 : Int32)) ∧ Fr n0 L ∧ h = h0
theorem own_smR (l : Launch) (Z : State) (a0 : Array Value) (hw : ∀ d ∈ tables_1, d.before a0 Z = true) (ws : List Jvm.Cond) (a : Addr) (h0 : Heap) (n0 : Nat) (O0 : Old Z n0 h0) (EA : Exa Z h0 a "java/lang/String") :
    own_Mt l own_y57 own_c51 2 (some .boolean) ws (own_r 1 0 0 14) #[(.ref a), (.ref a)] Z h0 (own_Q_own_smR Z a h0 n0) := by
 refine MetFree.of_bodySF (plainFor_of_name own_pn8) hisR ?_
 intro p_ e s m args below meth c_ s₁ Bd hml0 hP hK
 obtain ⟨rfl, hZ, hh⟩ := hP
 have hx := Bd.exec
 have hby := Bd.bytes
 have hml : c_.maxLocals = 2 := hml0
 have hown : s.vm.findClass "com/example/makewhole/makewhole/memberfiles/TableFieldsOfEntryPinLaw" = some m.cls := findClass_of_methodNamed Bd.named
 have hnm := (name_of_methodNamed Bd.named Bd.method).1
 have X0 : Stand p_ l e (own_r 1 0 0 14) s m #[(.ref a), (.ref a)] below meth c_ s₁ [] 0 0 := Stand.of_body Bd
 have e0 : s₁.heap = h0 := by rw [← hh, Bd.state]; rfl
 have N0 := Fr.nil n0
 refine own_close (s := s) (Q := (own_Q_own_smR Z a h0 n0)) (own_st (fun _ => castTop (own_ef51 m a a)) ?_)
 show own_Rch _ _ _ _ s₁ (mkF m 0 #[own_vr a, own_vr a] [])
 refine own_aloadN X0 hx hby own_d51_0 rfl rfl rfl ?_
 show own_Rch _ _ _ _ s₁ (mkF m 1 #[own_vr a, own_vr a] [(.ref a)])
 refine own_st (fun _ => XS.ifnonnullYes X0.here hx rfl (pc0 := 1) (pc' := 14) rfl (hb hby own_d51_1) rfl (by decide) (by decide)) ?_
 refine own_aloadN X0 hx hby own_d51_14 rfl rfl rfl ?_
 refine own_aloadN X0 hx hby own_d51_15 rfl rfl rfl ?_
 obtain ⟨cq1, kq1, q1a, q1b, q1c⟩ := isOf hZ e0 EA
 obtain ⟨_, _, ⟨T1, L1, k1, n1⟩, -, X1, ⟨Lc1, hQ1, l1, y1, z1⟩, st1⟩ := X0.virtualBack hx (y := own_y56) (z := own_y56) hown (mvT hZ (hw _ (own_m 285 rfl))) (mvT hZ (hw _ (own_m 286 rfl))) (notFace_of_selects (args := #[]) (mvT hZ (hw _ (own_m 288 rfl)))) (mvT hZ (hw _ (own_m 288 rfl))) (mvT hZ (hw _ (own_m 287 rfl))) (by decide) (backOf (W := 0) (own_eqS l Z a0 hw [] a h0 n0 O0 ) hZ (hw _ (own_m 289 rfl)) (hw _ (own_m 5 rfl)) (by decide) (by decide)) q1a q1c (g := (mkF m 16 #[own_vr a, own_vr a] [(.ref a), (.ref a)])) rfl (by rw [hml]; rfl) (Steps.refl _) (argsL := [(.ref a)]) (rest := []) (lenOf own_pd39 rfl) rfl (by show 2 * 0 + _ ≤ _; exact Nat.le_of_eq rfl) (hb hby own_d51_16) (fun _ _ => ⟨rfl, e0, (by decide : 0 + 0 ≤ _), (by decide : 0 + 0 ≤ _)⟩)
 dsimp only [Pt.U, Pt.locs, Pt.cells, Pt.slots] at X1 l1 y1 z1 st1 hQ1
 subst l1 y1 z1
 obtain ⟨rfl, N1q, hh1⟩ := hQ1
 have N1 := Fr.app N0 N1q
 refine own_st (fun _ kt => st1.trans kt) ?_
 show own_Rch _ _ _ _ T1 (mkF m 19 #[own_vr a, own_vr a] [(.int (1 : Int32))])
 refine own_retN (t := .boolean) (by simp) X1 hx Bd.notSynchronized Bd.returns (hb hby own_d51_19) (by decide) (by decide) ?_
 rw [hh1]
 exact ⟨by decide, N1, rfl⟩
theorem own_ef12 (m : MethodId) (x0 : Addr) (x1 : Addr) : entryFrame m #[(.ref x0), (.ref x1)] 2 = mkF m 0 #[own_vr x0, own_vr x1] [] := by first | (simp [entryFrame, mkF, argsToLocals, Value.category]; done) | rfl
abbrev own_c12 : ByteArray := prog_32_method_11_code
theorem own_d12_0 : decode own_c12 0 = .ok (.aload_n 0, 1) := by decide +kernel
theorem own_d12_1 : decode own_c12 1 = .ok (.getfield 23, 3) := by decide +kernel
theorem own_d12_4 : decode own_c12 4 = .ok (.ifnonnull 7, 3) := by decide +kernel
theorem own_d12_11 : decode own_c12 11 = .ok (.new 64, 3) := by decide +kernel
theorem own_d12_14 : decode own_c12 14 = .ok (.dup, 1) := by decide +kernel
theorem own_d12_15 : decode own_c12 15 = .ok (.aload_n 1, 1) := by decide +kernel
theorem own_d12_16 : decode own_c12 16 = .ok (.aload_n 1, 1) := by decide +kernel
theorem own_d12_17 : decode own_c12 17 = .ok (.invokevirtual 128, 3) := by decide +kernel
theorem own_pd41 : parseMethodDescriptor "()Ljava/util/Optional;" = some ⟨[], some (.object "java/util/Optional")⟩ := by decide +kernel
theorem own_d12_20 : decode own_c12 20 = .ok (.aconst_null, 1) := by decide +kernel
theorem own_d12_21 : decode own_c12 21 = .ok (.invokevirtual 132, 3) := by decide +kernel
theorem own_d12_24 : decode own_c12 24 = .ok (.checkcast 52, 3) := by decide +kernel
theorem own_d12_27 : decode own_c12 27 = .ok (.aload_n 0, 1) := by decide +kernel
theorem own_d12_28 : decode own_c12 28 = .ok (.getfield 23, 3) := by decide +kernel
theorem own_d12_31 : decode own_c12 31 = .ok (.aload_n 0, 1) := by decide +kernel
theorem own_d12_32 : decode own_c12 32 = .ok (.getfield 26, 3) := by decide +kernel
theorem own_d12_35 : decode own_c12 35 = .ok (.invokestatic 135, 3) := by decide +kernel
theorem own_pd42 : parseMethodDescriptor "(Ljava/lang/String;J)Ljava/lang/String;" = some ⟨[(.object "java/lang/String"), .long], some (.object "java/lang/String")⟩ := by decide +kernel
theorem own_d12_38 : decode own_c12 38 = .ok (.invokespecial 141, 3) := by decide +kernel
theorem own_pd43 : parseMethodDescriptor "(Lcom/example/makewhole/makewhole/member/MemberRecordException;Ljava/lang/String;Ljava/lang/String;)V" = some ⟨[(.object "com/example/makewhole/makewhole/member/MemberRecordException"), (.object "java/lang/String"), (.object "java/lang/String")], none⟩ := by decide +kernel
theorem own_d12_41 : decode own_c12 41 = .ok (.areturn, 1) := by decide +kernel
abbrev own_y58 : MethodName := ⟨"com/example/makewhole/makewhole/memberfiles/TableFields", "placed", "(Lcom/example/makewhole/makewhole/member/MemberRecordException;)Lcom/example/makewhole/makewhole/member/MemberRecordException;"⟩
def own_Q_own_pdR (Z : State) (f : Addr) (q : Addr) (mm : Addr) (ii : Addr) (sa : Addr) (sy : Addr) (sk : ClassId) (us : List Value) (x : Int64) (nn : Nat) (r : Nat) (st : Addr) (d1 : Addr) (d2 : Addr) (DO : Cell) (DN : Cell) (cs : Int32) (ua : Addr) (se : Addr) (eo : Addr) (h0 : Heap) (n0 : Nat) (v : Option Value) (h : Heap) (L : List Loc) : Prop := ∃ (w b yb : Addr) (kb : ClassId), v = some (.ref w) ∧ Fr n0 L ∧ Keep h0 h [] ∧ h0.size ≤ w ∧ h0.size ≤ b ∧ Exa Z h w "com/example/makewhole/makewhole/member/MemberRecordException" ∧ Fld Z h w "java/lang/Throwable" "detailMessage" "Ljava/lang/String;" (.ref mm) ∧ Fld Z h w "com/example/makewhole/makewhole/member/MemberRecordException" "id" "Ljava/lang/String;" (.ref ii) ∧ Fld Z h w "com/example/makewhole/makewhole/member/MemberRecordException" "place" "Ljava/lang/String;" (.ref b) ∧ Exa Z h b "java/lang/String" ∧ Fld Z h b "java/lang/String" "value" "[B" (.ref yb) ∧ Fld Z h b "java/lang/String" "coder" "B" (.int (0 : Int32)) ∧ Arv Z h yb kb .byte (Int32.ofNat (own_plc us r x nn DO DN).length) (own_plc us r x nn DO DN) (.int (0 : Int32))
theorem own_pdR (l : Launch) (Z : State) (a0 : Array Value) (hw : ∀ d ∈ tables_1, d.before a0 Z = true) (ws : List Jvm.Cond) (f : Addr) (q : Addr) (mm : Addr) (ii : Addr) (sa : Addr) (sy : Addr) (sk : ClassId) (us : List Value) (x : Int64) (nn : Nat) (r : Nat) (st : Addr) (d1 : Addr) (d2 : Addr) (DO : Cell) (DN : Cell) (cs : Int32) (ua : Addr) (se : Addr) (eo : Addr) (h0 : Heap) (n0 : Nat) (O0 : Old Z n0 h0) (SC : Sta Z Z.heap "java/lang/String" "COMPACT_STRINGS" "Z" (.int cs)) (hcs : ¬ cs = 0) (hlt : l.stackTraces = true) (SU : Sta Z Z.heap "java/lang/Throwable" "UNASSIGNED_STACK" "[Ljava/lang/StackTraceElement;" (.ref ua)) (SQ : Sta Z Z.heap "java/lang/Throwable" "SUPPRESSED_SENTINEL" "Ljava/util/List;" (.ref se)) (SP : Sta Z Z.heap "java/util/Optional" "EMPTY" "Ljava/util/Optional;" (.ref eo)) (EE : Exa Z Z.heap eo "java/util/Optional") (FE : Fld Z Z.heap eo "java/util/Optional" "value" "Ljava/lang/Object;" .null) (FD : Fld Z h0 f "com/example/makewhole/makewhole/memberfiles/TableFields" "table" "Ljava/lang/String;" (.ref sa)) (FL : Fld Z h0 f "com/example/makewhole/makewhole/memberfiles/TableFields" "line" "J" (.long x)) (EQ : Exa Z h0 q "com/example/makewhole/makewhole/member/MemberRecordException") (FM : Fld Z h0 q "java/lang/Throwable" "detailMessage" "Ljava/lang/String;" (.ref mm)) (FI : Fld Z h0 q "com/example/makewhole/makewhole/member/MemberRecordException" "id" "Ljava/lang/String;" (.ref ii)) (EI : Exa Z h0 ii "java/lang/String") (ES : Exa Z h0 sa "java/lang/String") (FS : Fld Z h0 sa "java/lang/String" "value" "[B" (.ref sy)) (GS : Fld Z h0 sa "java/lang/String" "coder" "B" (.int (0 : Int32))) (VS : Arv Z h0 sy sk .byte (Int32.ofNat us.length) us (.int (0 : Int32))) (hus : us.length ≤ 3) (hr21 : r ≤ 21) (hnn : nn ≤ 2 ^ 63) (hneg : (if x < 0 then x else -x) = Jvm.Free.SBG.negL nn) (hr : r = Jvm.Free.SBG.digitsL nn + Jvm.Free.SBG.GetCharsL.sgnL x) (DT1 : Jvm.Free.SBG.Tbl Z "DigitOnes" st d1 DO) (DT2 : Jvm.Free.SBG.Tbl Z "DigitTens" st d2 DN) :
    MetFree l own_y58 (head1 (Jvm.Cond.code own_y58 prog_32_method_11_code 2 (some (.object "com/example/makewhole/makewhole/member/MemberRecordException")) :: ws) (own_r 7 10 2891 150)) (fun args_ U => args_ = #[(.ref f), (.ref q)] ∧ Z.Warmed39 U.vm ∧ U.heap = h0 ∧ CHv Z consts_1 U.vm h0) (fun _ _ bl s _ => s.vm.MethodsKnown ∧ s.vm.FramesKnown bl) (fun _ U o U' => ∃ v L, o = .returned v ∧ (own_Q_own_pdR Z f q mm ii sa sy sk us x nn r st d1 d2 DO DN cs ua se eo h0 n0) v U'.heap L ∧ CHr Z consts_1 U.vm U.heap U'.vm U'.heap ∧ ReturnedEndW U o U' L (own_r 7 10 2891 150).cells (own_r 7 10 2891 150).slots) := by
 refine MetFree.of_bodySF (plainFor_of_name own_pn15) hisR ?_
 intro p_ e s m args below meth c_ s₁ Bd hml0 hP hK
 obtain ⟨rfl, hZ, hh, hCH⟩ := hP
 obtain ⟨hTK, hFK⟩ := hK
 have hx := Bd.exec
 have hby := Bd.bytes
 have hml : c_.maxLocals = 2 := hml0
 have hown : s.vm.findClass "com/example/makewhole/makewhole/memberfiles/TableFields" = some m.cls := findClass_of_methodNamed Bd.named
 have hnm := (name_of_methodNamed Bd.named Bd.method).1
 have X0 : Stand p_ l e (own_r 7 10 2891 150) (s.setVm s.vm) m #[(.ref f), (.ref q)] below meth c_ s₁ [] 0 0 := Stand.of_body Bd
 have e0 : s₁.heap = h0 := by rw [← hh, Bd.state]; rfl
 have N0 := Fr.nil n0
 have hh0 : s.heap = h0 := hh
 have CR0 : CHr Z consts_1 s.vm h0 s.vm h0 := CHr.refl hCH
 have hS0 : s.Since s.vm 0 := own_since s
 have hk0 : 0 ≤ h0.size := Nat.zero_le _
 refine own_closeH (Z := Z) (EL := consts_1) (s := s) (Q := (own_Q_own_pdR Z f q mm ii sa sy sk us x nn r st d1 d2 DO DN cs ua se eo h0 n0)) (own_st (fun _ => castTop (own_ef12 m f q)) ?_)
 have K0 := Keep.refl h0 []
 show own_Rch _ _ _ _ s₁ (mkF m 0 #[own_vr f, own_vr q] [])
 refine own_aloadN X0 hx hby own_d12_0 rfl rfl rfl ?_
 obtain ⟨T1, X1, e1, st1⟩ := own_gF X0 hx hZ hown (hw _ (own_m 102 rfl)) e0 FD (g := (mkF m 1 #[own_vr f, own_vr q] [(.ref f)])) rfl rfl (hb hby own_d12_1)
 refine own_st st1 ?_
 show own_Rch _ _ _ _ T1 (mkF m 4 #[own_vr f, own_vr q] [(.ref sa)])
 refine own_st (fun _ => XS.ifnonnullYes X1.here hx rfl (pc0 := 4) (pc' := 11) rfl (hb hby own_d12_4) rfl (by decide) (by decide)) ?_
 obtain ⟨T2, h2, X2, e2, E2, A2, D2, U2, st2⟩ := newO X1 hx hZ hown (hw _ (own_m 111 rfl)) (hw _ (own_m 13 rfl)) (hw _ (own_m 14 rfl)) e1 (g := (mkF m 11 #[own_vr f, own_vr q] [])) rfl (hb hby own_d12_11) (by decide) (by decide)
 obtain ⟨b2, g2⟩ : ∃ z, z = h0.size := ⟨_, rfl⟩
 rw [← g2] at A2 D2 U2 st2
 have ge2 : n0 ≤ b2 := by rw [g2]; exact own_old_le O0
 have ne2_f : f ≠ b2 := by rw [g2]; exact Nat.ne_of_lt FD.lt
 have ne2_q : q ≠ b2 := by rw [g2]; exact Nat.ne_of_lt EQ.lt
 have ne2_ii : ii ≠ b2 := by rw [g2]; exact Nat.ne_of_lt EI.lt
 have ne2_sa : sa ≠ b2 := by rw [g2]; exact Nat.ne_of_lt ES.lt
 have ne2_sy : sy ≠ b2 := by rw [g2]; exact Nat.ne_of_lt VS.lt
 have sz2 : h0.size ≤ b2 := by rw [g2]; exact K0.1
 have hkk2 := Nat.le_trans hk0 E2.1
 have O0_x2 := O0.ext E2
 have CR0_x2 := CR0.trans (CHr.ext E2 CR0.1)
 have FD_x2 := FD.ext E2
 have FL_x2 := FL.ext E2
 have EQ_x2 := EQ.ext E2
 have FM_x2 := FM.ext E2
 have FI_x2 := FI.ext E2
 have EI_x2 := EI.ext E2
 have ES_x2 := ES.ext E2
 have FS_x2 := FS.ext E2
 have GS_x2 := GS.ext E2
 have VS_x2 := VS.ext E2
 have K0_x2 := K0.ext E2
 have Y2 := Safe.ext E2 CR0.1 (Safe.new (Nat.le_of_eq g2.symm))
 refine own_st st2 ?_
 have F2_cause : Fld Z h2 b2 "java/lang/Throwable" "cause" "Ljava/lang/Throwable;" .null := D2 (Or.inl (hw _ (own_m 38 rfl))) (ty := (.object "java/lang/Throwable")) (by decide)
 have F2_stackTrace : Fld Z h2 b2 "java/lang/Throwable" "stackTrace" "[Ljava/lang/StackTraceElement;" .null := D2 (Or.inl (hw _ (own_m 41 rfl))) (ty := (.array (.object "java/lang/StackTraceElement"))) (by decide)
 have F2_suppressedExceptions : Fld Z h2 b2 "java/lang/Throwable" "suppressedExceptions" "Ljava/util/List;" .null := D2 (Or.inl (hw _ (own_m 44 rfl))) (ty := (.object "java/util/List")) (by decide)
 have F2_detailMessage : Fld Z h2 b2 "java/lang/Throwable" "detailMessage" "Ljava/lang/String;" .null := D2 (Or.inl (hw _ (own_m 68 rfl))) (ty := (.object "java/lang/String")) (by decide)
 have F2_backtrace : Fld Z h2 b2 "java/lang/Throwable" "backtrace" "Ljava/lang/Object;" .null := D2 (Or.inl (hw _ (own_m 69 rfl))) (ty := (.object "java/lang/Object")) (by decide)
 have F2_depth : Fld Z h2 b2 "java/lang/Throwable" "depth" "I" (.int (0 : Int32)) := D2 (Or.inl (hw _ (own_m 70 rfl))) (ty := .int) (by decide)
 have F2_id : Fld Z h2 b2 "com/example/makewhole/makewhole/member/MemberRecordException" "id" "Ljava/lang/String;" .null := D2 (Or.inr (hw _ (own_m 74 rfl))) (ty := (.object "java/lang/String")) (by decide)
 have F2_place : Fld Z h2 b2 "com/example/makewhole/makewhole/member/MemberRecordException" "place" "Ljava/lang/String;" .null := D2 (Or.inr (hw _ (own_m 76 rfl))) (ty := (.object "java/lang/String")) (by decide)
 refine own_dup X2 hx hby own_d12_14 rfl rfl rfl ?_
 refine own_aloadN X2 hx hby own_d12_15 rfl rfl rfl ?_
 refine own_aloadN X2 hx hby own_d12_16 rfl rfl rfl ?_
 obtain ⟨cq3, kq3, q3a, q3b, q3c⟩ := isOf hZ e2 EQ_x2
 obtain ⟨_, _, ⟨T3, L3, k3, n3⟩, -, X3, ⟨Lc3, hQ3, l3, y3, z3⟩, st3⟩ := X2.virtualBack hx (y := own_y41) (z := own_y41) hown (mvT hZ (hw _ (own_m 112 rfl))) (mvT hZ (hw _ (own_m 113 rfl))) (notFace_of_selects (args := #[]) (mvT hZ (hw _ (own_m 115 rfl)))) (mvT hZ (hw _ (own_m 115 rfl))) (mvT hZ (hw _ (own_m 114 rfl))) (by decide) (backOf (W := 3) (own_giR l Z a0 hw [] q ii h2 n0 O0_x2 FI_x2) hZ (hw _ (own_m 116 rfl)) (hw _ (own_m 14 rfl)) (by decide) (by decide)) q3a q3c (g := (mkF m 17 #[own_vr f, own_vr q] [(.ref q), (.ref q), (.ref b2), (.ref b2)])) rfl (by rw [hml]; rfl) (Steps.refl _) (argsL := []) (rest := [(.ref q), (.ref b2), (.ref b2)]) (lenOf own_pd41 rfl) rfl (by show 2 * 0 + _ ≤ _; exact Nat.le_of_eq rfl) (hb hby own_d12_17) (fun _ _ => ⟨rfl, e2, (by decide : 1 + 1 ≤ _), (by decide : 8 + 1 ≤ _)⟩)
 dsimp only [Pt.U, Pt.locs, Pt.cells, Pt.slots] at X3 l3 y3 z3 st3 hQ3
 subst l3 y3 z3
 obtain ⟨oo3, rfl, N3q, K3, ho3, Eo3, Fo3⟩ := hQ3
 have N3 := Fr.app N0 N3q
 refine own_st (fun _ kt => st3.trans kt) ?_
 have ne3_f_oo3 : f ≠ oo3 := Nat.ne_of_lt (Nat.lt_of_lt_of_le FD_x2.lt ho3)
 have ne3_q_oo3 : q ≠ oo3 := Nat.ne_of_lt (Nat.lt_of_lt_of_le EQ_x2.lt ho3)
 have ne3_ii_oo3 : ii ≠ oo3 := Nat.ne_of_lt (Nat.lt_of_lt_of_le EI_x2.lt ho3)
 have ne3_sa_oo3 : sa ≠ oo3 := Nat.ne_of_lt (Nat.lt_of_lt_of_le ES_x2.lt ho3)
 have ne3_sy_oo3 : sy ≠ oo3 := Nat.ne_of_lt (Nat.lt_of_lt_of_le VS_x2.lt ho3)
 have ne3_b2_oo3 : b2 ≠ oo3 := Nat.ne_of_lt (Nat.lt_of_lt_of_le F2_cause.lt ho3)
 have ge3_oo3 : n0 ≤ oo3 := Nat.le_trans (own_old_le O0_x2) ho3
 have sz3_oo3 : h0.size ≤ oo3 := Nat.le_trans K0_x2.1 ho3
 have hkk3 := Nat.le_trans hkk2 K3.1
 have O0_x3 := O0_x2.keep K3 all0
 have CR0_x3 := CR0_x2.trans (CHr.keep K3 sf0 CR0_x2.1)
 have FD_x3 := FD_x2.keep K3 nin0
 have FL_x3 := FL_x2.keep K3 nin0
 have EQ_x3 := EQ_x2.keep K3
 have FM_x3 := FM_x2.keep K3 nin0
 have FI_x3 := FI_x2.keep K3 nin0
 have EI_x3 := EI_x2.keep K3
 have ES_x3 := ES_x2.keep K3
 have FS_x3 := FS_x2.keep K3 nin0
 have GS_x3 := GS_x2.keep K3 nin0
 have VS_x3 := VS_x2.keep K3 nin0
 have K0_x3 := K0_x2.trans K3 all0
 have Y2_x3 := Safe.keep K3 sf0 CR0_x2.1 Y2
 have F2_cause_x3 := F2_cause.keep K3 nin0
 have F2_stackTrace_x3 := F2_stackTrace.keep K3 nin0
 have F2_suppressedExceptions_x3 := F2_suppressedExceptions.keep K3 nin0
 have F2_detailMessage_x3 := F2_detailMessage.keep K3 nin0
 have F2_backtrace_x3 := F2_backtrace.keep K3 nin0
 have F2_depth_x3 := F2_depth.keep K3 nin0
 have F2_id_x3 := F2_id.keep K3 nin0
 have F2_place_x3 := F2_place.keep K3 nin0
 have A2_x3 := A2.keep K3
 have U2_x3 := Unt.keep K3 nin0 U2
 refine own_st (fun _ => XS.aconstNull X3.here hx rfl (hb hby own_d12_20)) ?_
 obtain ⟨cq4, kq4, q4a, q4b, q4c⟩ := isOf hZ rfl Eo3
 obtain ⟨_, _, ⟨T4, L4, k4, n4⟩, -, X4, ⟨Lc4, hQ4, l4, y4, z4⟩, st4⟩ := X3.virtualBack hx (y := own_y43) (z := own_y43) hown (mvT hZ (hw _ (own_m 122 rfl))) (mvT hZ (hw _ (own_m 123 rfl))) (notFace_of_selects (args := #[]) (mvT hZ (hw _ (own_m 125 rfl)))) (mvT hZ (hw _ (own_m 125 rfl))) (mvT hZ (hw _ (own_m 124 rfl))) (by decide) (backOf (W := 3) (own_oeR l Z a0 hw [] oo3 ii T3.heap n0 O0_x3 Fo3) hZ (hw _ (own_m 126 rfl)) (hw _ (own_m 119 rfl)) (by decide) (by decide)) q4a q4c (g := (mkF m 21 #[own_vr f, own_vr q] [.null, (.ref oo3), (.ref q), (.ref b2), (.ref b2)])) rfl (by rw [hml]; rfl) (Steps.refl _) (argsL := [.null]) (rest := [(.ref q), (.ref b2), (.ref b2)]) (lenOf own_pd38 rfl) rfl (by show 2 * 0 + _ ≤ _; exact Nat.le_of_eq rfl) (hb hby own_d12_21) (fun _ _ => ⟨rfl, rfl, (by decide : 2 + 0 ≤ _), (by decide : 9 + 0 ≤ _)⟩)
 dsimp only [Pt.U, Pt.locs, Pt.cells, Pt.slots] at X4 l4 y4 z4 st4 hQ4
 subst l4 y4 z4
 obtain ⟨rfl, N4q, hh4⟩ := hQ4
 have N4 := Fr.app N3 N4q
 refine own_st (fun _ kt => st4.trans kt) ?_
 obtain ⟨T5, X5, e5, st5⟩ := castY X4 hx hZ hown (hw _ (own_m 380 rfl)) hh4 (Ins.self EI_x3) (g := (mkF m 24 #[own_vr f, own_vr q] [(.ref ii), (.ref q), (.ref b2), (.ref b2)])) rfl rfl (hb hby own_d12_24)
 refine own_st st5 ?_
 refine own_aloadN X5 hx hby own_d12_27 rfl rfl rfl ?_
 obtain ⟨T6, X6, e6, st6⟩ := own_gF X5 hx hZ hown (hw _ (own_m 102 rfl)) e5 FD_x3 (g := (mkF m 28 #[own_vr f, own_vr q] [(.ref f), (.ref ii), (.ref q), (.ref b2), (.ref b2)])) rfl rfl (hb hby own_d12_28)
 refine own_st st6 ?_
 refine own_aloadN X6 hx hby own_d12_31 rfl rfl rfl ?_
 obtain ⟨T7, X7, e7, st7⟩ := own_gF X6 hx hZ hown (hw _ (own_m 104 rfl)) e6 FL_x3 (g := (mkF m 32 #[own_vr f, own_vr q] [(.ref f), (.ref sa), (.ref ii), (.ref q), (.ref b2), (.ref b2)])) rfl rfl (hb hby own_d12_32)
 refine own_st st7 ?_
 obtain ⟨_, _, ⟨T8, L8, k8, n8⟩, -, X8, hSq8, hg8, ⟨Lc8, hQ8, l8, y8, z8, CB8⟩, st8⟩ := callSS X7 hx (y := own_y22) hown (mvT hZ (hw _ (own_m 129 rfl))) (mvT hZ (hw _ (own_m 130 rfl))) (mvT hZ (hw _ (own_m 131 rfl))) (mvT hZ (hw _ (own_m 132 rfl))) (by decide) (backOfSH (s := s) (W := 4) (own_place l Z a0 hw [] sa sy sk us x nn r st d1 d2 DO DN cs T3.heap n0 O0_x3 SC hcs ES_x3 FS_x3 GS_x3 VS_x3 hus hr21 hnn hneg hr DT1 DT2) hZ (hw _ (own_m 132 rfl)) (hw _ (own_m 131 rfl)) (by decide) (by decide) (own_hEL hw) CR0_x3.1) (g := (mkF m 35 #[own_vr f, own_vr q] [(.long x), (.ref sa), (.ref ii), (.ref q), (.ref b2), (.ref b2)])) rfl (by rw [hml]; rfl) (argsL := [(.ref sa), (.long x)]) (rest := [(.ref ii), (.ref q), (.ref b2), (.ref b2)]) (lenOf own_pd42 rfl) rfl (by show 2 * 0 + _ ≤ _; exact Nat.le_of_eq rfl) (hb hby own_d12_35) (fun _ _ => ⟨rfl, e7, (by decide : 2 + 7 ≤ _), (by decide : 9 + 130 ≤ _)⟩)
 dsimp only [Pt.U, Pt.locs, Pt.cells, Pt.slots] at X8 l8 y8 z8 st8 hQ8 hSq8 hg8 CB8
 subst l8 y8 z8
 obtain ⟨pb8, py8, pk8, rfl, N8q, K8, hb8, hy8, Es8, Fs8, Gs8, Vs8⟩ := hQ8
 have N8 := Fr.app N4 N8q
 have hS8 := foldS (s := s) hS0 (by rw [e7]; exact hkk3) hSq8 hg8
 have hZ8 : Z.Warmed39 T8.vm := State.Warmed39.trans (t := s.setVm s.vm) hZ hSq8.1
 have hown8 : T8.vm.findClass "com/example/makewhole/makewhole/memberfiles/TableFields" = some m.cls := by rw [hSq8.1.alike.findClass]; exact hown
 refine own_st (fun _ kt => st8.trans kt) ?_
 have ne8_f_pb8 : f ≠ pb8 := Nat.ne_of_lt (Nat.lt_of_lt_of_le FD_x3.lt hb8)
 have ne8_q_pb8 : q ≠ pb8 := Nat.ne_of_lt (Nat.lt_of_lt_of_le EQ_x3.lt hb8)
 have ne8_ii_pb8 : ii ≠ pb8 := Nat.ne_of_lt (Nat.lt_of_lt_of_le EI_x3.lt hb8)
 have ne8_sa_pb8 : sa ≠ pb8 := Nat.ne_of_lt (Nat.lt_of_lt_of_le ES_x3.lt hb8)
 have ne8_sy_pb8 : sy ≠ pb8 := Nat.ne_of_lt (Nat.lt_of_lt_of_le VS_x3.lt hb8)
 have ne8_b2_pb8 : b2 ≠ pb8 := Nat.ne_of_lt (Nat.lt_of_lt_of_le F2_cause_x3.lt hb8)
 have ne8_oo3_pb8 : oo3 ≠ pb8 := Nat.ne_of_lt (Nat.lt_of_lt_of_le Eo3.lt hb8)
 have ge8_pb8 : n0 ≤ pb8 := Nat.le_trans (own_old_le O0_x3) hb8
 have sz8_pb8 : h0.size ≤ pb8 := Nat.le_trans K0_x3.1 hb8
 have ne8_f_py8 : f ≠ py8 := Nat.ne_of_lt (Nat.lt_of_lt_of_le FD_x3.lt hy8)
 have ne8_q_py8 : q ≠ py8 := Nat.ne_of_lt (Nat.lt_of_lt_of_le EQ_x3.lt hy8)
 have ne8_ii_py8 : ii ≠ py8 := Nat.ne_of_lt (Nat.lt_of_lt_of_le EI_x3.lt hy8)
 have ne8_sa_py8 : sa ≠ py8 := Nat.ne_of_lt (Nat.lt_of_lt_of_le ES_x3.lt hy8)
 have ne8_sy_py8 : sy ≠ py8 := Nat.ne_of_lt (Nat.lt_of_lt_of_le VS_x3.lt hy8)
 have ne8_b2_py8 : b2 ≠ py8 := Nat.ne_of_lt (Nat.lt_of_lt_of_le F2_cause_x3.lt hy8)
 have ne8_oo3_py8 : oo3 ≠ py8 := Nat.ne_of_lt (Nat.lt_of_lt_of_le Eo3.lt hy8)
 have ge8_py8 : n0 ≤ py8 := Nat.le_trans (own_old_le O0_x3) hy8
 have sz8_py8 : h0.size ≤ py8 := Nat.le_trans K0_x3.1 hy8
 have Yq8_b2 := CB8.safe F2_cause_x3.lt Y2_x3
 have O0_x8 := O0_x3.keep K8 all0
 have CR0_x8 := CR0_x3.trans CB8
 have FD_x8 := FD_x3.keep K8 nin0
 have FL_x8 := FL_x3.keep K8 nin0
 have EQ_x8 := EQ_x3.keep K8
 have FM_x8 := FM_x3.keep K8 nin0
 have FI_x8 := FI_x3.keep K8 nin0
 have EI_x8 := EI_x3.keep K8
 have ES_x8 := ES_x3.keep K8
 have FS_x8 := FS_x3.keep K8 nin0
 have GS_x8 := GS_x3.keep K8 nin0
 have VS_x8 := VS_x3.keep K8 nin0
 have K0_x8 := K0_x3.trans K8 all0
 have F2_cause_x8 := F2_cause_x3.keep K8 nin0
 have F2_stackTrace_x8 := F2_stackTrace_x3.keep K8 nin0
 have F2_suppressedExceptions_x8 := F2_suppressedExceptions_x3.keep K8 nin0
 have F2_detailMessage_x8 := F2_detailMessage_x3.keep K8 nin0
 have F2_backtrace_x8 := F2_backtrace_x3.keep K8 nin0
 have F2_depth_x8 := F2_depth_x3.keep K8 nin0
 have F2_id_x8 := F2_id_x3.keep K8 nin0
 have F2_place_x8 := F2_place_x3.keep K8 nin0
 have A2_x8 := A2_x3.keep K8
 have U2_x8 := Unt.keep K8 nin0 U2_x3
 have Eo3_x8 := Eo3.keep K8
 have Fo3_x8 := Fo3.keep K8 nin0
 obtain ⟨_, _, ⟨T9, L9, k9, n9⟩, -, X9, ⟨Lc9, hQ9, l9, y9, z9⟩, st9⟩ := X8.specialBack hx (y := own_y38) rfl hown8 (mvT hZ8 (hw _ (own_m 270 rfl))) (mvT hZ8 (hw _ (own_m 271 rfl))) (mvT hZ8 (hw _ (own_m 272 rfl))) (by decide) (backOfKL (W := 1) (own_me3_RR l Z a0 hw [] b2 q mm ii pb8 ua se T8.heap n0 O0_x8 hlt SU SQ A2_x8 U2_x8 F2_cause_x8 F2_stackTrace_x8 F2_suppressedExceptions_x8 F2_detailMessage_x8 F2_backtrace_x8 F2_id_x8 F2_place_x8 ge2 EQ_x8 FM_x8 ne2_q) hZ8 (hw _ (own_m 272 rfl)) (hw _ (own_m 14 rfl)) (by decide) (by decide) (Vm.MethodsKnown.alikeC (hS8).1.alike hTK) (Vm.FramesKnown.alikeC (hS8).1.alike hFK)) (g := (mkF m 38 #[own_vr f, own_vr q] [(.ref pb8), (.ref ii), (.ref q), (.ref b2), (.ref b2)])) rfl (by rw [hml]; rfl) (Steps.refl _) (a := b2) (argsL := [(.ref q), (.ref ii), (.ref pb8)]) (rest := [(.ref b2)]) (lenOf own_pd43 rfl) rfl (by show 2 * 0 + _ ≤ _; exact Nat.le_of_eq rfl) (hb hby own_d12_38) (fun _ _ => ⟨rfl, rfl, (by decide : 9 + 1 ≤ _), (by decide : 139 + 2752 ≤ _)⟩)
 dsimp only [Pt.U, Pt.locs, Pt.cells, Pt.slots] at X9 l9 y9 z9 st9 hQ9
 subst l9 y9 z9
 obtain ⟨rfl, N9q, K9, Em9, Fm9, Fi9, Fp9⟩ := hQ9
 have N9 := Fr.app N8 N9q
 refine own_st (fun _ kt => st9.trans kt) ?_
 have hkk9 := Nat.le_trans (Nat.le_refl T8.heap.size) K9.1
 have O0_x9 := O0_x8.keep K9 (allS ge2 all0)
 have CR0_x9 := CR0_x8.trans (CHr.keep K9 (sfS Yq8_b2 sf0) CR0_x8.1)
 have FD_x9 := FD_x8.keep K9 (ninS ne2_f nin0)
 have FL_x9 := FL_x8.keep K9 (ninS ne2_f nin0)
 have EQ_x9 := EQ_x8.keep K9
 have FM_x9 := FM_x8.keep K9 (ninS ne2_q nin0)
 have FI_x9 := FI_x8.keep K9 (ninS ne2_q nin0)
 have EI_x9 := EI_x8.keep K9
 have ES_x9 := ES_x8.keep K9
 have FS_x9 := FS_x8.keep K9 (ninS ne2_sa nin0)
 have GS_x9 := GS_x8.keep K9 (ninS ne2_sa nin0)
 have VS_x9 := VS_x8.keep K9 (ninS ne2_sy nin0)
 have K0_x9 := K0_x8.trans K9 (allS (Or.inr sz2) all0)
 have A2_x9 := A2_x8.keep K9
 have Eo3_x9 := Eo3_x8.keep K9
 have Fo3_x9 := Fo3_x8.keep K9 (ninS (Ne.symm ne3_b2_oo3) nin0)
 have Yq8_b2_x9 := Safe.keep K9 (sfS Yq8_b2 sf0) CR0_x8.1 Yq8_b2
 have Es8_x9 := Es8.keep K9
 have Fs8_x9 := Fs8.keep K9 (ninS (Ne.symm ne8_b2_pb8) nin0)
 have Gs8_x9 := Gs8.keep K9 (ninS (Ne.symm ne8_b2_pb8) nin0)
 have Vs8_x9 := Vs8.keep K9 (ninS (Ne.symm ne8_b2_py8) nin0)
 show own_Rch _ _ _ _ T9 (mkF m 41 #[own_vr f, own_vr q] [(.ref b2)])
 refine own_retAH rfl rfl (by rw [hh0]; exact CR0_x9.trans (CHv.at (s := s) X9 hZ8 (own_hEL hw) CR0_x9.1)) (s := s) hS8 hkk9 X9 hx Bd.notSynchronized Bd.returns (hb hby own_d12_41) (by decide) (by decide) ?_
 exact ⟨_, _, _, _, rfl, N9, K0_x9, sz2, sz8_pb8, Em9, Fm9, Fi9, Fp9, Es8_x9, Fs8_x9, Gs8_x9, Vs8_x9⟩
def own_Q_own_pdN (Z : State) (f : Addr) (q : Addr) (mm : Addr) (sa : Addr) (sy : Addr) (sk : ClassId) (us : List Value) (x : Int64) (nn : Nat) (r : Nat) (st : Addr) (d1 : Addr) (d2 : Addr) (DO : Cell) (DN : Cell) (cs : Int32) (ua : Addr) (se : Addr) (eo : Addr) (h0 : Heap) (n0 : Nat) (v : Option Value) (h : Heap) (L : List Loc) : Prop := ∃ (w b yb : Addr) (kb : ClassId), v = some (.ref w) ∧ Fr n0 L ∧ Keep h0 h [] ∧ h0.size ≤ w ∧ h0.size ≤ b ∧ Exa Z h w "com/example/makewhole/makewhole/member/MemberRecordException" ∧ Fld Z h w "java/lang/Throwable" "detailMessage" "Ljava/lang/String;" (.ref mm) ∧ Fld Z h w "com/example/makewhole/makewhole/member/MemberRecordException" "id" "Ljava/lang/String;" .null ∧ Fld Z h w "com/example/makewhole/makewhole/member/MemberRecordException" "place" "Ljava/lang/String;" (.ref b) ∧ Exa Z h b "java/lang/String" ∧ Fld Z h b "java/lang/String" "value" "[B" (.ref yb) ∧ Fld Z h b "java/lang/String" "coder" "B" (.int (0 : Int32)) ∧ Arv Z h yb kb .byte (Int32.ofNat (own_plc us r x nn DO DN).length) (own_plc us r x nn DO DN) (.int (0 : Int32))
theorem own_pdN (l : Launch) (Z : State) (a0 : Array Value) (hw : ∀ d ∈ tables_1, d.before a0 Z = true) (ws : List Jvm.Cond) (f : Addr) (q : Addr) (mm : Addr) (sa : Addr) (sy : Addr) (sk : ClassId) (us : List Value) (x : Int64) (nn : Nat) (r : Nat) (st : Addr) (d1 : Addr) (d2 : Addr) (DO : Cell) (DN : Cell) (cs : Int32) (ua : Addr) (se : Addr) (eo : Addr) (h0 : Heap) (n0 : Nat) (O0 : Old Z n0 h0) (SC : Sta Z Z.heap "java/lang/String" "COMPACT_STRINGS" "Z" (.int cs)) (hcs : ¬ cs = 0) (hlt : l.stackTraces = true) (SU : Sta Z Z.heap "java/lang/Throwable" "UNASSIGNED_STACK" "[Ljava/lang/StackTraceElement;" (.ref ua)) (SQ : Sta Z Z.heap "java/lang/Throwable" "SUPPRESSED_SENTINEL" "Ljava/util/List;" (.ref se)) (SP : Sta Z Z.heap "java/util/Optional" "EMPTY" "Ljava/util/Optional;" (.ref eo)) (EE : Exa Z Z.heap eo "java/util/Optional") (FE : Fld Z Z.heap eo "java/util/Optional" "value" "Ljava/lang/Object;" .null) (FD : Fld Z h0 f "com/example/makewhole/makewhole/memberfiles/TableFields" "table" "Ljava/lang/String;" (.ref sa)) (FL : Fld Z h0 f "com/example/makewhole/makewhole/memberfiles/TableFields" "line" "J" (.long x)) (EQ : Exa Z h0 q "com/example/makewhole/makewhole/member/MemberRecordException") (FM : Fld Z h0 q "java/lang/Throwable" "detailMessage" "Ljava/lang/String;" (.ref mm)) (FI : Fld Z h0 q "com/example/makewhole/makewhole/member/MemberRecordException" "id" "Ljava/lang/String;" .null) (ES : Exa Z h0 sa "java/lang/String") (FS : Fld Z h0 sa "java/lang/String" "value" "[B" (.ref sy)) (GS : Fld Z h0 sa "java/lang/String" "coder" "B" (.int (0 : Int32))) (VS : Arv Z h0 sy sk .byte (Int32.ofNat us.length) us (.int (0 : Int32))) (hus : us.length ≤ 3) (hr21 : r ≤ 21) (hnn : nn ≤ 2 ^ 63) (hneg : (if x < 0 then x else -x) = Jvm.Free.SBG.negL nn) (hr : r = Jvm.Free.SBG.digitsL nn + Jvm.Free.SBG.GetCharsL.sgnL x) (DT1 : Jvm.Free.SBG.Tbl Z "DigitOnes" st d1 DO) (DT2 : Jvm.Free.SBG.Tbl Z "DigitTens" st d2 DN) :
    MetFree l own_y58 (head1 (Jvm.Cond.code own_y58 prog_32_method_11_code 2 (some (.object "com/example/makewhole/makewhole/member/MemberRecordException")) :: ws) (own_r 7 9 2890 150)) (fun args_ U => args_ = #[(.ref f), (.ref q)] ∧ Z.Warmed39 U.vm ∧ U.heap = h0 ∧ CHv Z consts_1 U.vm h0) (fun _ _ bl s _ => s.vm.MethodsKnown ∧ s.vm.FramesKnown bl) (fun _ U o U' => ∃ v L, o = .returned v ∧ (own_Q_own_pdN Z f q mm sa sy sk us x nn r st d1 d2 DO DN cs ua se eo h0 n0) v U'.heap L ∧ CHr Z consts_1 U.vm U.heap U'.vm U'.heap ∧ ReturnedEndW U o U' L (own_r 7 9 2890 150).cells (own_r 7 9 2890 150).slots) := by
 refine MetFree.of_bodySF (plainFor_of_name own_pn15) hisR ?_
 intro p_ e s m args below meth c_ s₁ Bd hml0 hP hK
 obtain ⟨rfl, hZ, hh, hCH⟩ := hP
 obtain ⟨hTK, hFK⟩ := hK
 have hx := Bd.exec
 have hby := Bd.bytes
 have hml : c_.maxLocals = 2 := hml0
 have hown : s.vm.findClass "com/example/makewhole/makewhole/memberfiles/TableFields" = some m.cls := findClass_of_methodNamed Bd.named
 have hnm := (name_of_methodNamed Bd.named Bd.method).1
 have X0 : Stand p_ l e (own_r 7 9 2890 150) (s.setVm s.vm) m #[(.ref f), (.ref q)] below meth c_ s₁ [] 0 0 := Stand.of_body Bd
 have e0 : s₁.heap = h0 := by rw [← hh, Bd.state]; rfl
 have N0 := Fr.nil n0
 have hh0 : s.heap = h0 := hh
 have CR0 : CHr Z consts_1 s.vm h0 s.vm h0 := CHr.refl hCH
 have hS0 : s.Since s.vm 0 := own_since s
 have hk0 : 0 ≤ h0.size := Nat.zero_le _
 refine own_closeH (Z := Z) (EL := consts_1) (s := s) (Q := (own_Q_own_pdN Z f q mm sa sy sk us x nn r st d1 d2 DO DN cs ua se eo h0 n0)) (own_st (fun _ => castTop (own_ef12 m f q)) ?_)
 have K0 := Keep.refl h0 []
 show own_Rch _ _ _ _ s₁ (mkF m 0 #[own_vr f, own_vr q] [])
 refine own_aloadN X0 hx hby own_d12_0 rfl rfl rfl ?_
 obtain ⟨T1, X1, e1, st1⟩ := own_gF X0 hx hZ hown (hw _ (own_m 102 rfl)) e0 FD (g := (mkF m 1 #[own_vr f, own_vr q] [(.ref f)])) rfl rfl (hb hby own_d12_1)
 refine own_st st1 ?_
 show own_Rch _ _ _ _ T1 (mkF m 4 #[own_vr f, own_vr q] [(.ref sa)])
 refine own_st (fun _ => XS.ifnonnullYes X1.here hx rfl (pc0 := 4) (pc' := 11) rfl (hb hby own_d12_4) rfl (by decide) (by decide)) ?_
 obtain ⟨T2, h2, X2, e2, E2, A2, D2, U2, st2⟩ := newO X1 hx hZ hown (hw _ (own_m 111 rfl)) (hw _ (own_m 13 rfl)) (hw _ (own_m 14 rfl)) e1 (g := (mkF m 11 #[own_vr f, own_vr q] [])) rfl (hb hby own_d12_11) (by decide) (by decide)
 obtain ⟨b2, g2⟩ : ∃ z, z = h0.size := ⟨_, rfl⟩
 rw [← g2] at A2 D2 U2 st2
 have ge2 : n0 ≤ b2 := by rw [g2]; exact own_old_le O0
 have ne2_f : f ≠ b2 := by rw [g2]; exact Nat.ne_of_lt FD.lt
 have ne2_q : q ≠ b2 := by rw [g2]; exact Nat.ne_of_lt EQ.lt
 have ne2_sa : sa ≠ b2 := by rw [g2]; exact Nat.ne_of_lt ES.lt
 have ne2_sy : sy ≠ b2 := by rw [g2]; exact Nat.ne_of_lt VS.lt
 have sz2 : h0.size ≤ b2 := by rw [g2]; exact K0.1
 have hkk2 := Nat.le_trans hk0 E2.1
 have O0_x2 := O0.ext E2
 have CR0_x2 := CR0.trans (CHr.ext E2 CR0.1)
 have FD_x2 := FD.ext E2
 have FL_x2 := FL.ext E2
 have EQ_x2 := EQ.ext E2
 have FM_x2 := FM.ext E2
 have FI_x2 := FI.ext E2
 have ES_x2 := ES.ext E2
 have FS_x2 := FS.ext E2
 have GS_x2 := GS.ext E2
 have VS_x2 := VS.ext E2
 have K0_x2 := K0.ext E2
 have Y2 := Safe.ext E2 CR0.1 (Safe.new (Nat.le_of_eq g2.symm))
 refine own_st st2 ?_
 have F2_cause : Fld Z h2 b2 "java/lang/Throwable" "cause" "Ljava/lang/Throwable;" .null := D2 (Or.inl (hw _ (own_m 38 rfl))) (ty := (.object "java/lang/Throwable")) (by decide)
 have F2_stackTrace : Fld Z h2 b2 "java/lang/Throwable" "stackTrace" "[Ljava/lang/StackTraceElement;" .null := D2 (Or.inl (hw _ (own_m 41 rfl))) (ty := (.array (.object "java/lang/StackTraceElement"))) (by decide)
 have F2_suppressedExceptions : Fld Z h2 b2 "java/lang/Throwable" "suppressedExceptions" "Ljava/util/List;" .null := D2 (Or.inl (hw _ (own_m 44 rfl))) (ty := (.object "java/util/List")) (by decide)
 have F2_detailMessage : Fld Z h2 b2 "java/lang/Throwable" "detailMessage" "Ljava/lang/String;" .null := D2 (Or.inl (hw _ (own_m 68 rfl))) (ty := (.object "java/lang/String")) (by decide)
 have F2_backtrace : Fld Z h2 b2 "java/lang/Throwable" "backtrace" "Ljava/lang/Object;" .null := D2 (Or.inl (hw _ (own_m 69 rfl))) (ty := (.object "java/lang/Object")) (by decide)
 have F2_depth : Fld Z h2 b2 "java/lang/Throwable" "depth" "I" (.int (0 : Int32)) := D2 (Or.inl (hw _ (own_m 70 rfl))) (ty := .int) (by decide)
 have F2_id : Fld Z h2 b2 "com/example/makewhole/makewhole/member/MemberRecordException" "id" "Ljava/lang/String;" .null := D2 (Or.inr (hw _ (own_m 74 rfl))) (ty := (.object "java/lang/String")) (by decide)
 have F2_place : Fld Z h2 b2 "com/example/makewhole/makewhole/member/MemberRecordException" "place" "Ljava/lang/String;" .null := D2 (Or.inr (hw _ (own_m 76 rfl))) (ty := (.object "java/lang/String")) (by decide)
 refine own_dup X2 hx hby own_d12_14 rfl rfl rfl ?_
 refine own_aloadN X2 hx hby own_d12_15 rfl rfl rfl ?_
 refine own_aloadN X2 hx hby own_d12_16 rfl rfl rfl ?_
 obtain ⟨cq3, kq3, q3a, q3b, q3c⟩ := isOf hZ e2 EQ_x2
 obtain ⟨_, _, ⟨T3, L3, k3, n3⟩, -, X3, ⟨Lc3, hQ3, l3, y3, z3⟩, st3⟩ := X2.virtualBack hx (y := own_y41) (z := own_y41) hown (mvT hZ (hw _ (own_m 112 rfl))) (mvT hZ (hw _ (own_m 113 rfl))) (notFace_of_selects (args := #[]) (mvT hZ (hw _ (own_m 115 rfl)))) (mvT hZ (hw _ (own_m 115 rfl))) (mvT hZ (hw _ (own_m 114 rfl))) (by decide) (backOf (W := 3) (own_giN l Z a0 hw [] q eo h2 n0 O0_x2 SP FI_x2) hZ (hw _ (own_m 116 rfl)) (hw _ (own_m 14 rfl)) (by decide) (by decide)) q3a q3c (g := (mkF m 17 #[own_vr f, own_vr q] [(.ref q), (.ref q), (.ref b2), (.ref b2)])) rfl (by rw [hml]; rfl) (Steps.refl _) (argsL := []) (rest := [(.ref q), (.ref b2), (.ref b2)]) (lenOf own_pd41 rfl) rfl (by show 2 * 0 + _ ≤ _; exact Nat.le_of_eq rfl) (hb hby own_d12_17) (fun _ _ => ⟨rfl, e2, (by decide : 1 + 0 ≤ _), (by decide : 8 + 0 ≤ _)⟩)
 dsimp only [Pt.U, Pt.locs, Pt.cells, Pt.slots] at X3 l3 y3 z3 st3 hQ3
 subst l3 y3 z3
 obtain ⟨rfl, N3q, hh3⟩ := hQ3
 have N3 := Fr.app N0 N3q
 refine own_st (fun _ kt => st3.trans kt) ?_
 refine own_st (fun _ => XS.aconstNull X3.here hx rfl (hb hby own_d12_20)) ?_
 obtain ⟨cq4, kq4, q4a, q4b, q4c⟩ := isOf hZ hh3 (EE.ext O0_x2.2)
 obtain ⟨_, _, ⟨T4, L4, k4, n4⟩, -, X4, ⟨Lc4, hQ4, l4, y4, z4⟩, st4⟩ := X3.virtualBack hx (y := own_y43) (z := own_y43) hown (mvT hZ (hw _ (own_m 122 rfl))) (mvT hZ (hw _ (own_m 123 rfl))) (notFace_of_selects (args := #[]) (mvT hZ (hw _ (own_m 125 rfl)))) (mvT hZ (hw _ (own_m 125 rfl))) (mvT hZ (hw _ (own_m 124 rfl))) (by decide) (backOf (W := 3) (own_oeN l Z a0 hw [] eo h2 n0 O0_x2 (FE.ext O0_x2.2)) hZ (hw _ (own_m 126 rfl)) (hw _ (own_m 119 rfl)) (by decide) (by decide)) q4a q4c (g := (mkF m 21 #[own_vr f, own_vr q] [.null, (.ref eo), (.ref q), (.ref b2), (.ref b2)])) rfl (by rw [hml]; rfl) (Steps.refl _) (argsL := [.null]) (rest := [(.ref q), (.ref b2), (.ref b2)]) (lenOf own_pd38 rfl) rfl (by show 2 * 0 + _ ≤ _; exact Nat.le_of_eq rfl) (hb hby own_d12_21) (fun _ _ => ⟨rfl, hh3, (by decide : 1 + 0 ≤ _), (by decide : 8 + 0 ≤ _)⟩)
 dsimp only [Pt.U, Pt.locs, Pt.cells, Pt.slots] at X4 l4 y4 z4 st4 hQ4
 subst l4 y4 z4
 obtain ⟨rfl, N4q, hh4⟩ := hQ4
 have N4 := Fr.app N3 N4q
 refine own_st (fun _ kt => st4.trans kt) ?_
 refine own_st (X4.checkcastNull hx (g := (mkF m 24 #[own_vr f, own_vr q] [.null, (.ref q), (.ref b2), (.ref b2)])) rfl rfl (hb hby own_d12_24)) ?_
 refine own_aloadN X4 hx hby own_d12_27 rfl rfl rfl ?_
 obtain ⟨T5, X5, e5, st5⟩ := own_gF X4 hx hZ hown (hw _ (own_m 102 rfl)) hh4 FD_x2 (g := (mkF m 28 #[own_vr f, own_vr q] [(.ref f), .null, (.ref q), (.ref b2), (.ref b2)])) rfl rfl (hb hby own_d12_28)
 refine own_st st5 ?_
 refine own_aloadN X5 hx hby own_d12_31 rfl rfl rfl ?_
 obtain ⟨T6, X6, e6, st6⟩ := own_gF X5 hx hZ hown (hw _ (own_m 104 rfl)) e5 FL_x2 (g := (mkF m 32 #[own_vr f, own_vr q] [(.ref f), (.ref sa), .null, (.ref q), (.ref b2), (.ref b2)])) rfl rfl (hb hby own_d12_32)
 refine own_st st6 ?_
 obtain ⟨_, _, ⟨T7, L7, k7, n7⟩, -, X7, hSq7, hg7, ⟨Lc7, hQ7, l7, y7, z7, CB7⟩, st7⟩ := callSS X6 hx (y := own_y22) hown (mvT hZ (hw _ (own_m 129 rfl))) (mvT hZ (hw _ (own_m 130 rfl))) (mvT hZ (hw _ (own_m 131 rfl))) (mvT hZ (hw _ (own_m 132 rfl))) (by decide) (backOfSH (s := s) (W := 4) (own_place l Z a0 hw [] sa sy sk us x nn r st d1 d2 DO DN cs h2 n0 O0_x2 SC hcs ES_x2 FS_x2 GS_x2 VS_x2 hus hr21 hnn hneg hr DT1 DT2) hZ (hw _ (own_m 132 rfl)) (hw _ (own_m 131 rfl)) (by decide) (by decide) (own_hEL hw) CR0_x2.1) (g := (mkF m 35 #[own_vr f, own_vr q] [(.long x), (.ref sa), .null, (.ref q), (.ref b2), (.ref b2)])) rfl (by rw [hml]; rfl) (argsL := [(.ref sa), (.long x)]) (rest := [.null, (.ref q), (.ref b2), (.ref b2)]) (lenOf own_pd42 rfl) rfl (by show 2 * 0 + _ ≤ _; exact Nat.le_of_eq rfl) (hb hby own_d12_35) (fun _ _ => ⟨rfl, e6, (by decide : 1 + 7 ≤ _), (by decide : 8 + 130 ≤ _)⟩)
 dsimp only [Pt.U, Pt.locs, Pt.cells, Pt.slots] at X7 l7 y7 z7 st7 hQ7 hSq7 hg7 CB7
 subst l7 y7 z7
 obtain ⟨pb7, py7, pk7, rfl, N7q, K7, hb7, hy7, Es7, Fs7, Gs7, Vs7⟩ := hQ7
 have N7 := Fr.app N4 N7q
 have hS7 := foldS (s := s) hS0 (by rw [e6]; exact hkk2) hSq7 hg7
 have hZ7 : Z.Warmed39 T7.vm := State.Warmed39.trans (t := s.setVm s.vm) hZ hSq7.1
 have hown7 : T7.vm.findClass "com/example/makewhole/makewhole/memberfiles/TableFields" = some m.cls := by rw [hSq7.1.alike.findClass]; exact hown
 refine own_st (fun _ kt => st7.trans kt) ?_
 have ne7_f_pb7 : f ≠ pb7 := Nat.ne_of_lt (Nat.lt_of_lt_of_le FD_x2.lt hb7)
 have ne7_q_pb7 : q ≠ pb7 := Nat.ne_of_lt (Nat.lt_of_lt_of_le EQ_x2.lt hb7)
 have ne7_sa_pb7 : sa ≠ pb7 := Nat.ne_of_lt (Nat.lt_of_lt_of_le ES_x2.lt hb7)
 have ne7_sy_pb7 : sy ≠ pb7 := Nat.ne_of_lt (Nat.lt_of_lt_of_le VS_x2.lt hb7)
 have ne7_b2_pb7 : b2 ≠ pb7 := Nat.ne_of_lt (Nat.lt_of_lt_of_le F2_cause.lt hb7)
 have ge7_pb7 : n0 ≤ pb7 := Nat.le_trans (own_old_le O0_x2) hb7
 have sz7_pb7 : h0.size ≤ pb7 := Nat.le_trans K0_x2.1 hb7
 have ne7_f_py7 : f ≠ py7 := Nat.ne_of_lt (Nat.lt_of_lt_of_le FD_x2.lt hy7)
 have ne7_q_py7 : q ≠ py7 := Nat.ne_of_lt (Nat.lt_of_lt_of_le EQ_x2.lt hy7)
 have ne7_sa_py7 : sa ≠ py7 := Nat.ne_of_lt (Nat.lt_of_lt_of_le ES_x2.lt hy7)
 have ne7_sy_py7 : sy ≠ py7 := Nat.ne_of_lt (Nat.lt_of_lt_of_le VS_x2.lt hy7)
 have ne7_b2_py7 : b2 ≠ py7 := Nat.ne_of_lt (Nat.lt_of_lt_of_le F2_cause.lt hy7)
 have ge7_py7 : n0 ≤ py7 := Nat.le_trans (own_old_le O0_x2) hy7
 have sz7_py7 : h0.size ≤ py7 := Nat.le_trans K0_x2.1 hy7
 have Yq7_b2 := CB7.safe F2_cause.lt Y2
 have O0_x7 := O0_x2.keep K7 all0
 have CR0_x7 := CR0_x2.trans CB7
 have FD_x7 := FD_x2.keep K7 nin0
 have FL_x7 := FL_x2.keep K7 nin0
 have EQ_x7 := EQ_x2.keep K7
 have FM_x7 := FM_x2.keep K7 nin0
 have FI_x7 := FI_x2.keep K7 nin0
 have ES_x7 := ES_x2.keep K7
 have FS_x7 := FS_x2.keep K7 nin0
 have GS_x7 := GS_x2.keep K7 nin0
 have VS_x7 := VS_x2.keep K7 nin0
 have K0_x7 := K0_x2.trans K7 all0
 have F2_cause_x7 := F2_cause.keep K7 nin0
 have F2_stackTrace_x7 := F2_stackTrace.keep K7 nin0
 have F2_suppressedExceptions_x7 := F2_suppressedExceptions.keep K7 nin0
 have F2_detailMessage_x7 := F2_detailMessage.keep K7 nin0
 have F2_backtrace_x7 := F2_backtrace.keep K7 nin0
 have F2_depth_x7 := F2_depth.keep K7 nin0
 have F2_id_x7 := F2_id.keep K7 nin0
 have F2_place_x7 := F2_place.keep K7 nin0
 have A2_x7 := A2.keep K7
 have U2_x7 := Unt.keep K7 nin0 U2
 obtain ⟨_, _, ⟨T8, L8, k8, n8⟩, -, X8, ⟨Lc8, hQ8, l8, y8, z8⟩, st8⟩ := X7.specialBack hx (y := own_y38) rfl hown7 (mvT hZ7 (hw _ (own_m 270 rfl))) (mvT hZ7 (hw _ (own_m 271 rfl))) (mvT hZ7 (hw _ (own_m 272 rfl))) (by decide) (backOfKL (W := 1) (own_me3_NR l Z a0 hw [] b2 q mm pb7 ua se T7.heap n0 O0_x7 hlt SU SQ A2_x7 U2_x7 F2_cause_x7 F2_stackTrace_x7 F2_suppressedExceptions_x7 F2_detailMessage_x7 F2_backtrace_x7 F2_id_x7 F2_place_x7 ge2 EQ_x7 FM_x7 ne2_q) hZ7 (hw _ (own_m 272 rfl)) (hw _ (own_m 14 rfl)) (by decide) (by decide) (Vm.MethodsKnown.alikeC (hS7).1.alike hTK) (Vm.FramesKnown.alikeC (hS7).1.alike hFK)) (g := (mkF m 38 #[own_vr f, own_vr q] [(.ref pb7), .null, (.ref q), (.ref b2), (.ref b2)])) rfl (by rw [hml]; rfl) (Steps.refl _) (a := b2) (argsL := [(.ref q), .null, (.ref pb7)]) (rest := [(.ref b2)]) (lenOf own_pd43 rfl) rfl (by show 2 * 0 + _ ≤ _; exact Nat.le_of_eq rfl) (hb hby own_d12_38) (fun _ _ => ⟨rfl, rfl, (by decide : 8 + 1 ≤ _), (by decide : 138 + 2752 ≤ _)⟩)
 dsimp only [Pt.U, Pt.locs, Pt.cells, Pt.slots] at X8 l8 y8 z8 st8 hQ8
 subst l8 y8 z8
 obtain ⟨rfl, N8q, K8, Em8, Fm8, Fi8, Fp8⟩ := hQ8
 have N8 := Fr.app N7 N8q
 refine own_st (fun _ kt => st8.trans kt) ?_
 have hkk8 := Nat.le_trans (Nat.le_refl T7.heap.size) K8.1
 have O0_x8 := O0_x7.keep K8 (allS ge2 all0)
 have CR0_x8 := CR0_x7.trans (CHr.keep K8 (sfS Yq7_b2 sf0) CR0_x7.1)
 have FD_x8 := FD_x7.keep K8 (ninS ne2_f nin0)
 have FL_x8 := FL_x7.keep K8 (ninS ne2_f nin0)
 have EQ_x8 := EQ_x7.keep K8
 have FM_x8 := FM_x7.keep K8 (ninS ne2_q nin0)
 have FI_x8 := FI_x7.keep K8 (ninS ne2_q nin0)
 have ES_x8 := ES_x7.keep K8
 have FS_x8 := FS_x7.keep K8 (ninS ne2_sa nin0)
 have GS_x8 := GS_x7.keep K8 (ninS ne2_sa nin0)
 have VS_x8 := VS_x7.keep K8 (ninS ne2_sy nin0)
 have K0_x8 := K0_x7.trans K8 (allS (Or.inr sz2) all0)
 have A2_x8 := A2_x7.keep K8
 have Yq7_b2_x8 := Safe.keep K8 (sfS Yq7_b2 sf0) CR0_x7.1 Yq7_b2
 have Es7_x8 := Es7.keep K8
 have Fs7_x8 := Fs7.keep K8 (ninS (Ne.symm ne7_b2_pb7) nin0)
 have Gs7_x8 := Gs7.keep K8 (ninS (Ne.symm ne7_b2_pb7) nin0)
 have Vs7_x8 := Vs7.keep K8 (ninS (Ne.symm ne7_b2_py7) nin0)
 show own_Rch _ _ _ _ T8 (mkF m 41 #[own_vr f, own_vr q] [(.ref b2)])
 refine own_retAH rfl rfl (by rw [hh0]; exact CR0_x8.trans (CHv.at (s := s) X8 hZ7 (own_hEL hw) CR0_x8.1)) (s := s) hS7 hkk8 X8 hx Bd.notSynchronized Bd.returns (hb hby own_d12_41) (by decide) (by decide) ?_
 exact ⟨_, _, _, _, rfl, N8, K0_x8, sz2, sz7_pb7, Em8, Fm8, Fi8, Fp8, Es7_x8, Fs7_x8, Gs7_x8, Vs7_x8⟩
theorem own_fldeq {args : Array Value} {Z : State} {t : Term} {a : Addr} {C n d : String} {k : Int32} (ht : t.eval args Z none [] Z = some (.ref a)) (h : (Jvm.Cond.eq (.field t C n d) (.int k)).value args Z none Z [] = some true) : Fld Z Z.heap a C n d (.int k) := by
  obtain ⟨x, y, h1, h2, -, k2⟩ := cmp_v (Or.inl h)
  cases (Term.int_eval k).symm.trans h2
  obtain ⟨z, rfl⟩ := k2
  simp only [Cond.value, h1, h2] at h
  have h3 : z = k := by simpa using h
  subst h3
  exact Fld.start ((fld_at ht).symm.trans h1)

theorem own_fldnull {args : Array Value} {Z : State} {t : Term} {a : Addr} {C n d : String} (ht : t.eval args Z none [] Z = some (.ref a)) (h : (Jvm.Cond.eq (.field t C n d) .null).value args Z none Z [] = some true) : Fld Z Z.heap a C n d .null := by
  cases hv : (Term.field t C n d).eval args Z none [] Z with
  | none => simp [Cond.value, hv] at h
  | some w =>
    have hw : w = .null := by
      have hn : (Term.null).eval args Z none [] Z = some .null := rfl
      simp only [Cond.value, hv, hn] at h
      cases w <;> simp at h ⊢
    subst hw
    exact Fld.start ((fld_at ht).symm.trans hv)
theorem own_arrv {args : Array Value} {Z : State} {t : Term} {ty : FieldType} (h : (Jvm.Cond.arrayOf t ty).value args Z none Z [] = some true) : ∃ x, t.eval args Z none [] Z = some (.ref x) := by
  cases hv : t.eval args Z none [] Z with
  | none => simp [Cond.value, hv] at h
  | some w => cases w <;> first | exact ⟨_, rfl⟩ | (simp [Cond.value, hv] at h)
theorem own_dig {Z : State} {args a0 : Array Value} (hf : Fit Z) (wa : (Jvm.Cond.arrayClass .byte).before a0 Z = true)
    (l1 : (Jvm.Cond.laysStatic "java/lang/Integer" "DigitOnes" "[B").before args Z = true) (i1 : (Jvm.Cond.initializedFor "java/lang/Integer" "DigitOnes" "[B").before args Z = true) (e1 : (Jvm.Cond.exactly (.static "java/lang/Integer" "DigitOnes" "[B") "[B").value args Z none Z [] = some true) (n1 : (Jvm.Cond.eq (.length (.static "java/lang/Integer" "DigitOnes" "[B")) (.int 100)).value args Z none Z [] = some true)
    (l2 : (Jvm.Cond.laysStatic "java/lang/Integer" "DigitTens" "[B").before args Z = true) (i2 : (Jvm.Cond.initializedFor "java/lang/Integer" "DigitTens" "[B").before args Z = true) (e2 : (Jvm.Cond.exactly (.static "java/lang/Integer" "DigitTens" "[B") "[B").value args Z none Z [] = some true) (n2 : (Jvm.Cond.eq (.length (.static "java/lang/Integer" "DigitTens" "[B")) (.int 100)).value args Z none Z [] = some true) :
    ∃ st d1 d2 D1 D2, Jvm.Free.SBG.Tbl Z "DigitOnes" st d1 D1 ∧ Jvm.Free.SBG.Tbl Z "DigitTens" st d2 D2 := by
  obtain ⟨st, d1, D1, c, k, T1, a1, a2, a3⟩ := own_tbl hf l1 i1 e1 n1 wa
  obtain ⟨st2, d2, D2, c2, k2, T2, b1, b2, b3⟩ := own_tbl hf l2 i2 e2 n2 wa
  cases a1.symm.trans b1
  cases a2.symm.trans b2
  cases a3.symm.trans b3
  exact ⟨st, d1, d2, D1, D2, T1, T2⟩
theorem own_ef0 (m : MethodId) (x0 : Int32) (x1 : Int32) (x2 : Int64) (x3 : Int32) (x4 : Int32) (x5 : Int32) : entryFrame m #[(.int x0), (.int x1), (.long x2), (.int x3), (.int x4), (.int x5)] maxLocals = mkF m 0 #[own_vi x0, own_vi x1, own_vl x2, .second, own_vi x3, own_vi x4, own_vi x5, .unset, .unset, .unset, .unset, .unset, .unset, .unset, .unset, .unset, .unset, .unset, .unset, .unset] [] := by first | (simp [entryFrame, mkF, argsToLocals, Value.category, maxLocals]; done) | rfl
theorem own_pd44 : parseMethodDescriptor "(II)Ljava/lang/String;" = some ⟨[.int, .int], some (.object "java/lang/String")⟩ := by decide +kernel
theorem own_pd45 : parseMethodDescriptor "(Ljava/util/Map;Ljava/lang/String;Ljava/lang/String;J)Lcom/example/makewhole/makewhole/memberfiles/TableFields;" = some ⟨[(.object "java/util/Map"), (.object "java/lang/String"), (.object "java/lang/String"), .long], some (.object "com/example/makewhole/makewhole/memberfiles/TableFields")⟩ := by decide +kernel
theorem own_pd46 : parseMethodDescriptor "(Lcom/example/makewhole/makewhole/member/MemberRecordException;)Lcom/example/makewhole/makewhole/member/MemberRecordException;" = some ⟨[(.object "com/example/makewhole/makewhole/member/MemberRecordException")], some (.object "com/example/makewhole/makewhole/member/MemberRecordException")⟩ := by decide +kernel
theorem own_pd47 : parseMethodDescriptor "(Ljava/lang/String;)Z" = some ⟨[(.object "java/lang/String")], some .boolean⟩ := by decide +kernel
theorem own_pd48 : parseMethodDescriptor "(Ljava/lang/String;Ljava/lang/String;)Ljava/util/List;" = some ⟨[(.object "java/lang/String"), (.object "java/lang/String")], some (.object "java/util/List")⟩ := by decide +kernel
theorem own_pd49 : parseMethodDescriptor "(Ljava/lang/String;Ljava/lang/String;)Z" = some ⟨[(.object "java/lang/String"), (.object "java/lang/String")], some .boolean⟩ := by decide +kernel
def own_Q_own_rm0 (Z : State) (p0 : Int32) (p1 : Int32) (p2 : Int64) (p3 : Int32) (p4 : Int32) (p5 : Int32) (nn : Nat) (r : Nat) (st : Addr) (d1 : Addr) (d2 : Addr) (DO : Cell) (DN : Cell) (cs : Int32) (ua : Addr) (se : Addr) (eo : Addr) (em : Addr) (h0 : Heap) (n0 : Nat) (v : Option Value) (h : Heap) (L : List Loc) : Prop := v = some (.int (1 : Int32)) ∧ Fr n0 L
theorem own_rm0 (l : Launch) (Z : State) (a0 : Array Value) (hw : ∀ d ∈ tables_1, d.before a0 Z = true) (ws : List Jvm.Cond) (p0 : Int32) (p1 : Int32) (p2 : Int64) (p3 : Int32) (p4 : Int32) (p5 : Int32) (nn : Nat) (r : Nat) (st : Addr) (d1 : Addr) (d2 : Addr) (DO : Cell) (DN : Cell) (cs : Int32) (ua : Addr) (se : Addr) (eo : Addr) (em : Addr) (h0 : Heap) (n0 : Nat) (O0 : Old Z n0 h0) (SC : Sta Z Z.heap "java/lang/String" "COMPACT_STRINGS" "Z" (.int cs)) (hcs : ¬ cs = 0) (hlt : l.stackTraces = true) (SU : Sta Z Z.heap "java/lang/Throwable" "UNASSIGNED_STACK" "[Ljava/lang/StackTraceElement;" (.ref ua)) (SQ : Sta Z Z.heap "java/lang/Throwable" "SUPPRESSED_SENTINEL" "Ljava/util/List;" (.ref se)) (SP : Sta Z Z.heap "java/util/Optional" "EMPTY" "Ljava/util/Optional;" (.ref eo)) (EE : Exa Z Z.heap eo "java/util/Optional") (FE : Fld Z Z.heap eo "java/util/Optional" "value" "Ljava/lang/Object;" .null) (SM : Sta Z Z.heap "java/util/ImmutableCollections" "EMPTY_MAP" "Ljava/util/ImmutableCollections$MapN;" (.ref em)) (EM : Exa Z Z.heap em "java/util/ImmutableCollections$MapN") (FZ : Fld Z Z.heap em "java/util/ImmutableCollections$MapN" "size" "I" (.int (0 : Int32))) (hr21 : r ≤ 21) (hnn : nn ≤ 2 ^ 63) (hneg : (if p2 < 0 then p2 else -p2) = Jvm.Free.SBG.negL nn) (hr : r = Jvm.Free.SBG.digitsL nn + Jvm.Free.SBG.GetCharsL.sgnL p2) (DT1 : Jvm.Free.SBG.Tbl Z "DigitOnes" st d1 DO) (DT2 : Jvm.Free.SBG.Tbl Z "DigitTens" st d2 DN) :
    MetFree l x (head1 (Jvm.Cond.code x code maxLocals ret :: ws) room_1) (fun args_ U => args_ = #[(.int p0), (.int p1), (.long p2), (.int p3), (.int p4), (.int p5)] ∧ Z.Warmed39 U.vm ∧ U.heap = h0 ∧ CHv Z consts_1 U.vm h0) (fun _ _ bl s _ => s.vm.MethodsKnown ∧ s.vm.FramesKnown bl) (fun _ U o U' => ∃ v L, o = .returned v ∧ (own_Q_own_rm0 Z p0 p1 p2 p3 p4 p5 nn r st d1 d2 DO DN cs ua se eo em h0 n0) v U'.heap L ∧ CHr Z consts_1 U.vm U.heap U'.vm U'.heap ∧ ReturnedEndW U o U' L room_1.cells room_1.slots) := by
 refine MetFree.of_bodySF (plainFor_of_name own_pn8) hisR ?_
 intro p_ e s m args below meth c_ s₁ Bd hml0 hP hK
 obtain ⟨rfl, hZ, hh, hCH⟩ := hP
 obtain ⟨hTK, hFK⟩ := hK
 have hx := Bd.exec
 have hby := Bd.bytes
 have hml : c_.maxLocals = 20 := hml0
 have hown : s.vm.findClass "com/example/makewhole/makewhole/memberfiles/TableFieldsOfEntryPinLaw" = some m.cls := findClass_of_methodNamed Bd.named
 have hnm := (name_of_methodNamed Bd.named Bd.method).1
 have X0 : Stand p_ l e room_1 (s.setVm s.vm) m #[(.int p0), (.int p1), (.long p2), (.int p3), (.int p4), (.int p5)] below meth c_ s₁ [] 0 0 := Stand.of_body Bd
 have e0 : s₁.heap = h0 := by rw [← hh, Bd.state]; rfl
 have N0 := Fr.nil n0
 have hh0 : s.heap = h0 := hh
 have CR0 : CHr Z consts_1 s.vm h0 s.vm h0 := CHr.refl hCH
 have hS0 : s.Since s.vm 0 := own_since s
 have hk0 : 0 ≤ h0.size := Nat.zero_le _
 refine own_closeH (Z := Z) (EL := consts_1) (s := s) (Q := (own_Q_own_rm0 Z p0 p1 p2 p3 p4 p5 nn r st d1 d2 DO DN cs ua se eo em h0 n0)) (own_st (fun _ => castTop (own_ef0 m p0 p1 p2 p3 p4 p5)) ?_)
 show own_Rch _ _ _ _ s₁ (mkF m 0 #[own_vi p0, own_vi p1, own_vl p2, .second, own_vi p3, own_vi p4, own_vi p5, .unset, .unset, .unset, .unset, .unset, .unset, .unset, .unset, .unset, .unset, .unset, .unset, .unset] [])
 refine own_iloadN X0 hx hby at_0 rfl rfl ?_
 refine own_iload X0 hx hby at_1 rfl rfl ?_
 refine own_iconst X0 hx hby at_3 rfl ?_
 show own_Rch _ _ _ _ s₁ (mkF m 4 #[own_vi p0, own_vi p1, own_vl p2, .second, own_vi p3, own_vi p4, own_vi p5, .unset, .unset, .unset, .unset, .unset, .unset, .unset, .unset, .unset, .unset, .unset, .unset, .unset] [(.int (3 : Int32)), (.int p5), (.int p0)])
 refine own_st (fun _ => XS.iand X0.here hx rfl (hb hby at_4) rfl) ?_
 obtain ⟨_, _, ⟨T1, L1, k1, n1⟩, -, X1, hSq1, hg1, ⟨Lc1, hQ1, l1, y1, z1, CB1⟩, st1⟩ := callSS X0 hx (y := own_y30) hown (mvT hZ (hw _ (own_m 0 rfl))) (mvT hZ (hw _ (own_m 1 rfl))) (mvT hZ (hw _ (own_m 2 rfl))) (mvT hZ (hw _ (own_m 3 rfl))) (by decide) (backOfSH (s := s) (W := 0) (own_str l Z a0 hw [] p0 (p5 &&& (3 : Int32)) cs h0 n0 O0 SC hcs (own_and3 _)) hZ (hw _ (own_m 3 rfl)) (hw _ (own_m 2 rfl)) (by decide) (by decide) (own_hEL hw) CR0.1) (g := (mkF m 5 #[own_vi p0, own_vi p1, own_vl p2, .second, own_vi p3, own_vi p4, own_vi p5, .unset, .unset, .unset, .unset, .unset, .unset, .unset, .unset, .unset, .unset, .unset, .unset, .unset] [(.int (p5 &&& (3 : Int32))), (.int p0)])) rfl (by rw [hml]; rfl) (argsL := [(.int p0), (.int (p5 &&& (3 : Int32)))]) (rest := []) (lenOf own_pd44 rfl) rfl (by show 2 * 0 + _ ≤ _; exact Nat.le_of_eq rfl) (hb hby at_5) (fun _ _ => ⟨rfl, e0, (by decide : 0 + 8 ≤ _), (by decide : 0 + 30 ≤ _)⟩)
 dsimp only [Pt.U, Pt.locs, Pt.cells, Pt.slots] at X1 l1 y1 z1 st1 hQ1 hSq1 hg1 CB1
 subst l1 y1 z1
 obtain ⟨sb1, sy1, sk1, us1, rfl, N1q, K1, hu1, Es1, Fs1, Gs1, Vs1⟩ := hQ1
 have N1 := Fr.app N0 N1q
 have hS1 := foldS (s := s) hS0 (by rw [e0]; exact hk0) hSq1 hg1
 have hZ1 : Z.Warmed39 T1.vm := State.Warmed39.trans (t := s.setVm s.vm) hZ hSq1.1
 have hown1 : T1.vm.findClass "com/example/makewhole/makewhole/memberfiles/TableFieldsOfEntryPinLaw" = some m.cls := by rw [hSq1.1.alike.findClass]; exact hown
 refine own_st (fun _ kt => st1.trans kt) ?_
 have O0_x1 := O0.keep K1 all0
 have CR0_x1 := CR0.trans CB1
 refine own_st (fun _ => XS.astore X1.here hx rfl (hb hby at_8) rfl rfl (l' := #[own_vi p0, own_vi p1, own_vl p2, .second, own_vi p3, own_vi p4, own_vi p5, own_vr sb1, .unset, .unset, .unset, .unset, .unset, .unset, .unset, .unset, .unset, .unset, .unset, .unset]) rfl) ?_
 refine own_iloadN X1 hx hby at_10 rfl rfl ?_
 refine own_iload X1 hx hby at_11 rfl rfl ?_
 refine own_iconst X1 hx hby at_13 rfl ?_
 show own_Rch _ _ _ _ T1 (mkF m 14 #[own_vi p0, own_vi p1, own_vl p2, .second, own_vi p3, own_vi p4, own_vi p5, own_vr sb1, .unset, .unset, .unset, .unset, .unset, .unset, .unset, .unset, .unset, .unset, .unset, .unset] [(.int (2 : Int32)), (.int p5), (.int p1)])
 refine own_st (fun _ => XS.iushr X1.here hx rfl (hb hby at_14) rfl) ?_
 refine own_iconst X1 hx hby at_15 rfl ?_
 show own_Rch _ _ _ _ T1 (mkF m 16 #[own_vi p0, own_vi p1, own_vl p2, .second, own_vi p3, own_vi p4, own_vi p5, own_vr sb1, .unset, .unset, .unset, .unset, .unset, .unset, .unset, .unset, .unset, .unset, .unset, .unset] [(.int (3 : Int32)), (.int ((p5.toUInt32 >>> ((2 : Int32) &&& 31).toUInt32).toInt32)), (.int p1)])
 refine own_st (fun _ => XS.iand X1.here hx rfl (hb hby at_16) rfl) ?_
 obtain ⟨_, _, ⟨T2, L2, k2, n2⟩, -, X2, hSq2, hg2, ⟨Lc2, hQ2, l2, y2, z2, CB2⟩, st2⟩ := callSS X1 hx (y := own_y30) hown1 (mvT hZ1 (hw _ (own_m 0 rfl))) (mvT hZ1 (hw _ (own_m 1 rfl))) (mvT hZ1 (hw _ (own_m 2 rfl))) (mvT hZ1 (hw _ (own_m 3 rfl))) (by decide) (backOfSH (s := s) (W := 0) (own_str l Z a0 hw [] p1 (((p5.toUInt32 >>> ((2 : Int32) &&& 31).toUInt32).toInt32) &&& (3 : Int32)) cs T1.heap n0 O0_x1 SC hcs (own_and3 _)) hZ1 (hw _ (own_m 3 rfl)) (hw _ (own_m 2 rfl)) (by decide) (by decide) (own_hEL hw) CR0_x1.1) (g := (mkF m 17 #[own_vi p0, own_vi p1, own_vl p2, .second, own_vi p3, own_vi p4, own_vi p5, own_vr sb1, .unset, .unset, .unset, .unset, .unset, .unset, .unset, .unset, .unset, .unset, .unset, .unset] [(.int (((p5.toUInt32 >>> ((2 : Int32) &&& 31).toUInt32).toInt32) &&& (3 : Int32))), (.int p1)])) rfl (by rw [hml]; rfl) (argsL := [(.int p1), (.int (((p5.toUInt32 >>> ((2 : Int32) &&& 31).toUInt32).toInt32) &&& (3 : Int32)))]) (rest := []) (lenOf own_pd44 rfl) rfl (by show 2 * 0 + _ ≤ _; exact Nat.le_of_eq rfl) (hb hby at_17) (fun _ _ => ⟨rfl, rfl, (by decide : 8 + 8 ≤ _), (by decide : 30 + 30 ≤ _)⟩)
 dsimp only [Pt.U, Pt.locs, Pt.cells, Pt.slots] at X2 l2 y2 z2 st2 hQ2 hSq2 hg2 CB2
 subst l2 y2 z2
 obtain ⟨sb2, sy2, sk2, us2, rfl, N2q, K2, hu2, Es2, Fs2, Gs2, Vs2⟩ := hQ2
 have N2 := Fr.app N1 N2q
 have hS2 := foldS (s := s) hS1 (Nat.le_refl T1.heap.size) hSq2 hg2
 have hZ2 : Z.Warmed39 T2.vm := State.Warmed39.trans (t := s.setVm T1.vm) hZ1 hSq2.1
 have hown2 : T2.vm.findClass "com/example/makewhole/makewhole/memberfiles/TableFieldsOfEntryPinLaw" = some m.cls := by rw [hSq2.1.alike.findClass]; exact hown1
 refine own_st (fun _ kt => st2.trans kt) ?_
 have O0_x2 := O0_x1.keep K2 all0
 have CR0_x2 := CR0_x1.trans CB2
 have Es1_x2 := Es1.keep K2
 have hus := hu2
 refine own_st (fun _ => XS.astore X2.here hx rfl (hb hby at_20) rfl rfl (l' := #[own_vi p0, own_vi p1, own_vl p2, .second, own_vi p3, own_vi p4, own_vi p5, own_vr sb1, own_vr sb2, .unset, .unset, .unset, .unset, .unset, .unset, .unset, .unset, .unset, .unset, .unset]) rfl) ?_
 refine own_iload X2 hx hby at_22 rfl rfl ?_
 refine own_iload X2 hx hby at_24 rfl rfl ?_
 refine own_iconst X2 hx hby at_26 rfl ?_
 show own_Rch _ _ _ _ T2 (mkF m 27 #[own_vi p0, own_vi p1, own_vl p2, .second, own_vi p3, own_vi p4, own_vi p5, own_vr sb1, own_vr sb2, .unset, .unset, .unset, .unset, .unset, .unset, .unset, .unset, .unset, .unset, .unset] [(.int (4 : Int32)), (.int p5), (.int p3)])
 refine own_st (fun _ => XS.iushr X2.here hx rfl (hb hby at_27) rfl) ?_
 refine own_iconst X2 hx hby at_28 rfl ?_
 show own_Rch _ _ _ _ T2 (mkF m 29 #[own_vi p0, own_vi p1, own_vl p2, .second, own_vi p3, own_vi p4, own_vi p5, own_vr sb1, own_vr sb2, .unset, .unset, .unset, .unset, .unset, .unset, .unset, .unset, .unset, .unset, .unset] [(.int (3 : Int32)), (.int ((p5.toUInt32 >>> ((4 : Int32) &&& 31).toUInt32).toInt32)), (.int p3)])
 refine own_st (fun _ => XS.iand X2.here hx rfl (hb hby at_29) rfl) ?_
 obtain ⟨_, _, ⟨T3, L3, k3, n3⟩, -, X3, hSq3, hg3, ⟨Lc3, hQ3, l3, y3, z3, CB3⟩, st3⟩ := callSS X2 hx (y := own_y30) hown2 (mvT hZ2 (hw _ (own_m 0 rfl))) (mvT hZ2 (hw _ (own_m 1 rfl))) (mvT hZ2 (hw _ (own_m 2 rfl))) (mvT hZ2 (hw _ (own_m 3 rfl))) (by decide) (backOfSH (s := s) (W := 0) (own_str l Z a0 hw [] p3 (((p5.toUInt32 >>> ((4 : Int32) &&& 31).toUInt32).toInt32) &&& (3 : Int32)) cs T2.heap n0 O0_x2 SC hcs (own_and3 _)) hZ2 (hw _ (own_m 3 rfl)) (hw _ (own_m 2 rfl)) (by decide) (by decide) (own_hEL hw) CR0_x2.1) (g := (mkF m 30 #[own_vi p0, own_vi p1, own_vl p2, .second, own_vi p3, own_vi p4, own_vi p5, own_vr sb1, own_vr sb2, .unset, .unset, .unset, .unset, .unset, .unset, .unset, .unset, .unset, .unset, .unset] [(.int (((p5.toUInt32 >>> ((4 : Int32) &&& 31).toUInt32).toInt32) &&& (3 : Int32))), (.int p3)])) rfl (by rw [hml]; rfl) (argsL := [(.int p3), (.int (((p5.toUInt32 >>> ((4 : Int32) &&& 31).toUInt32).toInt32) &&& (3 : Int32)))]) (rest := []) (lenOf own_pd44 rfl) rfl (by show 2 * 0 + _ ≤ _; exact Nat.le_of_eq rfl) (hb hby at_30) (fun _ _ => ⟨rfl, rfl, (by decide : 16 + 8 ≤ _), (by decide : 60 + 30 ≤ _)⟩)
 dsimp only [Pt.U, Pt.locs, Pt.cells, Pt.slots] at X3 l3 y3 z3 st3 hQ3 hSq3 hg3 CB3
 subst l3 y3 z3
 obtain ⟨sb3, sy3, sk3, us3, rfl, N3q, K3, hu3, Es3, Fs3, Gs3, Vs3⟩ := hQ3
 have N3 := Fr.app N2 N3q
 have hS3 := foldS (s := s) hS2 (Nat.le_refl T2.heap.size) hSq3 hg3
 have hZ3 : Z.Warmed39 T3.vm := State.Warmed39.trans (t := s.setVm T2.vm) hZ2 hSq3.1
 have hown3 : T3.vm.findClass "com/example/makewhole/makewhole/memberfiles/TableFieldsOfEntryPinLaw" = some m.cls := by rw [hSq3.1.alike.findClass]; exact hown2
 refine own_st (fun _ kt => st3.trans kt) ?_
 have O0_x3 := O0_x2.keep K3 all0
 have CR0_x3 := CR0_x2.trans CB3
 have Es1_x3 := Es1_x2.keep K3
 have Es2_x3 := Es2.keep K3
 have Fs2_x3 := Fs2.keep K3 nin0
 have Gs2_x3 := Gs2.keep K3 nin0
 have Vs2_x3 := Vs2.keep K3 nin0
 refine own_st (fun _ => XS.astore X3.here hx rfl (hb hby at_33) rfl rfl (l' := #[own_vi p0, own_vi p1, own_vl p2, .second, own_vi p3, own_vi p4, own_vi p5, own_vr sb1, own_vr sb2, own_vr sb3, .unset, .unset, .unset, .unset, .unset, .unset, .unset, .unset, .unset, .unset]) rfl) ?_
 refine own_iload X3 hx hby at_35 rfl rfl ?_
 refine own_iload X3 hx hby at_37 rfl rfl ?_
 refine own_st (fun _ => XS.bipush X3.here hx rfl (hb hby at_39)) ?_
 show own_Rch _ _ _ _ T3 (mkF m 41 #[own_vi p0, own_vi p1, own_vl p2, .second, own_vi p3, own_vi p4, own_vi p5, own_vr sb1, own_vr sb2, own_vr sb3, .unset, .unset, .unset, .unset, .unset, .unset, .unset, .unset, .unset, .unset] [(.int (6 : Int32)), (.int p5), (.int p4)])
 refine own_st (fun _ => XS.iushr X3.here hx rfl (hb hby at_41) rfl) ?_
 refine own_iconst X3 hx hby at_42 rfl ?_
 show own_Rch _ _ _ _ T3 (mkF m 43 #[own_vi p0, own_vi p1, own_vl p2, .second, own_vi p3, own_vi p4, own_vi p5, own_vr sb1, own_vr sb2, own_vr sb3, .unset, .unset, .unset, .unset, .unset, .unset, .unset, .unset, .unset, .unset] [(.int (3 : Int32)), (.int ((p5.toUInt32 >>> ((6 : Int32) &&& 31).toUInt32).toInt32)), (.int p4)])
 refine own_st (fun _ => XS.iand X3.here hx rfl (hb hby at_43) rfl) ?_
 obtain ⟨_, _, ⟨T4, L4, k4, n4⟩, -, X4, hSq4, hg4, ⟨Lc4, hQ4, l4, y4, z4, CB4⟩, st4⟩ := callSS X3 hx (y := own_y30) hown3 (mvT hZ3 (hw _ (own_m 0 rfl))) (mvT hZ3 (hw _ (own_m 1 rfl))) (mvT hZ3 (hw _ (own_m 2 rfl))) (mvT hZ3 (hw _ (own_m 3 rfl))) (by decide) (backOfSH (s := s) (W := 0) (own_str l Z a0 hw [] p4 (((p5.toUInt32 >>> ((6 : Int32) &&& 31).toUInt32).toInt32) &&& (3 : Int32)) cs T3.heap n0 O0_x3 SC hcs (own_and3 _)) hZ3 (hw _ (own_m 3 rfl)) (hw _ (own_m 2 rfl)) (by decide) (by decide) (own_hEL hw) CR0_x3.1) (g := (mkF m 44 #[own_vi p0, own_vi p1, own_vl p2, .second, own_vi p3, own_vi p4, own_vi p5, own_vr sb1, own_vr sb2, own_vr sb3, .unset, .unset, .unset, .unset, .unset, .unset, .unset, .unset, .unset, .unset] [(.int (((p5.toUInt32 >>> ((6 : Int32) &&& 31).toUInt32).toInt32) &&& (3 : Int32))), (.int p4)])) rfl (by rw [hml]; rfl) (argsL := [(.int p4), (.int (((p5.toUInt32 >>> ((6 : Int32) &&& 31).toUInt32).toInt32) &&& (3 : Int32)))]) (rest := []) (lenOf own_pd44 rfl) rfl (by show 2 * 0 + _ ≤ _; exact Nat.le_of_eq rfl) (hb hby at_44) (fun _ _ => ⟨rfl, rfl, (by decide : 24 + 8 ≤ _), (by decide : 90 + 30 ≤ _)⟩)
 dsimp only [Pt.U, Pt.locs, Pt.cells, Pt.slots] at X4 l4 y4 z4 st4 hQ4 hSq4 hg4 CB4
 subst l4 y4 z4
 obtain ⟨sb4, sy4, sk4, us4, rfl, N4q, K4, hu4, Es4, Fs4, Gs4, Vs4⟩ := hQ4
 have N4 := Fr.app N3 N4q
 have hS4 := foldS (s := s) hS3 (Nat.le_refl T3.heap.size) hSq4 hg4
 have hZ4 : Z.Warmed39 T4.vm := State.Warmed39.trans (t := s.setVm T3.vm) hZ3 hSq4.1
 have hown4 : T4.vm.findClass "com/example/makewhole/makewhole/memberfiles/TableFieldsOfEntryPinLaw" = some m.cls := by rw [hSq4.1.alike.findClass]; exact hown3
 refine own_st (fun _ kt => st4.trans kt) ?_
 have O0_x4 := O0_x3.keep K4 all0
 have CR0_x4 := CR0_x3.trans CB4
 have Es1_x4 := Es1_x3.keep K4
 have Es2_x4 := Es2_x3.keep K4
 have Fs2_x4 := Fs2_x3.keep K4 nin0
 have Gs2_x4 := Gs2_x3.keep K4 nin0
 have Vs2_x4 := Vs2_x3.keep K4 nin0
 have Es3_x4 := Es3.keep K4
 refine own_st (fun _ => XS.astore X4.here hx rfl (hb hby at_47) rfl rfl (l' := #[own_vi p0, own_vi p1, own_vl p2, .second, own_vi p3, own_vi p4, own_vi p5, own_vr sb1, own_vr sb2, own_vr sb3, own_vr sb4, .unset, .unset, .unset, .unset, .unset, .unset, .unset, .unset, .unset]) rfl) ?_
 have c148R : ∀ (q : Addr) (vm5 : Vm) (k5 : Nat) (T5 : State) (lc5 : List Loc) (X5 : Stand p_ l e (room_1) (s.setVm vm5) m #[(.int p0), (.int p1), (.long p2), (.int p3), (.int p4), (.int p5)] below meth c_ T5 lc5 40 6000) (hv5 : Heap) (e5 : T5.heap = hv5) (N5 : Fr n0 lc5) (O5 : Old Z n0 hv5) (CR5 : CHr Z consts_1 s.vm h0 vm5 hv5) (hS5 : s.Since vm5 k5) (hk5 : k5 ≤ hv5.size) (hZ5 : Z.Warmed39 vm5) (hown5 : vm5.findClass "com/example/makewhole/makewhole/memberfiles/TableFieldsOfEntryPinLaw" = some m.cls) (Es1_x4_t : Exa Z hv5 sb1 "java/lang/String") (Es3_x4_t : Exa Z hv5 sb3 "java/lang/String") (Es4_t : Exa Z hv5 sb4 "java/lang/String") (Es2_x4_t : Exa Z hv5 sb2 "java/lang/String") (Fs2_x4_t : Fld Z hv5 sb2 "java/lang/String" "value" "[B" (.ref sy2)) (Gs2_x4_t : Fld Z hv5 sb2 "java/lang/String" "coder" "B" (.int (0 : Int32))) (Vs2_x4_t : Arv Z hv5 sy2 sk2 .byte (Int32.ofNat us2.length) us2 (.int (0 : Int32))) (Eq : Exa Z hv5 q "com/example/makewhole/makewhole/member/MemberRecordException") (Fq : Fld Z hv5 q "java/lang/Throwable" "detailMessage" "Ljava/lang/String;" (.ref sb4)) (Fj : Fld Z hv5 q "com/example/makewhole/makewhole/member/MemberRecordException" "id" "Ljava/lang/String;" (.ref sb3)) (b1 b2 : Int32) (s14 s15 : Slot), own_Rch p_ e below (own_EndH Z consts_1 s below (own_Q_own_rm0 Z p0 p1 p2 p3 p4 p5 nn r st d1 d2 DO DN cs ua se eo em h0 n0) (room_1).cells (room_1).slots) T5 (mkF m 148 #[own_vi p0, own_vi p1, own_vl p2, .second, own_vi p3, own_vi p4, own_vi p5, own_vr sb1, own_vr sb2, own_vr sb3, own_vr sb4, own_vi b1, own_vi b2, own_vr sb3, s14, s15, own_vr q, .unset, .unset, .unset] []) := by
  intro q vm5 k5 T5 lc5 X5 hv5 e5 N5 O5 CR5 hS5 hk5 hZ5 hown5 Es1_x4_t Es3_x4_t Es4_t Es2_x4_t Fs2_x4_t Gs2_x4_t Vs2_x4_t Eq Fq Fj b1 b2 s14 s15
  show own_Rch _ _ _ _ T5 (mkF m 148 #[own_vi p0, own_vi p1, own_vl p2, .second, own_vi p3, own_vi p4, own_vi p5, own_vr sb1, own_vr sb2, own_vr sb3, own_vr sb4, own_vi b1, own_vi b2, own_vr sb3, s14, s15, own_vr q, .unset, .unset, .unset] [])
  refine own_st (fun _ => XS.aconstNull X5.here hx rfl (hb hby at_148)) ?_
  refine own_aload X5 hx hby at_149 rfl rfl rfl ?_
  refine own_aload X5 hx hby at_151 rfl rfl rfl ?_
  refine own_st (fun _ => XS.lloadN X5.here hx rfl (hb hby at_153) rfl) ?_
  obtain ⟨_, _, ⟨T6, L6, k6, n6⟩, -, X6, hSq6, hg6, ⟨Lc6, hQ6, l6, y6, z6, CB6⟩, st6⟩ := callSS X5 hx (y := own_y46) hown5 (mvT hZ5 (hw _ (own_m 77 rfl))) (mvT hZ5 (hw _ (own_m 78 rfl))) (mvT hZ5 (hw _ (own_m 79 rfl))) (mvT hZ5 (hw _ (own_m 80 rfl))) (by decide) (backOfSH (s := s) (W := 0) (own_ofe l Z a0 hw [] sb1 sb2 p2 em hv5 n0 O5 SM) hZ5 (hw _ (own_m 80 rfl)) (hw _ (own_m 79 rfl)) (by decide) (by decide) (own_hEL hw) CR5.1) (g := (mkF m 154 #[own_vi p0, own_vi p1, own_vl p2, .second, own_vi p3, own_vi p4, own_vi p5, own_vr sb1, own_vr sb2, own_vr sb3, own_vr sb4, own_vi b1, own_vi b2, own_vr sb3, s14, s15, own_vr q, .unset, .unset, .unset] [(.long p2), (.ref sb2), (.ref sb1), .null])) rfl (by rw [hml]; rfl) (argsL := [.null, (.ref sb1), (.ref sb2), (.long p2)]) (rest := []) (lenOf own_pd45 rfl) rfl (by show 2 * 0 + _ ≤ _; exact Nat.le_of_eq rfl) (hb hby at_154) (fun _ _ => ⟨rfl, e5, (by decide : 40 + 3 ≤ _), (by decide : 6000 + 10 ≤ _)⟩)
  dsimp only [Pt.U, Pt.locs, Pt.cells, Pt.slots] at X6 l6 y6 z6 st6 hQ6 hSq6 hg6 CB6
  subst l6 y6 z6
  obtain ⟨f6, rfl, N6q, K6, hf6, Et6, Fa6, Fb6, Fd6, Fe6⟩ := hQ6
  have N6 := Fr.app N5 N6q
  have hS6 := foldS (s := s) hS5 (by rw [e5]; exact hk5) hSq6 hg6
  have hZ6 : Z.Warmed39 T6.vm := State.Warmed39.trans (t := s.setVm vm5) hZ5 hSq6.1
  have hown6 : T6.vm.findClass "com/example/makewhole/makewhole/memberfiles/TableFieldsOfEntryPinLaw" = some m.cls := by rw [hSq6.1.alike.findClass]; exact hown5
  refine own_st (fun _ kt => st6.trans kt) ?_
  have ne6_sb1_f6 : sb1 ≠ f6 := Nat.ne_of_lt (Nat.lt_of_lt_of_le Es1_x4_t.lt hf6)
  have ne6_sb3_f6 : sb3 ≠ f6 := Nat.ne_of_lt (Nat.lt_of_lt_of_le Es3_x4_t.lt hf6)
  have ne6_sb4_f6 : sb4 ≠ f6 := Nat.ne_of_lt (Nat.lt_of_lt_of_le Es4_t.lt hf6)
  have ne6_sb2_f6 : sb2 ≠ f6 := Nat.ne_of_lt (Nat.lt_of_lt_of_le Es2_x4_t.lt hf6)
  have ne6_sy2_f6 : sy2 ≠ f6 := Nat.ne_of_lt (Nat.lt_of_lt_of_le Vs2_x4_t.lt hf6)
  have ne6_q_f6 : q ≠ f6 := Nat.ne_of_lt (Nat.lt_of_lt_of_le Eq.lt hf6)
  have ge6_f6 : n0 ≤ f6 := Nat.le_trans (own_old_le O5) hf6
  have O5_x6 := O5.keep K6 all0
  have CR5_x6 := CR5.trans CB6
  have Es1_x4_t_x6 := Es1_x4_t.keep K6
  have Es3_x4_t_x6 := Es3_x4_t.keep K6
  have Es4_t_x6 := Es4_t.keep K6
  have Es2_x4_t_x6 := Es2_x4_t.keep K6
  have Fs2_x4_t_x6 := Fs2_x4_t.keep K6 nin0
  have Gs2_x4_t_x6 := Gs2_x4_t.keep K6 nin0
  have Vs2_x4_t_x6 := Vs2_x4_t.keep K6 nin0
  have Eq_x6 := Eq.keep K6
  have Fq_x6 := Fq.keep K6 nin0
  have Fj_x6 := Fj.keep K6 nin0
  refine own_st (fun _ => XS.astore X6.here hx rfl (hb hby at_157) rfl rfl (l' := #[own_vi p0, own_vi p1, own_vl p2, .second, own_vi p3, own_vi p4, own_vi p5, own_vr sb1, own_vr sb2, own_vr sb3, own_vr sb4, own_vi b1, own_vi b2, own_vr sb3, s14, s15, own_vr q, own_vr f6, .unset, .unset]) rfl) ?_
  refine own_aload X6 hx hby at_159 rfl rfl rfl ?_
  refine own_aload X6 hx hby at_161 rfl rfl rfl ?_
  obtain ⟨cq7, kq7, q7a, q7b, q7c⟩ := isOf hZ6 rfl Et6
  obtain ⟨_, _, ⟨T7, L7, k7, n7⟩, -, X7, hSq7, hg7, ⟨Lc7, hQ7, l7, y7, z7, CB7⟩, st7⟩ := X6.virtualBackS hx (y := own_y58) (z := own_y58) hown6 (mvT hZ6 (hw _ (own_m 106 rfl))) (mvT hZ6 (hw _ (own_m 107 rfl))) (notFace_of_selects (args := #[]) (mvT hZ6 (hw _ (own_m 109 rfl)))) (mvT hZ6 (hw _ (own_m 109 rfl))) (mvT hZ6 (hw _ (own_m 108 rfl))) (by decide) (backOfSKH (s := s) (W := 0) (own_pdR l Z a0 hw [] f6 q sb4 sb3 sb2 sy2 sk2 us2 p2 nn r st d1 d2 DO DN cs ua se eo T6.heap n0 O5_x6 SC hcs hlt SU SQ SP EE FE Fd6 Fe6 Eq_x6 Fq_x6 Fj_x6 Es3_x4_t_x6 Es2_x4_t_x6 Fs2_x4_t_x6 Gs2_x4_t_x6 Vs2_x4_t_x6 hus hr21 hnn hneg hr DT1 DT2) hZ6 (hw _ (own_m 110 rfl)) (hw _ (own_m 79 rfl)) (by decide) (by decide) (own_hEL hw) CR5_x6.1 (Vm.MethodsKnown.alikeC (hS6).1.alike hTK) (Vm.FramesKnown.alikeC (hS6).1.alike hFK)) q7a q7c (g := (mkF m 163 #[own_vi p0, own_vi p1, own_vl p2, .second, own_vi p3, own_vi p4, own_vi p5, own_vr sb1, own_vr sb2, own_vr sb3, own_vr sb4, own_vi b1, own_vi b2, own_vr sb3, s14, s15, own_vr q, own_vr f6, .unset, .unset] [(.ref q), (.ref f6)])) rfl (by rw [hml]; rfl) (Steps.refl _) (argsL := [(.ref q)]) (rest := []) (lenOf own_pd46 rfl) rfl (by show 2 * 0 + _ ≤ _; exact Nat.le_of_eq rfl) (hb hby at_163) (fun _ _ => ⟨rfl, rfl, (by decide : 43 + 10 ≤ _), (by decide : 6010 + 2891 ≤ _)⟩)
  dsimp only [Pt.U, Pt.locs, Pt.cells, Pt.slots] at X7 l7 y7 z7 st7 hQ7 hSq7 hg7 CB7
  subst l7 y7 z7
  obtain ⟨w7, pb7, py7, pk7, rfl, N7q, K7, hv7, hb7, Em7, Fm7, Fi7, Fp7, Es7, Fs7, Gs7, Vs7⟩ := hQ7
  have N7 := Fr.app N6 N7q
  have hS7 := foldS (s := s) hS6 (Nat.le_refl T6.heap.size) hSq7 hg7
  have hZ7 : Z.Warmed39 T7.vm := State.Warmed39.trans (t := s.setVm T6.vm) hZ6 hSq7.1
  have hown7 : T7.vm.findClass "com/example/makewhole/makewhole/memberfiles/TableFieldsOfEntryPinLaw" = some m.cls := by rw [hSq7.1.alike.findClass]; exact hown6
  refine own_st (fun _ kt => st7.trans kt) ?_
  have ne7_sb1_w7 : sb1 ≠ w7 := Nat.ne_of_lt (Nat.lt_of_lt_of_le Es1_x4_t_x6.lt hv7)
  have ne7_sb3_w7 : sb3 ≠ w7 := Nat.ne_of_lt (Nat.lt_of_lt_of_le Es3_x4_t_x6.lt hv7)
  have ne7_sb4_w7 : sb4 ≠ w7 := Nat.ne_of_lt (Nat.lt_of_lt_of_le Es4_t_x6.lt hv7)
  have ne7_sb2_w7 : sb2 ≠ w7 := Nat.ne_of_lt (Nat.lt_of_lt_of_le Es2_x4_t_x6.lt hv7)
  have ne7_sy2_w7 : sy2 ≠ w7 := Nat.ne_of_lt (Nat.lt_of_lt_of_le Vs2_x4_t_x6.lt hv7)
  have ne7_q_w7 : q ≠ w7 := Nat.ne_of_lt (Nat.lt_of_lt_of_le Eq_x6.lt hv7)
  have ne7_f6_w7 : f6 ≠ w7 := Nat.ne_of_lt (Nat.lt_of_lt_of_le Et6.lt hv7)
  have ge7_w7 : n0 ≤ w7 := Nat.le_trans (own_old_le O5_x6) hv7
  have ne7_sb1_pb7 : sb1 ≠ pb7 := Nat.ne_of_lt (Nat.lt_of_lt_of_le Es1_x4_t_x6.lt hb7)
  have ne7_sb3_pb7 : sb3 ≠ pb7 := Nat.ne_of_lt (Nat.lt_of_lt_of_le Es3_x4_t_x6.lt hb7)
  have ne7_sb4_pb7 : sb4 ≠ pb7 := Nat.ne_of_lt (Nat.lt_of_lt_of_le Es4_t_x6.lt hb7)
  have ne7_sb2_pb7 : sb2 ≠ pb7 := Nat.ne_of_lt (Nat.lt_of_lt_of_le Es2_x4_t_x6.lt hb7)
  have ne7_sy2_pb7 : sy2 ≠ pb7 := Nat.ne_of_lt (Nat.lt_of_lt_of_le Vs2_x4_t_x6.lt hb7)
  have ne7_q_pb7 : q ≠ pb7 := Nat.ne_of_lt (Nat.lt_of_lt_of_le Eq_x6.lt hb7)
  have ne7_f6_pb7 : f6 ≠ pb7 := Nat.ne_of_lt (Nat.lt_of_lt_of_le Et6.lt hb7)
  have ge7_pb7 : n0 ≤ pb7 := Nat.le_trans (own_old_le O5_x6) hb7
  have O5_x7 := O5_x6.keep K7 all0
  have CR5_x7 := CR5_x6.trans CB7
  have Es1_x4_t_x7 := Es1_x4_t_x6.keep K7
  have Es3_x4_t_x7 := Es3_x4_t_x6.keep K7
  have Es4_t_x7 := Es4_t_x6.keep K7
  have Es2_x4_t_x7 := Es2_x4_t_x6.keep K7
  have Fs2_x4_t_x7 := Fs2_x4_t_x6.keep K7 nin0
  have Gs2_x4_t_x7 := Gs2_x4_t_x6.keep K7 nin0
  have Vs2_x4_t_x7 := Vs2_x4_t_x6.keep K7 nin0
  have Eq_x7 := Eq_x6.keep K7
  have Fq_x7 := Fq_x6.keep K7 nin0
  have Fj_x7 := Fj_x6.keep K7 nin0
  have Et6_x7 := Et6.keep K7
  have Fa6_x7 := Fa6.keep K7 nin0
  have Fb6_x7 := Fb6.keep K7 nin0
  have Fd6_x7 := Fd6.keep K7 nin0
  have Fe6_x7 := Fe6.keep K7 nin0
  refine own_st (fun _ => XS.astore X7.here hx rfl (hb hby at_166) rfl rfl (l' := #[own_vi p0, own_vi p1, own_vl p2, .second, own_vi p3, own_vi p4, own_vi p5, own_vr sb1, own_vr sb2, own_vr sb3, own_vr sb4, own_vi b1, own_vi b2, own_vr sb3, s14, s15, own_vr q, own_vr f6, own_vr w7, .unset]) rfl) ?_
  refine own_aload X7 hx hby at_168 rfl rfl rfl ?_
  refine own_st (fun _ => XS.lloadN X7.here hx rfl (hb hby at_170) rfl) ?_
  obtain ⟨_, _, ⟨T8, L8, k8, n8⟩, -, X8, hSq8, hg8, ⟨Lc8, hQ8, l8, y8, z8, CB8⟩, st8⟩ := callSS X7 hx (y := own_y22) hown7 (mvT hZ7 (hw _ (own_m 279 rfl))) (mvT hZ7 (hw _ (own_m 130 rfl))) (mvT hZ7 (hw _ (own_m 131 rfl))) (mvT hZ7 (hw _ (own_m 132 rfl))) (by decide) (backOfSH (s := s) (W := 0) (own_place l Z a0 hw [] sb2 sy2 sk2 us2 p2 nn r st d1 d2 DO DN cs T7.heap n0 O5_x7 SC hcs Es2_x4_t_x7 Fs2_x4_t_x7 Gs2_x4_t_x7 Vs2_x4_t_x7 hus hr21 hnn hneg hr DT1 DT2) hZ7 (hw _ (own_m 132 rfl)) (hw _ (own_m 131 rfl)) (by decide) (by decide) (own_hEL hw) CR5_x7.1) (g := (mkF m 171 #[own_vi p0, own_vi p1, own_vl p2, .second, own_vi p3, own_vi p4, own_vi p5, own_vr sb1, own_vr sb2, own_vr sb3, own_vr sb4, own_vi b1, own_vi b2, own_vr sb3, s14, s15, own_vr q, own_vr f6, own_vr w7, .unset] [(.long p2), (.ref sb2)])) rfl (by rw [hml]; rfl) (argsL := [(.ref sb2), (.long p2)]) (rest := []) (lenOf own_pd42 rfl) rfl (by show 2 * 0 + _ ≤ _; exact Nat.le_of_eq rfl) (hb hby at_171) (fun _ _ => ⟨rfl, rfl, (by decide : 53 + 7 ≤ _), (by decide : 8901 + 130 ≤ _)⟩)
  dsimp only [Pt.U, Pt.locs, Pt.cells, Pt.slots] at X8 l8 y8 z8 st8 hQ8 hSq8 hg8 CB8
  subst l8 y8 z8
  obtain ⟨pb8, py8, pk8, rfl, N8q, K8, hb8, hy8, Es8, Fs8, Gs8, Vs8⟩ := hQ8
  have N8 := Fr.app N7 N8q
  have hS8 := foldS (s := s) hS7 (Nat.le_refl T7.heap.size) hSq8 hg8
  have hZ8 : Z.Warmed39 T8.vm := State.Warmed39.trans (t := s.setVm T7.vm) hZ7 hSq8.1
  have hown8 : T8.vm.findClass "com/example/makewhole/makewhole/memberfiles/TableFieldsOfEntryPinLaw" = some m.cls := by rw [hSq8.1.alike.findClass]; exact hown7
  refine own_st (fun _ kt => st8.trans kt) ?_
  have ne8_sb1_pb8 : sb1 ≠ pb8 := Nat.ne_of_lt (Nat.lt_of_lt_of_le Es1_x4_t_x7.lt hb8)
  have ne8_sb3_pb8 : sb3 ≠ pb8 := Nat.ne_of_lt (Nat.lt_of_lt_of_le Es3_x4_t_x7.lt hb8)
  have ne8_sb4_pb8 : sb4 ≠ pb8 := Nat.ne_of_lt (Nat.lt_of_lt_of_le Es4_t_x7.lt hb8)
  have ne8_sb2_pb8 : sb2 ≠ pb8 := Nat.ne_of_lt (Nat.lt_of_lt_of_le Es2_x4_t_x7.lt hb8)
  have ne8_sy2_pb8 : sy2 ≠ pb8 := Nat.ne_of_lt (Nat.lt_of_lt_of_le Vs2_x4_t_x7.lt hb8)
  have ne8_q_pb8 : q ≠ pb8 := Nat.ne_of_lt (Nat.lt_of_lt_of_le Eq_x7.lt hb8)
  have ne8_f6_pb8 : f6 ≠ pb8 := Nat.ne_of_lt (Nat.lt_of_lt_of_le Et6_x7.lt hb8)
  have ne8_w7_pb8 : w7 ≠ pb8 := Nat.ne_of_lt (Nat.lt_of_lt_of_le Em7.lt hb8)
  have ne8_pb7_pb8 : pb7 ≠ pb8 := Nat.ne_of_lt (Nat.lt_of_lt_of_le Es7.lt hb8)
  have ne8_py7_pb8 : py7 ≠ pb8 := Nat.ne_of_lt (Nat.lt_of_lt_of_le Vs7.lt hb8)
  have ge8_pb8 : n0 ≤ pb8 := Nat.le_trans (own_old_le O5_x7) hb8
  have ne8_sb1_py8 : sb1 ≠ py8 := Nat.ne_of_lt (Nat.lt_of_lt_of_le Es1_x4_t_x7.lt hy8)
  have ne8_sb3_py8 : sb3 ≠ py8 := Nat.ne_of_lt (Nat.lt_of_lt_of_le Es3_x4_t_x7.lt hy8)
  have ne8_sb4_py8 : sb4 ≠ py8 := Nat.ne_of_lt (Nat.lt_of_lt_of_le Es4_t_x7.lt hy8)
  have ne8_sb2_py8 : sb2 ≠ py8 := Nat.ne_of_lt (Nat.lt_of_lt_of_le Es2_x4_t_x7.lt hy8)
  have ne8_sy2_py8 : sy2 ≠ py8 := Nat.ne_of_lt (Nat.lt_of_lt_of_le Vs2_x4_t_x7.lt hy8)
  have ne8_q_py8 : q ≠ py8 := Nat.ne_of_lt (Nat.lt_of_lt_of_le Eq_x7.lt hy8)
  have ne8_f6_py8 : f6 ≠ py8 := Nat.ne_of_lt (Nat.lt_of_lt_of_le Et6_x7.lt hy8)
  have ne8_w7_py8 : w7 ≠ py8 := Nat.ne_of_lt (Nat.lt_of_lt_of_le Em7.lt hy8)
  have ne8_pb7_py8 : pb7 ≠ py8 := Nat.ne_of_lt (Nat.lt_of_lt_of_le Es7.lt hy8)
  have ne8_py7_py8 : py7 ≠ py8 := Nat.ne_of_lt (Nat.lt_of_lt_of_le Vs7.lt hy8)
  have ge8_py8 : n0 ≤ py8 := Nat.le_trans (own_old_le O5_x7) hy8
  have O5_x8 := O5_x7.keep K8 all0
  have CR5_x8 := CR5_x7.trans CB8
  have Es1_x4_t_x8 := Es1_x4_t_x7.keep K8
  have Es3_x4_t_x8 := Es3_x4_t_x7.keep K8
  have Es4_t_x8 := Es4_t_x7.keep K8
  have Es2_x4_t_x8 := Es2_x4_t_x7.keep K8
  have Fs2_x4_t_x8 := Fs2_x4_t_x7.keep K8 nin0
  have Gs2_x4_t_x8 := Gs2_x4_t_x7.keep K8 nin0
  have Vs2_x4_t_x8 := Vs2_x4_t_x7.keep K8 nin0
  have Eq_x8 := Eq_x7.keep K8
  have Fq_x8 := Fq_x7.keep K8 nin0
  have Fj_x8 := Fj_x7.keep K8 nin0
  have Et6_x8 := Et6_x7.keep K8
  have Fa6_x8 := Fa6_x7.keep K8 nin0
  have Fb6_x8 := Fb6_x7.keep K8 nin0
  have Fd6_x8 := Fd6_x7.keep K8 nin0
  have Fe6_x8 := Fe6_x7.keep K8 nin0
  have Em7_x8 := Em7.keep K8
  have Fm7_x8 := Fm7.keep K8 nin0
  have Fi7_x8 := Fi7.keep K8 nin0
  have Fp7_x8 := Fp7.keep K8 nin0
  have Es7_x8 := Es7.keep K8
  have Fs7_x8 := Fs7.keep K8 nin0
  have Gs7_x8 := Gs7.keep K8 nin0
  have Vs7_x8 := Vs7.keep K8 nin0
  refine own_st (fun _ => XS.astore X8.here hx rfl (hb hby at_174) rfl rfl (l' := #[own_vi p0, own_vi p1, own_vl p2, .second, own_vi p3, own_vi p4, own_vi p5, own_vr sb1, own_vr sb2, own_vr sb3, own_vr sb4, own_vi b1, own_vi b2, own_vr sb3, s14, s15, own_vr q, own_vr f6, own_vr w7, own_vr pb8]) rfl) ?_
  refine own_aload X8 hx hby at_176 rfl rfl rfl ?_
  refine own_aload X8 hx hby at_178 rfl rfl rfl ?_
  obtain ⟨cq9, kq9, q9a, q9b, q9c⟩ := isOf hZ8 rfl Et6_x8
  obtain ⟨_, _, ⟨T9, L9, k9, n9⟩, -, X9, ⟨Lc9, hQ9, l9, y9, z9⟩, st9⟩ := X8.virtualBack hx (y := own_y47) (z := own_y47) hown8 (mvT hZ8 (hw _ (own_m 280 rfl))) (mvT hZ8 (hw _ (own_m 281 rfl))) (notFace_of_selects (args := #[]) (mvT hZ8 (hw _ (own_m 283 rfl)))) (mvT hZ8 (hw _ (own_m 283 rfl))) (mvT hZ8 (hw _ (own_m 282 rfl))) (by decide) (backOf (W := 1) (own_gn l Z a0 hw [] f6 sb1 T8.heap n0 O5_x8 Fa6_x8) hZ8 (hw _ (own_m 284 rfl)) (hw _ (own_m 79 rfl)) (by decide) (by decide)) q9a q9c (g := (mkF m 180 #[own_vi p0, own_vi p1, own_vl p2, .second, own_vi p3, own_vi p4, own_vi p5, own_vr sb1, own_vr sb2, own_vr sb3, own_vr sb4, own_vi b1, own_vi b2, own_vr sb3, s14, s15, own_vr q, own_vr f6, own_vr w7, own_vr pb8] [(.ref f6), (.ref sb1)])) rfl (by rw [hml]; rfl) (Steps.refl _) (argsL := []) (rest := [(.ref sb1)]) (lenOf own_pd23 rfl) rfl (by show 2 * 0 + _ ≤ _; exact Nat.le_of_eq rfl) (hb hby at_180) (fun _ _ => ⟨rfl, rfl, (by decide : 60 + 0 ≤ _), (by decide : 9031 + 0 ≤ _)⟩)
  dsimp only [Pt.U, Pt.locs, Pt.cells, Pt.slots] at X9 l9 y9 z9 st9 hQ9
  subst l9 y9 z9
  obtain ⟨rfl, N9q, hh9⟩ := hQ9
  have N9 := Fr.app N8 N9q
  refine own_st (fun _ kt => st9.trans kt) ?_
  obtain ⟨cq10, kq10, q10a, q10b, q10c⟩ := isOf hZ8 hh9 Es1_x4_t_x8
  obtain ⟨_, _, ⟨T10, L10, k10, n10⟩, -, X10, ⟨Lc10, hQ10, l10, y10, z10⟩, st10⟩ := X9.virtualBack hx (y := own_y56) (z := own_y56) hown8 (mvT hZ8 (hw _ (own_m 285 rfl))) (mvT hZ8 (hw _ (own_m 286 rfl))) (notFace_of_selects (args := #[]) (mvT hZ8 (hw _ (own_m 288 rfl)))) (mvT hZ8 (hw _ (own_m 288 rfl))) (mvT hZ8 (hw _ (own_m 287 rfl))) (by decide) (backOf (W := 0) (own_eqS l Z a0 hw [] sb1 T8.heap n0 O5_x8 ) hZ8 (hw _ (own_m 289 rfl)) (hw _ (own_m 5 rfl)) (by decide) (by decide)) q10a q10c (g := (mkF m 183 #[own_vi p0, own_vi p1, own_vl p2, .second, own_vi p3, own_vi p4, own_vi p5, own_vr sb1, own_vr sb2, own_vr sb3, own_vr sb4, own_vi b1, own_vi b2, own_vr sb3, s14, s15, own_vr q, own_vr f6, own_vr w7, own_vr pb8] [(.ref sb1), (.ref sb1)])) rfl (by rw [hml]; rfl) (Steps.refl _) (argsL := [(.ref sb1)]) (rest := []) (lenOf own_pd39 rfl) rfl (by show 2 * 0 + _ ≤ _; exact Nat.le_of_eq rfl) (hb hby at_183) (fun _ _ => ⟨rfl, hh9, (by decide : 60 + 0 ≤ _), (by decide : 9031 + 0 ≤ _)⟩)
  dsimp only [Pt.U, Pt.locs, Pt.cells, Pt.slots] at X10 l10 y10 z10 st10 hQ10
  subst l10 y10 z10
  obtain ⟨rfl, N10q, hh10⟩ := hQ10
  have N10 := Fr.app N9 N10q
  refine own_st (fun _ kt => st10.trans kt) ?_
  show own_Rch _ _ _ _ T10 (mkF m 186 #[own_vi p0, own_vi p1, own_vl p2, .second, own_vi p3, own_vi p4, own_vi p5, own_vr sb1, own_vr sb2, own_vr sb3, own_vr sb4, own_vi b1, own_vi b2, own_vr sb3, s14, s15, own_vr q, own_vr f6, own_vr w7, own_vr pb8] [(.int (1 : Int32))])
  refine own_st (fun _ => XS.ifNo X10.here hx rfl (hb hby at_186) rfl ((if0 _ _).trans (feq ((by decide) : ¬ ((1 : Int32) = (0 : Int32)))).1)) ?_
  refine own_aload X10 hx hby at_189 rfl rfl rfl ?_
  refine own_aload X10 hx hby at_191 rfl rfl rfl ?_
  obtain ⟨cq11, kq11, q11a, q11b, q11c⟩ := isOf hZ8 hh10 Et6_x8
  obtain ⟨_, _, ⟨T11, L11, k11, n11⟩, -, X11, ⟨Lc11, hQ11, l11, y11, z11⟩, st11⟩ := X10.virtualBack hx (y := own_y52) (z := own_y52) hown8 (mvT hZ8 (hw _ (own_m 290 rfl))) (mvT hZ8 (hw _ (own_m 291 rfl))) (notFace_of_selects (args := #[]) (mvT hZ8 (hw _ (own_m 293 rfl)))) (mvT hZ8 (hw _ (own_m 293 rfl))) (mvT hZ8 (hw _ (own_m 292 rfl))) (by decide) (backOf (W := 0) (own_ha l Z a0 hw [] f6 sb3 em T8.heap n0 O5_x8 EM FZ Fb6_x8) hZ8 (hw _ (own_m 294 rfl)) (hw _ (own_m 79 rfl)) (by decide) (by decide)) q11a q11c (g := (mkF m 193 #[own_vi p0, own_vi p1, own_vl p2, .second, own_vi p3, own_vi p4, own_vi p5, own_vr sb1, own_vr sb2, own_vr sb3, own_vr sb4, own_vi b1, own_vi b2, own_vr sb3, s14, s15, own_vr q, own_vr f6, own_vr w7, own_vr pb8] [(.ref sb3), (.ref f6)])) rfl (by rw [hml]; rfl) (Steps.refl _) (argsL := [(.ref sb3)]) (rest := []) (lenOf own_pd47 rfl) rfl (by show 2 * 0 + _ ≤ _; exact Nat.le_of_eq rfl) (hb hby at_193) (fun _ _ => ⟨rfl, hh10, (by decide : 60 + 0 ≤ _), (by decide : 9031 + 0 ≤ _)⟩)
  dsimp only [Pt.U, Pt.locs, Pt.cells, Pt.slots] at X11 l11 y11 z11 st11 hQ11
  subst l11 y11 z11
  obtain ⟨rfl, N11q, hh11⟩ := hQ11
  have N11 := Fr.app N10 N11q
  refine own_st (fun _ kt => st11.trans kt) ?_
  show own_Rch _ _ _ _ T11 (mkF m 196 #[own_vi p0, own_vi p1, own_vl p2, .second, own_vi p3, own_vi p4, own_vi p5, own_vr sb1, own_vr sb2, own_vr sb3, own_vr sb4, own_vi b1, own_vi b2, own_vr sb3, s14, s15, own_vr q, own_vr f6, own_vr w7, own_vr pb8] [(.int (0 : Int32))])
  refine own_st (fun _ => XS.ifNo X11.here hx rfl (hb hby at_196) rfl ((if0 _ _).trans (teq (rfl : (0 : Int32) = (0 : Int32))).2)) ?_
  refine own_aload X11 hx hby at_199 rfl rfl rfl ?_
  refine own_aload X11 hx hby at_201 rfl rfl rfl ?_
  refine own_aload X11 hx hby at_203 rfl rfl rfl ?_
  obtain ⟨cq12, kq12, q12a, q12b, q12c⟩ := isOf hZ8 hh11 Et6_x8
  obtain ⟨_, _, ⟨T12, L12, k12, n12⟩, -, X12, ⟨Lc12, hQ12, l12, y12, z12⟩, st12⟩ := X11.virtualBack hx (y := own_y54) (z := own_y54) hown8 (mvT hZ8 (hw _ (own_m 311 rfl))) (mvT hZ8 (hw _ (own_m 312 rfl))) (notFace_of_selects (args := #[]) (mvT hZ8 (hw _ (own_m 314 rfl)))) (mvT hZ8 (hw _ (own_m 314 rfl))) (mvT hZ8 (hw _ (own_m 313 rfl))) (by decide) (backOf (W := 0) (own_ent l Z a0 hw [] f6 sb3 sb4 em T8.heap n0 O5_x8 EM FZ Fb6_x8) hZ8 (hw _ (own_m 315 rfl)) (hw _ (own_m 79 rfl)) (by decide) (by decide)) q12a q12c (g := (mkF m 205 #[own_vi p0, own_vi p1, own_vl p2, .second, own_vi p3, own_vi p4, own_vi p5, own_vr sb1, own_vr sb2, own_vr sb3, own_vr sb4, own_vi b1, own_vi b2, own_vr sb3, s14, s15, own_vr q, own_vr f6, own_vr w7, own_vr pb8] [(.ref sb4), (.ref sb3), (.ref f6)])) rfl (by rw [hml]; rfl) (Steps.refl _) (argsL := [(.ref sb3), (.ref sb4)]) (rest := []) (lenOf own_pd48 rfl) rfl (by show 2 * 0 + _ ≤ _; exact Nat.le_of_eq rfl) (hb hby at_205) (fun _ _ => ⟨rfl, hh11, (by decide : 60 + 0 ≤ _), (by decide : 9031 + 0 ≤ _)⟩)
  dsimp only [Pt.U, Pt.locs, Pt.cells, Pt.slots] at X12 l12 y12 z12 st12 hQ12
  subst l12 y12 z12
  obtain ⟨rfl, N12q, hh12⟩ := hQ12
  have N12 := Fr.app N11 N12q
  refine own_st (fun _ kt => st12.trans kt) ?_
  show own_Rch _ _ _ _ T12 (mkF m 208 #[own_vi p0, own_vi p1, own_vl p2, .second, own_vi p3, own_vi p4, own_vi p5, own_vr sb1, own_vr sb2, own_vr sb3, own_vr sb4, own_vi b1, own_vi b2, own_vr sb3, s14, s15, own_vr q, own_vr f6, own_vr w7, own_vr pb8] [.null])
  refine own_st (fun _ => XS.ifnonnullNo X12.here hx rfl (hb hby at_208) rfl) ?_
  refine own_aload X12 hx hby at_211 rfl rfl rfl ?_
  show own_Rch _ _ _ _ T12 (mkF m 213 #[own_vi p0, own_vi p1, own_vl p2, .second, own_vi p3, own_vi p4, own_vi p5, own_vr sb1, own_vr sb2, own_vr sb3, own_vr sb4, own_vi b1, own_vi b2, own_vr sb3, s14, s15, own_vr q, own_vr f6, own_vr w7, own_vr pb8] [(.ref w7)])
  refine own_st (fun _ => XS.ifnullNo X12.here hx rfl (hb hby at_213) rfl) ?_
  refine own_aload X12 hx hby at_216 rfl rfl rfl ?_
  refine own_aload X12 hx hby at_218 rfl rfl rfl ?_
  obtain ⟨cq13, kq13, q13a, q13b, q13c⟩ := isOf hZ8 hh12 Em7_x8
  obtain ⟨_, _, ⟨T13, L13, k13, n13⟩, -, X13, ⟨Lc13, hQ13, l13, y13, z13⟩, st13⟩ := X12.virtualBackUp hx (owner := "java/lang/Throwable") (x := own_y37) (y := own_y36) hown8 (mvT hZ8 (hw _ (own_m 324 rfl))) (mvT hZ8 (hw _ (own_m 274 rfl))) (mvT hZ8 (hw _ (own_m 275 rfl))) (by decide) (mvT hZ8 (hw _ (own_m 277 rfl))) (mvT hZ8 (hw _ (own_m 276 rfl))) (backOf (W := 1) (own_gm l Z a0 hw [] w7 sb4 T8.heap n0 O5_x8 Fm7_x8) hZ8 (hw _ (own_m 278 rfl)) (hw _ (own_m 32 rfl)) (by decide) (by decide)) q13a q13c (g := (mkF m 220 #[own_vi p0, own_vi p1, own_vl p2, .second, own_vi p3, own_vi p4, own_vi p5, own_vr sb1, own_vr sb2, own_vr sb3, own_vr sb4, own_vi b1, own_vi b2, own_vr sb3, s14, s15, own_vr q, own_vr f6, own_vr w7, own_vr pb8] [(.ref w7), (.ref sb4)])) rfl (by rw [hml]; rfl) (Steps.refl _) (argsL := []) (rest := [(.ref sb4)]) (lenOf own_pd23 rfl) rfl (by show 2 * 0 + _ ≤ _; exact Nat.le_of_eq rfl) (hb hby at_220) (fun _ _ => ⟨rfl, hh12, (by decide : 60 + 0 ≤ _), (by decide : 9031 + 0 ≤ _)⟩)
  dsimp only [Pt.U, Pt.locs, Pt.cells, Pt.slots] at X13 l13 y13 z13 st13 hQ13
  subst l13 y13 z13
  obtain ⟨rfl, N13q, hh13⟩ := hQ13
  have N13 := Fr.app N12 N13q
  refine own_st (fun _ kt => st13.trans kt) ?_
  obtain ⟨cq14, kq14, q14a, q14b, q14c⟩ := isOf hZ8 hh13 Es4_t_x8
  obtain ⟨_, _, ⟨T14, L14, k14, n14⟩, -, X14, ⟨Lc14, hQ14, l14, y14, z14⟩, st14⟩ := X13.virtualBack hx (y := own_y56) (z := own_y56) hown8 (mvT hZ8 (hw _ (own_m 285 rfl))) (mvT hZ8 (hw _ (own_m 286 rfl))) (notFace_of_selects (args := #[]) (mvT hZ8 (hw _ (own_m 288 rfl)))) (mvT hZ8 (hw _ (own_m 288 rfl))) (mvT hZ8 (hw _ (own_m 287 rfl))) (by decide) (backOf (W := 0) (own_eqS l Z a0 hw [] sb4 T8.heap n0 O5_x8 ) hZ8 (hw _ (own_m 289 rfl)) (hw _ (own_m 5 rfl)) (by decide) (by decide)) q14a q14c (g := (mkF m 223 #[own_vi p0, own_vi p1, own_vl p2, .second, own_vi p3, own_vi p4, own_vi p5, own_vr sb1, own_vr sb2, own_vr sb3, own_vr sb4, own_vi b1, own_vi b2, own_vr sb3, s14, s15, own_vr q, own_vr f6, own_vr w7, own_vr pb8] [(.ref sb4), (.ref sb4)])) rfl (by rw [hml]; rfl) (Steps.refl _) (argsL := [(.ref sb4)]) (rest := []) (lenOf own_pd39 rfl) rfl (by show 2 * 0 + _ ≤ _; exact Nat.le_of_eq rfl) (hb hby at_223) (fun _ _ => ⟨rfl, hh13, (by decide : 60 + 0 ≤ _), (by decide : 9031 + 0 ≤ _)⟩)
  dsimp only [Pt.U, Pt.locs, Pt.cells, Pt.slots] at X14 l14 y14 z14 st14 hQ14
  subst l14 y14 z14
  obtain ⟨rfl, N14q, hh14⟩ := hQ14
  have N14 := Fr.app N13 N14q
  refine own_st (fun _ kt => st14.trans kt) ?_
  show own_Rch _ _ _ _ T14 (mkF m 226 #[own_vi p0, own_vi p1, own_vl p2, .second, own_vi p3, own_vi p4, own_vi p5, own_vr sb1, own_vr sb2, own_vr sb3, own_vr sb4, own_vi b1, own_vi b2, own_vr sb3, s14, s15, own_vr q, own_vr f6, own_vr w7, own_vr pb8] [(.int (1 : Int32))])
  refine own_st (fun _ => XS.ifNo X14.here hx rfl (hb hby at_226) rfl ((if0 _ _).trans (feq ((by decide) : ¬ ((1 : Int32) = (0 : Int32)))).1)) ?_
  refine own_aload X14 hx hby at_229 rfl rfl rfl ?_
  refine own_aload X14 hx hby at_231 rfl rfl rfl ?_
  obtain ⟨cq15, kq15, q15a, q15b, q15c⟩ := isOf hZ8 hh14 Em7_x8
  obtain ⟨_, _, ⟨T15, L15, k15, n15⟩, -, X15, ⟨Lc15, hQ15, l15, y15, z15⟩, st15⟩ := X14.virtualBack hx (y := own_y41) (z := own_y41) hown8 (mvT hZ8 (hw _ (own_m 325 rfl))) (mvT hZ8 (hw _ (own_m 113 rfl))) (notFace_of_selects (args := #[]) (mvT hZ8 (hw _ (own_m 115 rfl)))) (mvT hZ8 (hw _ (own_m 115 rfl))) (mvT hZ8 (hw _ (own_m 114 rfl))) (by decide) (backOf (W := 1) (own_giR l Z a0 hw [] w7 sb3 T8.heap n0 O5_x8 Fi7_x8) hZ8 (hw _ (own_m 116 rfl)) (hw _ (own_m 14 rfl)) (by decide) (by decide)) q15a q15c (g := (mkF m 233 #[own_vi p0, own_vi p1, own_vl p2, .second, own_vi p3, own_vi p4, own_vi p5, own_vr sb1, own_vr sb2, own_vr sb3, own_vr sb4, own_vi b1, own_vi b2, own_vr sb3, s14, s15, own_vr q, own_vr f6, own_vr w7, own_vr pb8] [(.ref w7), (.ref sb3)])) rfl (by rw [hml]; rfl) (Steps.refl _) (argsL := []) (rest := [(.ref sb3)]) (lenOf own_pd41 rfl) rfl (by show 2 * 0 + _ ≤ _; exact Nat.le_of_eq rfl) (hb hby at_233) (fun _ _ => ⟨rfl, hh14, (by decide : 60 + 1 ≤ _), (by decide : 9031 + 1 ≤ _)⟩)
  dsimp only [Pt.U, Pt.locs, Pt.cells, Pt.slots] at X15 l15 y15 z15 st15 hQ15
  subst l15 y15 z15
  obtain ⟨oo15, rfl, N15q, K15, ho15, Eo15, Fo15⟩ := hQ15
  have N15 := Fr.app N14 N15q
  refine own_st (fun _ kt => st15.trans kt) ?_
  have ne15_sb1_oo15 : sb1 ≠ oo15 := Nat.ne_of_lt (Nat.lt_of_lt_of_le Es1_x4_t_x8.lt ho15)
  have ne15_sb3_oo15 : sb3 ≠ oo15 := Nat.ne_of_lt (Nat.lt_of_lt_of_le Es3_x4_t_x8.lt ho15)
  have ne15_sb4_oo15 : sb4 ≠ oo15 := Nat.ne_of_lt (Nat.lt_of_lt_of_le Es4_t_x8.lt ho15)
  have ne15_sb2_oo15 : sb2 ≠ oo15 := Nat.ne_of_lt (Nat.lt_of_lt_of_le Es2_x4_t_x8.lt ho15)
  have ne15_sy2_oo15 : sy2 ≠ oo15 := Nat.ne_of_lt (Nat.lt_of_lt_of_le Vs2_x4_t_x8.lt ho15)
  have ne15_q_oo15 : q ≠ oo15 := Nat.ne_of_lt (Nat.lt_of_lt_of_le Eq_x8.lt ho15)
  have ne15_f6_oo15 : f6 ≠ oo15 := Nat.ne_of_lt (Nat.lt_of_lt_of_le Et6_x8.lt ho15)
  have ne15_w7_oo15 : w7 ≠ oo15 := Nat.ne_of_lt (Nat.lt_of_lt_of_le Em7_x8.lt ho15)
  have ne15_pb7_oo15 : pb7 ≠ oo15 := Nat.ne_of_lt (Nat.lt_of_lt_of_le Es7_x8.lt ho15)
  have ne15_py7_oo15 : py7 ≠ oo15 := Nat.ne_of_lt (Nat.lt_of_lt_of_le Vs7_x8.lt ho15)
  have ne15_pb8_oo15 : pb8 ≠ oo15 := Nat.ne_of_lt (Nat.lt_of_lt_of_le Es8.lt ho15)
  have ne15_py8_oo15 : py8 ≠ oo15 := Nat.ne_of_lt (Nat.lt_of_lt_of_le Vs8.lt ho15)
  have ge15_oo15 : n0 ≤ oo15 := Nat.le_trans (own_old_le O5_x8) ho15
  have hkk15 := Nat.le_trans (Nat.le_refl T8.heap.size) K15.1
  have O5_x15 := O5_x8.keep K15 all0
  have CR5_x15 := CR5_x8.trans (CHr.keep K15 sf0 CR5_x8.1)
  have Es1_x4_t_x15 := Es1_x4_t_x8.keep K15
  have Es3_x4_t_x15 := Es3_x4_t_x8.keep K15
  have Es4_t_x15 := Es4_t_x8.keep K15
  have Es2_x4_t_x15 := Es2_x4_t_x8.keep K15
  have Fs2_x4_t_x15 := Fs2_x4_t_x8.keep K15 nin0
  have Gs2_x4_t_x15 := Gs2_x4_t_x8.keep K15 nin0
  have Vs2_x4_t_x15 := Vs2_x4_t_x8.keep K15 nin0
  have Eq_x15 := Eq_x8.keep K15
  have Fq_x15 := Fq_x8.keep K15 nin0
  have Fj_x15 := Fj_x8.keep K15 nin0
  have Et6_x15 := Et6_x8.keep K15
  have Fa6_x15 := Fa6_x8.keep K15 nin0
  have Fb6_x15 := Fb6_x8.keep K15 nin0
  have Fd6_x15 := Fd6_x8.keep K15 nin0
  have Fe6_x15 := Fe6_x8.keep K15 nin0
  have Em7_x15 := Em7_x8.keep K15
  have Fm7_x15 := Fm7_x8.keep K15 nin0
  have Fi7_x15 := Fi7_x8.keep K15 nin0
  have Fp7_x15 := Fp7_x8.keep K15 nin0
  have Es7_x15 := Es7_x8.keep K15
  have Fs7_x15 := Fs7_x8.keep K15 nin0
  have Gs7_x15 := Gs7_x8.keep K15 nin0
  have Vs7_x15 := Vs7_x8.keep K15 nin0
  have Es8_x15 := Es8.keep K15
  have Fs8_x15 := Fs8.keep K15 nin0
  have Gs8_x15 := Gs8.keep K15 nin0
  have Vs8_x15 := Vs8.keep K15 nin0
  refine own_st (fun _ => XS.aconstNull X15.here hx rfl (hb hby at_236)) ?_
  obtain ⟨cq16, kq16, q16a, q16b, q16c⟩ := isOf hZ8 rfl Eo15
  obtain ⟨_, _, ⟨T16, L16, k16, n16⟩, -, X16, ⟨Lc16, hQ16, l16, y16, z16⟩, st16⟩ := X15.virtualBack hx (y := own_y43) (z := own_y43) hown8 (mvT hZ8 (hw _ (own_m 326 rfl))) (mvT hZ8 (hw _ (own_m 123 rfl))) (notFace_of_selects (args := #[]) (mvT hZ8 (hw _ (own_m 125 rfl)))) (mvT hZ8 (hw _ (own_m 125 rfl))) (mvT hZ8 (hw _ (own_m 124 rfl))) (by decide) (backOf (W := 1) (own_oeR l Z a0 hw [] oo15 sb3 T15.heap n0 O5_x15 Fo15) hZ8 (hw _ (own_m 126 rfl)) (hw _ (own_m 119 rfl)) (by decide) (by decide)) q16a q16c (g := (mkF m 237 #[own_vi p0, own_vi p1, own_vl p2, .second, own_vi p3, own_vi p4, own_vi p5, own_vr sb1, own_vr sb2, own_vr sb3, own_vr sb4, own_vi b1, own_vi b2, own_vr sb3, s14, s15, own_vr q, own_vr f6, own_vr w7, own_vr pb8] [.null, (.ref oo15), (.ref sb3)])) rfl (by rw [hml]; rfl) (Steps.refl _) (argsL := [.null]) (rest := [(.ref sb3)]) (lenOf own_pd38 rfl) rfl (by show 2 * 0 + _ ≤ _; exact Nat.le_of_eq rfl) (hb hby at_237) (fun _ _ => ⟨rfl, rfl, (by decide : 61 + 0 ≤ _), (by decide : 9032 + 0 ≤ _)⟩)
  dsimp only [Pt.U, Pt.locs, Pt.cells, Pt.slots] at X16 l16 y16 z16 st16 hQ16
  subst l16 y16 z16
  obtain ⟨rfl, N16q, hh16⟩ := hQ16
  have N16 := Fr.app N15 N16q
  refine own_st (fun _ kt => st16.trans kt) ?_
  obtain ⟨T17, X17, e17, st17⟩ := castY X16 hx hZ8 hown8 (hw _ (own_m 347 rfl)) hh16 (Ins.self Es3_x4_t_x15) (g := (mkF m 240 #[own_vi p0, own_vi p1, own_vl p2, .second, own_vi p3, own_vi p4, own_vi p5, own_vr sb1, own_vr sb2, own_vr sb3, own_vr sb4, own_vi b1, own_vi b2, own_vr sb3, s14, s15, own_vr q, own_vr f6, own_vr w7, own_vr pb8] [(.ref sb3), (.ref sb3)])) rfl rfl (hb hby at_240)
  refine own_st st17 ?_
  obtain ⟨_, _, ⟨T18, L18, k18, n18⟩, -, X18, ⟨Lc18, hQ18, l18, y18, z18⟩, st18⟩ := Jvm.LawKit.callS X17 hx (y := own_y57) hown8 (mvT hZ8 (hw _ (own_m 327 rfl))) (mvT hZ8 (hw _ (own_m 328 rfl))) (mvT hZ8 (hw _ (own_m 2 rfl))) (mvT hZ8 (hw _ (own_m 329 rfl))) (by decide) (backOf (W := 0) (own_smR l Z a0 hw [] sb3 T15.heap n0 O5_x15 Es3_x4_t_x15) hZ8 (hw _ (own_m 329 rfl)) (hw _ (own_m 2 rfl)) (by decide) (by decide)) (g := (mkF m 243 #[own_vi p0, own_vi p1, own_vl p2, .second, own_vi p3, own_vi p4, own_vi p5, own_vr sb1, own_vr sb2, own_vr sb3, own_vr sb4, own_vi b1, own_vi b2, own_vr sb3, s14, s15, own_vr q, own_vr f6, own_vr w7, own_vr pb8] [(.ref sb3), (.ref sb3)])) rfl (by rw [hml]; rfl) (argsL := [(.ref sb3), (.ref sb3)]) (rest := []) (lenOf own_pd49 rfl) rfl (by show 2 * 0 + _ ≤ _; exact Nat.le_of_eq rfl) (hb hby at_243) (fun _ _ => ⟨rfl, e17, (by decide : 61 + 0 ≤ _), (by decide : 9032 + 0 ≤ _)⟩)
  dsimp only [Pt.U, Pt.locs, Pt.cells, Pt.slots] at X18 l18 y18 z18 st18 hQ18
  subst l18 y18 z18
  obtain ⟨rfl, N18q, hh18⟩ := hQ18
  have N18 := Fr.app N16 N18q
  refine own_st st18 ?_
  show own_Rch _ _ _ _ T18 (mkF m 246 #[own_vi p0, own_vi p1, own_vl p2, .second, own_vi p3, own_vi p4, own_vi p5, own_vr sb1, own_vr sb2, own_vr sb3, own_vr sb4, own_vi b1, own_vi b2, own_vr sb3, s14, s15, own_vr q, own_vr f6, own_vr w7, own_vr pb8] [(.int (1 : Int32))])
  refine own_st (fun _ => XS.ifNo X18.here hx rfl (hb hby at_246) rfl ((if0 _ _).trans (feq ((by decide) : ¬ ((1 : Int32) = (0 : Int32)))).1)) ?_
  refine own_aload X18 hx hby at_249 rfl rfl rfl ?_
  refine own_aload X18 hx hby at_251 rfl rfl rfl ?_
  obtain ⟨cq19, kq19, q19a, q19b, q19c⟩ := isOf hZ8 hh18 Em7_x15
  obtain ⟨_, _, ⟨T19, L19, k19, n19⟩, -, X19, ⟨Lc19, hQ19, l19, y19, z19⟩, st19⟩ := X18.virtualBack hx (y := own_y42) (z := own_y42) hown8 (mvT hZ8 (hw _ (own_m 330 rfl))) (mvT hZ8 (hw _ (own_m 331 rfl))) (notFace_of_selects (args := #[]) (mvT hZ8 (hw _ (own_m 333 rfl)))) (mvT hZ8 (hw _ (own_m 333 rfl))) (mvT hZ8 (hw _ (own_m 332 rfl))) (by decide) (backOf (W := 1) (own_gpR l Z a0 hw [] w7 pb7 T15.heap n0 O5_x15 Fp7_x15) hZ8 (hw _ (own_m 334 rfl)) (hw _ (own_m 14 rfl)) (by decide) (by decide)) q19a q19c (g := (mkF m 253 #[own_vi p0, own_vi p1, own_vl p2, .second, own_vi p3, own_vi p4, own_vi p5, own_vr sb1, own_vr sb2, own_vr sb3, own_vr sb4, own_vi b1, own_vi b2, own_vr sb3, s14, s15, own_vr q, own_vr f6, own_vr w7, own_vr pb8] [(.ref w7), (.ref pb8)])) rfl (by rw [hml]; rfl) (Steps.refl _) (argsL := []) (rest := [(.ref pb8)]) (lenOf own_pd41 rfl) rfl (by show 2 * 0 + _ ≤ _; exact Nat.le_of_eq rfl) (hb hby at_253) (fun _ _ => ⟨rfl, hh18, (by decide : 61 + 1 ≤ _), (by decide : 9032 + 1 ≤ _)⟩)
  dsimp only [Pt.U, Pt.locs, Pt.cells, Pt.slots] at X19 l19 y19 z19 st19 hQ19
  subst l19 y19 z19
  obtain ⟨oo19, rfl, N19q, K19, ho19, Eo19, Fo19⟩ := hQ19
  have N19 := Fr.app N18 N19q
  refine own_st (fun _ kt => st19.trans kt) ?_
  have ne19_sb1_oo19 : sb1 ≠ oo19 := Nat.ne_of_lt (Nat.lt_of_lt_of_le Es1_x4_t_x15.lt ho19)
  have ne19_sb3_oo19 : sb3 ≠ oo19 := Nat.ne_of_lt (Nat.lt_of_lt_of_le Es3_x4_t_x15.lt ho19)
  have ne19_sb4_oo19 : sb4 ≠ oo19 := Nat.ne_of_lt (Nat.lt_of_lt_of_le Es4_t_x15.lt ho19)
  have ne19_sb2_oo19 : sb2 ≠ oo19 := Nat.ne_of_lt (Nat.lt_of_lt_of_le Es2_x4_t_x15.lt ho19)
  have ne19_sy2_oo19 : sy2 ≠ oo19 := Nat.ne_of_lt (Nat.lt_of_lt_of_le Vs2_x4_t_x15.lt ho19)
  have ne19_q_oo19 : q ≠ oo19 := Nat.ne_of_lt (Nat.lt_of_lt_of_le Eq_x15.lt ho19)
  have ne19_f6_oo19 : f6 ≠ oo19 := Nat.ne_of_lt (Nat.lt_of_lt_of_le Et6_x15.lt ho19)
  have ne19_w7_oo19 : w7 ≠ oo19 := Nat.ne_of_lt (Nat.lt_of_lt_of_le Em7_x15.lt ho19)
  have ne19_pb7_oo19 : pb7 ≠ oo19 := Nat.ne_of_lt (Nat.lt_of_lt_of_le Es7_x15.lt ho19)
  have ne19_py7_oo19 : py7 ≠ oo19 := Nat.ne_of_lt (Nat.lt_of_lt_of_le Vs7_x15.lt ho19)
  have ne19_pb8_oo19 : pb8 ≠ oo19 := Nat.ne_of_lt (Nat.lt_of_lt_of_le Es8_x15.lt ho19)
  have ne19_py8_oo19 : py8 ≠ oo19 := Nat.ne_of_lt (Nat.lt_of_lt_of_le Vs8_x15.lt ho19)
  have ne19_oo15_oo19 : oo15 ≠ oo19 := Nat.ne_of_lt (Nat.lt_of_lt_of_le Eo15.lt ho19)
  have ge19_oo19 : n0 ≤ oo19 := Nat.le_trans (own_old_le O5_x15) ho19
  have hkk19 := Nat.le_trans hkk15 K19.1
  have O5_x19 := O5_x15.keep K19 all0
  have CR5_x19 := CR5_x15.trans (CHr.keep K19 sf0 CR5_x15.1)
  have Es1_x4_t_x19 := Es1_x4_t_x15.keep K19
  have Es3_x4_t_x19 := Es3_x4_t_x15.keep K19
  have Es4_t_x19 := Es4_t_x15.keep K19
  have Es2_x4_t_x19 := Es2_x4_t_x15.keep K19
  have Fs2_x4_t_x19 := Fs2_x4_t_x15.keep K19 nin0
  have Gs2_x4_t_x19 := Gs2_x4_t_x15.keep K19 nin0
  have Vs2_x4_t_x19 := Vs2_x4_t_x15.keep K19 nin0
  have Eq_x19 := Eq_x15.keep K19
  have Fq_x19 := Fq_x15.keep K19 nin0
  have Fj_x19 := Fj_x15.keep K19 nin0
  have Et6_x19 := Et6_x15.keep K19
  have Fa6_x19 := Fa6_x15.keep K19 nin0
  have Fb6_x19 := Fb6_x15.keep K19 nin0
  have Fd6_x19 := Fd6_x15.keep K19 nin0
  have Fe6_x19 := Fe6_x15.keep K19 nin0
  have Em7_x19 := Em7_x15.keep K19
  have Fm7_x19 := Fm7_x15.keep K19 nin0
  have Fi7_x19 := Fi7_x15.keep K19 nin0
  have Fp7_x19 := Fp7_x15.keep K19 nin0
  have Es7_x19 := Es7_x15.keep K19
  have Fs7_x19 := Fs7_x15.keep K19 nin0
  have Gs7_x19 := Gs7_x15.keep K19 nin0
  have Vs7_x19 := Vs7_x15.keep K19 nin0
  have Es8_x19 := Es8_x15.keep K19
  have Fs8_x19 := Fs8_x15.keep K19 nin0
  have Gs8_x19 := Gs8_x15.keep K19 nin0
  have Vs8_x19 := Vs8_x15.keep K19 nin0
  have Eo15_x19 := Eo15.keep K19
  have Fo15_x19 := Fo15.keep K19 nin0
  refine own_st (fun _ => XS.aconstNull X19.here hx rfl (hb hby at_256)) ?_
  obtain ⟨cq20, kq20, q20a, q20b, q20c⟩ := isOf hZ8 rfl Eo19
  obtain ⟨_, _, ⟨T20, L20, k20, n20⟩, -, X20, ⟨Lc20, hQ20, l20, y20, z20⟩, st20⟩ := X19.virtualBack hx (y := own_y43) (z := own_y43) hown8 (mvT hZ8 (hw _ (own_m 326 rfl))) (mvT hZ8 (hw _ (own_m 123 rfl))) (notFace_of_selects (args := #[]) (mvT hZ8 (hw _ (own_m 125 rfl)))) (mvT hZ8 (hw _ (own_m 125 rfl))) (mvT hZ8 (hw _ (own_m 124 rfl))) (by decide) (backOf (W := 1) (own_oeR l Z a0 hw [] oo19 pb7 T19.heap n0 O5_x19 Fo19) hZ8 (hw _ (own_m 126 rfl)) (hw _ (own_m 119 rfl)) (by decide) (by decide)) q20a q20c (g := (mkF m 257 #[own_vi p0, own_vi p1, own_vl p2, .second, own_vi p3, own_vi p4, own_vi p5, own_vr sb1, own_vr sb2, own_vr sb3, own_vr sb4, own_vi b1, own_vi b2, own_vr sb3, s14, s15, own_vr q, own_vr f6, own_vr w7, own_vr pb8] [.null, (.ref oo19), (.ref pb8)])) rfl (by rw [hml]; rfl) (Steps.refl _) (argsL := [.null]) (rest := [(.ref pb8)]) (lenOf own_pd38 rfl) rfl (by show 2 * 0 + _ ≤ _; exact Nat.le_of_eq rfl) (hb hby at_257) (fun _ _ => ⟨rfl, rfl, (by decide : 62 + 0 ≤ _), (by decide : 9033 + 0 ≤ _)⟩)
  dsimp only [Pt.U, Pt.locs, Pt.cells, Pt.slots] at X20 l20 y20 z20 st20 hQ20
  subst l20 y20 z20
  obtain ⟨rfl, N20q, hh20⟩ := hQ20
  have N20 := Fr.app N19 N20q
  refine own_st (fun _ kt => st20.trans kt) ?_
  obtain ⟨cq21, kq21, q21a, q21b, q21c⟩ := isOf hZ8 hh20 Es8_x19
  obtain ⟨_, _, ⟨T21, L21, k21, n21⟩, -, X21, ⟨Lc21, hQ21, l21, y21, z21⟩, st21⟩ := X20.virtualBack hx (y := own_y56) (z := own_y56) hown8 (mvT hZ8 (hw _ (own_m 285 rfl))) (mvT hZ8 (hw _ (own_m 286 rfl))) (notFace_of_selects (args := #[]) (mvT hZ8 (hw _ (own_m 288 rfl)))) (mvT hZ8 (hw _ (own_m 288 rfl))) (mvT hZ8 (hw _ (own_m 287 rfl))) (by decide) (backOf (W := 0) (own_eqC l Z a0 hw [] pb8 py8 pk8 (own_plc us2 r p2 nn DO DN) pb7 py7 pk7 cs T19.heap n0 O5_x19 SC hcs Es8_x19 Fs8_x19 Gs8_x19 Vs8_x19 Es7_x19 Fs7_x19 Gs7_x19 Vs7_x19 (by have := own_plc_len (x := p2) (nn := nn) (D1 := DO) (D2 := DN) hus hr21; omega) (Ne.symm ne8_pb7_pb8)) hZ8 (hw _ (own_m 289 rfl)) (hw _ (own_m 5 rfl)) (by decide) (by decide)) q21a q21c (g := (mkF m 260 #[own_vi p0, own_vi p1, own_vl p2, .second, own_vi p3, own_vi p4, own_vi p5, own_vr sb1, own_vr sb2, own_vr sb3, own_vr sb4, own_vi b1, own_vi b2, own_vr sb3, s14, s15, own_vr q, own_vr f6, own_vr w7, own_vr pb8] [(.ref pb7), (.ref pb8)])) rfl (by rw [hml]; rfl) (Steps.refl _) (argsL := [(.ref pb7)]) (rest := []) (lenOf own_pd39 rfl) rfl (by show 2 * 0 + _ ≤ _; exact Nat.le_of_eq rfl) (hb hby at_260) (fun _ _ => ⟨rfl, hh20, (by decide : 62 + 0 ≤ _), (by decide : 9033 + 0 ≤ _)⟩)
  dsimp only [Pt.U, Pt.locs, Pt.cells, Pt.slots] at X21 l21 y21 z21 st21 hQ21
  subst l21 y21 z21
  obtain ⟨rfl, N21q, hh21⟩ := hQ21
  have N21 := Fr.app N20 N21q
  refine own_st (fun _ kt => st21.trans kt) ?_
  show own_Rch _ _ _ _ T21 (mkF m 263 #[own_vi p0, own_vi p1, own_vl p2, .second, own_vi p3, own_vi p4, own_vi p5, own_vr sb1, own_vr sb2, own_vr sb3, own_vr sb4, own_vi b1, own_vi b2, own_vr sb3, s14, s15, own_vr q, own_vr f6, own_vr w7, own_vr pb8] [(.int (1 : Int32))])
  refine own_st (fun _ => XS.ifNo X21.here hx rfl (hb hby at_263) rfl ((if0 _ _).trans (feq ((by decide) : ¬ ((1 : Int32) = (0 : Int32)))).1)) ?_
  refine own_iconst X21 hx hby at_266 rfl ?_
  refine own_st (fun _ => XS.goto X21.here hx rfl (pc0 := 267) (pc' := 271) rfl (hb hby at_267) (by decide) (by decide)) ?_
  show own_Rch _ _ _ _ T21 (mkF m 271 #[own_vi p0, own_vi p1, own_vl p2, .second, own_vi p3, own_vi p4, own_vi p5, own_vr sb1, own_vr sb2, own_vr sb3, own_vr sb4, own_vi b1, own_vi b2, own_vr sb3, s14, s15, own_vr q, own_vr f6, own_vr w7, own_vr pb8] [(.int (1 : Int32))])
  refine own_retNH (t := .boolean) (by simp) (by rw [hh0, hh21]; exact CR5_x19.trans (CHv.at (s := s) X21 hZ8 (own_hEL hw) CR5_x19.1)) (s := s) hS8 (by rw [hh21]; exact hkk19) X21 hx Bd.notSynchronized Bd.returns (hb hby at_271) (by decide) (by decide) ?_
  rw [hh21]
  exact ⟨rfl, N21⟩
 have c148N : ∀ (q : Addr) (vm22 : Vm) (k22 : Nat) (T22 : State) (lc22 : List Loc) (X22 : Stand p_ l e (room_1) (s.setVm vm22) m #[(.int p0), (.int p1), (.long p2), (.int p3), (.int p4), (.int p5)] below meth c_ T22 lc22 40 6000) (hv22 : Heap) (e22 : T22.heap = hv22) (N22 : Fr n0 lc22) (O22 : Old Z n0 hv22) (CR22 : CHr Z consts_1 s.vm h0 vm22 hv22) (hS22 : s.Since vm22 k22) (hk22 : k22 ≤ hv22.size) (hZ22 : Z.Warmed39 vm22) (hown22 : vm22.findClass "com/example/makewhole/makewhole/memberfiles/TableFieldsOfEntryPinLaw" = some m.cls) (Es1_x4_t : Exa Z hv22 sb1 "java/lang/String") (Es3_x4_t : Exa Z hv22 sb3 "java/lang/String") (Es4_t : Exa Z hv22 sb4 "java/lang/String") (Es2_x4_t : Exa Z hv22 sb2 "java/lang/String") (Fs2_x4_t : Fld Z hv22 sb2 "java/lang/String" "value" "[B" (.ref sy2)) (Gs2_x4_t : Fld Z hv22 sb2 "java/lang/String" "coder" "B" (.int (0 : Int32))) (Vs2_x4_t : Arv Z hv22 sy2 sk2 .byte (Int32.ofNat us2.length) us2 (.int (0 : Int32))) (Eq : Exa Z hv22 q "com/example/makewhole/makewhole/member/MemberRecordException") (Fq : Fld Z hv22 q "java/lang/Throwable" "detailMessage" "Ljava/lang/String;" (.ref sb4)) (Fj : Fld Z hv22 q "com/example/makewhole/makewhole/member/MemberRecordException" "id" "Ljava/lang/String;" .null) (b1 b2 : Int32) (s14 s15 : Slot), own_Rch p_ e below (own_EndH Z consts_1 s below (own_Q_own_rm0 Z p0 p1 p2 p3 p4 p5 nn r st d1 d2 DO DN cs ua se eo em h0 n0) (room_1).cells (room_1).slots) T22 (mkF m 148 #[own_vi p0, own_vi p1, own_vl p2, .second, own_vi p3, own_vi p4, own_vi p5, own_vr sb1, own_vr sb2, own_vr sb3, own_vr sb4, own_vi b1, own_vi b2, .val .null, s14, s15, own_vr q, .unset, .unset, .unset] []) := by
  intro q vm22 k22 T22 lc22 X22 hv22 e22 N22 O22 CR22 hS22 hk22 hZ22 hown22 Es1_x4_t Es3_x4_t Es4_t Es2_x4_t Fs2_x4_t Gs2_x4_t Vs2_x4_t Eq Fq Fj b1 b2 s14 s15
  show own_Rch _ _ _ _ T22 (mkF m 148 #[own_vi p0, own_vi p1, own_vl p2, .second, own_vi p3, own_vi p4, own_vi p5, own_vr sb1, own_vr sb2, own_vr sb3, own_vr sb4, own_vi b1, own_vi b2, .val .null, s14, s15, own_vr q, .unset, .unset, .unset] [])
  refine own_st (fun _ => XS.aconstNull X22.here hx rfl (hb hby at_148)) ?_
  refine own_aload X22 hx hby at_149 rfl rfl rfl ?_
  refine own_aload X22 hx hby at_151 rfl rfl rfl ?_
  refine own_st (fun _ => XS.lloadN X22.here hx rfl (hb hby at_153) rfl) ?_
  obtain ⟨_, _, ⟨T23, L23, k23, n23⟩, -, X23, hSq23, hg23, ⟨Lc23, hQ23, l23, y23, z23, CB23⟩, st23⟩ := callSS X22 hx (y := own_y46) hown22 (mvT hZ22 (hw _ (own_m 77 rfl))) (mvT hZ22 (hw _ (own_m 78 rfl))) (mvT hZ22 (hw _ (own_m 79 rfl))) (mvT hZ22 (hw _ (own_m 80 rfl))) (by decide) (backOfSH (s := s) (W := 0) (own_ofe l Z a0 hw [] sb1 sb2 p2 em hv22 n0 O22 SM) hZ22 (hw _ (own_m 80 rfl)) (hw _ (own_m 79 rfl)) (by decide) (by decide) (own_hEL hw) CR22.1) (g := (mkF m 154 #[own_vi p0, own_vi p1, own_vl p2, .second, own_vi p3, own_vi p4, own_vi p5, own_vr sb1, own_vr sb2, own_vr sb3, own_vr sb4, own_vi b1, own_vi b2, .val .null, s14, s15, own_vr q, .unset, .unset, .unset] [(.long p2), (.ref sb2), (.ref sb1), .null])) rfl (by rw [hml]; rfl) (argsL := [.null, (.ref sb1), (.ref sb2), (.long p2)]) (rest := []) (lenOf own_pd45 rfl) rfl (by show 2 * 0 + _ ≤ _; exact Nat.le_of_eq rfl) (hb hby at_154) (fun _ _ => ⟨rfl, e22, (by decide : 40 + 3 ≤ _), (by decide : 6000 + 10 ≤ _)⟩)
  dsimp only [Pt.U, Pt.locs, Pt.cells, Pt.slots] at X23 l23 y23 z23 st23 hQ23 hSq23 hg23 CB23
  subst l23 y23 z23
  obtain ⟨f23, rfl, N23q, K23, hf23, Et23, Fa23, Fb23, Fd23, Fe23⟩ := hQ23
  have N23 := Fr.app N22 N23q
  have hS23 := foldS (s := s) hS22 (by rw [e22]; exact hk22) hSq23 hg23
  have hZ23 : Z.Warmed39 T23.vm := State.Warmed39.trans (t := s.setVm vm22) hZ22 hSq23.1
  have hown23 : T23.vm.findClass "com/example/makewhole/makewhole/memberfiles/TableFieldsOfEntryPinLaw" = some m.cls := by rw [hSq23.1.alike.findClass]; exact hown22
  refine own_st (fun _ kt => st23.trans kt) ?_
  have ne23_sb1_f23 : sb1 ≠ f23 := Nat.ne_of_lt (Nat.lt_of_lt_of_le Es1_x4_t.lt hf23)
  have ne23_sb3_f23 : sb3 ≠ f23 := Nat.ne_of_lt (Nat.lt_of_lt_of_le Es3_x4_t.lt hf23)
  have ne23_sb4_f23 : sb4 ≠ f23 := Nat.ne_of_lt (Nat.lt_of_lt_of_le Es4_t.lt hf23)
  have ne23_sb2_f23 : sb2 ≠ f23 := Nat.ne_of_lt (Nat.lt_of_lt_of_le Es2_x4_t.lt hf23)
  have ne23_sy2_f23 : sy2 ≠ f23 := Nat.ne_of_lt (Nat.lt_of_lt_of_le Vs2_x4_t.lt hf23)
  have ne23_q_f23 : q ≠ f23 := Nat.ne_of_lt (Nat.lt_of_lt_of_le Eq.lt hf23)
  have ge23_f23 : n0 ≤ f23 := Nat.le_trans (own_old_le O22) hf23
  have O22_x23 := O22.keep K23 all0
  have CR22_x23 := CR22.trans CB23
  have Es1_x4_t_x23 := Es1_x4_t.keep K23
  have Es3_x4_t_x23 := Es3_x4_t.keep K23
  have Es4_t_x23 := Es4_t.keep K23
  have Es2_x4_t_x23 := Es2_x4_t.keep K23
  have Fs2_x4_t_x23 := Fs2_x4_t.keep K23 nin0
  have Gs2_x4_t_x23 := Gs2_x4_t.keep K23 nin0
  have Vs2_x4_t_x23 := Vs2_x4_t.keep K23 nin0
  have Eq_x23 := Eq.keep K23
  have Fq_x23 := Fq.keep K23 nin0
  have Fj_x23 := Fj.keep K23 nin0
  refine own_st (fun _ => XS.astore X23.here hx rfl (hb hby at_157) rfl rfl (l' := #[own_vi p0, own_vi p1, own_vl p2, .second, own_vi p3, own_vi p4, own_vi p5, own_vr sb1, own_vr sb2, own_vr sb3, own_vr sb4, own_vi b1, own_vi b2, .val .null, s14, s15, own_vr q, own_vr f23, .unset, .unset]) rfl) ?_
  refine own_aload X23 hx hby at_159 rfl rfl rfl ?_
  refine own_aload X23 hx hby at_161 rfl rfl rfl ?_
  obtain ⟨cq24, kq24, q24a, q24b, q24c⟩ := isOf hZ23 rfl Et23
  obtain ⟨_, _, ⟨T24, L24, k24, n24⟩, -, X24, hSq24, hg24, ⟨Lc24, hQ24, l24, y24, z24, CB24⟩, st24⟩ := X23.virtualBackS hx (y := own_y58) (z := own_y58) hown23 (mvT hZ23 (hw _ (own_m 106 rfl))) (mvT hZ23 (hw _ (own_m 107 rfl))) (notFace_of_selects (args := #[]) (mvT hZ23 (hw _ (own_m 109 rfl)))) (mvT hZ23 (hw _ (own_m 109 rfl))) (mvT hZ23 (hw _ (own_m 108 rfl))) (by decide) (backOfSKH (s := s) (W := 0) (own_pdN l Z a0 hw [] f23 q sb4 sb2 sy2 sk2 us2 p2 nn r st d1 d2 DO DN cs ua se eo T23.heap n0 O22_x23 SC hcs hlt SU SQ SP EE FE Fd23 Fe23 Eq_x23 Fq_x23 Fj_x23 Es2_x4_t_x23 Fs2_x4_t_x23 Gs2_x4_t_x23 Vs2_x4_t_x23 hus hr21 hnn hneg hr DT1 DT2) hZ23 (hw _ (own_m 110 rfl)) (hw _ (own_m 79 rfl)) (by decide) (by decide) (own_hEL hw) CR22_x23.1 (Vm.MethodsKnown.alikeC (hS23).1.alike hTK) (Vm.FramesKnown.alikeC (hS23).1.alike hFK)) q24a q24c (g := (mkF m 163 #[own_vi p0, own_vi p1, own_vl p2, .second, own_vi p3, own_vi p4, own_vi p5, own_vr sb1, own_vr sb2, own_vr sb3, own_vr sb4, own_vi b1, own_vi b2, .val .null, s14, s15, own_vr q, own_vr f23, .unset, .unset] [(.ref q), (.ref f23)])) rfl (by rw [hml]; rfl) (Steps.refl _) (argsL := [(.ref q)]) (rest := []) (lenOf own_pd46 rfl) rfl (by show 2 * 0 + _ ≤ _; exact Nat.le_of_eq rfl) (hb hby at_163) (fun _ _ => ⟨rfl, rfl, (by decide : 43 + 9 ≤ _), (by decide : 6010 + 2890 ≤ _)⟩)
  dsimp only [Pt.U, Pt.locs, Pt.cells, Pt.slots] at X24 l24 y24 z24 st24 hQ24 hSq24 hg24 CB24
  subst l24 y24 z24
  obtain ⟨w24, pb24, py24, pk24, rfl, N24q, K24, hv24, hb24, Em24, Fm24, Fi24, Fp24, Es24, Fs24, Gs24, Vs24⟩ := hQ24
  have N24 := Fr.app N23 N24q
  have hS24 := foldS (s := s) hS23 (Nat.le_refl T23.heap.size) hSq24 hg24
  have hZ24 : Z.Warmed39 T24.vm := State.Warmed39.trans (t := s.setVm T23.vm) hZ23 hSq24.1
  have hown24 : T24.vm.findClass "com/example/makewhole/makewhole/memberfiles/TableFieldsOfEntryPinLaw" = some m.cls := by rw [hSq24.1.alike.findClass]; exact hown23
  refine own_st (fun _ kt => st24.trans kt) ?_
  have ne24_sb1_w24 : sb1 ≠ w24 := Nat.ne_of_lt (Nat.lt_of_lt_of_le Es1_x4_t_x23.lt hv24)
  have ne24_sb3_w24 : sb3 ≠ w24 := Nat.ne_of_lt (Nat.lt_of_lt_of_le Es3_x4_t_x23.lt hv24)
  have ne24_sb4_w24 : sb4 ≠ w24 := Nat.ne_of_lt (Nat.lt_of_lt_of_le Es4_t_x23.lt hv24)
  have ne24_sb2_w24 : sb2 ≠ w24 := Nat.ne_of_lt (Nat.lt_of_lt_of_le Es2_x4_t_x23.lt hv24)
  have ne24_sy2_w24 : sy2 ≠ w24 := Nat.ne_of_lt (Nat.lt_of_lt_of_le Vs2_x4_t_x23.lt hv24)
  have ne24_q_w24 : q ≠ w24 := Nat.ne_of_lt (Nat.lt_of_lt_of_le Eq_x23.lt hv24)
  have ne24_f23_w24 : f23 ≠ w24 := Nat.ne_of_lt (Nat.lt_of_lt_of_le Et23.lt hv24)
  have ge24_w24 : n0 ≤ w24 := Nat.le_trans (own_old_le O22_x23) hv24
  have ne24_sb1_pb24 : sb1 ≠ pb24 := Nat.ne_of_lt (Nat.lt_of_lt_of_le Es1_x4_t_x23.lt hb24)
  have ne24_sb3_pb24 : sb3 ≠ pb24 := Nat.ne_of_lt (Nat.lt_of_lt_of_le Es3_x4_t_x23.lt hb24)
  have ne24_sb4_pb24 : sb4 ≠ pb24 := Nat.ne_of_lt (Nat.lt_of_lt_of_le Es4_t_x23.lt hb24)
  have ne24_sb2_pb24 : sb2 ≠ pb24 := Nat.ne_of_lt (Nat.lt_of_lt_of_le Es2_x4_t_x23.lt hb24)
  have ne24_sy2_pb24 : sy2 ≠ pb24 := Nat.ne_of_lt (Nat.lt_of_lt_of_le Vs2_x4_t_x23.lt hb24)
  have ne24_q_pb24 : q ≠ pb24 := Nat.ne_of_lt (Nat.lt_of_lt_of_le Eq_x23.lt hb24)
  have ne24_f23_pb24 : f23 ≠ pb24 := Nat.ne_of_lt (Nat.lt_of_lt_of_le Et23.lt hb24)
  have ge24_pb24 : n0 ≤ pb24 := Nat.le_trans (own_old_le O22_x23) hb24
  have O22_x24 := O22_x23.keep K24 all0
  have CR22_x24 := CR22_x23.trans CB24
  have Es1_x4_t_x24 := Es1_x4_t_x23.keep K24
  have Es3_x4_t_x24 := Es3_x4_t_x23.keep K24
  have Es4_t_x24 := Es4_t_x23.keep K24
  have Es2_x4_t_x24 := Es2_x4_t_x23.keep K24
  have Fs2_x4_t_x24 := Fs2_x4_t_x23.keep K24 nin0
  have Gs2_x4_t_x24 := Gs2_x4_t_x23.keep K24 nin0
  have Vs2_x4_t_x24 := Vs2_x4_t_x23.keep K24 nin0
  have Eq_x24 := Eq_x23.keep K24
  have Fq_x24 := Fq_x23.keep K24 nin0
  have Fj_x24 := Fj_x23.keep K24 nin0
  have Et23_x24 := Et23.keep K24
  have Fa23_x24 := Fa23.keep K24 nin0
  have Fb23_x24 := Fb23.keep K24 nin0
  have Fd23_x24 := Fd23.keep K24 nin0
  have Fe23_x24 := Fe23.keep K24 nin0
  refine own_st (fun _ => XS.astore X24.here hx rfl (hb hby at_166) rfl rfl (l' := #[own_vi p0, own_vi p1, own_vl p2, .second, own_vi p3, own_vi p4, own_vi p5, own_vr sb1, own_vr sb2, own_vr sb3, own_vr sb4, own_vi b1, own_vi b2, .val .null, s14, s15, own_vr q, own_vr f23, own_vr w24, .unset]) rfl) ?_
  refine own_aload X24 hx hby at_168 rfl rfl rfl ?_
  refine own_st (fun _ => XS.lloadN X24.here hx rfl (hb hby at_170) rfl) ?_
  obtain ⟨_, _, ⟨T25, L25, k25, n25⟩, -, X25, hSq25, hg25, ⟨Lc25, hQ25, l25, y25, z25, CB25⟩, st25⟩ := callSS X24 hx (y := own_y22) hown24 (mvT hZ24 (hw _ (own_m 279 rfl))) (mvT hZ24 (hw _ (own_m 130 rfl))) (mvT hZ24 (hw _ (own_m 131 rfl))) (mvT hZ24 (hw _ (own_m 132 rfl))) (by decide) (backOfSH (s := s) (W := 0) (own_place l Z a0 hw [] sb2 sy2 sk2 us2 p2 nn r st d1 d2 DO DN cs T24.heap n0 O22_x24 SC hcs Es2_x4_t_x24 Fs2_x4_t_x24 Gs2_x4_t_x24 Vs2_x4_t_x24 hus hr21 hnn hneg hr DT1 DT2) hZ24 (hw _ (own_m 132 rfl)) (hw _ (own_m 131 rfl)) (by decide) (by decide) (own_hEL hw) CR22_x24.1) (g := (mkF m 171 #[own_vi p0, own_vi p1, own_vl p2, .second, own_vi p3, own_vi p4, own_vi p5, own_vr sb1, own_vr sb2, own_vr sb3, own_vr sb4, own_vi b1, own_vi b2, .val .null, s14, s15, own_vr q, own_vr f23, own_vr w24, .unset] [(.long p2), (.ref sb2)])) rfl (by rw [hml]; rfl) (argsL := [(.ref sb2), (.long p2)]) (rest := []) (lenOf own_pd42 rfl) rfl (by show 2 * 0 + _ ≤ _; exact Nat.le_of_eq rfl) (hb hby at_171) (fun _ _ => ⟨rfl, rfl, (by decide : 52 + 7 ≤ _), (by decide : 8900 + 130 ≤ _)⟩)
  dsimp only [Pt.U, Pt.locs, Pt.cells, Pt.slots] at X25 l25 y25 z25 st25 hQ25 hSq25 hg25 CB25
  subst l25 y25 z25
  obtain ⟨pb25, py25, pk25, rfl, N25q, K25, hb25, hy25, Es25, Fs25, Gs25, Vs25⟩ := hQ25
  have N25 := Fr.app N24 N25q
  have hS25 := foldS (s := s) hS24 (Nat.le_refl T24.heap.size) hSq25 hg25
  have hZ25 : Z.Warmed39 T25.vm := State.Warmed39.trans (t := s.setVm T24.vm) hZ24 hSq25.1
  have hown25 : T25.vm.findClass "com/example/makewhole/makewhole/memberfiles/TableFieldsOfEntryPinLaw" = some m.cls := by rw [hSq25.1.alike.findClass]; exact hown24
  refine own_st (fun _ kt => st25.trans kt) ?_
  have ne25_sb1_pb25 : sb1 ≠ pb25 := Nat.ne_of_lt (Nat.lt_of_lt_of_le Es1_x4_t_x24.lt hb25)
  have ne25_sb3_pb25 : sb3 ≠ pb25 := Nat.ne_of_lt (Nat.lt_of_lt_of_le Es3_x4_t_x24.lt hb25)
  have ne25_sb4_pb25 : sb4 ≠ pb25 := Nat.ne_of_lt (Nat.lt_of_lt_of_le Es4_t_x24.lt hb25)
  have ne25_sb2_pb25 : sb2 ≠ pb25 := Nat.ne_of_lt (Nat.lt_of_lt_of_le Es2_x4_t_x24.lt hb25)
  have ne25_sy2_pb25 : sy2 ≠ pb25 := Nat.ne_of_lt (Nat.lt_of_lt_of_le Vs2_x4_t_x24.lt hb25)
  have ne25_q_pb25 : q ≠ pb25 := Nat.ne_of_lt (Nat.lt_of_lt_of_le Eq_x24.lt hb25)
  have ne25_f23_pb25 : f23 ≠ pb25 := Nat.ne_of_lt (Nat.lt_of_lt_of_le Et23_x24.lt hb25)
  have ne25_w24_pb25 : w24 ≠ pb25 := Nat.ne_of_lt (Nat.lt_of_lt_of_le Em24.lt hb25)
  have ne25_pb24_pb25 : pb24 ≠ pb25 := Nat.ne_of_lt (Nat.lt_of_lt_of_le Es24.lt hb25)
  have ne25_py24_pb25 : py24 ≠ pb25 := Nat.ne_of_lt (Nat.lt_of_lt_of_le Vs24.lt hb25)
  have ge25_pb25 : n0 ≤ pb25 := Nat.le_trans (own_old_le O22_x24) hb25
  have ne25_sb1_py25 : sb1 ≠ py25 := Nat.ne_of_lt (Nat.lt_of_lt_of_le Es1_x4_t_x24.lt hy25)
  have ne25_sb3_py25 : sb3 ≠ py25 := Nat.ne_of_lt (Nat.lt_of_lt_of_le Es3_x4_t_x24.lt hy25)
  have ne25_sb4_py25 : sb4 ≠ py25 := Nat.ne_of_lt (Nat.lt_of_lt_of_le Es4_t_x24.lt hy25)
  have ne25_sb2_py25 : sb2 ≠ py25 := Nat.ne_of_lt (Nat.lt_of_lt_of_le Es2_x4_t_x24.lt hy25)
  have ne25_sy2_py25 : sy2 ≠ py25 := Nat.ne_of_lt (Nat.lt_of_lt_of_le Vs2_x4_t_x24.lt hy25)
  have ne25_q_py25 : q ≠ py25 := Nat.ne_of_lt (Nat.lt_of_lt_of_le Eq_x24.lt hy25)
  have ne25_f23_py25 : f23 ≠ py25 := Nat.ne_of_lt (Nat.lt_of_lt_of_le Et23_x24.lt hy25)
  have ne25_w24_py25 : w24 ≠ py25 := Nat.ne_of_lt (Nat.lt_of_lt_of_le Em24.lt hy25)
  have ne25_pb24_py25 : pb24 ≠ py25 := Nat.ne_of_lt (Nat.lt_of_lt_of_le Es24.lt hy25)
  have ne25_py24_py25 : py24 ≠ py25 := Nat.ne_of_lt (Nat.lt_of_lt_of_le Vs24.lt hy25)
  have ge25_py25 : n0 ≤ py25 := Nat.le_trans (own_old_le O22_x24) hy25
  have O22_x25 := O22_x24.keep K25 all0
  have CR22_x25 := CR22_x24.trans CB25
  have Es1_x4_t_x25 := Es1_x4_t_x24.keep K25
  have Es3_x4_t_x25 := Es3_x4_t_x24.keep K25
  have Es4_t_x25 := Es4_t_x24.keep K25
  have Es2_x4_t_x25 := Es2_x4_t_x24.keep K25
  have Fs2_x4_t_x25 := Fs2_x4_t_x24.keep K25 nin0
  have Gs2_x4_t_x25 := Gs2_x4_t_x24.keep K25 nin0
  have Vs2_x4_t_x25 := Vs2_x4_t_x24.keep K25 nin0
  have Eq_x25 := Eq_x24.keep K25
  have Fq_x25 := Fq_x24.keep K25 nin0
  have Fj_x25 := Fj_x24.keep K25 nin0
  have Et23_x25 := Et23_x24.keep K25
  have Fa23_x25 := Fa23_x24.keep K25 nin0
  have Fb23_x25 := Fb23_x24.keep K25 nin0
  have Fd23_x25 := Fd23_x24.keep K25 nin0
  have Fe23_x25 := Fe23_x24.keep K25 nin0
  have Em24_x25 := Em24.keep K25
  have Fm24_x25 := Fm24.keep K25 nin0
  have Fi24_x25 := Fi24.keep K25 nin0
  have Fp24_x25 := Fp24.keep K25 nin0
  have Es24_x25 := Es24.keep K25
  have Fs24_x25 := Fs24.keep K25 nin0
  have Gs24_x25 := Gs24.keep K25 nin0
  have Vs24_x25 := Vs24.keep K25 nin0
  refine own_st (fun _ => XS.astore X25.here hx rfl (hb hby at_174) rfl rfl (l' := #[own_vi p0, own_vi p1, own_vl p2, .second, own_vi p3, own_vi p4, own_vi p5, own_vr sb1, own_vr sb2, own_vr sb3, own_vr sb4, own_vi b1, own_vi b2, .val .null, s14, s15, own_vr q, own_vr f23, own_vr w24, own_vr pb25]) rfl) ?_
  refine own_aload X25 hx hby at_176 rfl rfl rfl ?_
  refine own_aload X25 hx hby at_178 rfl rfl rfl ?_
  obtain ⟨cq26, kq26, q26a, q26b, q26c⟩ := isOf hZ25 rfl Et23_x25
  obtain ⟨_, _, ⟨T26, L26, k26, n26⟩, -, X26, ⟨Lc26, hQ26, l26, y26, z26⟩, st26⟩ := X25.virtualBack hx (y := own_y47) (z := own_y47) hown25 (mvT hZ25 (hw _ (own_m 280 rfl))) (mvT hZ25 (hw _ (own_m 281 rfl))) (notFace_of_selects (args := #[]) (mvT hZ25 (hw _ (own_m 283 rfl)))) (mvT hZ25 (hw _ (own_m 283 rfl))) (mvT hZ25 (hw _ (own_m 282 rfl))) (by decide) (backOf (W := 1) (own_gn l Z a0 hw [] f23 sb1 T25.heap n0 O22_x25 Fa23_x25) hZ25 (hw _ (own_m 284 rfl)) (hw _ (own_m 79 rfl)) (by decide) (by decide)) q26a q26c (g := (mkF m 180 #[own_vi p0, own_vi p1, own_vl p2, .second, own_vi p3, own_vi p4, own_vi p5, own_vr sb1, own_vr sb2, own_vr sb3, own_vr sb4, own_vi b1, own_vi b2, .val .null, s14, s15, own_vr q, own_vr f23, own_vr w24, own_vr pb25] [(.ref f23), (.ref sb1)])) rfl (by rw [hml]; rfl) (Steps.refl _) (argsL := []) (rest := [(.ref sb1)]) (lenOf own_pd23 rfl) rfl (by show 2 * 0 + _ ≤ _; exact Nat.le_of_eq rfl) (hb hby at_180) (fun _ _ => ⟨rfl, rfl, (by decide : 59 + 0 ≤ _), (by decide : 9030 + 0 ≤ _)⟩)
  dsimp only [Pt.U, Pt.locs, Pt.cells, Pt.slots] at X26 l26 y26 z26 st26 hQ26
  subst l26 y26 z26
  obtain ⟨rfl, N26q, hh26⟩ := hQ26
  have N26 := Fr.app N25 N26q
  refine own_st (fun _ kt => st26.trans kt) ?_
  obtain ⟨cq27, kq27, q27a, q27b, q27c⟩ := isOf hZ25 hh26 Es1_x4_t_x25
  obtain ⟨_, _, ⟨T27, L27, k27, n27⟩, -, X27, ⟨Lc27, hQ27, l27, y27, z27⟩, st27⟩ := X26.virtualBack hx (y := own_y56) (z := own_y56) hown25 (mvT hZ25 (hw _ (own_m 285 rfl))) (mvT hZ25 (hw _ (own_m 286 rfl))) (notFace_of_selects (args := #[]) (mvT hZ25 (hw _ (own_m 288 rfl)))) (mvT hZ25 (hw _ (own_m 288 rfl))) (mvT hZ25 (hw _ (own_m 287 rfl))) (by decide) (backOf (W := 0) (own_eqS l Z a0 hw [] sb1 T25.heap n0 O22_x25 ) hZ25 (hw _ (own_m 289 rfl)) (hw _ (own_m 5 rfl)) (by decide) (by decide)) q27a q27c (g := (mkF m 183 #[own_vi p0, own_vi p1, own_vl p2, .second, own_vi p3, own_vi p4, own_vi p5, own_vr sb1, own_vr sb2, own_vr sb3, own_vr sb4, own_vi b1, own_vi b2, .val .null, s14, s15, own_vr q, own_vr f23, own_vr w24, own_vr pb25] [(.ref sb1), (.ref sb1)])) rfl (by rw [hml]; rfl) (Steps.refl _) (argsL := [(.ref sb1)]) (rest := []) (lenOf own_pd39 rfl) rfl (by show 2 * 0 + _ ≤ _; exact Nat.le_of_eq rfl) (hb hby at_183) (fun _ _ => ⟨rfl, hh26, (by decide : 59 + 0 ≤ _), (by decide : 9030 + 0 ≤ _)⟩)
  dsimp only [Pt.U, Pt.locs, Pt.cells, Pt.slots] at X27 l27 y27 z27 st27 hQ27
  subst l27 y27 z27
  obtain ⟨rfl, N27q, hh27⟩ := hQ27
  have N27 := Fr.app N26 N27q
  refine own_st (fun _ kt => st27.trans kt) ?_
  show own_Rch _ _ _ _ T27 (mkF m 186 #[own_vi p0, own_vi p1, own_vl p2, .second, own_vi p3, own_vi p4, own_vi p5, own_vr sb1, own_vr sb2, own_vr sb3, own_vr sb4, own_vi b1, own_vi b2, .val .null, s14, s15, own_vr q, own_vr f23, own_vr w24, own_vr pb25] [(.int (1 : Int32))])
  refine own_st (fun _ => XS.ifNo X27.here hx rfl (hb hby at_186) rfl ((if0 _ _).trans (feq ((by decide) : ¬ ((1 : Int32) = (0 : Int32)))).1)) ?_
  refine own_aload X27 hx hby at_189 rfl rfl rfl ?_
  refine own_aload X27 hx hby at_191 rfl rfl rfl ?_
  obtain ⟨cq28, kq28, q28a, q28b, q28c⟩ := isOf hZ25 hh27 Et23_x25
  obtain ⟨_, _, ⟨T28, L28, k28, n28⟩, -, X28, ⟨Lc28, hQ28, l28, y28, z28⟩, st28⟩ := X27.virtualBack hx (y := own_y52) (z := own_y52) hown25 (mvT hZ25 (hw _ (own_m 290 rfl))) (mvT hZ25 (hw _ (own_m 291 rfl))) (notFace_of_selects (args := #[]) (mvT hZ25 (hw _ (own_m 293 rfl)))) (mvT hZ25 (hw _ (own_m 293 rfl))) (mvT hZ25 (hw _ (own_m 292 rfl))) (by decide) (backOf (W := 0) (own_ha l Z a0 hw [] f23 sb3 em T25.heap n0 O22_x25 EM FZ Fb23_x25) hZ25 (hw _ (own_m 294 rfl)) (hw _ (own_m 79 rfl)) (by decide) (by decide)) q28a q28c (g := (mkF m 193 #[own_vi p0, own_vi p1, own_vl p2, .second, own_vi p3, own_vi p4, own_vi p5, own_vr sb1, own_vr sb2, own_vr sb3, own_vr sb4, own_vi b1, own_vi b2, .val .null, s14, s15, own_vr q, own_vr f23, own_vr w24, own_vr pb25] [(.ref sb3), (.ref f23)])) rfl (by rw [hml]; rfl) (Steps.refl _) (argsL := [(.ref sb3)]) (rest := []) (lenOf own_pd47 rfl) rfl (by show 2 * 0 + _ ≤ _; exact Nat.le_of_eq rfl) (hb hby at_193) (fun _ _ => ⟨rfl, hh27, (by decide : 59 + 0 ≤ _), (by decide : 9030 + 0 ≤ _)⟩)
  dsimp only [Pt.U, Pt.locs, Pt.cells, Pt.slots] at X28 l28 y28 z28 st28 hQ28
  subst l28 y28 z28
  obtain ⟨rfl, N28q, hh28⟩ := hQ28
  have N28 := Fr.app N27 N28q
  refine own_st (fun _ kt => st28.trans kt) ?_
  show own_Rch _ _ _ _ T28 (mkF m 196 #[own_vi p0, own_vi p1, own_vl p2, .second, own_vi p3, own_vi p4, own_vi p5, own_vr sb1, own_vr sb2, own_vr sb3, own_vr sb4, own_vi b1, own_vi b2, .val .null, s14, s15, own_vr q, own_vr f23, own_vr w24, own_vr pb25] [(.int (0 : Int32))])
  refine own_st (fun _ => XS.ifNo X28.here hx rfl (hb hby at_196) rfl ((if0 _ _).trans (teq (rfl : (0 : Int32) = (0 : Int32))).2)) ?_
  refine own_aload X28 hx hby at_199 rfl rfl rfl ?_
  refine own_aload X28 hx hby at_201 rfl rfl rfl ?_
  refine own_aload X28 hx hby at_203 rfl rfl rfl ?_
  obtain ⟨cq29, kq29, q29a, q29b, q29c⟩ := isOf hZ25 hh28 Et23_x25
  obtain ⟨_, _, ⟨T29, L29, k29, n29⟩, -, X29, ⟨Lc29, hQ29, l29, y29, z29⟩, st29⟩ := X28.virtualBack hx (y := own_y54) (z := own_y54) hown25 (mvT hZ25 (hw _ (own_m 311 rfl))) (mvT hZ25 (hw _ (own_m 312 rfl))) (notFace_of_selects (args := #[]) (mvT hZ25 (hw _ (own_m 314 rfl)))) (mvT hZ25 (hw _ (own_m 314 rfl))) (mvT hZ25 (hw _ (own_m 313 rfl))) (by decide) (backOf (W := 0) (own_ent l Z a0 hw [] f23 sb3 sb4 em T25.heap n0 O22_x25 EM FZ Fb23_x25) hZ25 (hw _ (own_m 315 rfl)) (hw _ (own_m 79 rfl)) (by decide) (by decide)) q29a q29c (g := (mkF m 205 #[own_vi p0, own_vi p1, own_vl p2, .second, own_vi p3, own_vi p4, own_vi p5, own_vr sb1, own_vr sb2, own_vr sb3, own_vr sb4, own_vi b1, own_vi b2, .val .null, s14, s15, own_vr q, own_vr f23, own_vr w24, own_vr pb25] [(.ref sb4), (.ref sb3), (.ref f23)])) rfl (by rw [hml]; rfl) (Steps.refl _) (argsL := [(.ref sb3), (.ref sb4)]) (rest := []) (lenOf own_pd48 rfl) rfl (by show 2 * 0 + _ ≤ _; exact Nat.le_of_eq rfl) (hb hby at_205) (fun _ _ => ⟨rfl, hh28, (by decide : 59 + 0 ≤ _), (by decide : 9030 + 0 ≤ _)⟩)
  dsimp only [Pt.U, Pt.locs, Pt.cells, Pt.slots] at X29 l29 y29 z29 st29 hQ29
  subst l29 y29 z29
  obtain ⟨rfl, N29q, hh29⟩ := hQ29
  have N29 := Fr.app N28 N29q
  refine own_st (fun _ kt => st29.trans kt) ?_
  show own_Rch _ _ _ _ T29 (mkF m 208 #[own_vi p0, own_vi p1, own_vl p2, .second, own_vi p3, own_vi p4, own_vi p5, own_vr sb1, own_vr sb2, own_vr sb3, own_vr sb4, own_vi b1, own_vi b2, .val .null, s14, s15, own_vr q, own_vr f23, own_vr w24, own_vr pb25] [.null])
  refine own_st (fun _ => XS.ifnonnullNo X29.here hx rfl (hb hby at_208) rfl) ?_
  refine own_aload X29 hx hby at_211 rfl rfl rfl ?_
  show own_Rch _ _ _ _ T29 (mkF m 213 #[own_vi p0, own_vi p1, own_vl p2, .second, own_vi p3, own_vi p4, own_vi p5, own_vr sb1, own_vr sb2, own_vr sb3, own_vr sb4, own_vi b1, own_vi b2, .val .null, s14, s15, own_vr q, own_vr f23, own_vr w24, own_vr pb25] [(.ref w24)])
  refine own_st (fun _ => XS.ifnullNo X29.here hx rfl (hb hby at_213) rfl) ?_
  refine own_aload X29 hx hby at_216 rfl rfl rfl ?_
  refine own_aload X29 hx hby at_218 rfl rfl rfl ?_
  obtain ⟨cq30, kq30, q30a, q30b, q30c⟩ := isOf hZ25 hh29 Em24_x25
  obtain ⟨_, _, ⟨T30, L30, k30, n30⟩, -, X30, ⟨Lc30, hQ30, l30, y30, z30⟩, st30⟩ := X29.virtualBackUp hx (owner := "java/lang/Throwable") (x := own_y37) (y := own_y36) hown25 (mvT hZ25 (hw _ (own_m 324 rfl))) (mvT hZ25 (hw _ (own_m 274 rfl))) (mvT hZ25 (hw _ (own_m 275 rfl))) (by decide) (mvT hZ25 (hw _ (own_m 277 rfl))) (mvT hZ25 (hw _ (own_m 276 rfl))) (backOf (W := 1) (own_gm l Z a0 hw [] w24 sb4 T25.heap n0 O22_x25 Fm24_x25) hZ25 (hw _ (own_m 278 rfl)) (hw _ (own_m 32 rfl)) (by decide) (by decide)) q30a q30c (g := (mkF m 220 #[own_vi p0, own_vi p1, own_vl p2, .second, own_vi p3, own_vi p4, own_vi p5, own_vr sb1, own_vr sb2, own_vr sb3, own_vr sb4, own_vi b1, own_vi b2, .val .null, s14, s15, own_vr q, own_vr f23, own_vr w24, own_vr pb25] [(.ref w24), (.ref sb4)])) rfl (by rw [hml]; rfl) (Steps.refl _) (argsL := []) (rest := [(.ref sb4)]) (lenOf own_pd23 rfl) rfl (by show 2 * 0 + _ ≤ _; exact Nat.le_of_eq rfl) (hb hby at_220) (fun _ _ => ⟨rfl, hh29, (by decide : 59 + 0 ≤ _), (by decide : 9030 + 0 ≤ _)⟩)
  dsimp only [Pt.U, Pt.locs, Pt.cells, Pt.slots] at X30 l30 y30 z30 st30 hQ30
  subst l30 y30 z30
  obtain ⟨rfl, N30q, hh30⟩ := hQ30
  have N30 := Fr.app N29 N30q
  refine own_st (fun _ kt => st30.trans kt) ?_
  obtain ⟨cq31, kq31, q31a, q31b, q31c⟩ := isOf hZ25 hh30 Es4_t_x25
  obtain ⟨_, _, ⟨T31, L31, k31, n31⟩, -, X31, ⟨Lc31, hQ31, l31, y31, z31⟩, st31⟩ := X30.virtualBack hx (y := own_y56) (z := own_y56) hown25 (mvT hZ25 (hw _ (own_m 285 rfl))) (mvT hZ25 (hw _ (own_m 286 rfl))) (notFace_of_selects (args := #[]) (mvT hZ25 (hw _ (own_m 288 rfl)))) (mvT hZ25 (hw _ (own_m 288 rfl))) (mvT hZ25 (hw _ (own_m 287 rfl))) (by decide) (backOf (W := 0) (own_eqS l Z a0 hw [] sb4 T25.heap n0 O22_x25 ) hZ25 (hw _ (own_m 289 rfl)) (hw _ (own_m 5 rfl)) (by decide) (by decide)) q31a q31c (g := (mkF m 223 #[own_vi p0, own_vi p1, own_vl p2, .second, own_vi p3, own_vi p4, own_vi p5, own_vr sb1, own_vr sb2, own_vr sb3, own_vr sb4, own_vi b1, own_vi b2, .val .null, s14, s15, own_vr q, own_vr f23, own_vr w24, own_vr pb25] [(.ref sb4), (.ref sb4)])) rfl (by rw [hml]; rfl) (Steps.refl _) (argsL := [(.ref sb4)]) (rest := []) (lenOf own_pd39 rfl) rfl (by show 2 * 0 + _ ≤ _; exact Nat.le_of_eq rfl) (hb hby at_223) (fun _ _ => ⟨rfl, hh30, (by decide : 59 + 0 ≤ _), (by decide : 9030 + 0 ≤ _)⟩)
  dsimp only [Pt.U, Pt.locs, Pt.cells, Pt.slots] at X31 l31 y31 z31 st31 hQ31
  subst l31 y31 z31
  obtain ⟨rfl, N31q, hh31⟩ := hQ31
  have N31 := Fr.app N30 N31q
  refine own_st (fun _ kt => st31.trans kt) ?_
  show own_Rch _ _ _ _ T31 (mkF m 226 #[own_vi p0, own_vi p1, own_vl p2, .second, own_vi p3, own_vi p4, own_vi p5, own_vr sb1, own_vr sb2, own_vr sb3, own_vr sb4, own_vi b1, own_vi b2, .val .null, s14, s15, own_vr q, own_vr f23, own_vr w24, own_vr pb25] [(.int (1 : Int32))])
  refine own_st (fun _ => XS.ifNo X31.here hx rfl (hb hby at_226) rfl ((if0 _ _).trans (feq ((by decide) : ¬ ((1 : Int32) = (0 : Int32)))).1)) ?_
  refine own_aload X31 hx hby at_229 rfl rfl rfl ?_
  refine own_aload X31 hx hby at_231 rfl rfl rfl ?_
  obtain ⟨cq32, kq32, q32a, q32b, q32c⟩ := isOf hZ25 hh31 Em24_x25
  obtain ⟨_, _, ⟨T32, L32, k32, n32⟩, -, X32, ⟨Lc32, hQ32, l32, y32, z32⟩, st32⟩ := X31.virtualBack hx (y := own_y41) (z := own_y41) hown25 (mvT hZ25 (hw _ (own_m 325 rfl))) (mvT hZ25 (hw _ (own_m 113 rfl))) (notFace_of_selects (args := #[]) (mvT hZ25 (hw _ (own_m 115 rfl)))) (mvT hZ25 (hw _ (own_m 115 rfl))) (mvT hZ25 (hw _ (own_m 114 rfl))) (by decide) (backOf (W := 1) (own_giN l Z a0 hw [] w24 eo T25.heap n0 O22_x25 SP Fi24_x25) hZ25 (hw _ (own_m 116 rfl)) (hw _ (own_m 14 rfl)) (by decide) (by decide)) q32a q32c (g := (mkF m 233 #[own_vi p0, own_vi p1, own_vl p2, .second, own_vi p3, own_vi p4, own_vi p5, own_vr sb1, own_vr sb2, own_vr sb3, own_vr sb4, own_vi b1, own_vi b2, .val .null, s14, s15, own_vr q, own_vr f23, own_vr w24, own_vr pb25] [(.ref w24), .null])) rfl (by rw [hml]; rfl) (Steps.refl _) (argsL := []) (rest := [.null]) (lenOf own_pd41 rfl) rfl (by show 2 * 0 + _ ≤ _; exact Nat.le_of_eq rfl) (hb hby at_233) (fun _ _ => ⟨rfl, hh31, (by decide : 59 + 0 ≤ _), (by decide : 9030 + 0 ≤ _)⟩)
  dsimp only [Pt.U, Pt.locs, Pt.cells, Pt.slots] at X32 l32 y32 z32 st32 hQ32
  subst l32 y32 z32
  obtain ⟨rfl, N32q, hh32⟩ := hQ32
  have N32 := Fr.app N31 N32q
  refine own_st (fun _ kt => st32.trans kt) ?_
  refine own_st (fun _ => XS.aconstNull X32.here hx rfl (hb hby at_236)) ?_
  obtain ⟨cq33, kq33, q33a, q33b, q33c⟩ := isOf hZ25 hh32 (EE.ext O22_x25.2)
  obtain ⟨_, _, ⟨T33, L33, k33, n33⟩, -, X33, ⟨Lc33, hQ33, l33, y33, z33⟩, st33⟩ := X32.virtualBack hx (y := own_y43) (z := own_y43) hown25 (mvT hZ25 (hw _ (own_m 326 rfl))) (mvT hZ25 (hw _ (own_m 123 rfl))) (notFace_of_selects (args := #[]) (mvT hZ25 (hw _ (own_m 125 rfl)))) (mvT hZ25 (hw _ (own_m 125 rfl))) (mvT hZ25 (hw _ (own_m 124 rfl))) (by decide) (backOf (W := 1) (own_oeN l Z a0 hw [] eo T25.heap n0 O22_x25 (FE.ext O22_x25.2)) hZ25 (hw _ (own_m 126 rfl)) (hw _ (own_m 119 rfl)) (by decide) (by decide)) q33a q33c (g := (mkF m 237 #[own_vi p0, own_vi p1, own_vl p2, .second, own_vi p3, own_vi p4, own_vi p5, own_vr sb1, own_vr sb2, own_vr sb3, own_vr sb4, own_vi b1, own_vi b2, .val .null, s14, s15, own_vr q, own_vr f23, own_vr w24, own_vr pb25] [.null, (.ref eo), .null])) rfl (by rw [hml]; rfl) (Steps.refl _) (argsL := [.null]) (rest := [.null]) (lenOf own_pd38 rfl) rfl (by show 2 * 0 + _ ≤ _; exact Nat.le_of_eq rfl) (hb hby at_237) (fun _ _ => ⟨rfl, hh32, (by decide : 59 + 0 ≤ _), (by decide : 9030 + 0 ≤ _)⟩)
  dsimp only [Pt.U, Pt.locs, Pt.cells, Pt.slots] at X33 l33 y33 z33 st33 hQ33
  subst l33 y33 z33
  obtain ⟨rfl, N33q, hh33⟩ := hQ33
  have N33 := Fr.app N32 N33q
  refine own_st (fun _ kt => st33.trans kt) ?_
  refine own_st (X33.checkcastNull hx (g := (mkF m 240 #[own_vi p0, own_vi p1, own_vl p2, .second, own_vi p3, own_vi p4, own_vi p5, own_vr sb1, own_vr sb2, own_vr sb3, own_vr sb4, own_vi b1, own_vi b2, .val .null, s14, s15, own_vr q, own_vr f23, own_vr w24, own_vr pb25] [.null, .null])) rfl rfl (hb hby at_240)) ?_
  obtain ⟨_, _, ⟨T34, L34, k34, n34⟩, -, X34, ⟨Lc34, hQ34, l34, y34, z34⟩, st34⟩ := Jvm.LawKit.callS X33 hx (y := own_y57) hown25 (mvT hZ25 (hw _ (own_m 327 rfl))) (mvT hZ25 (hw _ (own_m 328 rfl))) (mvT hZ25 (hw _ (own_m 2 rfl))) (mvT hZ25 (hw _ (own_m 329 rfl))) (by decide) (backOf (W := 0) (own_smN l Z a0 hw []  T25.heap n0 O22_x25 ) hZ25 (hw _ (own_m 329 rfl)) (hw _ (own_m 2 rfl)) (by decide) (by decide)) (g := (mkF m 243 #[own_vi p0, own_vi p1, own_vl p2, .second, own_vi p3, own_vi p4, own_vi p5, own_vr sb1, own_vr sb2, own_vr sb3, own_vr sb4, own_vi b1, own_vi b2, .val .null, s14, s15, own_vr q, own_vr f23, own_vr w24, own_vr pb25] [.null, .null])) rfl (by rw [hml]; rfl) (argsL := [.null, .null]) (rest := []) (lenOf own_pd49 rfl) rfl (by show 2 * 0 + _ ≤ _; exact Nat.le_of_eq rfl) (hb hby at_243) (fun _ _ => ⟨rfl, hh33, (by decide : 59 + 0 ≤ _), (by decide : 9030 + 0 ≤ _)⟩)
  dsimp only [Pt.U, Pt.locs, Pt.cells, Pt.slots] at X34 l34 y34 z34 st34 hQ34
  subst l34 y34 z34
  obtain ⟨rfl, N34q, hh34⟩ := hQ34
  have N34 := Fr.app N33 N34q
  refine own_st st34 ?_
  show own_Rch _ _ _ _ T34 (mkF m 246 #[own_vi p0, own_vi p1, own_vl p2, .second, own_vi p3, own_vi p4, own_vi p5, own_vr sb1, own_vr sb2, own_vr sb3, own_vr sb4, own_vi b1, own_vi b2, .val .null, s14, s15, own_vr q, own_vr f23, own_vr w24, own_vr pb25] [(.int (1 : Int32))])
  refine own_st (fun _ => XS.ifNo X34.here hx rfl (hb hby at_246) rfl ((if0 _ _).trans (feq ((by decide) : ¬ ((1 : Int32) = (0 : Int32)))).1)) ?_
  refine own_aload X34 hx hby at_249 rfl rfl rfl ?_
  refine own_aload X34 hx hby at_251 rfl rfl rfl ?_
  obtain ⟨cq35, kq35, q35a, q35b, q35c⟩ := isOf hZ25 hh34 Em24_x25
  obtain ⟨_, _, ⟨T35, L35, k35, n35⟩, -, X35, ⟨Lc35, hQ35, l35, y35, z35⟩, st35⟩ := X34.virtualBack hx (y := own_y42) (z := own_y42) hown25 (mvT hZ25 (hw _ (own_m 330 rfl))) (mvT hZ25 (hw _ (own_m 331 rfl))) (notFace_of_selects (args := #[]) (mvT hZ25 (hw _ (own_m 333 rfl)))) (mvT hZ25 (hw _ (own_m 333 rfl))) (mvT hZ25 (hw _ (own_m 332 rfl))) (by decide) (backOf (W := 1) (own_gpR l Z a0 hw [] w24 pb24 T25.heap n0 O22_x25 Fp24_x25) hZ25 (hw _ (own_m 334 rfl)) (hw _ (own_m 14 rfl)) (by decide) (by decide)) q35a q35c (g := (mkF m 253 #[own_vi p0, own_vi p1, own_vl p2, .second, own_vi p3, own_vi p4, own_vi p5, own_vr sb1, own_vr sb2, own_vr sb3, own_vr sb4, own_vi b1, own_vi b2, .val .null, s14, s15, own_vr q, own_vr f23, own_vr w24, own_vr pb25] [(.ref w24), (.ref pb25)])) rfl (by rw [hml]; rfl) (Steps.refl _) (argsL := []) (rest := [(.ref pb25)]) (lenOf own_pd41 rfl) rfl (by show 2 * 0 + _ ≤ _; exact Nat.le_of_eq rfl) (hb hby at_253) (fun _ _ => ⟨rfl, hh34, (by decide : 59 + 1 ≤ _), (by decide : 9030 + 1 ≤ _)⟩)
  dsimp only [Pt.U, Pt.locs, Pt.cells, Pt.slots] at X35 l35 y35 z35 st35 hQ35
  subst l35 y35 z35
  obtain ⟨oo35, rfl, N35q, K35, ho35, Eo35, Fo35⟩ := hQ35
  have N35 := Fr.app N34 N35q
  refine own_st (fun _ kt => st35.trans kt) ?_
  have ne35_sb1_oo35 : sb1 ≠ oo35 := Nat.ne_of_lt (Nat.lt_of_lt_of_le Es1_x4_t_x25.lt ho35)
  have ne35_sb3_oo35 : sb3 ≠ oo35 := Nat.ne_of_lt (Nat.lt_of_lt_of_le Es3_x4_t_x25.lt ho35)
  have ne35_sb4_oo35 : sb4 ≠ oo35 := Nat.ne_of_lt (Nat.lt_of_lt_of_le Es4_t_x25.lt ho35)
  have ne35_sb2_oo35 : sb2 ≠ oo35 := Nat.ne_of_lt (Nat.lt_of_lt_of_le Es2_x4_t_x25.lt ho35)
  have ne35_sy2_oo35 : sy2 ≠ oo35 := Nat.ne_of_lt (Nat.lt_of_lt_of_le Vs2_x4_t_x25.lt ho35)
  have ne35_q_oo35 : q ≠ oo35 := Nat.ne_of_lt (Nat.lt_of_lt_of_le Eq_x25.lt ho35)
  have ne35_f23_oo35 : f23 ≠ oo35 := Nat.ne_of_lt (Nat.lt_of_lt_of_le Et23_x25.lt ho35)
  have ne35_w24_oo35 : w24 ≠ oo35 := Nat.ne_of_lt (Nat.lt_of_lt_of_le Em24_x25.lt ho35)
  have ne35_pb24_oo35 : pb24 ≠ oo35 := Nat.ne_of_lt (Nat.lt_of_lt_of_le Es24_x25.lt ho35)
  have ne35_py24_oo35 : py24 ≠ oo35 := Nat.ne_of_lt (Nat.lt_of_lt_of_le Vs24_x25.lt ho35)
  have ne35_pb25_oo35 : pb25 ≠ oo35 := Nat.ne_of_lt (Nat.lt_of_lt_of_le Es25.lt ho35)
  have ne35_py25_oo35 : py25 ≠ oo35 := Nat.ne_of_lt (Nat.lt_of_lt_of_le Vs25.lt ho35)
  have ge35_oo35 : n0 ≤ oo35 := Nat.le_trans (own_old_le O22_x25) ho35
  have hkk35 := Nat.le_trans (Nat.le_refl T25.heap.size) K35.1
  have O22_x35 := O22_x25.keep K35 all0
  have CR22_x35 := CR22_x25.trans (CHr.keep K35 sf0 CR22_x25.1)
  have Es1_x4_t_x35 := Es1_x4_t_x25.keep K35
  have Es3_x4_t_x35 := Es3_x4_t_x25.keep K35
  have Es4_t_x35 := Es4_t_x25.keep K35
  have Es2_x4_t_x35 := Es2_x4_t_x25.keep K35
  have Fs2_x4_t_x35 := Fs2_x4_t_x25.keep K35 nin0
  have Gs2_x4_t_x35 := Gs2_x4_t_x25.keep K35 nin0
  have Vs2_x4_t_x35 := Vs2_x4_t_x25.keep K35 nin0
  have Eq_x35 := Eq_x25.keep K35
  have Fq_x35 := Fq_x25.keep K35 nin0
  have Fj_x35 := Fj_x25.keep K35 nin0
  have Et23_x35 := Et23_x25.keep K35
  have Fa23_x35 := Fa23_x25.keep K35 nin0
  have Fb23_x35 := Fb23_x25.keep K35 nin0
  have Fd23_x35 := Fd23_x25.keep K35 nin0
  have Fe23_x35 := Fe23_x25.keep K35 nin0
  have Em24_x35 := Em24_x25.keep K35
  have Fm24_x35 := Fm24_x25.keep K35 nin0
  have Fi24_x35 := Fi24_x25.keep K35 nin0
  have Fp24_x35 := Fp24_x25.keep K35 nin0
  have Es24_x35 := Es24_x25.keep K35
  have Fs24_x35 := Fs24_x25.keep K35 nin0
  have Gs24_x35 := Gs24_x25.keep K35 nin0
  have Vs24_x35 := Vs24_x25.keep K35 nin0
  have Es25_x35 := Es25.keep K35
  have Fs25_x35 := Fs25.keep K35 nin0
  have Gs25_x35 := Gs25.keep K35 nin0
  have Vs25_x35 := Vs25.keep K35 nin0
  refine own_st (fun _ => XS.aconstNull X35.here hx rfl (hb hby at_256)) ?_
  obtain ⟨cq36, kq36, q36a, q36b, q36c⟩ := isOf hZ25 rfl Eo35
  obtain ⟨_, _, ⟨T36, L36, k36, n36⟩, -, X36, ⟨Lc36, hQ36, l36, y36, z36⟩, st36⟩ := X35.virtualBack hx (y := own_y43) (z := own_y43) hown25 (mvT hZ25 (hw _ (own_m 326 rfl))) (mvT hZ25 (hw _ (own_m 123 rfl))) (notFace_of_selects (args := #[]) (mvT hZ25 (hw _ (own_m 125 rfl)))) (mvT hZ25 (hw _ (own_m 125 rfl))) (mvT hZ25 (hw _ (own_m 124 rfl))) (by decide) (backOf (W := 1) (own_oeR l Z a0 hw [] oo35 pb24 T35.heap n0 O22_x35 Fo35) hZ25 (hw _ (own_m 126 rfl)) (hw _ (own_m 119 rfl)) (by decide) (by decide)) q36a q36c (g := (mkF m 257 #[own_vi p0, own_vi p1, own_vl p2, .second, own_vi p3, own_vi p4, own_vi p5, own_vr sb1, own_vr sb2, own_vr sb3, own_vr sb4, own_vi b1, own_vi b2, .val .null, s14, s15, own_vr q, own_vr f23, own_vr w24, own_vr pb25] [.null, (.ref oo35), (.ref pb25)])) rfl (by rw [hml]; rfl) (Steps.refl _) (argsL := [.null]) (rest := [(.ref pb25)]) (lenOf own_pd38 rfl) rfl (by show 2 * 0 + _ ≤ _; exact Nat.le_of_eq rfl) (hb hby at_257) (fun _ _ => ⟨rfl, rfl, (by decide : 60 + 0 ≤ _), (by decide : 9031 + 0 ≤ _)⟩)
  dsimp only [Pt.U, Pt.locs, Pt.cells, Pt.slots] at X36 l36 y36 z36 st36 hQ36
  subst l36 y36 z36
  obtain ⟨rfl, N36q, hh36⟩ := hQ36
  have N36 := Fr.app N35 N36q
  refine own_st (fun _ kt => st36.trans kt) ?_
  obtain ⟨cq37, kq37, q37a, q37b, q37c⟩ := isOf hZ25 hh36 Es25_x35
  obtain ⟨_, _, ⟨T37, L37, k37, n37⟩, -, X37, ⟨Lc37, hQ37, l37, y37, z37⟩, st37⟩ := X36.virtualBack hx (y := own_y56) (z := own_y56) hown25 (mvT hZ25 (hw _ (own_m 285 rfl))) (mvT hZ25 (hw _ (own_m 286 rfl))) (notFace_of_selects (args := #[]) (mvT hZ25 (hw _ (own_m 288 rfl)))) (mvT hZ25 (hw _ (own_m 288 rfl))) (mvT hZ25 (hw _ (own_m 287 rfl))) (by decide) (backOf (W := 0) (own_eqC l Z a0 hw [] pb25 py25 pk25 (own_plc us2 r p2 nn DO DN) pb24 py24 pk24 cs T35.heap n0 O22_x35 SC hcs Es25_x35 Fs25_x35 Gs25_x35 Vs25_x35 Es24_x35 Fs24_x35 Gs24_x35 Vs24_x35 (by have := own_plc_len (x := p2) (nn := nn) (D1 := DO) (D2 := DN) hus hr21; omega) (Ne.symm ne25_pb24_pb25)) hZ25 (hw _ (own_m 289 rfl)) (hw _ (own_m 5 rfl)) (by decide) (by decide)) q37a q37c (g := (mkF m 260 #[own_vi p0, own_vi p1, own_vl p2, .second, own_vi p3, own_vi p4, own_vi p5, own_vr sb1, own_vr sb2, own_vr sb3, own_vr sb4, own_vi b1, own_vi b2, .val .null, s14, s15, own_vr q, own_vr f23, own_vr w24, own_vr pb25] [(.ref pb24), (.ref pb25)])) rfl (by rw [hml]; rfl) (Steps.refl _) (argsL := [(.ref pb24)]) (rest := []) (lenOf own_pd39 rfl) rfl (by show 2 * 0 + _ ≤ _; exact Nat.le_of_eq rfl) (hb hby at_260) (fun _ _ => ⟨rfl, hh36, (by decide : 60 + 0 ≤ _), (by decide : 9031 + 0 ≤ _)⟩)
  dsimp only [Pt.U, Pt.locs, Pt.cells, Pt.slots] at X37 l37 y37 z37 st37 hQ37
  subst l37 y37 z37
  obtain ⟨rfl, N37q, hh37⟩ := hQ37
  have N37 := Fr.app N36 N37q
  refine own_st (fun _ kt => st37.trans kt) ?_
  show own_Rch _ _ _ _ T37 (mkF m 263 #[own_vi p0, own_vi p1, own_vl p2, .second, own_vi p3, own_vi p4, own_vi p5, own_vr sb1, own_vr sb2, own_vr sb3, own_vr sb4, own_vi b1, own_vi b2, .val .null, s14, s15, own_vr q, own_vr f23, own_vr w24, own_vr pb25] [(.int (1 : Int32))])
  refine own_st (fun _ => XS.ifNo X37.here hx rfl (hb hby at_263) rfl ((if0 _ _).trans (feq ((by decide) : ¬ ((1 : Int32) = (0 : Int32)))).1)) ?_
  refine own_iconst X37 hx hby at_266 rfl ?_
  refine own_st (fun _ => XS.goto X37.here hx rfl (pc0 := 267) (pc' := 271) rfl (hb hby at_267) (by decide) (by decide)) ?_
  show own_Rch _ _ _ _ T37 (mkF m 271 #[own_vi p0, own_vi p1, own_vl p2, .second, own_vi p3, own_vi p4, own_vi p5, own_vr sb1, own_vr sb2, own_vr sb3, own_vr sb4, own_vi b1, own_vi b2, .val .null, s14, s15, own_vr q, own_vr f23, own_vr w24, own_vr pb25] [(.int (1 : Int32))])
  refine own_retNH (t := .boolean) (by simp) (by rw [hh0, hh37]; exact CR22_x35.trans (CHv.at (s := s) X37 hZ25 (own_hEL hw) CR22_x35.1)) (s := s) hS25 (by rw [hh37]; exact hkk35) X37 hx Bd.notSynchronized Bd.returns (hb hby at_271) (by decide) (by decide) ?_
  rw [hh37]
  exact ⟨rfl, N37⟩
 refine own_iload X4 hx hby at_49 rfl rfl ?_
 refine own_st (fun _ => XS.sipush X4.here hx rfl (hb hby at_51)) ?_
 show own_Rch _ _ _ _ T4 (mkF m 54 #[own_vi p0, own_vi p1, own_vl p2, .second, own_vi p3, own_vi p4, own_vi p5, own_vr sb1, own_vr sb2, own_vr sb3, own_vr sb4, .unset, .unset, .unset, .unset, .unset, .unset, .unset, .unset, .unset] [(.int (256 : Int32)), (.int p5)])
 refine own_st (fun _ => XS.iand X4.here hx rfl (hb hby at_54) rfl) ?_
 show own_Rch _ _ _ _ T4 (mkF m 55 #[own_vi p0, own_vi p1, own_vl p2, .second, own_vi p3, own_vi p4, own_vi p5, own_vr sb1, own_vr sb2, own_vr sb3, own_vr sb4, .unset, .unset, .unset, .unset, .unset, .unset, .unset, .unset, .unset] [(.int (p5 &&& (256 : Int32)))])
 by_cases hc55_38 : (p5 &&& (256 : Int32)) = (0 : Int32)
 · -- pc 55: True
  refine own_st (fun _ => XS.ifYes X4.here hx rfl (pc0 := 55) (pc' := 62) rfl (hb hby at_55) rfl ((if0 _ _).trans (teq hc55_38).1) (by decide) (by decide)) ?_
  refine own_iconst X4 hx hby at_62 rfl ?_
  refine own_st (fun _ => XS.istore X4.here hx rfl (hb hby at_63) rfl (l' := #[own_vi p0, own_vi p1, own_vl p2, .second, own_vi p3, own_vi p4, own_vi p5, own_vr sb1, own_vr sb2, own_vr sb3, own_vr sb4, own_vi (0 : Int32), .unset, .unset, .unset, .unset, .unset, .unset, .unset, .unset]) rfl) ?_
  refine own_iload X4 hx hby at_65 rfl rfl ?_
  refine own_st (fun _ => XS.sipush X4.here hx rfl (hb hby at_67)) ?_
  show own_Rch _ _ _ _ T4 (mkF m 70 #[own_vi p0, own_vi p1, own_vl p2, .second, own_vi p3, own_vi p4, own_vi p5, own_vr sb1, own_vr sb2, own_vr sb3, own_vr sb4, own_vi (0 : Int32), .unset, .unset, .unset, .unset, .unset, .unset, .unset, .unset] [(.int (512 : Int32)), (.int p5)])
  refine own_st (fun _ => XS.iand X4.here hx rfl (hb hby at_70) rfl) ?_
  show own_Rch _ _ _ _ T4 (mkF m 71 #[own_vi p0, own_vi p1, own_vl p2, .second, own_vi p3, own_vi p4, own_vi p5, own_vr sb1, own_vr sb2, own_vr sb3, own_vr sb4, own_vi (0 : Int32), .unset, .unset, .unset, .unset, .unset, .unset, .unset, .unset] [(.int (p5 &&& (512 : Int32)))])
  by_cases hc71_39 : (p5 &&& (512 : Int32)) = (0 : Int32)
  · -- pc 71: True
   refine own_st (fun _ => XS.ifYes X4.here hx rfl (pc0 := 71) (pc' := 78) rfl (hb hby at_71) rfl ((if0 _ _).trans (teq hc71_39).1) (by decide) (by decide)) ?_
   refine own_iconst X4 hx hby at_78 rfl ?_
   refine own_st (fun _ => XS.istore X4.here hx rfl (hb hby at_79) rfl (l' := #[own_vi p0, own_vi p1, own_vl p2, .second, own_vi p3, own_vi p4, own_vi p5, own_vr sb1, own_vr sb2, own_vr sb3, own_vr sb4, own_vi (0 : Int32), own_vi (0 : Int32), .unset, .unset, .unset, .unset, .unset, .unset, .unset]) rfl) ?_
   refine own_iload X4 hx hby at_81 rfl rfl ?_
   show own_Rch _ _ _ _ T4 (mkF m 83 #[own_vi p0, own_vi p1, own_vl p2, .second, own_vi p3, own_vi p4, own_vi p5, own_vr sb1, own_vr sb2, own_vr sb3, own_vr sb4, own_vi (0 : Int32), own_vi (0 : Int32), .unset, .unset, .unset, .unset, .unset, .unset, .unset] [(.int (0 : Int32))])
   refine own_st (fun _ => XS.ifYes X4.here hx rfl (pc0 := 83) (pc' := 91) rfl (hb hby at_83) rfl ((if0 _ _).trans (teq (rfl : (0 : Int32) = (0 : Int32))).1) (by decide) (by decide)) ?_
   refine own_st (fun _ => XS.aconstNull X4.here hx rfl (hb hby at_91)) ?_
   refine own_st (fun _ => XS.astore X4.here hx rfl (hb hby at_92) rfl rfl (l' := #[own_vi p0, own_vi p1, own_vl p2, .second, own_vi p3, own_vi p4, own_vi p5, own_vr sb1, own_vr sb2, own_vr sb3, own_vr sb4, own_vi (0 : Int32), own_vi (0 : Int32), .val .null, .unset, .unset, .unset, .unset, .unset, .unset]) rfl) ?_
   refine own_iload X4 hx hby at_94 rfl rfl ?_
   show own_Rch _ _ _ _ T4 (mkF m 96 #[own_vi p0, own_vi p1, own_vl p2, .second, own_vi p3, own_vi p4, own_vi p5, own_vr sb1, own_vr sb2, own_vr sb3, own_vr sb4, own_vi (0 : Int32), own_vi (0 : Int32), .val .null, .unset, .unset, .unset, .unset, .unset, .unset] [(.int (0 : Int32))])
   refine own_st (fun _ => XS.ifYes X4.here hx rfl (pc0 := 96) (pc' := 104) rfl (hb hby at_96) rfl ((if0 _ _).trans (teq (rfl : (0 : Int32) = (0 : Int32))).1) (by decide) (by decide)) ?_
   refine own_st (fun _ => XS.aconstNull X4.here hx rfl (hb hby at_104)) ?_
   refine own_st (fun _ => XS.astore X4.here hx rfl (hb hby at_105) rfl rfl (l' := #[own_vi p0, own_vi p1, own_vl p2, .second, own_vi p3, own_vi p4, own_vi p5, own_vr sb1, own_vr sb2, own_vr sb3, own_vr sb4, own_vi (0 : Int32), own_vi (0 : Int32), .val .null, .val .null, .unset, .unset, .unset, .unset, .unset]) rfl) ?_
   obtain ⟨T40, h40, X40, e40, E40, A40, D40, U40, st40⟩ := newO X4 hx hZ4 hown4 (hw _ (own_m 12 rfl)) (hw _ (own_m 13 rfl)) (hw _ (own_m 14 rfl)) rfl (g := (mkF m 107 #[own_vi p0, own_vi p1, own_vl p2, .second, own_vi p3, own_vi p4, own_vi p5, own_vr sb1, own_vr sb2, own_vr sb3, own_vr sb4, own_vi (0 : Int32), own_vi (0 : Int32), .val .null, .val .null, .unset, .unset, .unset, .unset, .unset] [])) rfl (hb hby at_107) (by decide) (by decide)
   obtain ⟨b40, g40⟩ : ∃ z, z = T4.heap.size := ⟨_, rfl⟩
   rw [← g40] at A40 D40 U40 st40
   have ge40 : n0 ≤ b40 := by rw [g40]; exact own_old_le O0_x4
   have ne40_sb1 : sb1 ≠ b40 := by rw [g40]; exact Nat.ne_of_lt Es1_x4.lt
   have ne40_sb2 : sb2 ≠ b40 := by rw [g40]; exact Nat.ne_of_lt Es2_x4.lt
   have ne40_sy2 : sy2 ≠ b40 := by rw [g40]; exact Nat.ne_of_lt Vs2_x4.lt
   have ne40_sb3 : sb3 ≠ b40 := by rw [g40]; exact Nat.ne_of_lt Es3_x4.lt
   have ne40_sb4 : sb4 ≠ b40 := by rw [g40]; exact Nat.ne_of_lt Es4.lt
   have hkk40 := Nat.le_trans (Nat.le_refl T4.heap.size) E40.1
   have O0_x40 := O0_x4.ext E40
   have CR0_x40 := CR0_x4.trans (CHr.ext E40 CR0_x4.1)
   have Es1_x40 := Es1_x4.ext E40
   have Es2_x40 := Es2_x4.ext E40
   have Fs2_x40 := Fs2_x4.ext E40
   have Gs2_x40 := Gs2_x4.ext E40
   have Vs2_x40 := Vs2_x4.ext E40
   have Es3_x40 := Es3_x4.ext E40
   have Es4_x40 := Es4.ext E40
   have Y40 := Safe.ext E40 CR0_x4.1 (Safe.new (Nat.le_of_eq g40.symm))
   refine own_st st40 ?_
   have F40_cause : Fld Z h40 b40 "java/lang/Throwable" "cause" "Ljava/lang/Throwable;" .null := D40 (Or.inl (hw _ (own_m 38 rfl))) (ty := (.object "java/lang/Throwable")) (by decide)
   have F40_stackTrace : Fld Z h40 b40 "java/lang/Throwable" "stackTrace" "[Ljava/lang/StackTraceElement;" .null := D40 (Or.inl (hw _ (own_m 41 rfl))) (ty := (.array (.object "java/lang/StackTraceElement"))) (by decide)
   have F40_suppressedExceptions : Fld Z h40 b40 "java/lang/Throwable" "suppressedExceptions" "Ljava/util/List;" .null := D40 (Or.inl (hw _ (own_m 44 rfl))) (ty := (.object "java/util/List")) (by decide)
   have F40_detailMessage : Fld Z h40 b40 "java/lang/Throwable" "detailMessage" "Ljava/lang/String;" .null := D40 (Or.inl (hw _ (own_m 68 rfl))) (ty := (.object "java/lang/String")) (by decide)
   have F40_backtrace : Fld Z h40 b40 "java/lang/Throwable" "backtrace" "Ljava/lang/Object;" .null := D40 (Or.inl (hw _ (own_m 69 rfl))) (ty := (.object "java/lang/Object")) (by decide)
   have F40_depth : Fld Z h40 b40 "java/lang/Throwable" "depth" "I" (.int (0 : Int32)) := D40 (Or.inl (hw _ (own_m 70 rfl))) (ty := .int) (by decide)
   have F40_id : Fld Z h40 b40 "com/example/makewhole/makewhole/member/MemberRecordException" "id" "Ljava/lang/String;" .null := D40 (Or.inr (hw _ (own_m 74 rfl))) (ty := (.object "java/lang/String")) (by decide)
   have F40_place : Fld Z h40 b40 "com/example/makewhole/makewhole/member/MemberRecordException" "place" "Ljava/lang/String;" .null := D40 (Or.inr (hw _ (own_m 76 rfl))) (ty := (.object "java/lang/String")) (by decide)
   refine own_dup X40 hx hby at_110 rfl rfl rfl ?_
   refine own_aload X40 hx hby at_111 rfl rfl rfl ?_
   obtain ⟨_, _, ⟨T41, L41, k41, n41⟩, -, X41, ⟨Lc41, hQ41, l41, y41, z41⟩, st41⟩ := X40.specialBack hx (y := own_y35) rfl hown4 (mvT hZ4 (hw _ (own_m 15 rfl))) (mvT hZ4 (hw _ (own_m 16 rfl))) (mvT hZ4 (hw _ (own_m 17 rfl))) (by decide) (backOfKL (W := 1) (own_me1 l Z a0 hw [] b40 sb4 ua se h40 n0 O0_x40 hlt SU SQ A40 U40 F40_cause F40_stackTrace F40_suppressedExceptions F40_detailMessage F40_backtrace F40_id F40_place ge40) hZ4 (hw _ (own_m 17 rfl)) (hw _ (own_m 14 rfl)) (by decide) (by decide) (Vm.MethodsKnown.alikeC (hS4).1.alike hTK) (Vm.FramesKnown.alikeC (hS4).1.alike hFK)) (g := (mkF m 113 #[own_vi p0, own_vi p1, own_vl p2, .second, own_vi p3, own_vi p4, own_vi p5, own_vr sb1, own_vr sb2, own_vr sb3, own_vr sb4, own_vi (0 : Int32), own_vi (0 : Int32), .val .null, .val .null, .unset, .unset, .unset, .unset, .unset] [(.ref sb4), (.ref b40), (.ref b40)])) rfl (by rw [hml]; rfl) (Steps.refl _) (a := b40) (argsL := [(.ref sb4)]) (rest := [(.ref b40)]) (lenOf own_pd1 rfl) rfl (by show 2 * 0 + _ ≤ _; exact Nat.le_of_eq rfl) (hb hby at_113) (fun _ _ => ⟨rfl, e40, (by decide : 33 + 1 ≤ _), (by decide : 128 + 2752 ≤ _)⟩)
   dsimp only [Pt.U, Pt.locs, Pt.cells, Pt.slots] at X41 l41 y41 z41 st41 hQ41
   subst l41 y41 z41
   obtain ⟨rfl, N41q, K41, Em41, Fm41, Fi41, Fp41⟩ := hQ41
   have N41 := Fr.app N4 N41q
   refine own_st (fun _ kt => st41.trans kt) ?_
   have hkk41 := Nat.le_trans hkk40 K41.1
   have O0_x41 := O0_x40.keep K41 (allS ge40 all0)
   have CR0_x41 := CR0_x40.trans (CHr.keep K41 (sfS Y40 sf0) CR0_x40.1)
   have Es1_x41 := Es1_x40.keep K41
   have Es2_x41 := Es2_x40.keep K41
   have Fs2_x41 := Fs2_x40.keep K41 (ninS ne40_sb2 nin0)
   have Gs2_x41 := Gs2_x40.keep K41 (ninS ne40_sb2 nin0)
   have Vs2_x41 := Vs2_x40.keep K41 (ninS ne40_sy2 nin0)
   have Es3_x41 := Es3_x40.keep K41
   have Es4_x41 := Es4_x40.keep K41
   have Y40_x41 := Safe.keep K41 (sfS Y40 sf0) CR0_x40.1 Y40
   have A40_x41 := A40.keep K41
   refine own_st (fun _ => XS.astore X41.here hx rfl (hb hby at_116) rfl rfl (l' := #[own_vi p0, own_vi p1, own_vl p2, .second, own_vi p3, own_vi p4, own_vi p5, own_vr sb1, own_vr sb2, own_vr sb3, own_vr sb4, own_vi (0 : Int32), own_vi (0 : Int32), .val .null, .val .null, own_vr b40, .unset, .unset, .unset, .unset]) rfl) ?_
   refine own_iload X41 hx hby at_118 rfl rfl ?_
   show own_Rch _ _ _ _ T41 (mkF m 120 #[own_vi p0, own_vi p1, own_vl p2, .second, own_vi p3, own_vi p4, own_vi p5, own_vr sb1, own_vr sb2, own_vr sb3, own_vr sb4, own_vi (0 : Int32), own_vi (0 : Int32), .val .null, .val .null, own_vr b40, .unset, .unset, .unset, .unset] [(.int (0 : Int32))])
   refine own_st (fun _ => XS.ifNo X41.here hx rfl (hb hby at_120) rfl ((if0 _ _).trans (teq (rfl : (0 : Int32) = (0 : Int32))).2)) ?_
   refine own_iload X41 hx hby at_123 rfl rfl ?_
   show own_Rch _ _ _ _ T41 (mkF m 125 #[own_vi p0, own_vi p1, own_vl p2, .second, own_vi p3, own_vi p4, own_vi p5, own_vr sb1, own_vr sb2, own_vr sb3, own_vr sb4, own_vi (0 : Int32), own_vi (0 : Int32), .val .null, .val .null, own_vr b40, .unset, .unset, .unset, .unset] [(.int (0 : Int32))])
   refine own_st (fun _ => XS.ifYes X41.here hx rfl (pc0 := 125) (pc' := 144) rfl (hb hby at_125) rfl ((if0 _ _).trans (teq (rfl : (0 : Int32) = (0 : Int32))).1) (by decide) (by decide)) ?_
   refine own_aload X41 hx hby at_144 rfl rfl rfl ?_
   refine own_st (fun _ => XS.astore X41.here hx rfl (hb hby at_146) rfl rfl (l' := #[own_vi p0, own_vi p1, own_vl p2, .second, own_vi p3, own_vi p4, own_vi p5, own_vr sb1, own_vr sb2, own_vr sb3, own_vr sb4, own_vi (0 : Int32), own_vi (0 : Int32), .val .null, .val .null, own_vr b40, own_vr b40, .unset, .unset, .unset]) rfl) ?_
   show own_Rch _ _ _ _ T41 (mkF m 148 #[own_vi p0, own_vi p1, own_vl p2, .second, own_vi p3, own_vi p4, own_vi p5, own_vr sb1, own_vr sb2, own_vr sb3, own_vr sb4, own_vi (0 : Int32), own_vi (0 : Int32), .val .null, .val .null, own_vr b40, own_vr b40, .unset, .unset, .unset] [])
   exact c148N _ _ _ _ _ (X41.more (by decide) (by decide)) _ rfl N41 O0_x41 CR0_x41 hS4 hkk41 hZ4 hown4 Es1_x41 Es3_x41 Es4_x41 Es2_x41 Fs2_x41 Gs2_x41 Vs2_x41 Em41 Fm41 Fi41 _ _ _ _
  · -- pc 71: False
   refine own_st (fun _ => XS.ifNo X4.here hx rfl (hb hby at_71) rfl ((if0 _ _).trans (feq hc71_39).1)) ?_
   refine own_iconst X4 hx hby at_74 rfl ?_
   refine own_st (fun _ => XS.goto X4.here hx rfl (pc0 := 75) (pc' := 79) rfl (hb hby at_75) (by decide) (by decide)) ?_
   refine own_st (fun _ => XS.istore X4.here hx rfl (hb hby at_79) rfl (l' := #[own_vi p0, own_vi p1, own_vl p2, .second, own_vi p3, own_vi p4, own_vi p5, own_vr sb1, own_vr sb2, own_vr sb3, own_vr sb4, own_vi (0 : Int32), own_vi (1 : Int32), .unset, .unset, .unset, .unset, .unset, .unset, .unset]) rfl) ?_
   refine own_iload X4 hx hby at_81 rfl rfl ?_
   show own_Rch _ _ _ _ T4 (mkF m 83 #[own_vi p0, own_vi p1, own_vl p2, .second, own_vi p3, own_vi p4, own_vi p5, own_vr sb1, own_vr sb2, own_vr sb3, own_vr sb4, own_vi (0 : Int32), own_vi (1 : Int32), .unset, .unset, .unset, .unset, .unset, .unset, .unset] [(.int (0 : Int32))])
   refine own_st (fun _ => XS.ifYes X4.here hx rfl (pc0 := 83) (pc' := 91) rfl (hb hby at_83) rfl ((if0 _ _).trans (teq (rfl : (0 : Int32) = (0 : Int32))).1) (by decide) (by decide)) ?_
   refine own_st (fun _ => XS.aconstNull X4.here hx rfl (hb hby at_91)) ?_
   refine own_st (fun _ => XS.astore X4.here hx rfl (hb hby at_92) rfl rfl (l' := #[own_vi p0, own_vi p1, own_vl p2, .second, own_vi p3, own_vi p4, own_vi p5, own_vr sb1, own_vr sb2, own_vr sb3, own_vr sb4, own_vi (0 : Int32), own_vi (1 : Int32), .val .null, .unset, .unset, .unset, .unset, .unset, .unset]) rfl) ?_
   refine own_iload X4 hx hby at_94 rfl rfl ?_
   show own_Rch _ _ _ _ T4 (mkF m 96 #[own_vi p0, own_vi p1, own_vl p2, .second, own_vi p3, own_vi p4, own_vi p5, own_vr sb1, own_vr sb2, own_vr sb3, own_vr sb4, own_vi (0 : Int32), own_vi (1 : Int32), .val .null, .unset, .unset, .unset, .unset, .unset, .unset] [(.int (1 : Int32))])
   refine own_st (fun _ => XS.ifNo X4.here hx rfl (hb hby at_96) rfl ((if0 _ _).trans (feq ((by decide) : ¬ ((1 : Int32) = (0 : Int32)))).1)) ?_
   refine own_aload X4 hx hby at_99 rfl rfl rfl ?_
   refine own_st (fun _ => XS.goto X4.here hx rfl (pc0 := 101) (pc' := 105) rfl (hb hby at_101) (by decide) (by decide)) ?_
   refine own_st (fun _ => XS.astore X4.here hx rfl (hb hby at_105) rfl rfl (l' := #[own_vi p0, own_vi p1, own_vl p2, .second, own_vi p3, own_vi p4, own_vi p5, own_vr sb1, own_vr sb2, own_vr sb3, own_vr sb4, own_vi (0 : Int32), own_vi (1 : Int32), .val .null, own_vr sb1, .unset, .unset, .unset, .unset, .unset]) rfl) ?_
   obtain ⟨T42, h42, X42, e42, E42, A42, D42, U42, st42⟩ := newO X4 hx hZ4 hown4 (hw _ (own_m 12 rfl)) (hw _ (own_m 13 rfl)) (hw _ (own_m 14 rfl)) rfl (g := (mkF m 107 #[own_vi p0, own_vi p1, own_vl p2, .second, own_vi p3, own_vi p4, own_vi p5, own_vr sb1, own_vr sb2, own_vr sb3, own_vr sb4, own_vi (0 : Int32), own_vi (1 : Int32), .val .null, own_vr sb1, .unset, .unset, .unset, .unset, .unset] [])) rfl (hb hby at_107) (by decide) (by decide)
   obtain ⟨b42, g42⟩ : ∃ z, z = T4.heap.size := ⟨_, rfl⟩
   rw [← g42] at A42 D42 U42 st42
   have ge42 : n0 ≤ b42 := by rw [g42]; exact own_old_le O0_x4
   have ne42_sb1 : sb1 ≠ b42 := by rw [g42]; exact Nat.ne_of_lt Es1_x4.lt
   have ne42_sb2 : sb2 ≠ b42 := by rw [g42]; exact Nat.ne_of_lt Es2_x4.lt
   have ne42_sy2 : sy2 ≠ b42 := by rw [g42]; exact Nat.ne_of_lt Vs2_x4.lt
   have ne42_sb3 : sb3 ≠ b42 := by rw [g42]; exact Nat.ne_of_lt Es3_x4.lt
   have ne42_sb4 : sb4 ≠ b42 := by rw [g42]; exact Nat.ne_of_lt Es4.lt
   have hkk42 := Nat.le_trans (Nat.le_refl T4.heap.size) E42.1
   have O0_x42 := O0_x4.ext E42
   have CR0_x42 := CR0_x4.trans (CHr.ext E42 CR0_x4.1)
   have Es1_x42 := Es1_x4.ext E42
   have Es2_x42 := Es2_x4.ext E42
   have Fs2_x42 := Fs2_x4.ext E42
   have Gs2_x42 := Gs2_x4.ext E42
   have Vs2_x42 := Vs2_x4.ext E42
   have Es3_x42 := Es3_x4.ext E42
   have Es4_x42 := Es4.ext E42
   have Y42 := Safe.ext E42 CR0_x4.1 (Safe.new (Nat.le_of_eq g42.symm))
   refine own_st st42 ?_
   have F42_cause : Fld Z h42 b42 "java/lang/Throwable" "cause" "Ljava/lang/Throwable;" .null := D42 (Or.inl (hw _ (own_m 38 rfl))) (ty := (.object "java/lang/Throwable")) (by decide)
   have F42_stackTrace : Fld Z h42 b42 "java/lang/Throwable" "stackTrace" "[Ljava/lang/StackTraceElement;" .null := D42 (Or.inl (hw _ (own_m 41 rfl))) (ty := (.array (.object "java/lang/StackTraceElement"))) (by decide)
   have F42_suppressedExceptions : Fld Z h42 b42 "java/lang/Throwable" "suppressedExceptions" "Ljava/util/List;" .null := D42 (Or.inl (hw _ (own_m 44 rfl))) (ty := (.object "java/util/List")) (by decide)
   have F42_detailMessage : Fld Z h42 b42 "java/lang/Throwable" "detailMessage" "Ljava/lang/String;" .null := D42 (Or.inl (hw _ (own_m 68 rfl))) (ty := (.object "java/lang/String")) (by decide)
   have F42_backtrace : Fld Z h42 b42 "java/lang/Throwable" "backtrace" "Ljava/lang/Object;" .null := D42 (Or.inl (hw _ (own_m 69 rfl))) (ty := (.object "java/lang/Object")) (by decide)
   have F42_depth : Fld Z h42 b42 "java/lang/Throwable" "depth" "I" (.int (0 : Int32)) := D42 (Or.inl (hw _ (own_m 70 rfl))) (ty := .int) (by decide)
   have F42_id : Fld Z h42 b42 "com/example/makewhole/makewhole/member/MemberRecordException" "id" "Ljava/lang/String;" .null := D42 (Or.inr (hw _ (own_m 74 rfl))) (ty := (.object "java/lang/String")) (by decide)
   have F42_place : Fld Z h42 b42 "com/example/makewhole/makewhole/member/MemberRecordException" "place" "Ljava/lang/String;" .null := D42 (Or.inr (hw _ (own_m 76 rfl))) (ty := (.object "java/lang/String")) (by decide)
   refine own_dup X42 hx hby at_110 rfl rfl rfl ?_
   refine own_aload X42 hx hby at_111 rfl rfl rfl ?_
   obtain ⟨_, _, ⟨T43, L43, k43, n43⟩, -, X43, ⟨Lc43, hQ43, l43, y43, z43⟩, st43⟩ := X42.specialBack hx (y := own_y35) rfl hown4 (mvT hZ4 (hw _ (own_m 15 rfl))) (mvT hZ4 (hw _ (own_m 16 rfl))) (mvT hZ4 (hw _ (own_m 17 rfl))) (by decide) (backOfKL (W := 1) (own_me1 l Z a0 hw [] b42 sb4 ua se h42 n0 O0_x42 hlt SU SQ A42 U42 F42_cause F42_stackTrace F42_suppressedExceptions F42_detailMessage F42_backtrace F42_id F42_place ge42) hZ4 (hw _ (own_m 17 rfl)) (hw _ (own_m 14 rfl)) (by decide) (by decide) (Vm.MethodsKnown.alikeC (hS4).1.alike hTK) (Vm.FramesKnown.alikeC (hS4).1.alike hFK)) (g := (mkF m 113 #[own_vi p0, own_vi p1, own_vl p2, .second, own_vi p3, own_vi p4, own_vi p5, own_vr sb1, own_vr sb2, own_vr sb3, own_vr sb4, own_vi (0 : Int32), own_vi (1 : Int32), .val .null, own_vr sb1, .unset, .unset, .unset, .unset, .unset] [(.ref sb4), (.ref b42), (.ref b42)])) rfl (by rw [hml]; rfl) (Steps.refl _) (a := b42) (argsL := [(.ref sb4)]) (rest := [(.ref b42)]) (lenOf own_pd1 rfl) rfl (by show 2 * 0 + _ ≤ _; exact Nat.le_of_eq rfl) (hb hby at_113) (fun _ _ => ⟨rfl, e42, (by decide : 33 + 1 ≤ _), (by decide : 128 + 2752 ≤ _)⟩)
   dsimp only [Pt.U, Pt.locs, Pt.cells, Pt.slots] at X43 l43 y43 z43 st43 hQ43
   subst l43 y43 z43
   obtain ⟨rfl, N43q, K43, Em43, Fm43, Fi43, Fp43⟩ := hQ43
   have N43 := Fr.app N4 N43q
   refine own_st (fun _ kt => st43.trans kt) ?_
   have hkk43 := Nat.le_trans hkk42 K43.1
   have O0_x43 := O0_x42.keep K43 (allS ge42 all0)
   have CR0_x43 := CR0_x42.trans (CHr.keep K43 (sfS Y42 sf0) CR0_x42.1)
   have Es1_x43 := Es1_x42.keep K43
   have Es2_x43 := Es2_x42.keep K43
   have Fs2_x43 := Fs2_x42.keep K43 (ninS ne42_sb2 nin0)
   have Gs2_x43 := Gs2_x42.keep K43 (ninS ne42_sb2 nin0)
   have Vs2_x43 := Vs2_x42.keep K43 (ninS ne42_sy2 nin0)
   have Es3_x43 := Es3_x42.keep K43
   have Es4_x43 := Es4_x42.keep K43
   have Y42_x43 := Safe.keep K43 (sfS Y42 sf0) CR0_x42.1 Y42
   have A42_x43 := A42.keep K43
   refine own_st (fun _ => XS.astore X43.here hx rfl (hb hby at_116) rfl rfl (l' := #[own_vi p0, own_vi p1, own_vl p2, .second, own_vi p3, own_vi p4, own_vi p5, own_vr sb1, own_vr sb2, own_vr sb3, own_vr sb4, own_vi (0 : Int32), own_vi (1 : Int32), .val .null, own_vr sb1, own_vr b42, .unset, .unset, .unset, .unset]) rfl) ?_
   refine own_iload X43 hx hby at_118 rfl rfl ?_
   show own_Rch _ _ _ _ T43 (mkF m 120 #[own_vi p0, own_vi p1, own_vl p2, .second, own_vi p3, own_vi p4, own_vi p5, own_vr sb1, own_vr sb2, own_vr sb3, own_vr sb4, own_vi (0 : Int32), own_vi (1 : Int32), .val .null, own_vr sb1, own_vr b42, .unset, .unset, .unset, .unset] [(.int (0 : Int32))])
   refine own_st (fun _ => XS.ifNo X43.here hx rfl (hb hby at_120) rfl ((if0 _ _).trans (teq (rfl : (0 : Int32) = (0 : Int32))).2)) ?_
   refine own_iload X43 hx hby at_123 rfl rfl ?_
   show own_Rch _ _ _ _ T43 (mkF m 125 #[own_vi p0, own_vi p1, own_vl p2, .second, own_vi p3, own_vi p4, own_vi p5, own_vr sb1, own_vr sb2, own_vr sb3, own_vr sb4, own_vi (0 : Int32), own_vi (1 : Int32), .val .null, own_vr sb1, own_vr b42, .unset, .unset, .unset, .unset] [(.int (1 : Int32))])
   refine own_st (fun _ => XS.ifNo X43.here hx rfl (hb hby at_125) rfl ((if0 _ _).trans (feq ((by decide) : ¬ ((1 : Int32) = (0 : Int32)))).1)) ?_
   obtain ⟨T44, h44, X44, e44, E44, A44, D44, U44, st44⟩ := newO X43 hx hZ4 hown4 (hw _ (own_m 12 rfl)) (hw _ (own_m 13 rfl)) (hw _ (own_m 14 rfl)) rfl (g := (mkF m 128 #[own_vi p0, own_vi p1, own_vl p2, .second, own_vi p3, own_vi p4, own_vi p5, own_vr sb1, own_vr sb2, own_vr sb3, own_vr sb4, own_vi (0 : Int32), own_vi (1 : Int32), .val .null, own_vr sb1, own_vr b42, .unset, .unset, .unset, .unset] [])) rfl (hb hby at_128) (by decide) (by decide)
   obtain ⟨b44, g44⟩ : ∃ z, z = T43.heap.size := ⟨_, rfl⟩
   rw [← g44] at A44 D44 U44 st44
   have ge44 : n0 ≤ b44 := by rw [g44]; exact own_old_le O0_x43
   have ne44_sb1 : sb1 ≠ b44 := by rw [g44]; exact Nat.ne_of_lt Es1_x43.lt
   have ne44_sb2 : sb2 ≠ b44 := by rw [g44]; exact Nat.ne_of_lt Es2_x43.lt
   have ne44_sy2 : sy2 ≠ b44 := by rw [g44]; exact Nat.ne_of_lt Vs2_x43.lt
   have ne44_sb3 : sb3 ≠ b44 := by rw [g44]; exact Nat.ne_of_lt Es3_x43.lt
   have ne44_sb4 : sb4 ≠ b44 := by rw [g44]; exact Nat.ne_of_lt Es4_x43.lt
   have ne44_b42 : b42 ≠ b44 := by rw [g44]; exact Nat.ne_of_lt Em43.lt
   have hkk44 := Nat.le_trans hkk43 E44.1
   have O0_x44 := O0_x43.ext E44
   have CR0_x44 := CR0_x43.trans (CHr.ext E44 CR0_x43.1)
   have Es1_x44 := Es1_x43.ext E44
   have Es2_x44 := Es2_x43.ext E44
   have Fs2_x44 := Fs2_x43.ext E44
   have Gs2_x44 := Gs2_x43.ext E44
   have Vs2_x44 := Vs2_x43.ext E44
   have Es3_x44 := Es3_x43.ext E44
   have Es4_x44 := Es4_x43.ext E44
   have Y42_x44 := Safe.ext E44 CR0_x43.1 Y42_x43
   have Em43_x44 := Em43.ext E44
   have Fm43_x44 := Fm43.ext E44
   have Fi43_x44 := Fi43.ext E44
   have Fp43_x44 := Fp43.ext E44
   have Y44 := Safe.ext E44 CR0_x43.1 (Safe.new (Nat.le_of_eq g44.symm))
   refine own_st st44 ?_
   have F44_cause : Fld Z h44 b44 "java/lang/Throwable" "cause" "Ljava/lang/Throwable;" .null := D44 (Or.inl (hw _ (own_m 38 rfl))) (ty := (.object "java/lang/Throwable")) (by decide)
   have F44_stackTrace : Fld Z h44 b44 "java/lang/Throwable" "stackTrace" "[Ljava/lang/StackTraceElement;" .null := D44 (Or.inl (hw _ (own_m 41 rfl))) (ty := (.array (.object "java/lang/StackTraceElement"))) (by decide)
   have F44_suppressedExceptions : Fld Z h44 b44 "java/lang/Throwable" "suppressedExceptions" "Ljava/util/List;" .null := D44 (Or.inl (hw _ (own_m 44 rfl))) (ty := (.object "java/util/List")) (by decide)
   have F44_detailMessage : Fld Z h44 b44 "java/lang/Throwable" "detailMessage" "Ljava/lang/String;" .null := D44 (Or.inl (hw _ (own_m 68 rfl))) (ty := (.object "java/lang/String")) (by decide)
   have F44_backtrace : Fld Z h44 b44 "java/lang/Throwable" "backtrace" "Ljava/lang/Object;" .null := D44 (Or.inl (hw _ (own_m 69 rfl))) (ty := (.object "java/lang/Object")) (by decide)
   have F44_depth : Fld Z h44 b44 "java/lang/Throwable" "depth" "I" (.int (0 : Int32)) := D44 (Or.inl (hw _ (own_m 70 rfl))) (ty := .int) (by decide)
   have F44_id : Fld Z h44 b44 "com/example/makewhole/makewhole/member/MemberRecordException" "id" "Ljava/lang/String;" .null := D44 (Or.inr (hw _ (own_m 74 rfl))) (ty := (.object "java/lang/String")) (by decide)
   have F44_place : Fld Z h44 b44 "com/example/makewhole/makewhole/member/MemberRecordException" "place" "Ljava/lang/String;" .null := D44 (Or.inr (hw _ (own_m 76 rfl))) (ty := (.object "java/lang/String")) (by decide)
   refine own_dup X44 hx hby at_131 rfl rfl rfl ?_
   refine own_aload X44 hx hby at_132 rfl rfl rfl ?_
   refine own_aload X44 hx hby at_134 rfl rfl rfl ?_
   refine own_aload X44 hx hby at_136 rfl rfl rfl ?_
   obtain ⟨_, _, ⟨T45, L45, k45, n45⟩, -, X45, ⟨Lc45, hQ45, l45, y45, z45⟩, st45⟩ := X44.specialBack hx (y := own_y38) rfl hown4 (mvT hZ4 (hw _ (own_m 379 rfl))) (mvT hZ4 (hw _ (own_m 271 rfl))) (mvT hZ4 (hw _ (own_m 272 rfl))) (by decide) (backOfKL (W := 1) (own_me3_NR l Z a0 hw [] b44 b42 sb4 sb1 ua se h44 n0 O0_x44 hlt SU SQ A44 U44 F44_cause F44_stackTrace F44_suppressedExceptions F44_detailMessage F44_backtrace F44_id F44_place ge44 Em43_x44 Fm43_x44 ne44_b42) hZ4 (hw _ (own_m 272 rfl)) (hw _ (own_m 14 rfl)) (by decide) (by decide) (Vm.MethodsKnown.alikeC (hS4).1.alike hTK) (Vm.FramesKnown.alikeC (hS4).1.alike hFK)) (g := (mkF m 138 #[own_vi p0, own_vi p1, own_vl p2, .second, own_vi p3, own_vi p4, own_vi p5, own_vr sb1, own_vr sb2, own_vr sb3, own_vr sb4, own_vi (0 : Int32), own_vi (1 : Int32), .val .null, own_vr sb1, own_vr b42, .unset, .unset, .unset, .unset] [(.ref sb1), .null, (.ref b42), (.ref b44), (.ref b44)])) rfl (by rw [hml]; rfl) (Steps.refl _) (a := b44) (argsL := [(.ref b42), .null, (.ref sb1)]) (rest := [(.ref b44)]) (lenOf own_pd43 rfl) rfl (by show 2 * 0 + _ ≤ _; exact Nat.le_of_eq rfl) (hb hby at_138) (fun _ _ => ⟨rfl, e44, (by decide : 35 + 1 ≤ _), (by decide : 2888 + 2752 ≤ _)⟩)
   dsimp only [Pt.U, Pt.locs, Pt.cells, Pt.slots] at X45 l45 y45 z45 st45 hQ45
   subst l45 y45 z45
   obtain ⟨rfl, N45q, K45, Em45, Fm45, Fi45, Fp45⟩ := hQ45
   have N45 := Fr.app N43 N45q
   refine own_st (fun _ kt => st45.trans kt) ?_
   have hkk45 := Nat.le_trans hkk44 K45.1
   have O0_x45 := O0_x44.keep K45 (allS ge44 all0)
   have CR0_x45 := CR0_x44.trans (CHr.keep K45 (sfS Y44 sf0) CR0_x44.1)
   have Es1_x45 := Es1_x44.keep K45
   have Es2_x45 := Es2_x44.keep K45
   have Fs2_x45 := Fs2_x44.keep K45 (ninS ne44_sb2 nin0)
   have Gs2_x45 := Gs2_x44.keep K45 (ninS ne44_sb2 nin0)
   have Vs2_x45 := Vs2_x44.keep K45 (ninS ne44_sy2 nin0)
   have Es3_x45 := Es3_x44.keep K45
   have Es4_x45 := Es4_x44.keep K45
   have Y42_x45 := Safe.keep K45 (sfS Y44 sf0) CR0_x44.1 Y42_x44
   have Em43_x45 := Em43_x44.keep K45
   have Fm43_x45 := Fm43_x44.keep K45 (ninS ne44_b42 nin0)
   have Fi43_x45 := Fi43_x44.keep K45 (ninS ne44_b42 nin0)
   have Fp43_x45 := Fp43_x44.keep K45 (ninS ne44_b42 nin0)
   have Y44_x45 := Safe.keep K45 (sfS Y44 sf0) CR0_x44.1 Y44
   have A44_x45 := A44.keep K45
   refine own_st (fun _ => XS.goto X45.here hx rfl (pc0 := 141) (pc' := 146) rfl (hb hby at_141) (by decide) (by decide)) ?_
   refine own_st (fun _ => XS.astore X45.here hx rfl (hb hby at_146) rfl rfl (l' := #[own_vi p0, own_vi p1, own_vl p2, .second, own_vi p3, own_vi p4, own_vi p5, own_vr sb1, own_vr sb2, own_vr sb3, own_vr sb4, own_vi (0 : Int32), own_vi (1 : Int32), .val .null, own_vr sb1, own_vr b42, own_vr b44, .unset, .unset, .unset]) rfl) ?_
   show own_Rch _ _ _ _ T45 (mkF m 148 #[own_vi p0, own_vi p1, own_vl p2, .second, own_vi p3, own_vi p4, own_vi p5, own_vr sb1, own_vr sb2, own_vr sb3, own_vr sb4, own_vi (0 : Int32), own_vi (1 : Int32), .val .null, own_vr sb1, own_vr b42, own_vr b44, .unset, .unset, .unset] [])
   exact c148N _ _ _ _ _ (X45.more (by decide) (by decide)) _ rfl N45 O0_x45 CR0_x45 hS4 hkk45 hZ4 hown4 Es1_x45 Es3_x45 Es4_x45 Es2_x45 Fs2_x45 Gs2_x45 Vs2_x45 Em45 Fm45 Fi45 _ _ _ _
 · -- pc 55: False
  refine own_st (fun _ => XS.ifNo X4.here hx rfl (hb hby at_55) rfl ((if0 _ _).trans (feq hc55_38).1)) ?_
  refine own_iconst X4 hx hby at_58 rfl ?_
  refine own_st (fun _ => XS.goto X4.here hx rfl (pc0 := 59) (pc' := 63) rfl (hb hby at_59) (by decide) (by decide)) ?_
  refine own_st (fun _ => XS.istore X4.here hx rfl (hb hby at_63) rfl (l' := #[own_vi p0, own_vi p1, own_vl p2, .second, own_vi p3, own_vi p4, own_vi p5, own_vr sb1, own_vr sb2, own_vr sb3, own_vr sb4, own_vi (1 : Int32), .unset, .unset, .unset, .unset, .unset, .unset, .unset, .unset]) rfl) ?_
  refine own_iload X4 hx hby at_65 rfl rfl ?_
  refine own_st (fun _ => XS.sipush X4.here hx rfl (hb hby at_67)) ?_
  show own_Rch _ _ _ _ T4 (mkF m 70 #[own_vi p0, own_vi p1, own_vl p2, .second, own_vi p3, own_vi p4, own_vi p5, own_vr sb1, own_vr sb2, own_vr sb3, own_vr sb4, own_vi (1 : Int32), .unset, .unset, .unset, .unset, .unset, .unset, .unset, .unset] [(.int (512 : Int32)), (.int p5)])
  refine own_st (fun _ => XS.iand X4.here hx rfl (hb hby at_70) rfl) ?_
  show own_Rch _ _ _ _ T4 (mkF m 71 #[own_vi p0, own_vi p1, own_vl p2, .second, own_vi p3, own_vi p4, own_vi p5, own_vr sb1, own_vr sb2, own_vr sb3, own_vr sb4, own_vi (1 : Int32), .unset, .unset, .unset, .unset, .unset, .unset, .unset, .unset] [(.int (p5 &&& (512 : Int32)))])
  by_cases hc71_46 : (p5 &&& (512 : Int32)) = (0 : Int32)
  · -- pc 71: True
   refine own_st (fun _ => XS.ifYes X4.here hx rfl (pc0 := 71) (pc' := 78) rfl (hb hby at_71) rfl ((if0 _ _).trans (teq hc71_46).1) (by decide) (by decide)) ?_
   refine own_iconst X4 hx hby at_78 rfl ?_
   refine own_st (fun _ => XS.istore X4.here hx rfl (hb hby at_79) rfl (l' := #[own_vi p0, own_vi p1, own_vl p2, .second, own_vi p3, own_vi p4, own_vi p5, own_vr sb1, own_vr sb2, own_vr sb3, own_vr sb4, own_vi (1 : Int32), own_vi (0 : Int32), .unset, .unset, .unset, .unset, .unset, .unset, .unset]) rfl) ?_
   refine own_iload X4 hx hby at_81 rfl rfl ?_
   show own_Rch _ _ _ _ T4 (mkF m 83 #[own_vi p0, own_vi p1, own_vl p2, .second, own_vi p3, own_vi p4, own_vi p5, own_vr sb1, own_vr sb2, own_vr sb3, own_vr sb4, own_vi (1 : Int32), own_vi (0 : Int32), .unset, .unset, .unset, .unset, .unset, .unset, .unset] [(.int (1 : Int32))])
   refine own_st (fun _ => XS.ifNo X4.here hx rfl (hb hby at_83) rfl ((if0 _ _).trans (feq ((by decide) : ¬ ((1 : Int32) = (0 : Int32)))).1)) ?_
   refine own_aload X4 hx hby at_86 rfl rfl rfl ?_
   refine own_st (fun _ => XS.goto X4.here hx rfl (pc0 := 88) (pc' := 92) rfl (hb hby at_88) (by decide) (by decide)) ?_
   refine own_st (fun _ => XS.astore X4.here hx rfl (hb hby at_92) rfl rfl (l' := #[own_vi p0, own_vi p1, own_vl p2, .second, own_vi p3, own_vi p4, own_vi p5, own_vr sb1, own_vr sb2, own_vr sb3, own_vr sb4, own_vi (1 : Int32), own_vi (0 : Int32), own_vr sb3, .unset, .unset, .unset, .unset, .unset, .unset]) rfl) ?_
   refine own_iload X4 hx hby at_94 rfl rfl ?_
   show own_Rch _ _ _ _ T4 (mkF m 96 #[own_vi p0, own_vi p1, own_vl p2, .second, own_vi p3, own_vi p4, own_vi p5, own_vr sb1, own_vr sb2, own_vr sb3, own_vr sb4, own_vi (1 : Int32), own_vi (0 : Int32), own_vr sb3, .unset, .unset, .unset, .unset, .unset, .unset] [(.int (0 : Int32))])
   refine own_st (fun _ => XS.ifYes X4.here hx rfl (pc0 := 96) (pc' := 104) rfl (hb hby at_96) rfl ((if0 _ _).trans (teq (rfl : (0 : Int32) = (0 : Int32))).1) (by decide) (by decide)) ?_
   refine own_st (fun _ => XS.aconstNull X4.here hx rfl (hb hby at_104)) ?_
   refine own_st (fun _ => XS.astore X4.here hx rfl (hb hby at_105) rfl rfl (l' := #[own_vi p0, own_vi p1, own_vl p2, .second, own_vi p3, own_vi p4, own_vi p5, own_vr sb1, own_vr sb2, own_vr sb3, own_vr sb4, own_vi (1 : Int32), own_vi (0 : Int32), own_vr sb3, .val .null, .unset, .unset, .unset, .unset, .unset]) rfl) ?_
   obtain ⟨T47, h47, X47, e47, E47, A47, D47, U47, st47⟩ := newO X4 hx hZ4 hown4 (hw _ (own_m 12 rfl)) (hw _ (own_m 13 rfl)) (hw _ (own_m 14 rfl)) rfl (g := (mkF m 107 #[own_vi p0, own_vi p1, own_vl p2, .second, own_vi p3, own_vi p4, own_vi p5, own_vr sb1, own_vr sb2, own_vr sb3, own_vr sb4, own_vi (1 : Int32), own_vi (0 : Int32), own_vr sb3, .val .null, .unset, .unset, .unset, .unset, .unset] [])) rfl (hb hby at_107) (by decide) (by decide)
   obtain ⟨b47, g47⟩ : ∃ z, z = T4.heap.size := ⟨_, rfl⟩
   rw [← g47] at A47 D47 U47 st47
   have ge47 : n0 ≤ b47 := by rw [g47]; exact own_old_le O0_x4
   have ne47_sb1 : sb1 ≠ b47 := by rw [g47]; exact Nat.ne_of_lt Es1_x4.lt
   have ne47_sb2 : sb2 ≠ b47 := by rw [g47]; exact Nat.ne_of_lt Es2_x4.lt
   have ne47_sy2 : sy2 ≠ b47 := by rw [g47]; exact Nat.ne_of_lt Vs2_x4.lt
   have ne47_sb3 : sb3 ≠ b47 := by rw [g47]; exact Nat.ne_of_lt Es3_x4.lt
   have ne47_sb4 : sb4 ≠ b47 := by rw [g47]; exact Nat.ne_of_lt Es4.lt
   have hkk47 := Nat.le_trans (Nat.le_refl T4.heap.size) E47.1
   have O0_x47 := O0_x4.ext E47
   have CR0_x47 := CR0_x4.trans (CHr.ext E47 CR0_x4.1)
   have Es1_x47 := Es1_x4.ext E47
   have Es2_x47 := Es2_x4.ext E47
   have Fs2_x47 := Fs2_x4.ext E47
   have Gs2_x47 := Gs2_x4.ext E47
   have Vs2_x47 := Vs2_x4.ext E47
   have Es3_x47 := Es3_x4.ext E47
   have Es4_x47 := Es4.ext E47
   have Y47 := Safe.ext E47 CR0_x4.1 (Safe.new (Nat.le_of_eq g47.symm))
   refine own_st st47 ?_
   have F47_cause : Fld Z h47 b47 "java/lang/Throwable" "cause" "Ljava/lang/Throwable;" .null := D47 (Or.inl (hw _ (own_m 38 rfl))) (ty := (.object "java/lang/Throwable")) (by decide)
   have F47_stackTrace : Fld Z h47 b47 "java/lang/Throwable" "stackTrace" "[Ljava/lang/StackTraceElement;" .null := D47 (Or.inl (hw _ (own_m 41 rfl))) (ty := (.array (.object "java/lang/StackTraceElement"))) (by decide)
   have F47_suppressedExceptions : Fld Z h47 b47 "java/lang/Throwable" "suppressedExceptions" "Ljava/util/List;" .null := D47 (Or.inl (hw _ (own_m 44 rfl))) (ty := (.object "java/util/List")) (by decide)
   have F47_detailMessage : Fld Z h47 b47 "java/lang/Throwable" "detailMessage" "Ljava/lang/String;" .null := D47 (Or.inl (hw _ (own_m 68 rfl))) (ty := (.object "java/lang/String")) (by decide)
   have F47_backtrace : Fld Z h47 b47 "java/lang/Throwable" "backtrace" "Ljava/lang/Object;" .null := D47 (Or.inl (hw _ (own_m 69 rfl))) (ty := (.object "java/lang/Object")) (by decide)
   have F47_depth : Fld Z h47 b47 "java/lang/Throwable" "depth" "I" (.int (0 : Int32)) := D47 (Or.inl (hw _ (own_m 70 rfl))) (ty := .int) (by decide)
   have F47_id : Fld Z h47 b47 "com/example/makewhole/makewhole/member/MemberRecordException" "id" "Ljava/lang/String;" .null := D47 (Or.inr (hw _ (own_m 74 rfl))) (ty := (.object "java/lang/String")) (by decide)
   have F47_place : Fld Z h47 b47 "com/example/makewhole/makewhole/member/MemberRecordException" "place" "Ljava/lang/String;" .null := D47 (Or.inr (hw _ (own_m 76 rfl))) (ty := (.object "java/lang/String")) (by decide)
   refine own_dup X47 hx hby at_110 rfl rfl rfl ?_
   refine own_aload X47 hx hby at_111 rfl rfl rfl ?_
   obtain ⟨_, _, ⟨T48, L48, k48, n48⟩, -, X48, ⟨Lc48, hQ48, l48, y48, z48⟩, st48⟩ := X47.specialBack hx (y := own_y35) rfl hown4 (mvT hZ4 (hw _ (own_m 15 rfl))) (mvT hZ4 (hw _ (own_m 16 rfl))) (mvT hZ4 (hw _ (own_m 17 rfl))) (by decide) (backOfKL (W := 1) (own_me1 l Z a0 hw [] b47 sb4 ua se h47 n0 O0_x47 hlt SU SQ A47 U47 F47_cause F47_stackTrace F47_suppressedExceptions F47_detailMessage F47_backtrace F47_id F47_place ge47) hZ4 (hw _ (own_m 17 rfl)) (hw _ (own_m 14 rfl)) (by decide) (by decide) (Vm.MethodsKnown.alikeC (hS4).1.alike hTK) (Vm.FramesKnown.alikeC (hS4).1.alike hFK)) (g := (mkF m 113 #[own_vi p0, own_vi p1, own_vl p2, .second, own_vi p3, own_vi p4, own_vi p5, own_vr sb1, own_vr sb2, own_vr sb3, own_vr sb4, own_vi (1 : Int32), own_vi (0 : Int32), own_vr sb3, .val .null, .unset, .unset, .unset, .unset, .unset] [(.ref sb4), (.ref b47), (.ref b47)])) rfl (by rw [hml]; rfl) (Steps.refl _) (a := b47) (argsL := [(.ref sb4)]) (rest := [(.ref b47)]) (lenOf own_pd1 rfl) rfl (by show 2 * 0 + _ ≤ _; exact Nat.le_of_eq rfl) (hb hby at_113) (fun _ _ => ⟨rfl, e47, (by decide : 33 + 1 ≤ _), (by decide : 128 + 2752 ≤ _)⟩)
   dsimp only [Pt.U, Pt.locs, Pt.cells, Pt.slots] at X48 l48 y48 z48 st48 hQ48
   subst l48 y48 z48
   obtain ⟨rfl, N48q, K48, Em48, Fm48, Fi48, Fp48⟩ := hQ48
   have N48 := Fr.app N4 N48q
   refine own_st (fun _ kt => st48.trans kt) ?_
   have hkk48 := Nat.le_trans hkk47 K48.1
   have O0_x48 := O0_x47.keep K48 (allS ge47 all0)
   have CR0_x48 := CR0_x47.trans (CHr.keep K48 (sfS Y47 sf0) CR0_x47.1)
   have Es1_x48 := Es1_x47.keep K48
   have Es2_x48 := Es2_x47.keep K48
   have Fs2_x48 := Fs2_x47.keep K48 (ninS ne47_sb2 nin0)
   have Gs2_x48 := Gs2_x47.keep K48 (ninS ne47_sb2 nin0)
   have Vs2_x48 := Vs2_x47.keep K48 (ninS ne47_sy2 nin0)
   have Es3_x48 := Es3_x47.keep K48
   have Es4_x48 := Es4_x47.keep K48
   have Y47_x48 := Safe.keep K48 (sfS Y47 sf0) CR0_x47.1 Y47
   have A47_x48 := A47.keep K48
   refine own_st (fun _ => XS.astore X48.here hx rfl (hb hby at_116) rfl rfl (l' := #[own_vi p0, own_vi p1, own_vl p2, .second, own_vi p3, own_vi p4, own_vi p5, own_vr sb1, own_vr sb2, own_vr sb3, own_vr sb4, own_vi (1 : Int32), own_vi (0 : Int32), own_vr sb3, .val .null, own_vr b47, .unset, .unset, .unset, .unset]) rfl) ?_
   refine own_iload X48 hx hby at_118 rfl rfl ?_
   show own_Rch _ _ _ _ T48 (mkF m 120 #[own_vi p0, own_vi p1, own_vl p2, .second, own_vi p3, own_vi p4, own_vi p5, own_vr sb1, own_vr sb2, own_vr sb3, own_vr sb4, own_vi (1 : Int32), own_vi (0 : Int32), own_vr sb3, .val .null, own_vr b47, .unset, .unset, .unset, .unset] [(.int (1 : Int32))])
   refine own_st (fun _ => XS.ifYes X48.here hx rfl (pc0 := 120) (pc' := 128) rfl (hb hby at_120) rfl ((if0 _ _).trans (feq ((by decide) : ¬ ((1 : Int32) = (0 : Int32)))).2) (by decide) (by decide)) ?_
   obtain ⟨T49, h49, X49, e49, E49, A49, D49, U49, st49⟩ := newO X48 hx hZ4 hown4 (hw _ (own_m 12 rfl)) (hw _ (own_m 13 rfl)) (hw _ (own_m 14 rfl)) rfl (g := (mkF m 128 #[own_vi p0, own_vi p1, own_vl p2, .second, own_vi p3, own_vi p4, own_vi p5, own_vr sb1, own_vr sb2, own_vr sb3, own_vr sb4, own_vi (1 : Int32), own_vi (0 : Int32), own_vr sb3, .val .null, own_vr b47, .unset, .unset, .unset, .unset] [])) rfl (hb hby at_128) (by decide) (by decide)
   obtain ⟨b49, g49⟩ : ∃ z, z = T48.heap.size := ⟨_, rfl⟩
   rw [← g49] at A49 D49 U49 st49
   have ge49 : n0 ≤ b49 := by rw [g49]; exact own_old_le O0_x48
   have ne49_sb1 : sb1 ≠ b49 := by rw [g49]; exact Nat.ne_of_lt Es1_x48.lt
   have ne49_sb2 : sb2 ≠ b49 := by rw [g49]; exact Nat.ne_of_lt Es2_x48.lt
   have ne49_sy2 : sy2 ≠ b49 := by rw [g49]; exact Nat.ne_of_lt Vs2_x48.lt
   have ne49_sb3 : sb3 ≠ b49 := by rw [g49]; exact Nat.ne_of_lt Es3_x48.lt
   have ne49_sb4 : sb4 ≠ b49 := by rw [g49]; exact Nat.ne_of_lt Es4_x48.lt
   have ne49_b47 : b47 ≠ b49 := by rw [g49]; exact Nat.ne_of_lt Em48.lt
   have hkk49 := Nat.le_trans hkk48 E49.1
   have O0_x49 := O0_x48.ext E49
   have CR0_x49 := CR0_x48.trans (CHr.ext E49 CR0_x48.1)
   have Es1_x49 := Es1_x48.ext E49
   have Es2_x49 := Es2_x48.ext E49
   have Fs2_x49 := Fs2_x48.ext E49
   have Gs2_x49 := Gs2_x48.ext E49
   have Vs2_x49 := Vs2_x48.ext E49
   have Es3_x49 := Es3_x48.ext E49
   have Es4_x49 := Es4_x48.ext E49
   have Y47_x49 := Safe.ext E49 CR0_x48.1 Y47_x48
   have Em48_x49 := Em48.ext E49
   have Fm48_x49 := Fm48.ext E49
   have Fi48_x49 := Fi48.ext E49
   have Fp48_x49 := Fp48.ext E49
   have Y49 := Safe.ext E49 CR0_x48.1 (Safe.new (Nat.le_of_eq g49.symm))
   refine own_st st49 ?_
   have F49_cause : Fld Z h49 b49 "java/lang/Throwable" "cause" "Ljava/lang/Throwable;" .null := D49 (Or.inl (hw _ (own_m 38 rfl))) (ty := (.object "java/lang/Throwable")) (by decide)
   have F49_stackTrace : Fld Z h49 b49 "java/lang/Throwable" "stackTrace" "[Ljava/lang/StackTraceElement;" .null := D49 (Or.inl (hw _ (own_m 41 rfl))) (ty := (.array (.object "java/lang/StackTraceElement"))) (by decide)
   have F49_suppressedExceptions : Fld Z h49 b49 "java/lang/Throwable" "suppressedExceptions" "Ljava/util/List;" .null := D49 (Or.inl (hw _ (own_m 44 rfl))) (ty := (.object "java/util/List")) (by decide)
   have F49_detailMessage : Fld Z h49 b49 "java/lang/Throwable" "detailMessage" "Ljava/lang/String;" .null := D49 (Or.inl (hw _ (own_m 68 rfl))) (ty := (.object "java/lang/String")) (by decide)
   have F49_backtrace : Fld Z h49 b49 "java/lang/Throwable" "backtrace" "Ljava/lang/Object;" .null := D49 (Or.inl (hw _ (own_m 69 rfl))) (ty := (.object "java/lang/Object")) (by decide)
   have F49_depth : Fld Z h49 b49 "java/lang/Throwable" "depth" "I" (.int (0 : Int32)) := D49 (Or.inl (hw _ (own_m 70 rfl))) (ty := .int) (by decide)
   have F49_id : Fld Z h49 b49 "com/example/makewhole/makewhole/member/MemberRecordException" "id" "Ljava/lang/String;" .null := D49 (Or.inr (hw _ (own_m 74 rfl))) (ty := (.object "java/lang/String")) (by decide)
   have F49_place : Fld Z h49 b49 "com/example/makewhole/makewhole/member/MemberRecordException" "place" "Ljava/lang/String;" .null := D49 (Or.inr (hw _ (own_m 76 rfl))) (ty := (.object "java/lang/String")) (by decide)
   refine own_dup X49 hx hby at_131 rfl rfl rfl ?_
   refine own_aload X49 hx hby at_132 rfl rfl rfl ?_
   refine own_aload X49 hx hby at_134 rfl rfl rfl ?_
   refine own_aload X49 hx hby at_136 rfl rfl rfl ?_
   obtain ⟨_, _, ⟨T50, L50, k50, n50⟩, -, X50, ⟨Lc50, hQ50, l50, y50, z50⟩, st50⟩ := X49.specialBack hx (y := own_y38) rfl hown4 (mvT hZ4 (hw _ (own_m 379 rfl))) (mvT hZ4 (hw _ (own_m 271 rfl))) (mvT hZ4 (hw _ (own_m 272 rfl))) (by decide) (backOfKL (W := 1) (own_me3_RN l Z a0 hw [] b49 b47 sb4 sb3 ua se h49 n0 O0_x49 hlt SU SQ A49 U49 F49_cause F49_stackTrace F49_suppressedExceptions F49_detailMessage F49_backtrace F49_id F49_place ge49 Em48_x49 Fm48_x49 ne49_b47) hZ4 (hw _ (own_m 272 rfl)) (hw _ (own_m 14 rfl)) (by decide) (by decide) (Vm.MethodsKnown.alikeC (hS4).1.alike hTK) (Vm.FramesKnown.alikeC (hS4).1.alike hFK)) (g := (mkF m 138 #[own_vi p0, own_vi p1, own_vl p2, .second, own_vi p3, own_vi p4, own_vi p5, own_vr sb1, own_vr sb2, own_vr sb3, own_vr sb4, own_vi (1 : Int32), own_vi (0 : Int32), own_vr sb3, .val .null, own_vr b47, .unset, .unset, .unset, .unset] [.null, (.ref sb3), (.ref b47), (.ref b49), (.ref b49)])) rfl (by rw [hml]; rfl) (Steps.refl _) (a := b49) (argsL := [(.ref b47), (.ref sb3), .null]) (rest := [(.ref b49)]) (lenOf own_pd43 rfl) rfl (by show 2 * 0 + _ ≤ _; exact Nat.le_of_eq rfl) (hb hby at_138) (fun _ _ => ⟨rfl, e49, (by decide : 35 + 1 ≤ _), (by decide : 2888 + 2752 ≤ _)⟩)
   dsimp only [Pt.U, Pt.locs, Pt.cells, Pt.slots] at X50 l50 y50 z50 st50 hQ50
   subst l50 y50 z50
   obtain ⟨rfl, N50q, K50, Em50, Fm50, Fi50, Fp50⟩ := hQ50
   have N50 := Fr.app N48 N50q
   refine own_st (fun _ kt => st50.trans kt) ?_
   have hkk50 := Nat.le_trans hkk49 K50.1
   have O0_x50 := O0_x49.keep K50 (allS ge49 all0)
   have CR0_x50 := CR0_x49.trans (CHr.keep K50 (sfS Y49 sf0) CR0_x49.1)
   have Es1_x50 := Es1_x49.keep K50
   have Es2_x50 := Es2_x49.keep K50
   have Fs2_x50 := Fs2_x49.keep K50 (ninS ne49_sb2 nin0)
   have Gs2_x50 := Gs2_x49.keep K50 (ninS ne49_sb2 nin0)
   have Vs2_x50 := Vs2_x49.keep K50 (ninS ne49_sy2 nin0)
   have Es3_x50 := Es3_x49.keep K50
   have Es4_x50 := Es4_x49.keep K50
   have Y47_x50 := Safe.keep K50 (sfS Y49 sf0) CR0_x49.1 Y47_x49
   have Em48_x50 := Em48_x49.keep K50
   have Fm48_x50 := Fm48_x49.keep K50 (ninS ne49_b47 nin0)
   have Fi48_x50 := Fi48_x49.keep K50 (ninS ne49_b47 nin0)
   have Fp48_x50 := Fp48_x49.keep K50 (ninS ne49_b47 nin0)
   have Y49_x50 := Safe.keep K50 (sfS Y49 sf0) CR0_x49.1 Y49
   have A49_x50 := A49.keep K50
   refine own_st (fun _ => XS.goto X50.here hx rfl (pc0 := 141) (pc' := 146) rfl (hb hby at_141) (by decide) (by decide)) ?_
   refine own_st (fun _ => XS.astore X50.here hx rfl (hb hby at_146) rfl rfl (l' := #[own_vi p0, own_vi p1, own_vl p2, .second, own_vi p3, own_vi p4, own_vi p5, own_vr sb1, own_vr sb2, own_vr sb3, own_vr sb4, own_vi (1 : Int32), own_vi (0 : Int32), own_vr sb3, .val .null, own_vr b47, own_vr b49, .unset, .unset, .unset]) rfl) ?_
   show own_Rch _ _ _ _ T50 (mkF m 148 #[own_vi p0, own_vi p1, own_vl p2, .second, own_vi p3, own_vi p4, own_vi p5, own_vr sb1, own_vr sb2, own_vr sb3, own_vr sb4, own_vi (1 : Int32), own_vi (0 : Int32), own_vr sb3, .val .null, own_vr b47, own_vr b49, .unset, .unset, .unset] [])
   exact c148R _ _ _ _ _ (X50.more (by decide) (by decide)) _ rfl N50 O0_x50 CR0_x50 hS4 hkk50 hZ4 hown4 Es1_x50 Es3_x50 Es4_x50 Es2_x50 Fs2_x50 Gs2_x50 Vs2_x50 Em50 Fm50 Fi50 _ _ _ _
  · -- pc 71: False
   refine own_st (fun _ => XS.ifNo X4.here hx rfl (hb hby at_71) rfl ((if0 _ _).trans (feq hc71_46).1)) ?_
   refine own_iconst X4 hx hby at_74 rfl ?_
   refine own_st (fun _ => XS.goto X4.here hx rfl (pc0 := 75) (pc' := 79) rfl (hb hby at_75) (by decide) (by decide)) ?_
   refine own_st (fun _ => XS.istore X4.here hx rfl (hb hby at_79) rfl (l' := #[own_vi p0, own_vi p1, own_vl p2, .second, own_vi p3, own_vi p4, own_vi p5, own_vr sb1, own_vr sb2, own_vr sb3, own_vr sb4, own_vi (1 : Int32), own_vi (1 : Int32), .unset, .unset, .unset, .unset, .unset, .unset, .unset]) rfl) ?_
   refine own_iload X4 hx hby at_81 rfl rfl ?_
   show own_Rch _ _ _ _ T4 (mkF m 83 #[own_vi p0, own_vi p1, own_vl p2, .second, own_vi p3, own_vi p4, own_vi p5, own_vr sb1, own_vr sb2, own_vr sb3, own_vr sb4, own_vi (1 : Int32), own_vi (1 : Int32), .unset, .unset, .unset, .unset, .unset, .unset, .unset] [(.int (1 : Int32))])
   refine own_st (fun _ => XS.ifNo X4.here hx rfl (hb hby at_83) rfl ((if0 _ _).trans (feq ((by decide) : ¬ ((1 : Int32) = (0 : Int32)))).1)) ?_
   refine own_aload X4 hx hby at_86 rfl rfl rfl ?_
   refine own_st (fun _ => XS.goto X4.here hx rfl (pc0 := 88) (pc' := 92) rfl (hb hby at_88) (by decide) (by decide)) ?_
   refine own_st (fun _ => XS.astore X4.here hx rfl (hb hby at_92) rfl rfl (l' := #[own_vi p0, own_vi p1, own_vl p2, .second, own_vi p3, own_vi p4, own_vi p5, own_vr sb1, own_vr sb2, own_vr sb3, own_vr sb4, own_vi (1 : Int32), own_vi (1 : Int32), own_vr sb3, .unset, .unset, .unset, .unset, .unset, .unset]) rfl) ?_
   refine own_iload X4 hx hby at_94 rfl rfl ?_
   show own_Rch _ _ _ _ T4 (mkF m 96 #[own_vi p0, own_vi p1, own_vl p2, .second, own_vi p3, own_vi p4, own_vi p5, own_vr sb1, own_vr sb2, own_vr sb3, own_vr sb4, own_vi (1 : Int32), own_vi (1 : Int32), own_vr sb3, .unset, .unset, .unset, .unset, .unset, .unset] [(.int (1 : Int32))])
   refine own_st (fun _ => XS.ifNo X4.here hx rfl (hb hby at_96) rfl ((if0 _ _).trans (feq ((by decide) : ¬ ((1 : Int32) = (0 : Int32)))).1)) ?_
   refine own_aload X4 hx hby at_99 rfl rfl rfl ?_
   refine own_st (fun _ => XS.goto X4.here hx rfl (pc0 := 101) (pc' := 105) rfl (hb hby at_101) (by decide) (by decide)) ?_
   refine own_st (fun _ => XS.astore X4.here hx rfl (hb hby at_105) rfl rfl (l' := #[own_vi p0, own_vi p1, own_vl p2, .second, own_vi p3, own_vi p4, own_vi p5, own_vr sb1, own_vr sb2, own_vr sb3, own_vr sb4, own_vi (1 : Int32), own_vi (1 : Int32), own_vr sb3, own_vr sb1, .unset, .unset, .unset, .unset, .unset]) rfl) ?_
   obtain ⟨T51, h51, X51, e51, E51, A51, D51, U51, st51⟩ := newO X4 hx hZ4 hown4 (hw _ (own_m 12 rfl)) (hw _ (own_m 13 rfl)) (hw _ (own_m 14 rfl)) rfl (g := (mkF m 107 #[own_vi p0, own_vi p1, own_vl p2, .second, own_vi p3, own_vi p4, own_vi p5, own_vr sb1, own_vr sb2, own_vr sb3, own_vr sb4, own_vi (1 : Int32), own_vi (1 : Int32), own_vr sb3, own_vr sb1, .unset, .unset, .unset, .unset, .unset] [])) rfl (hb hby at_107) (by decide) (by decide)
   obtain ⟨b51, g51⟩ : ∃ z, z = T4.heap.size := ⟨_, rfl⟩
   rw [← g51] at A51 D51 U51 st51
   have ge51 : n0 ≤ b51 := by rw [g51]; exact own_old_le O0_x4
   have ne51_sb1 : sb1 ≠ b51 := by rw [g51]; exact Nat.ne_of_lt Es1_x4.lt
   have ne51_sb2 : sb2 ≠ b51 := by rw [g51]; exact Nat.ne_of_lt Es2_x4.lt
   have ne51_sy2 : sy2 ≠ b51 := by rw [g51]; exact Nat.ne_of_lt Vs2_x4.lt
   have ne51_sb3 : sb3 ≠ b51 := by rw [g51]; exact Nat.ne_of_lt Es3_x4.lt
   have ne51_sb4 : sb4 ≠ b51 := by rw [g51]; exact Nat.ne_of_lt Es4.lt
   have hkk51 := Nat.le_trans (Nat.le_refl T4.heap.size) E51.1
   have O0_x51 := O0_x4.ext E51
   have CR0_x51 := CR0_x4.trans (CHr.ext E51 CR0_x4.1)
   have Es1_x51 := Es1_x4.ext E51
   have Es2_x51 := Es2_x4.ext E51
   have Fs2_x51 := Fs2_x4.ext E51
   have Gs2_x51 := Gs2_x4.ext E51
   have Vs2_x51 := Vs2_x4.ext E51
   have Es3_x51 := Es3_x4.ext E51
   have Es4_x51 := Es4.ext E51
   have Y51 := Safe.ext E51 CR0_x4.1 (Safe.new (Nat.le_of_eq g51.symm))
   refine own_st st51 ?_
   have F51_cause : Fld Z h51 b51 "java/lang/Throwable" "cause" "Ljava/lang/Throwable;" .null := D51 (Or.inl (hw _ (own_m 38 rfl))) (ty := (.object "java/lang/Throwable")) (by decide)
   have F51_stackTrace : Fld Z h51 b51 "java/lang/Throwable" "stackTrace" "[Ljava/lang/StackTraceElement;" .null := D51 (Or.inl (hw _ (own_m 41 rfl))) (ty := (.array (.object "java/lang/StackTraceElement"))) (by decide)
   have F51_suppressedExceptions : Fld Z h51 b51 "java/lang/Throwable" "suppressedExceptions" "Ljava/util/List;" .null := D51 (Or.inl (hw _ (own_m 44 rfl))) (ty := (.object "java/util/List")) (by decide)
   have F51_detailMessage : Fld Z h51 b51 "java/lang/Throwable" "detailMessage" "Ljava/lang/String;" .null := D51 (Or.inl (hw _ (own_m 68 rfl))) (ty := (.object "java/lang/String")) (by decide)
   have F51_backtrace : Fld Z h51 b51 "java/lang/Throwable" "backtrace" "Ljava/lang/Object;" .null := D51 (Or.inl (hw _ (own_m 69 rfl))) (ty := (.object "java/lang/Object")) (by decide)
   have F51_depth : Fld Z h51 b51 "java/lang/Throwable" "depth" "I" (.int (0 : Int32)) := D51 (Or.inl (hw _ (own_m 70 rfl))) (ty := .int) (by decide)
   have F51_id : Fld Z h51 b51 "com/example/makewhole/makewhole/member/MemberRecordException" "id" "Ljava/lang/String;" .null := D51 (Or.inr (hw _ (own_m 74 rfl))) (ty := (.object "java/lang/String")) (by decide)
   have F51_place : Fld Z h51 b51 "com/example/makewhole/makewhole/member/MemberRecordException" "place" "Ljava/lang/String;" .null := D51 (Or.inr (hw _ (own_m 76 rfl))) (ty := (.object "java/lang/String")) (by decide)
   refine own_dup X51 hx hby at_110 rfl rfl rfl ?_
   refine own_aload X51 hx hby at_111 rfl rfl rfl ?_
   obtain ⟨_, _, ⟨T52, L52, k52, n52⟩, -, X52, ⟨Lc52, hQ52, l52, y52, z52⟩, st52⟩ := X51.specialBack hx (y := own_y35) rfl hown4 (mvT hZ4 (hw _ (own_m 15 rfl))) (mvT hZ4 (hw _ (own_m 16 rfl))) (mvT hZ4 (hw _ (own_m 17 rfl))) (by decide) (backOfKL (W := 1) (own_me1 l Z a0 hw [] b51 sb4 ua se h51 n0 O0_x51 hlt SU SQ A51 U51 F51_cause F51_stackTrace F51_suppressedExceptions F51_detailMessage F51_backtrace F51_id F51_place ge51) hZ4 (hw _ (own_m 17 rfl)) (hw _ (own_m 14 rfl)) (by decide) (by decide) (Vm.MethodsKnown.alikeC (hS4).1.alike hTK) (Vm.FramesKnown.alikeC (hS4).1.alike hFK)) (g := (mkF m 113 #[own_vi p0, own_vi p1, own_vl p2, .second, own_vi p3, own_vi p4, own_vi p5, own_vr sb1, own_vr sb2, own_vr sb3, own_vr sb4, own_vi (1 : Int32), own_vi (1 : Int32), own_vr sb3, own_vr sb1, .unset, .unset, .unset, .unset, .unset] [(.ref sb4), (.ref b51), (.ref b51)])) rfl (by rw [hml]; rfl) (Steps.refl _) (a := b51) (argsL := [(.ref sb4)]) (rest := [(.ref b51)]) (lenOf own_pd1 rfl) rfl (by show 2 * 0 + _ ≤ _; exact Nat.le_of_eq rfl) (hb hby at_113) (fun _ _ => ⟨rfl, e51, (by decide : 33 + 1 ≤ _), (by decide : 128 + 2752 ≤ _)⟩)
   dsimp only [Pt.U, Pt.locs, Pt.cells, Pt.slots] at X52 l52 y52 z52 st52 hQ52
   subst l52 y52 z52
   obtain ⟨rfl, N52q, K52, Em52, Fm52, Fi52, Fp52⟩ := hQ52
   have N52 := Fr.app N4 N52q
   refine own_st (fun _ kt => st52.trans kt) ?_
   have hkk52 := Nat.le_trans hkk51 K52.1
   have O0_x52 := O0_x51.keep K52 (allS ge51 all0)
   have CR0_x52 := CR0_x51.trans (CHr.keep K52 (sfS Y51 sf0) CR0_x51.1)
   have Es1_x52 := Es1_x51.keep K52
   have Es2_x52 := Es2_x51.keep K52
   have Fs2_x52 := Fs2_x51.keep K52 (ninS ne51_sb2 nin0)
   have Gs2_x52 := Gs2_x51.keep K52 (ninS ne51_sb2 nin0)
   have Vs2_x52 := Vs2_x51.keep K52 (ninS ne51_sy2 nin0)
   have Es3_x52 := Es3_x51.keep K52
   have Es4_x52 := Es4_x51.keep K52
   have Y51_x52 := Safe.keep K52 (sfS Y51 sf0) CR0_x51.1 Y51
   have A51_x52 := A51.keep K52
   refine own_st (fun _ => XS.astore X52.here hx rfl (hb hby at_116) rfl rfl (l' := #[own_vi p0, own_vi p1, own_vl p2, .second, own_vi p3, own_vi p4, own_vi p5, own_vr sb1, own_vr sb2, own_vr sb3, own_vr sb4, own_vi (1 : Int32), own_vi (1 : Int32), own_vr sb3, own_vr sb1, own_vr b51, .unset, .unset, .unset, .unset]) rfl) ?_
   refine own_iload X52 hx hby at_118 rfl rfl ?_
   show own_Rch _ _ _ _ T52 (mkF m 120 #[own_vi p0, own_vi p1, own_vl p2, .second, own_vi p3, own_vi p4, own_vi p5, own_vr sb1, own_vr sb2, own_vr sb3, own_vr sb4, own_vi (1 : Int32), own_vi (1 : Int32), own_vr sb3, own_vr sb1, own_vr b51, .unset, .unset, .unset, .unset] [(.int (1 : Int32))])
   refine own_st (fun _ => XS.ifYes X52.here hx rfl (pc0 := 120) (pc' := 128) rfl (hb hby at_120) rfl ((if0 _ _).trans (feq ((by decide) : ¬ ((1 : Int32) = (0 : Int32)))).2) (by decide) (by decide)) ?_
   obtain ⟨T53, h53, X53, e53, E53, A53, D53, U53, st53⟩ := newO X52 hx hZ4 hown4 (hw _ (own_m 12 rfl)) (hw _ (own_m 13 rfl)) (hw _ (own_m 14 rfl)) rfl (g := (mkF m 128 #[own_vi p0, own_vi p1, own_vl p2, .second, own_vi p3, own_vi p4, own_vi p5, own_vr sb1, own_vr sb2, own_vr sb3, own_vr sb4, own_vi (1 : Int32), own_vi (1 : Int32), own_vr sb3, own_vr sb1, own_vr b51, .unset, .unset, .unset, .unset] [])) rfl (hb hby at_128) (by decide) (by decide)
   obtain ⟨b53, g53⟩ : ∃ z, z = T52.heap.size := ⟨_, rfl⟩
   rw [← g53] at A53 D53 U53 st53
   have ge53 : n0 ≤ b53 := by rw [g53]; exact own_old_le O0_x52
   have ne53_sb1 : sb1 ≠ b53 := by rw [g53]; exact Nat.ne_of_lt Es1_x52.lt
   have ne53_sb2 : sb2 ≠ b53 := by rw [g53]; exact Nat.ne_of_lt Es2_x52.lt
   have ne53_sy2 : sy2 ≠ b53 := by rw [g53]; exact Nat.ne_of_lt Vs2_x52.lt
   have ne53_sb3 : sb3 ≠ b53 := by rw [g53]; exact Nat.ne_of_lt Es3_x52.lt
   have ne53_sb4 : sb4 ≠ b53 := by rw [g53]; exact Nat.ne_of_lt Es4_x52.lt
   have ne53_b51 : b51 ≠ b53 := by rw [g53]; exact Nat.ne_of_lt Em52.lt
   have hkk53 := Nat.le_trans hkk52 E53.1
   have O0_x53 := O0_x52.ext E53
   have CR0_x53 := CR0_x52.trans (CHr.ext E53 CR0_x52.1)
   have Es1_x53 := Es1_x52.ext E53
   have Es2_x53 := Es2_x52.ext E53
   have Fs2_x53 := Fs2_x52.ext E53
   have Gs2_x53 := Gs2_x52.ext E53
   have Vs2_x53 := Vs2_x52.ext E53
   have Es3_x53 := Es3_x52.ext E53
   have Es4_x53 := Es4_x52.ext E53
   have Y51_x53 := Safe.ext E53 CR0_x52.1 Y51_x52
   have Em52_x53 := Em52.ext E53
   have Fm52_x53 := Fm52.ext E53
   have Fi52_x53 := Fi52.ext E53
   have Fp52_x53 := Fp52.ext E53
   have Y53 := Safe.ext E53 CR0_x52.1 (Safe.new (Nat.le_of_eq g53.symm))
   refine own_st st53 ?_
   have F53_cause : Fld Z h53 b53 "java/lang/Throwable" "cause" "Ljava/lang/Throwable;" .null := D53 (Or.inl (hw _ (own_m 38 rfl))) (ty := (.object "java/lang/Throwable")) (by decide)
   have F53_stackTrace : Fld Z h53 b53 "java/lang/Throwable" "stackTrace" "[Ljava/lang/StackTraceElement;" .null := D53 (Or.inl (hw _ (own_m 41 rfl))) (ty := (.array (.object "java/lang/StackTraceElement"))) (by decide)
   have F53_suppressedExceptions : Fld Z h53 b53 "java/lang/Throwable" "suppressedExceptions" "Ljava/util/List;" .null := D53 (Or.inl (hw _ (own_m 44 rfl))) (ty := (.object "java/util/List")) (by decide)
   have F53_detailMessage : Fld Z h53 b53 "java/lang/Throwable" "detailMessage" "Ljava/lang/String;" .null := D53 (Or.inl (hw _ (own_m 68 rfl))) (ty := (.object "java/lang/String")) (by decide)
   have F53_backtrace : Fld Z h53 b53 "java/lang/Throwable" "backtrace" "Ljava/lang/Object;" .null := D53 (Or.inl (hw _ (own_m 69 rfl))) (ty := (.object "java/lang/Object")) (by decide)
   have F53_depth : Fld Z h53 b53 "java/lang/Throwable" "depth" "I" (.int (0 : Int32)) := D53 (Or.inl (hw _ (own_m 70 rfl))) (ty := .int) (by decide)
   have F53_id : Fld Z h53 b53 "com/example/makewhole/makewhole/member/MemberRecordException" "id" "Ljava/lang/String;" .null := D53 (Or.inr (hw _ (own_m 74 rfl))) (ty := (.object "java/lang/String")) (by decide)
   have F53_place : Fld Z h53 b53 "com/example/makewhole/makewhole/member/MemberRecordException" "place" "Ljava/lang/String;" .null := D53 (Or.inr (hw _ (own_m 76 rfl))) (ty := (.object "java/lang/String")) (by decide)
   refine own_dup X53 hx hby at_131 rfl rfl rfl ?_
   refine own_aload X53 hx hby at_132 rfl rfl rfl ?_
   refine own_aload X53 hx hby at_134 rfl rfl rfl ?_
   refine own_aload X53 hx hby at_136 rfl rfl rfl ?_
   obtain ⟨_, _, ⟨T54, L54, k54, n54⟩, -, X54, ⟨Lc54, hQ54, l54, y54, z54⟩, st54⟩ := X53.specialBack hx (y := own_y38) rfl hown4 (mvT hZ4 (hw _ (own_m 379 rfl))) (mvT hZ4 (hw _ (own_m 271 rfl))) (mvT hZ4 (hw _ (own_m 272 rfl))) (by decide) (backOfKL (W := 1) (own_me3_RR l Z a0 hw [] b53 b51 sb4 sb3 sb1 ua se h53 n0 O0_x53 hlt SU SQ A53 U53 F53_cause F53_stackTrace F53_suppressedExceptions F53_detailMessage F53_backtrace F53_id F53_place ge53 Em52_x53 Fm52_x53 ne53_b51) hZ4 (hw _ (own_m 272 rfl)) (hw _ (own_m 14 rfl)) (by decide) (by decide) (Vm.MethodsKnown.alikeC (hS4).1.alike hTK) (Vm.FramesKnown.alikeC (hS4).1.alike hFK)) (g := (mkF m 138 #[own_vi p0, own_vi p1, own_vl p2, .second, own_vi p3, own_vi p4, own_vi p5, own_vr sb1, own_vr sb2, own_vr sb3, own_vr sb4, own_vi (1 : Int32), own_vi (1 : Int32), own_vr sb3, own_vr sb1, own_vr b51, .unset, .unset, .unset, .unset] [(.ref sb1), (.ref sb3), (.ref b51), (.ref b53), (.ref b53)])) rfl (by rw [hml]; rfl) (Steps.refl _) (a := b53) (argsL := [(.ref b51), (.ref sb3), (.ref sb1)]) (rest := [(.ref b53)]) (lenOf own_pd43 rfl) rfl (by show 2 * 0 + _ ≤ _; exact Nat.le_of_eq rfl) (hb hby at_138) (fun _ _ => ⟨rfl, e53, (by decide : 35 + 1 ≤ _), (by decide : 2888 + 2752 ≤ _)⟩)
   dsimp only [Pt.U, Pt.locs, Pt.cells, Pt.slots] at X54 l54 y54 z54 st54 hQ54
   subst l54 y54 z54
   obtain ⟨rfl, N54q, K54, Em54, Fm54, Fi54, Fp54⟩ := hQ54
   have N54 := Fr.app N52 N54q
   refine own_st (fun _ kt => st54.trans kt) ?_
   have hkk54 := Nat.le_trans hkk53 K54.1
   have O0_x54 := O0_x53.keep K54 (allS ge53 all0)
   have CR0_x54 := CR0_x53.trans (CHr.keep K54 (sfS Y53 sf0) CR0_x53.1)
   have Es1_x54 := Es1_x53.keep K54
   have Es2_x54 := Es2_x53.keep K54
   have Fs2_x54 := Fs2_x53.keep K54 (ninS ne53_sb2 nin0)
   have Gs2_x54 := Gs2_x53.keep K54 (ninS ne53_sb2 nin0)
   have Vs2_x54 := Vs2_x53.keep K54 (ninS ne53_sy2 nin0)
   have Es3_x54 := Es3_x53.keep K54
   have Es4_x54 := Es4_x53.keep K54
   have Y51_x54 := Safe.keep K54 (sfS Y53 sf0) CR0_x53.1 Y51_x53
   have Em52_x54 := Em52_x53.keep K54
   have Fm52_x54 := Fm52_x53.keep K54 (ninS ne53_b51 nin0)
   have Fi52_x54 := Fi52_x53.keep K54 (ninS ne53_b51 nin0)
   have Fp52_x54 := Fp52_x53.keep K54 (ninS ne53_b51 nin0)
   have Y53_x54 := Safe.keep K54 (sfS Y53 sf0) CR0_x53.1 Y53
   have A53_x54 := A53.keep K54
   refine own_st (fun _ => XS.goto X54.here hx rfl (pc0 := 141) (pc' := 146) rfl (hb hby at_141) (by decide) (by decide)) ?_
   refine own_st (fun _ => XS.astore X54.here hx rfl (hb hby at_146) rfl rfl (l' := #[own_vi p0, own_vi p1, own_vl p2, .second, own_vi p3, own_vi p4, own_vi p5, own_vr sb1, own_vr sb2, own_vr sb3, own_vr sb4, own_vi (1 : Int32), own_vi (1 : Int32), own_vr sb3, own_vr sb1, own_vr b51, own_vr b53, .unset, .unset, .unset]) rfl) ?_
   show own_Rch _ _ _ _ T54 (mkF m 148 #[own_vi p0, own_vi p1, own_vl p2, .second, own_vi p3, own_vi p4, own_vi p5, own_vr sb1, own_vr sb2, own_vr sb3, own_vr sb4, own_vi (1 : Int32), own_vi (1 : Int32), own_vr sb3, own_vr sb1, own_vr b51, own_vr b53, .unset, .unset, .unset] [])
   exact c148R _ _ _ _ _ (X54.more (by decide) (by decide)) _ rfl N54 O0_x54 CR0_x54 hS4 hkk54 hZ4 hown4 Es1_x54 Es3_x54 Es4_x54 Es2_x54 Fs2_x54 Gs2_x54 Vs2_x54 Em54 Fm54 Fi54 _ _ _ _
set_option maxRecDepth 65536 in
set_option maxHeartbeats 40000000 in
theorem own_comes {Post : Tables → Env → Array Value → State → Outcome → State → Prop} (hpost : ∀ tb e args s v u, (limb_1_1.after args s (.returned v) u = true ∧ limb_1_2.after args s (.returned v) u = true ∧ True) → ReturnedEndW s (.returned v) u (Jvm.fieldLocs frame_1_writes args s ++ Jvm.arrayLocs frame_1_arrays args s ++ Jvm.staticLocs frame_1_statics s) 80 20160 → Post tb e args s (.returned v) u) :
    ArmFor flags0 classFile x code maxLocals ret World_1 tables_1 room_1 Calls_1 rest_1 Pre_1 Post := by
  intro l hfl _ _ p e ha hc hk s m args below hf hA hF happ hP
  obtain ⟨hcalls, hrest, hpre⟩ := hP
  obtain ⟨-, -, -, hnamed, -, -, -, hat⟩ := (Spec.applies_iff hf).mp happ
  obtain ⟨hg, hn⟩ := and_e (Cond.before_iff.mp (show (Jvm.Cond.and given_1 narrow_1).before args s = true from hpre))
  obtain ⟨g0, g1⟩ := and_e hg
  obtain ⟨g2, g3⟩ := and_e g1
  obtain ⟨g4, g5⟩ := and_e g3
  obtain ⟨g6, g7⟩ := and_e g5
  obtain ⟨g8, g9⟩ := and_e g7
  obtain ⟨g10, g11⟩ := and_e g9
  obtain ⟨w0, w1, w2, w3, w4, w5, rfl⟩ : ∃ w0 w1 w2 w3 w4 w5 : Value, args = #[w0, w1, w2, w3, w4, w5] := by
    have hs : args.size = 6 := by simpa [Cond.value, given_1] using g0
    obtain ⟨L⟩ := args
    match L, hs with
    | [w0, w1, w2, w3, w4, w5], _ => exact ⟨w0, w1, w2, w3, w4, w5, rfl⟩
  have hw := fun d (hd : d ∈ tables_1) => atoms_spec (ws := Jvm.Cond.code x code maxLocals ret :: tables_1) hat d (List.mem_cons_of_mem _ hd)
  have hfit : Fit s := fun {y c} hc i hi => by
    obtain ⟨ha, rfl⟩ := Array.getElem?_eq_some_iff.mp hc
    have q := List.all_eq_true.mp ((Array.all_eq_true_iff_forall_mem.mp hF) _ (Array.getElem_mem ha)) i (List.mem_range.mpr hi)
    simpa [Array.getElem?_eq_getElem hi] using q
  obtain ⟨hsets, hown0⟩ := atoms_of _ (rest_1_c_eq ▸ (show rest_1_c.before _ s = true from hrest))
  have hr0 := Cond.before_iff.mp hown0
  obtain ⟨i0, ei0⟩ := is_v g2
  obtain rfl : w0 = (.int i0) := Option.some.inj ei0
  obtain ⟨i1, ei1⟩ := is_v g4
  obtain rfl : w1 = (.int i1) := Option.some.inj ei1
  obtain ⟨i2, ei2⟩ := isL_v g6
  obtain rfl : w2 = (.long i2) := Option.some.inj ei2
  obtain ⟨i3, ei3⟩ := is_v g8
  obtain rfl : w3 = (.int i3) := Option.some.inj ei3
  obtain ⟨i4, ei4⟩ := is_v g10
  obtain rfl : w4 = (.int i4) := Option.some.inj ei4
  obtain ⟨i5, ei5⟩ := is_v g11
  obtain rfl : w5 = (.int i5) := Option.some.inj ei5
  obtain ⟨cs, evc⟩ := is_v (Cond.before_iff.mp (hsets _ (own_m 32 rfl)))
  have SC := Sta.start evc (Or.inl (hsets _ (own_m 31 rfl)))
  have hcs := own_cmp0 evc (Cond.before_iff.mp (hsets _ (own_m 33 rfl)))
  have hCH := CHv.start (own_hEL hw) (fun q hq => hcalls.2.2.1 q hq) (hsets _ (own_m 33 rfl)) (hw _ (own_m 7 rfl)) (hw _ (own_m 6 rfl))
  obtain ⟨em, evm⟩ := exa_v (Cond.before_iff.mp (hsets _ (own_m 22 rfl)))
  have EM := Exa.start evm (Cond.before_iff.mp (hsets _ (own_m 22 rfl)))
  have SM := Sta.start evm (Or.inl (hsets _ (own_m 21 rfl)))
  have FZ := own_fldeq evm (Cond.before_iff.mp (hsets _ (own_m 26 rfl)))
  obtain ⟨eo, eve⟩ := exa_v (Cond.before_iff.mp (hsets _ (own_m 29 rfl)))
  have EE := Exa.start eve (Cond.before_iff.mp (hsets _ (own_m 29 rfl)))
  have SP := Sta.start eve (Or.inl (hsets _ (own_m 28 rfl)))
  have FE := own_fldnull eve (Cond.before_iff.mp (hsets _ (own_m 30 rfl)))
  obtain ⟨ua, evu⟩ := own_arrv (Cond.before_iff.mp (hsets _ (own_m 8 rfl)))
  have SU := Sta.start evu (Or.inl (hsets _ (own_m 6 rfl)))
  obtain ⟨se, evs⟩ := exa_v (Cond.before_iff.mp (hsets _ (own_m 13 rfl)))
  have SQ := Sta.start evs (Or.inl (hsets _ (own_m 11 rfl)))
  obtain ⟨st, d1, d2, DO, DN, T1, T2⟩ := own_dig hfit (hw _ (own_m 7 rfl)) (hsets _ (own_m 41 rfl)) (hsets _ (own_m 42 rfl)) (Cond.before_iff.mp (hsets _ (own_m 43 rfl))) (Cond.before_iff.mp (hsets _ (own_m 44 rfl))) (hsets _ (own_m 46 rfl)) (hsets _ (own_m 47 rfl)) (Cond.before_iff.mp (hsets _ (own_m 48 rfl))) (Cond.before_iff.mp (hsets _ (own_m 49 rfl)))
  obtain ⟨nn, hnn, hneg⟩ := Jvm.Free.SBG.negL_of i2
  have hd20 := Jvm.Free.SBG.digitsL_pos nn
  have hs1 : Jvm.Free.SBG.GetCharsL.sgnL i2 ≤ 1 := by unfold Jvm.Free.SBG.GetCharsL.sgnL; split; exact Nat.le_refl _; exact Nat.zero_le _
  have hr21 : Jvm.Free.SBG.digitsL nn + Jvm.Free.SBG.GetCharsL.sgnL i2 ≤ 21 := by omega
  have hlt : l.stackTraces = true := by show (!l.flags.contains noTraceFlag) = true; rw [hfl]; decide
  obtain ⟨n, o, h1, h2, h3, _, L, rfl, ⟨rfl, N⟩, -, hq⟩ := own_rm0 l s _ hw tables_1 i0 i1 i2 i3 i4 i5 nn _ st d1 d2 DO DN cs ua se eo em s.heap s.heap.size (Old.start s) SC hcs hlt SU SQ SP EE FE SM EM FZ hr21 hnn hneg rfl T1 T2 p e ha hc hk s m _ below hf ((Spec.applies_iff_loose hf).mp happ).1 ⟨rfl, State.Warmed39.refl s, rfl, hCH⟩ ⟨MethodsKnown_of_tablesKnown hcalls.2.1, FramesKnown_of_framesKnown hcalls.1 hf⟩
  refine ⟨n, _, h1, h2, h3, hpost _ _ _ _ _ _ ⟨Cond.after_iff.mpr rfl, Cond.after_iff.mpr (eq_i res_at (Term.int_eval (1)) rfl), trivial⟩ ⟨hq.1, hq.2.1, hq.2.2.1, (hq.2.2.2.sift fun y hy => Or.inr (N y hy)).mono (by decide) (by decide)⟩⟩
theorem main_1_1 : Claimed_1_1 := own_comes fun _ _ _ _ _ _ h hF => ⟨h.1, hF⟩
theorem main_1_2 : Claimed_1_2 := own_comes fun _ _ _ _ _ _ h hF => ⟨h.2.1, hF⟩
end Jvm.Pilot.@@N@@
namespace Jvm.Pilot.@@N@@
open Jvm Jvm.ClassFile Sem Op Lib Jvm.Free Jvm.Stand Jvm.Pilot.@@N@@.Jvm.D
/-! MADE BY PROGRAM (witnessworld.py) out of the Statement's table words and the real class files: 56 classes; the members and pool entries that the words name. The judged class is class 1, her method 3. -/
namespace start1
open Jvm.ClassFile
def u (s : String) : CpInfo := .utf8 (stringToUtf16 s)
/-- a pool by its gaps: so many unusable entries, then the entry; so many at the end -/
def gap : Nat → List CpInfo → List CpInfo
  | 0, r => r
  | n + 1, r => .unusable :: gap n r
def poolList (es : List (Nat × CpInfo)) (last : Nat) : List CpInfo := es.foldr (fun e r => gap e.1 (e.2 :: r)) (gap last [])
def pool (es : List (Nat × CpInfo)) (last : Nat) : Array CpInfo := ⟨poolList es last⟩
def fileOf (pool : Array CpInfo) (this : Nat) (attrs : Array Attribute := #[]) (ms : Array MethodInfo := #[]) (fl : Nat := 33) (sup : Nat := 0) (ifs : Array Nat := #[]) (fds : Array FieldInfo := #[]) : ClassFile where
  minorVersion := 0
  majorVersion := 65
  constantPool := pool
  accessFlags := fl
  thisClass := this
  superClass := sup
  interfaces := ifs
  fields := fds
  methods := ms
  attributes := attrs
def plain (name : String) (sup : Option ClassId) : Class where
  name := name
  kind := .ordinary
  loader := none
  accessFlags := 33
  super := sup
  interfaces := #[]
  cf := none
  fields := #[]
  methods := #[]
  instanceTypes := #[]
  staticTypes := #[]
  resolved := #[]
  callSites := []
  init := .initialized
  statics := none
  mirror := none

def pool0 : Array CpInfo := pool [(5, u "<init>"), (0, u "()V"), (1, .class_ 10), (1, u "java/lang/Object"), (85, u "clone"), (0, u "()Ljava/lang/Object;")] 26

def k0c0 : Code := { maxStack := 0, maxLocals := 1, code := object_method_1_code, exceptionTable := #[], attributes := #[] }
def k0m0 : Method := { name := "<init>", desc := "()V", sig := { parameters := [], returnType := none }, accessFlags := 1, code := some k0c0 }
def k0m1 : Method := { name := "clone", desc := "()Ljava/lang/Object;", sig := { parameters := [], returnType := some (.object "java/lang/Object") }, accessFlags := 260, code := none }
/-- java/lang/Object -/
def k0 : Class := { plain "java/lang/Object" none with
  accessFlags := 33
  interfaces := #[]
  cf := some (fileOf pool0 8 #[] #[{ accessFlags := 1, nameIndex := 5, descriptorIndex := 6, attributes := #[] }, { accessFlags := 260, nameIndex := 96, descriptorIndex := 97, attributes := #[] }] 33 0 #[] #[])
  fields := #[]
  methods := #[k0m0, k0m1]
  instanceTypes := #[]
  staticTypes := #[]
  resolved := Array.replicate 124 none
  statics := none }

def pool1 : Array CpInfo := pool [(2, .class_ 4), (1, u "java/lang/Object"), (0, u "<init>"), (0, u "()V"), (0, .string 8), (0, u ""), (0, .methodref 10 11), (0, .class_ 12), (0, .nameAndType 13 14), (0, u "java/lang/String"), (0, u "valueOf"), (0, u "(C)Ljava/lang/String;"), (0, .methodref 10 16), (0, .nameAndType 5 17), (0, u "([C)V"), (0, .methodref 10 19), (0, .nameAndType 20 21), (0, u "equals"), (0, u "(Ljava/lang/Object;)Z"), (0, .methodref 23 24), (0, .class_ 25), (0, .nameAndType 26 27), (0, u "com/example/makewhole/makewhole/memberfiles/TableFieldsOfEntryPinLaw"), (0, u "str"), (0, u "(II)Ljava/lang/String;"), (0, .class_ 29), (0, u "com/example/makewhole/makewhole/member/MemberRecordException"), (0, .methodref 28 31), (0, .nameAndType 5 32), (0, u "(Ljava/lang/String;)V"), (0, .methodref 28 34), (0, .nameAndType 5 35), (0, u "(Lcom/example/makewhole/makewhole/member/MemberRecordException;Ljava/lang/String;Ljava/lang/String;)V"), (0, .methodref 37 38), (0, .class_ 39), (0, .nameAndType 40 41), (0, u "com/example/makewhole/makewhole/memberfiles/TableFields"), (0, u "ofEntry"), (0, u "(Ljava/util/Map;Ljava/lang/String;Ljava/lang/String;J)Lcom/example/makewhole/makewhole/memberfiles/TableFields;"), (0, .methodref 37 43), (0, .nameAndType 44 45), (0, u "placed"), (0, u "(Lcom/example/makewhole/makewhole/member/MemberRecordException;)Lcom/example/makewhole/makewhole/member/MemberRecordException;"), (0, .methodref 47 48), (0, .class_ 49), (0, .nameAndType 50 51), (0, u "com/example/makewhole/makewhole/plandata/PlanDataFormatException"), (0, u "place"), (0, u "(Ljava/lang/String;J)Ljava/lang/String;"), (0, .methodref 37 53), (0, .nameAndType 54 55), (0, u "getName"), (0, u "()Ljava/lang/String;"), (0, .methodref 37 57), (0, .nameAndType 58 59), (0, u "hasArray"), (0, u "(Ljava/lang/String;)Z"), (0, .methodref 37 61), (0, .nameAndType 62 63), (0, u "entries"), (0, u "(Ljava/lang/String;Ljava/lang/String;)Ljava/util/List;"), (0, .methodref 28 65), (0, .nameAndType 66 55), (0, u "getMessage"), (0, .methodref 28 68), (0, .nameAndType 69 70), (0, u "getId"), (0, u "()Ljava/util/Optional;"), (0, .methodref 72 73), (0, .class_ 74), (0, .nameAndType 75 76), (0, u "java/util/Optional"), (0, u "orElse"), (0, u "(Ljava/lang/Object;)Ljava/lang/Object;"), (0, .methodref 23 78), (0, .nameAndType 79 80), (0, u "same"), (0, u "(Ljava/lang/String;Ljava/lang/String;)Z"), (0, .methodref 28 82), (0, .nameAndType 83 70), (0, u "getPlace"), (3, u "law"), (0, u "(IIJIII)Z")] 2

def k1m0 : Method := { name := "<init>", desc := "()V", sig := { parameters := [], returnType := none }, accessFlags := 1, code := none }
def k1c1 : Code := { maxStack := 6, maxLocals := 5, code := method_2_code, exceptionTable := #[], attributes := #[] }
def k1m1 : Method := { name := "str", desc := "(II)Ljava/lang/String;", sig := { parameters := [.int, .int], returnType := some (.object "java/lang/String") }, accessFlags := 10, code := some k1c1 }
def k1c2 : Code := { maxStack := 2, maxLocals := 2, code := method_3_code, exceptionTable := #[], attributes := #[] }
def k1m2 : Method := { name := "same", desc := "(Ljava/lang/String;Ljava/lang/String;)Z", sig := { parameters := [(.object "java/lang/String"), (.object "java/lang/String")], returnType := some .boolean }, accessFlags := 10, code := some k1c2 }
def k1c3 : Code := { maxStack := 5, maxLocals := 20, code := code, exceptionTable := #[], attributes := #[] }
def k1m3 : Method := { name := "law", desc := "(IIJIII)Z", sig := { parameters := [.int, .int, .long, .int, .int, .int], returnType := some .boolean }, accessFlags := 9, code := some k1c3 }
/-- com/example/makewhole/makewhole/memberfiles/TableFieldsOfEntryPinLaw -/
def k1 : Class := { plain "com/example/makewhole/makewhole/memberfiles/TableFieldsOfEntryPinLaw" (some 0) with
  accessFlags := 49
  interfaces := #[]
  cf := some (fileOf pool1 23 #[] #[{ accessFlags := 1, nameIndex := 5, descriptorIndex := 6, attributes := #[] }, { accessFlags := 10, nameIndex := 26, descriptorIndex := 27, attributes := #[] }, { accessFlags := 10, nameIndex := 79, descriptorIndex := 80, attributes := #[] }, { accessFlags := 9, nameIndex := 87, descriptorIndex := 88, attributes := #[] }] 49 2 #[] #[])
  fields := #[]
  methods := #[k1m0, k1m1, k1m2, k1m3]
  instanceTypes := #[]
  staticTypes := #[]
  resolved := Array.replicate 91 none
  statics := none }

def pool2 : Array CpInfo := pool [(1, .class_ 2), (0, u "java/io/Serializable"), (0, .class_ 4), (0, u "java/lang/Object")] 2

/-- java/io/Serializable -/
def k2 : Class := { plain "java/io/Serializable" (some 0) with
  accessFlags := 1537
  interfaces := #[]
  cf := some (fileOf pool2 1 #[] #[] 1537 3 #[] #[])
  fields := #[]
  methods := #[]
  instanceTypes := #[]
  staticTypes := #[]
  resolved := Array.replicate 7 none
  statics := none }

def pool3 : Array CpInfo := pool [(1, .class_ 2), (0, u "java/lang/Comparable"), (0, .class_ 4), (0, u "java/lang/Object")] 7

/-- java/lang/Comparable -/
def k3 : Class := { plain "java/lang/Comparable" (some 0) with
  accessFlags := 1537
  interfaces := #[]
  cf := some (fileOf pool3 1 #[] #[] 1537 3 #[] #[])
  fields := #[]
  methods := #[]
  instanceTypes := #[]
  staticTypes := #[]
  resolved := Array.replicate 12 none
  statics := none }

def pool4 : Array CpInfo := pool [(2, .class_ 4), (1, u "java/lang/CharSequence"), (42, .class_ 48), (0, u "java/lang/CharSequence$1CodePointIterator"), (10, .class_ 60), (0, u "java/lang/CharSequence$1CharIterator"), (5, .class_ 67), (0, u "java/lang/Object")] 63

/-- java/lang/CharSequence -/
def k4 : Class := { plain "java/lang/CharSequence" (some 0) with
  accessFlags := 1537
  interfaces := #[]
  cf := some (fileOf pool4 2 #[.nestMembers #[47, 59]] #[] 1537 66 #[] #[])
  fields := #[]
  methods := #[]
  instanceTypes := #[]
  staticTypes := #[]
  resolved := Array.replicate 131 none
  statics := none }

def pool5 : Array CpInfo := pool [(1, .class_ 2), (0, u "java/lang/constant/Constable"), (0, .class_ 4), (0, u "java/lang/Object")] 6

/-- java/lang/constant/Constable -/
def k5 : Class := { plain "java/lang/constant/Constable" (some 0) with
  accessFlags := 1537
  interfaces := #[]
  cf := some (fileOf pool5 1 #[] #[] 1537 3 #[] #[])
  fields := #[]
  methods := #[]
  instanceTypes := #[]
  staticTypes := #[]
  resolved := Array.replicate 11 none
  statics := none }

def pool6 : Array CpInfo := pool [(1, .class_ 2), (0, u "java/lang/constant/ConstantDesc"), (0, .class_ 4), (0, u "java/lang/Object")] 32

/-- java/lang/constant/ConstantDesc -/
def k6 : Class := { plain "java/lang/constant/ConstantDesc" (some 0) with
  accessFlags := 1537
  interfaces := #[]
  cf := some (fileOf pool6 1 #[] #[] 1537 3 #[] #[])
  fields := #[]
  methods := #[]
  instanceTypes := #[]
  staticTypes := #[]
  resolved := Array.replicate 37 none
  statics := none }

def pool7 : Array CpInfo := pool [(1, .methodref 2 3), (0, .class_ 4), (0, .nameAndType 5 6), (0, u "java/lang/Object"), (0, u "<init>"), (0, u "()V"), (2, .fieldref 10 11), (0, .class_ 12), (0, .nameAndType 13 14), (0, u "java/lang/String"), (0, u "value"), (0, u "[B"), (0, .fieldref 10 16), (0, .nameAndType 17 18), (0, u "coder"), (0, u "B"), (2, u "hash"), (0, u "I"), (2, u "hashIsZero"), (0, u "Z"), (0, .methodref 10 28), (0, .nameAndType 5 29), (0, u "([CIILjava/lang/Void;)V"), (8, .fieldref 10 39), (0, .nameAndType 40 26), (0, u "COMPACT_STRINGS"), (1, .class_ 44), (1, u "java/lang/StringUTF16"), (0, u "compress"), (1, .methodref 42 48), (0, .nameAndType 49 50), (0, u "coderFromArrayLen"), (0, u "([BI)B"), (2, u "toBytes"), (0, .methodref 55 56), (0, .class_ 57), (0, .nameAndType 58 59), (0, u "java/util/Arrays"), (0, u "copyOfRange"), (0, u "([BII)[B"), (47, .class_ 109), (1, u "java/lang/StringLatin1"), (32, u "()Z"), (34, .methodref 42 178), (0, .nameAndType 45 179), (0, u "([CII)[B"), (13, .class_ 195), (1, u "java/lang/System"), (13, .methodref 10 210), (0, .nameAndType 5 211), (0, u "([BB)V"), (0, .methodref 193 213), (0, .nameAndType 214 215), (0, u "arraycopy"), (0, u "(Ljava/lang/Object;ILjava/lang/Object;II)V"), (118, u "()I"), (0, .methodref 10 336), (0, .nameAndType 17 337), (0, u "()B"), (2, u "()[B"), (28, u "(C)Z"), (119, .methodref 10 490), (0, .nameAndType 5 491), (0, u "(Ljava/lang/AbstractStringBuilder;Ljava/lang/Void;)V"), (1, .nameAndType 494 142), (0, u "isLatin1"), (11, .nameAndType 507 334), (0, u "length"), (24, u "getBytes"), (8, .methodref 107 542), (0, .nameAndType 543 544), (0, u "equals"), (0, u "([B[B)Z"), (4, .methodref 550 506), (0, .class_ 551), (0, u "java/lang/AbstractStringBuilder"), (0, .methodref 550 553), (0, .nameAndType 554 340), (0, u "getValue"), (18, u "(Ljava/lang/Object;)Z"), (1, .class_ 576), (0, u "java/lang/CharSequence"), (22, u "CASE_INSENSITIVE_ORDER"), (0, u "Ljava/util/Comparator;"), (181, u "valueOf"), (0, u "(C)Ljava/lang/String;"), (37, u "([BIB)V"), (188, u "([C)V"), (4, .methodref 107 1016), (0, .nameAndType 1017 369), (0, u "canEncode"), (0, .methodref 107 1019), (0, .nameAndType 53 1020), (0, u "(C)[B"), (26, .methodref 550 493), (53, u "serialPersistentFields"), (0, u "[Ljava/io/ObjectStreamField;"), (0, .class_ 1104), (0, u "java/lang/String$CaseInsensitiveComparator"), (1, .class_ 1107), (0, u "java/io/Serializable"), (0, .class_ 1109), (0, u "java/lang/Comparable"), (0, .class_ 1111), (0, u "java/lang/constant/Constable"), (0, .class_ 1113), (0, u "java/lang/constant/ConstantDesc"), (2, u "serialVersionUID"), (0, u "J"), (3, u "REPL"), (0, u "C"), (2, u "LATIN1"), (1, u "UTF16"), (105, u "(Ljava/lang/StringBuilder;)V")] 217

def k7m0 : Method := { name := "<init>", desc := "()V", sig := { parameters := [], returnType := none }, accessFlags := 1, code := none }
def k7c1 : Code := { maxStack := 5, maxLocals := 2, code := jdk_42_method_3_code, exceptionTable := #[], attributes := #[] }
def k7m1 : Method := { name := "<init>", desc := "([C)V", sig := { parameters := [(.array .char)], returnType := none }, accessFlags := 1, code := some k7c1 }
def k7c2 : Code := { maxStack := 3, maxLocals := 2, code := jdk_42_method_53_code, exceptionTable := #[], attributes := #[] }
def k7m2 : Method := { name := "<init>", desc := "(Ljava/lang/StringBuilder;)V", sig := { parameters := [(.object "java/lang/StringBuilder")], returnType := none }, accessFlags := 1, code := some k7c2 }
def k7c3 : Code := { maxStack := 2, maxLocals := 1, code := jdk_42_method_54_code, exceptionTable := #[], attributes := #[] }
def k7m3 : Method := { name := "length", desc := "()I", sig := { parameters := [], returnType := some .int }, accessFlags := 1, code := some k7c3 }
def k7c4 : Code := { maxStack := 2, maxLocals := 3, code := jdk_42_method_66_code, exceptionTable := #[], attributes := #[] }
def k7m4 : Method := { name := "equals", desc := "(Ljava/lang/Object;)Z", sig := { parameters := [(.object "java/lang/Object")], returnType := some .boolean }, accessFlags := 1, code := some k7c4 }
def k7c5 : Code := { maxStack := 4, maxLocals := 1, code := jdk_42_method_139_code, exceptionTable := #[], attributes := #[] }
def k7m5 : Method := { name := "valueOf", desc := "(C)Ljava/lang/String;", sig := { parameters := [.char], returnType := some (.object "java/lang/String") }, accessFlags := 9, code := some k7c5 }
def k7c6 : Code := { maxStack := 5, maxLocals := 4, code := jdk_42_method_147_code, exceptionTable := #[], attributes := #[] }
def k7m6 : Method := { name := "getBytes", desc := "([BIB)V", sig := { parameters := [(.array .byte), .int, .byte], returnType := none }, accessFlags := 0, code := some k7c6 }
def k7c7 : Code := { maxStack := 4, maxLocals := 6, code := jdk_42_method_149_code, exceptionTable := #[], attributes := #[] }
def k7m7 : Method := { name := "<init>", desc := "([CIILjava/lang/Void;)V", sig := { parameters := [(.array .char), .int, .int, (.object "java/lang/Void")], returnType := none }, accessFlags := 2, code := some k7c7 }
def k7c8 : Code := { maxStack := 5, maxLocals := 5, code := jdk_42_method_150_code, exceptionTable := #[], attributes := #[] }
def k7m8 : Method := { name := "<init>", desc := "(Ljava/lang/AbstractStringBuilder;Ljava/lang/Void;)V", sig := { parameters := [(.object "java/lang/AbstractStringBuilder"), (.object "java/lang/Void")], returnType := none }, accessFlags := 0, code := some k7c8 }
def k7c9 : Code := { maxStack := 2, maxLocals := 3, code := jdk_42_method_151_code, exceptionTable := #[], attributes := #[] }
def k7m9 : Method := { name := "<init>", desc := "([BB)V", sig := { parameters := [(.array .byte), .byte], returnType := none }, accessFlags := 0, code := some k7c9 }
def k7c10 : Code := { maxStack := 1, maxLocals := 1, code := jdk_42_method_152_code, exceptionTable := #[], attributes := #[] }
def k7m10 : Method := { name := "coder", desc := "()B", sig := { parameters := [], returnType := some .byte }, accessFlags := 0, code := some k7c10 }
/-- java/lang/String -/
def k7 : Class := { plain "java/lang/String" (some 0) with
  accessFlags := 49
  interfaces := #[2, 3, 4, 5, 6]
  cf := some (fileOf pool7 10 #[.nestMembers #[1103]] #[{ accessFlags := 1, nameIndex := 5, descriptorIndex := 6, attributes := #[] }, { accessFlags := 1, nameIndex := 5, descriptorIndex := 1010, attributes := #[] }, { accessFlags := 1, nameIndex := 5, descriptorIndex := 1233, attributes := #[] }, { accessFlags := 1, nameIndex := 507, descriptorIndex := 334, attributes := #[] }, { accessFlags := 1, nameIndex := 543, descriptorIndex := 573, attributes := #[] }, { accessFlags := 9, nameIndex := 782, descriptorIndex := 783, attributes := #[] }, { accessFlags := 0, nameIndex := 532, descriptorIndex := 821, attributes := #[] }, { accessFlags := 2, nameIndex := 5, descriptorIndex := 29, attributes := #[] }, { accessFlags := 0, nameIndex := 5, descriptorIndex := 491, attributes := #[] }, { accessFlags := 0, nameIndex := 5, descriptorIndex := 211, attributes := #[] }, { accessFlags := 0, nameIndex := 17, descriptorIndex := 337, attributes := #[] }] 49 2 #[1106, 1108, 575, 1110, 1112] #[{ accessFlags := 18, nameIndex := 13, descriptorIndex := 14, attributes := #[] }, { accessFlags := 18, nameIndex := 17, descriptorIndex := 18, attributes := #[] }, { accessFlags := 2, nameIndex := 21, descriptorIndex := 22, attributes := #[] }, { accessFlags := 2, nameIndex := 25, descriptorIndex := 26, attributes := #[] }, { accessFlags := 26, nameIndex := 1116, descriptorIndex := 1117, attributes := #[] }, { accessFlags := 24, nameIndex := 40, descriptorIndex := 26, attributes := #[] }, { accessFlags := 26, nameIndex := 1101, descriptorIndex := 1102, attributes := #[] }, { accessFlags := 26, nameIndex := 1121, descriptorIndex := 1122, attributes := #[] }, { accessFlags := 25, nameIndex := 599, descriptorIndex := 600, attributes := #[] }, { accessFlags := 24, nameIndex := 1125, descriptorIndex := 18, attributes := #[] }, { accessFlags := 24, nameIndex := 1127, descriptorIndex := 18, attributes := #[] }])
  fields := #[{ name := "value", type := (.array .byte), accessFlags := 18, slot := 0, constantValue := 0 }, { name := "coder", type := .byte, accessFlags := 18, slot := 1, constantValue := 0 }, { name := "hash", type := .int, accessFlags := 2, slot := 2, constantValue := 0 }, { name := "hashIsZero", type := .boolean, accessFlags := 2, slot := 3, constantValue := 0 }, { name := "serialVersionUID", type := .long, accessFlags := 26, slot := 0, constantValue := 0 }, { name := "COMPACT_STRINGS", type := .boolean, accessFlags := 24, slot := 1, constantValue := 0 }, { name := "serialPersistentFields", type := (.array (.object "java/io/ObjectStreamField")), accessFlags := 26, slot := 2, constantValue := 0 }, { name := "REPL", type := .char, accessFlags := 26, slot := 3, constantValue := 0 }, { name := "CASE_INSENSITIVE_ORDER", type := (.object "java/util/Comparator"), accessFlags := 25, slot := 4, constantValue := 0 }, { name := "LATIN1", type := .byte, accessFlags := 24, slot := 5, constantValue := 0 }, { name := "UTF16", type := .byte, accessFlags := 24, slot := 6, constantValue := 0 }]
  methods := #[k7m0, k7m1, k7m2, k7m3, k7m4, k7m5, k7m6, k7m7, k7m8, k7m9, k7m10]
  instanceTypes := #[(.array .byte), .byte, .int, .boolean]
  staticTypes := #[.long, .boolean, (.array (.object "java/io/ObjectStreamField")), .char, (.object "java/util/Comparator"), .byte, .byte]
  resolved := Array.replicate 1451 none
  statics := some 0 }

def pool8 : Array CpInfo := pool [(1, .methodref 2 3), (0, .class_ 4), (0, .nameAndType 5 6), (0, u "java/lang/Object"), (0, u "<init>"), (0, u "()V"), (0, .fieldref 8 9), (0, .class_ 10), (0, .nameAndType 11 12), (0, u "java/lang/Throwable"), (0, u "cause"), (0, u "Ljava/lang/Throwable;"), (0, .fieldref 8 14), (0, .nameAndType 15 16), (0, u "UNASSIGNED_STACK"), (0, u "[Ljava/lang/StackTraceElement;"), (0, .fieldref 8 18), (0, .nameAndType 19 16), (0, u "stackTrace"), (0, .fieldref 8 21), (0, .nameAndType 22 23), (0, u "SUPPRESSED_SENTINEL"), (0, u "Ljava/util/List;"), (0, .fieldref 8 25), (0, .nameAndType 26 23), (0, u "suppressedExceptions"), (0, .methodref 8 28), (0, .nameAndType 29 30), (0, u "fillInStackTrace"), (0, u "()Ljava/lang/Throwable;"), (0, .fieldref 8 32), (0, .nameAndType 33 34), (0, u "detailMessage"), (0, u "Ljava/lang/String;"), (3, u "()Ljava/lang/String;"), (2, u "getMessage"), (51, .class_ 94), (0, u "java/lang/Throwable$WrappedPrintStream"), (6, .class_ 103), (1, u "java/lang/Throwable$PrintStreamOrWriter"), (61, u "$assertionsDisabled"), (0, u "Z"), (26, .class_ 194), (0, u "java/lang/Throwable$WrappedPrintWriter"), (3, .fieldref 8 199), (0, .nameAndType 200 201), (0, u "backtrace"), (0, u "Ljava/lang/Object;"), (0, .methodref 8 203), (0, .nameAndType 29 204), (0, u "(I)Ljava/lang/Throwable;"), (6, u "depth"), (0, u "I"), (10, u "(Ljava/lang/String;)V"), (45, .class_ 271), (1, u "java/lang/Throwable$SentinelHolder"), (32, u "EMPTY_THROWABLE_ARRAY"), (0, u "[Ljava/lang/Throwable;"), (12, .class_ 319), (0, u "java/io/Serializable"), (0, u "serialVersionUID"), (0, u "J"), (5, u "NULL_CAUSE_MESSAGE"), (0, u "SELF_SUPPRESSION_MESSAGE"), (0, u "CAUSE_CAPTION"), (0, u "SUPPRESSED_CAPTION")] 73

def k8c0 : Code := { maxStack := 2, maxLocals := 1, code := jdk_78_method_1_code, exceptionTable := #[], attributes := #[] }
def k8m0 : Method := { name := "<init>", desc := "()V", sig := { parameters := [], returnType := none }, accessFlags := 1, code := some k8c0 }
def k8c1 : Code := { maxStack := 2, maxLocals := 2, code := jdk_78_method_2_code, exceptionTable := #[], attributes := #[] }
def k8m1 : Method := { name := "<init>", desc := "(Ljava/lang/String;)V", sig := { parameters := [(.object "java/lang/String")], returnType := none }, accessFlags := 1, code := some k8c1 }
def k8c2 : Code := { maxStack := 1, maxLocals := 1, code := jdk_78_method_6_code, exceptionTable := #[], attributes := #[] }
def k8m2 : Method := { name := "getMessage", desc := "()Ljava/lang/String;", sig := { parameters := [], returnType := some (.object "java/lang/String") }, accessFlags := 1, code := some k8c2 }
def k8c3 : Code := { maxStack := 2, maxLocals := 1, code := ⟨#[0x2a, 0xb4, 0x00, 0x11, 0xc7, 0x00, 0x0a, 0x2a, 0xb4, 0x00, 0xc6, 0xc6, 0x00, 0x10, 0x2a, 0x03, 0xb6, 0x00, 0xca, 0x57, 0x2a, 0xb2, 0x00, 0x0d, 0xb5, 0x00, 0x11, 0x2a, 0xb0]⟩, exceptionTable := #[], attributes := #[] }
def k8m3 : Method := { name := "fillInStackTrace", desc := "()Ljava/lang/Throwable;", sig := { parameters := [], returnType := some (.object "java/lang/Throwable") }, accessFlags := 33, code := some k8c3 }
def k8m4 : Method := { name := "fillInStackTrace", desc := "(I)Ljava/lang/Throwable;", sig := { parameters := [.int], returnType := some (.object "java/lang/Throwable") }, accessFlags := 258, code := none }
/-- java/lang/Throwable -/
def k8 : Class := { plain "java/lang/Throwable" (some 0) with
  accessFlags := 33
  interfaces := #[2]
  cf := some (fileOf pool8 8 #[.nestMembers #[193, 93, 101, 269]] #[{ accessFlags := 1, nameIndex := 5, descriptorIndex := 6, attributes := #[] }, { accessFlags := 1, nameIndex := 5, descriptorIndex := 223, attributes := #[] }, { accessFlags := 1, nameIndex := 41, descriptorIndex := 38, attributes := #[] }, { accessFlags := 33, nameIndex := 29, descriptorIndex := 30, attributes := #[] }, { accessFlags := 258, nameIndex := 29, descriptorIndex := 204, attributes := #[] }] 33 2 #[318] #[{ accessFlags := 26, nameIndex := 320, descriptorIndex := 321, attributes := #[] }, { accessFlags := 130, nameIndex := 200, descriptorIndex := 201, attributes := #[] }, { accessFlags := 2, nameIndex := 33, descriptorIndex := 34, attributes := #[] }, { accessFlags := 26, nameIndex := 15, descriptorIndex := 16, attributes := #[] }, { accessFlags := 2, nameIndex := 11, descriptorIndex := 12, attributes := #[] }, { accessFlags := 2, nameIndex := 19, descriptorIndex := 16, attributes := #[] }, { accessFlags := 130, nameIndex := 211, descriptorIndex := 212, attributes := #[] }, { accessFlags := 26, nameIndex := 22, descriptorIndex := 23, attributes := #[] }, { accessFlags := 2, nameIndex := 26, descriptorIndex := 23, attributes := #[] }, { accessFlags := 26, nameIndex := 327, descriptorIndex := 34, attributes := #[] }, { accessFlags := 26, nameIndex := 328, descriptorIndex := 34, attributes := #[] }, { accessFlags := 26, nameIndex := 329, descriptorIndex := 34, attributes := #[] }, { accessFlags := 26, nameIndex := 330, descriptorIndex := 34, attributes := #[] }, { accessFlags := 26, nameIndex := 304, descriptorIndex := 305, attributes := #[] }, { accessFlags := 4120, nameIndex := 165, descriptorIndex := 166, attributes := #[] }])
  fields := #[{ name := "serialVersionUID", type := .long, accessFlags := 26, slot := 0, constantValue := 0 }, { name := "backtrace", type := (.object "java/lang/Object"), accessFlags := 130, slot := 0, constantValue := 0 }, { name := "detailMessage", type := (.object "java/lang/String"), accessFlags := 2, slot := 1, constantValue := 0 }, { name := "UNASSIGNED_STACK", type := (.array (.object "java/lang/StackTraceElement")), accessFlags := 26, slot := 1, constantValue := 0 }, { name := "cause", type := (.object "java/lang/Throwable"), accessFlags := 2, slot := 2, constantValue := 0 }, { name := "stackTrace", type := (.array (.object "java/lang/StackTraceElement")), accessFlags := 2, slot := 3, constantValue := 0 }, { name := "depth", type := .int, accessFlags := 130, slot := 4, constantValue := 0 }, { name := "SUPPRESSED_SENTINEL", type := (.object "java/util/List"), accessFlags := 26, slot := 2, constantValue := 0 }, { name := "suppressedExceptions", type := (.object "java/util/List"), accessFlags := 2, slot := 5, constantValue := 0 }, { name := "NULL_CAUSE_MESSAGE", type := (.object "java/lang/String"), accessFlags := 26, slot := 3, constantValue := 0 }, { name := "SELF_SUPPRESSION_MESSAGE", type := (.object "java/lang/String"), accessFlags := 26, slot := 4, constantValue := 0 }, { name := "CAUSE_CAPTION", type := (.object "java/lang/String"), accessFlags := 26, slot := 5, constantValue := 0 }, { name := "SUPPRESSED_CAPTION", type := (.object "java/lang/String"), accessFlags := 26, slot := 6, constantValue := 0 }, { name := "EMPTY_THROWABLE_ARRAY", type := (.array (.object "java/lang/Throwable")), accessFlags := 26, slot := 7, constantValue := 0 }, { name := "$assertionsDisabled", type := .boolean, accessFlags := 4120, slot := 8, constantValue := 0 }]
  methods := #[k8m0, k8m1, k8m2, k8m3, k8m4]
  instanceTypes := #[(.object "java/lang/Object"), (.object "java/lang/String"), (.object "java/lang/Throwable"), (.array (.object "java/lang/StackTraceElement")), .int, (.object "java/util/List")]
  staticTypes := #[.long, (.array (.object "java/lang/StackTraceElement")), (.object "java/util/List"), (.object "java/lang/String"), (.object "java/lang/String"), (.object "java/lang/String"), (.object "java/lang/String"), (.array (.object "java/lang/Throwable")), .boolean]
  resolved := Array.replicate 404 none
  statics := some 1 }

def pool9 : Array CpInfo := pool [(2, .class_ 4), (1, u "java/lang/Throwable"), (0, u "<init>"), (0, u "()V"), (0, .methodref 2 8), (0, .nameAndType 5 9), (0, u "(Ljava/lang/String;)V"), (9, .class_ 20), (0, u "java/lang/Exception"), (0, u "serialVersionUID"), (0, u "J")] 17

def k9m0 : Method := { name := "<init>", desc := "()V", sig := { parameters := [], returnType := none }, accessFlags := 1, code := none }
def k9c1 : Code := { maxStack := 2, maxLocals := 2, code := jdk_59_method_2_code, exceptionTable := #[], attributes := #[] }
def k9m1 : Method := { name := "<init>", desc := "(Ljava/lang/String;)V", sig := { parameters := [(.object "java/lang/String")], returnType := none }, accessFlags := 1, code := some k9c1 }
/-- java/lang/Exception -/
def k9 : Class := { plain "java/lang/Exception" (some 8) with
  accessFlags := 33
  interfaces := #[]
  cf := some (fileOf pool9 19 #[] #[{ accessFlags := 1, nameIndex := 5, descriptorIndex := 6, attributes := #[] }, { accessFlags := 1, nameIndex := 5, descriptorIndex := 9, attributes := #[] }] 33 2 #[] #[{ accessFlags := 24, nameIndex := 21, descriptorIndex := 22, attributes := #[] }])
  fields := #[{ name := "serialVersionUID", type := .long, accessFlags := 24, slot := 0, constantValue := 0 }]
  methods := #[k9m0, k9m1]
  instanceTypes := #[(.object "java/lang/Object"), (.object "java/lang/String"), (.object "java/lang/Throwable"), (.array (.object "java/lang/StackTraceElement")), .int, (.object "java/util/List")]
  staticTypes := #[.long]
  resolved := Array.replicate 40 none
  statics := none }

def pool10 : Array CpInfo := pool [(1, .methodref 2 3), (0, .class_ 4), (0, .nameAndType 5 6), (0, u "java/lang/Exception"), (0, u "<init>"), (0, u "(Ljava/lang/String;)V"), (0, .class_ 8), (0, u "com/example/makewhole/makewhole/refusal/RefusedException"), (0, u "serialVersionUID"), (0, u "J")] 7

def k10c0 : Code := { maxStack := 2, maxLocals := 2, code := prog_50_method_1_code, exceptionTable := #[], attributes := #[] }
def k10m0 : Method := { name := "<init>", desc := "(Ljava/lang/String;)V", sig := { parameters := [(.object "java/lang/String")], returnType := none }, accessFlags := 4, code := some k10c0 }
/-- com/example/makewhole/makewhole/refusal/RefusedException -/
def k10 : Class := { plain "com/example/makewhole/makewhole/refusal/RefusedException" (some 9) with
  accessFlags := 1057
  interfaces := #[]
  cf := some (fileOf pool10 7 #[] #[{ accessFlags := 4, nameIndex := 5, descriptorIndex := 6, attributes := #[] }] 1057 2 #[] #[{ accessFlags := 26, nameIndex := 9, descriptorIndex := 10, attributes := #[] }])
  fields := #[{ name := "serialVersionUID", type := .long, accessFlags := 26, slot := 0, constantValue := 0 }]
  methods := #[k10m0]
  instanceTypes := #[(.object "java/lang/Object"), (.object "java/lang/String"), (.object "java/lang/Throwable"), (.array (.object "java/lang/StackTraceElement")), .int, (.object "java/util/List")]
  staticTypes := #[.long]
  resolved := Array.replicate 18 none
  statics := none }

def pool11 : Array CpInfo := pool [(1, .methodref 2 3), (0, .class_ 4), (0, .nameAndType 5 6), (0, u "com/example/makewhole/makewhole/refusal/RefusedException"), (0, u "<init>"), (0, u "(Ljava/lang/String;)V"), (0, .fieldref 8 9), (0, .class_ 10), (0, .nameAndType 11 12), (0, u "com/example/makewhole/makewhole/member/MemberRecordException"), (0, u "id"), (0, u "Ljava/lang/String;"), (0, .fieldref 8 14), (0, .nameAndType 15 12), (0, u "place"), (2, u "(Lcom/example/makewhole/makewhole/member/MemberRecordException;Ljava/lang/String;Ljava/lang/String;)V"), (0, .methodref 8 20), (0, .nameAndType 21 22), (0, u "getMessage"), (0, u "()Ljava/lang/String;"), (0, .methodref 24 25), (0, .class_ 26), (0, .nameAndType 27 28), (0, u "java/util/Optional"), (0, u "ofNullable"), (0, u "(Ljava/lang/Object;)Ljava/util/Optional;"), (0, u "serialVersionUID"), (0, u "J"), (6, u "getId"), (0, u "()Ljava/util/Optional;"), (2, u "getPlace")] 2

def k11c0 : Code := { maxStack := 2, maxLocals := 2, code := prog_26_method_1_code, exceptionTable := #[], attributes := #[] }
def k11m0 : Method := { name := "<init>", desc := "(Ljava/lang/String;)V", sig := { parameters := [(.object "java/lang/String")], returnType := none }, accessFlags := 1, code := some k11c0 }
def k11c1 : Code := { maxStack := 2, maxLocals := 4, code := prog_26_method_3_code, exceptionTable := #[], attributes := #[] }
def k11m1 : Method := { name := "<init>", desc := "(Lcom/example/makewhole/makewhole/member/MemberRecordException;Ljava/lang/String;Ljava/lang/String;)V", sig := { parameters := [(.object "com/example/makewhole/makewhole/member/MemberRecordException"), (.object "java/lang/String"), (.object "java/lang/String")], returnType := none }, accessFlags := 1, code := some k11c1 }
def k11c2 : Code := { maxStack := 1, maxLocals := 1, code := prog_26_method_4_code, exceptionTable := #[], attributes := #[] }
def k11m2 : Method := { name := "getId", desc := "()Ljava/util/Optional;", sig := { parameters := [], returnType := some (.object "java/util/Optional") }, accessFlags := 1, code := some k11c2 }
def k11c3 : Code := { maxStack := 1, maxLocals := 1, code := prog_26_method_5_code, exceptionTable := #[], attributes := #[] }
def k11m3 : Method := { name := "getPlace", desc := "()Ljava/util/Optional;", sig := { parameters := [], returnType := some (.object "java/util/Optional") }, accessFlags := 1, code := some k11c3 }
/-- com/example/makewhole/makewhole/member/MemberRecordException -/
def k11 : Class := { plain "com/example/makewhole/makewhole/member/MemberRecordException" (some 10) with
  accessFlags := 33
  interfaces := #[]
  cf := some (fileOf pool11 8 #[] #[{ accessFlags := 1, nameIndex := 5, descriptorIndex := 6, attributes := #[] }, { accessFlags := 1, nameIndex := 5, descriptorIndex := 18, attributes := #[] }, { accessFlags := 1, nameIndex := 37, descriptorIndex := 38, attributes := #[] }, { accessFlags := 1, nameIndex := 41, descriptorIndex := 38, attributes := #[] }] 33 2 #[] #[{ accessFlags := 26, nameIndex := 29, descriptorIndex := 30, attributes := #[] }, { accessFlags := 18, nameIndex := 11, descriptorIndex := 12, attributes := #[] }, { accessFlags := 18, nameIndex := 15, descriptorIndex := 12, attributes := #[] }])
  fields := #[{ name := "serialVersionUID", type := .long, accessFlags := 26, slot := 0, constantValue := 0 }, { name := "id", type := (.object "java/lang/String"), accessFlags := 18, slot := 6, constantValue := 0 }, { name := "place", type := (.object "java/lang/String"), accessFlags := 18, slot := 7, constantValue := 0 }]
  methods := #[k11m0, k11m1, k11m2, k11m3]
  instanceTypes := #[(.object "java/lang/Object"), (.object "java/lang/String"), (.object "java/lang/Throwable"), (.array (.object "java/lang/StackTraceElement")), .int, (.object "java/util/List"), (.object "java/lang/String"), (.object "java/lang/String")]
  staticTypes := #[.long]
  resolved := Array.replicate 44 none
  statics := none }

def pool12 : Array CpInfo := pool [(25, .class_ 27), (1, u "com/example/makewhole/makewhole/memberfiles/RecordFields"), (11, .class_ 40), (0, u "java/lang/Object")] 29

/-- com/example/makewhole/makewhole/memberfiles/RecordFields -/
def k12 : Class := { plain "com/example/makewhole/makewhole/memberfiles/RecordFields" (some 0) with
  accessFlags := 1536
  interfaces := #[]
  cf := some (fileOf pool12 25 #[] #[] 1536 39 #[] #[])
  fields := #[]
  methods := #[]
  instanceTypes := #[]
  staticTypes := #[]
  resolved := Array.replicate 70 none
  statics := none }

def pool13 : Array CpInfo := pool [(1, .methodref 2 3), (0, .class_ 4), (0, .nameAndType 5 6), (0, u "java/lang/Object"), (0, u "<init>"), (0, u "()V"), (0, .fieldref 8 9), (0, .class_ 10), (0, .nameAndType 11 12), (0, u "com/example/makewhole/makewhole/memberfiles/TableFields"), (0, u "cells"), (0, u "Ljava/util/Map;"), (0, .fieldref 8 14), (0, .nameAndType 15 16), (0, u "name"), (0, u "Ljava/lang/String;"), (0, .fieldref 8 18), (0, .nameAndType 19 16), (0, u "columnPrefix"), (0, .fieldref 8 21), (0, .nameAndType 22 12), (0, u "entries"), (0, .fieldref 8 24), (0, .nameAndType 25 16), (0, u "table"), (0, .fieldref 8 27), (0, .nameAndType 28 29), (0, u "line"), (0, u "J"), (0, .string 31), (0, u ""), (0, .methodref 8 33), (0, .nameAndType 5 34), (0, u "(Ljava/util/Map;Ljava/lang/String;Ljava/lang/String;Ljava/util/Map;Ljava/lang/String;J)V"), (0, .interfaceMethodref 36 37), (0, .class_ 38), (0, .nameAndType 39 40), (0, u "java/util/Map"), (0, u "of"), (0, u "()Ljava/util/Map;"), (0, .interfaceMethodref 36 42), (0, .nameAndType 43 44), (0, u "containsKey"), (0, u "(Ljava/lang/Object;)Z"), (7, .class_ 54), (1, u "java/lang/String"), (9, .class_ 65), (0, u "com/example/makewhole/makewhole/member/MemberRecordException"), (23, .class_ 91), (1, u "java/util/Optional"), (6, u "get"), (21, u "()Ljava/lang/String;"), (2, .interfaceMethodref 36 124), (0, .nameAndType 98 125), (0, u "(Ljava/lang/Object;)Ljava/lang/Object;"), (2, .methodref 64 129), (0, .nameAndType 130 131), (0, u "getId"), (0, u "()Ljava/util/Optional;"), (0, .methodref 89 133), (0, .nameAndType 134 125), (0, u "orElse"), (0, .methodref 136 137), (0, .class_ 138), (0, .nameAndType 139 140), (0, u "com/example/makewhole/makewhole/plandata/PlanDataFormatException"), (0, u "place"), (0, u "(Ljava/lang/String;J)Ljava/lang/String;"), (0, .methodref 64 142), (0, .nameAndType 5 143), (0, u "(Lcom/example/makewhole/makewhole/member/MemberRecordException;Ljava/lang/String;Ljava/lang/String;)V"), (27, u "(Ljava/lang/String;)Z"), (14, .class_ 187), (0, u "com/example/makewhole/makewhole/memberfiles/RecordFields"), (9, u "ofEntry"), (0, u "(Ljava/util/Map;Ljava/lang/String;Ljava/lang/String;J)Lcom/example/makewhole/makewhole/memberfiles/TableFields;"), (1, u "getName"), (0, u "hasArray"), (10, u "(Ljava/lang/String;Ljava/lang/String;)Ljava/util/List;"), (1, u "placed"), (0, u "(Lcom/example/makewhole/makewhole/member/MemberRecordException;)Lcom/example/makewhole/makewhole/member/MemberRecordException;")] 26

def k13c0 : Code := { maxStack := 3, maxLocals := 8, code := prog_32_method_1_code, exceptionTable := #[], attributes := #[] }
def k13m0 : Method := { name := "<init>", desc := "(Ljava/util/Map;Ljava/lang/String;Ljava/lang/String;Ljava/util/Map;Ljava/lang/String;J)V", sig := { parameters := [(.object "java/util/Map"), (.object "java/lang/String"), (.object "java/lang/String"), (.object "java/util/Map"), (.object "java/lang/String"), .long], returnType := none }, accessFlags := 2, code := some k13c0 }
def k13c1 : Code := { maxStack := 9, maxLocals := 5, code := prog_32_method_3_code, exceptionTable := #[], attributes := #[] }
def k13m1 : Method := { name := "ofEntry", desc := "(Ljava/util/Map;Ljava/lang/String;Ljava/lang/String;J)Lcom/example/makewhole/makewhole/memberfiles/TableFields;", sig := { parameters := [(.object "java/util/Map"), (.object "java/lang/String"), (.object "java/lang/String"), .long], returnType := some (.object "com/example/makewhole/makewhole/memberfiles/TableFields") }, accessFlags := 8, code := some k13c1 }
def k13c2 : Code := { maxStack := 1, maxLocals := 1, code := prog_32_method_4_code, exceptionTable := #[], attributes := #[] }
def k13m2 : Method := { name := "getName", desc := "()Ljava/lang/String;", sig := { parameters := [], returnType := some (.object "java/lang/String") }, accessFlags := 1, code := some k13c2 }
def k13c3 : Code := { maxStack := 2, maxLocals := 2, code := prog_32_method_5_code, exceptionTable := #[], attributes := #[] }
def k13m3 : Method := { name := "hasArray", desc := "(Ljava/lang/String;)Z", sig := { parameters := [(.object "java/lang/String")], returnType := some .boolean }, accessFlags := 1, code := some k13c3 }
def k13c4 : Code := { maxStack := 2, maxLocals := 3, code := prog_32_method_10_code, exceptionTable := #[], attributes := #[] }
def k13m4 : Method := { name := "entries", desc := "(Ljava/lang/String;Ljava/lang/String;)Ljava/util/List;", sig := { parameters := [(.object "java/lang/String"), (.object "java/lang/String")], returnType := some (.object "java/util/List") }, accessFlags := 1, code := some k13c4 }
def k13c5 : Code := { maxStack := 7, maxLocals := 2, code := prog_32_method_11_code, exceptionTable := #[], attributes := #[] }
def k13m5 : Method := { name := "placed", desc := "(Lcom/example/makewhole/makewhole/member/MemberRecordException;)Lcom/example/makewhole/makewhole/member/MemberRecordException;", sig := { parameters := [(.object "com/example/makewhole/makewhole/member/MemberRecordException")], returnType := some (.object "com/example/makewhole/makewhole/member/MemberRecordException") }, accessFlags := 1, code := some k13c5 }
/-- com/example/makewhole/makewhole/memberfiles/TableFields -/
def k13 : Class := { plain "com/example/makewhole/makewhole/memberfiles/TableFields" (some 0) with
  accessFlags := 32
  interfaces := #[12]
  cf := some (fileOf pool13 8 #[] #[{ accessFlags := 2, nameIndex := 5, descriptorIndex := 34, attributes := #[] }, { accessFlags := 8, nameIndex := 197, descriptorIndex := 198, attributes := #[] }, { accessFlags := 1, nameIndex := 200, descriptorIndex := 120, attributes := #[] }, { accessFlags := 1, nameIndex := 201, descriptorIndex := 171, attributes := #[] }, { accessFlags := 1, nameIndex := 22, descriptorIndex := 212, attributes := #[] }, { accessFlags := 1, nameIndex := 214, descriptorIndex := 215, attributes := #[] }] 32 2 #[186] #[{ accessFlags := 18, nameIndex := 11, descriptorIndex := 12, attributes := #[] }, { accessFlags := 18, nameIndex := 15, descriptorIndex := 16, attributes := #[] }, { accessFlags := 18, nameIndex := 19, descriptorIndex := 16, attributes := #[] }, { accessFlags := 18, nameIndex := 22, descriptorIndex := 12, attributes := #[] }, { accessFlags := 18, nameIndex := 25, descriptorIndex := 16, attributes := #[] }, { accessFlags := 18, nameIndex := 28, descriptorIndex := 29, attributes := #[] }])
  fields := #[{ name := "cells", type := (.object "java/util/Map"), accessFlags := 18, slot := 0, constantValue := 0 }, { name := "name", type := (.object "java/lang/String"), accessFlags := 18, slot := 1, constantValue := 0 }, { name := "columnPrefix", type := (.object "java/lang/String"), accessFlags := 18, slot := 2, constantValue := 0 }, { name := "entries", type := (.object "java/util/Map"), accessFlags := 18, slot := 3, constantValue := 0 }, { name := "table", type := (.object "java/lang/String"), accessFlags := 18, slot := 4, constantValue := 0 }, { name := "line", type := .long, accessFlags := 18, slot := 5, constantValue := 0 }]
  methods := #[k13m0, k13m1, k13m2, k13m3, k13m4, k13m5]
  instanceTypes := #[(.object "java/util/Map"), (.object "java/lang/String"), (.object "java/lang/String"), (.object "java/util/Map"), (.object "java/lang/String"), .long]
  staticTypes := #[]
  resolved := Array.replicate 242 none
  statics := none }

def pool14 : Array CpInfo := pool [(2, .class_ 4), (1, u "java/util/Map"), (0, u "get"), (0, u "(Ljava/lang/Object;)Ljava/lang/Object;"), (2, u "containsKey"), (0, u "(Ljava/lang/Object;)Z"), (25, .class_ 37), (0, u "java/util/Map$Entry"), (43, .fieldref 82 83), (0, .class_ 84), (0, .nameAndType 85 86), (0, u "java/util/ImmutableCollections"), (0, u "EMPTY_MAP"), (0, u "Ljava/util/ImmutableCollections$MapN;"), (6, .class_ 94), (0, u "java/lang/Object"), (13, u "of"), (0, u "()Ljava/util/Map;")] 153

def k14m0 : Method := { name := "containsKey", desc := "(Ljava/lang/Object;)Z", sig := { parameters := [(.object "java/lang/Object")], returnType := some .boolean }, accessFlags := 1025, code := none }
def k14m1 : Method := { name := "get", desc := "(Ljava/lang/Object;)Ljava/lang/Object;", sig := { parameters := [(.object "java/lang/Object")], returnType := some (.object "java/lang/Object") }, accessFlags := 1025, code := none }
def k14c2 : Code := { maxStack := 1, maxLocals := 0, code := jdk_72_method_26_code, exceptionTable := #[], attributes := #[] }
def k14m2 : Method := { name := "of", desc := "()Ljava/util/Map;", sig := { parameters := [], returnType := some (.object "java/util/Map") }, accessFlags := 9, code := some k14c2 }
/-- java/util/Map -/
def k14 : Class := { plain "java/util/Map" (some 0) with
  accessFlags := 1537
  interfaces := #[]
  cf := some (fileOf pool14 2 #[.nestMembers #[36]] #[{ accessFlags := 1025, nameIndex := 9, descriptorIndex := 10, attributes := #[] }, { accessFlags := 1025, nameIndex := 5, descriptorIndex := 6, attributes := #[] }, { accessFlags := 9, nameIndex := 108, descriptorIndex := 109, attributes := #[] }] 1537 93 #[] #[])
  fields := #[]
  methods := #[k14m0, k14m1, k14m2]
  instanceTypes := #[]
  staticTypes := #[]
  resolved := Array.replicate 263 none
  statics := none }

def pool15 : Array CpInfo := pool [(2, .class_ 4), (1, u "java/lang/Object"), (0, u "<init>"), (0, u "()V"), (3, .class_ 11), (0, u "java/util/ImmutableCollections$List12"), (0, .class_ 13), (0, u "java/util/ImmutableCollections$ListN"), (3, u "Z"), (29, .class_ 49), (1, u "java/util/ImmutableCollections"), (0, u "$assertionsDisabled"), (5, u "[Ljava/lang/Object;"), (5, u "EMPTY_LIST"), (0, u "Ljava/util/ImmutableCollections$ListN;"), (8, u "EMPTY_LIST_NULLS"), (22, u "SALT32L"), (0, u "J"), (2, u "REVERSE"), (6, u "archivedObjects"), (2, u "EMPTY"), (0, u "Ljava/lang/Object;"), (0, .class_ 112), (0, u "java/util/ImmutableCollections$SetN"), (5, u "EMPTY_SET"), (0, u "Ljava/util/ImmutableCollections$SetN;"), (0, .class_ 121), (0, u "java/util/ImmutableCollections$MapN"), (3, u "EMPTY_MAP"), (0, u "Ljava/util/ImmutableCollections$MapN;"), (4, u "EXPAND_FACTOR"), (0, u "I"), (36, .class_ 170), (0, u "java/util/ImmutableCollections$MapN$MapNIterator"), (0, .class_ 172), (0, u "java/util/ImmutableCollections$MapN$1"), (0, .class_ 174), (0, u "java/util/ImmutableCollections$Map1"), (0, .class_ 176), (0, u "java/util/ImmutableCollections$AbstractImmutableMap"), (0, .class_ 178), (0, u "java/util/ImmutableCollections$SetN$SetNIterator"), (0, .class_ 180), (0, u "java/util/ImmutableCollections$Set12"), (0, .class_ 182), (0, u "java/util/ImmutableCollections$Set12$1"), (0, .class_ 184), (0, u "java/util/ImmutableCollections$AbstractImmutableSet"), (0, .class_ 186), (0, u "java/util/ImmutableCollections$SubList"), (0, .class_ 188), (0, u "java/util/ImmutableCollections$ListItr"), (0, .class_ 190), (0, u "java/util/ImmutableCollections$AbstractImmutableList"), (0, .class_ 192), (0, u "java/util/ImmutableCollections$AbstractImmutableCollection"), (0, .class_ 194), (0, u "java/util/ImmutableCollections$Access"), (0, .class_ 196), (0, u "java/util/ImmutableCollections$Access$1")] 16

def k15m0 : Method := { name := "<init>", desc := "()V", sig := { parameters := [], returnType := none }, accessFlags := 2, code := none }
/-- java/util/ImmutableCollections -/
def k15 : Class := { plain "java/util/ImmutableCollections" (some 0) with
  accessFlags := 32
  interfaces := #[]
  cf := some (fileOf pool15 47 #[.nestMembers #[120, 169, 171, 173, 175, 111, 177, 179, 181, 183, 12, 10, 185, 187, 189, 191, 193, 195]] #[{ accessFlags := 2, nameIndex := 5, descriptorIndex := 6, attributes := #[] }] 32 2 #[] #[{ accessFlags := 26, nameIndex := 95, descriptorIndex := 96, attributes := #[] }, { accessFlags := 26, nameIndex := 99, descriptorIndex := 17, attributes := #[] }, { accessFlags := 10, nameIndex := 106, descriptorIndex := 56, attributes := #[] }, { accessFlags := 26, nameIndex := 109, descriptorIndex := 110, attributes := #[] }, { accessFlags := 24, nameIndex := 62, descriptorIndex := 63, attributes := #[] }, { accessFlags := 24, nameIndex := 72, descriptorIndex := 63, attributes := #[] }, { accessFlags := 24, nameIndex := 118, descriptorIndex := 119, attributes := #[] }, { accessFlags := 24, nameIndex := 125, descriptorIndex := 126, attributes := #[] }, { accessFlags := 24, nameIndex := 131, descriptorIndex := 132, attributes := #[] }, { accessFlags := 4120, nameIndex := 50, descriptorIndex := 17, attributes := #[] }])
  fields := #[{ name := "SALT32L", type := .long, accessFlags := 26, slot := 0, constantValue := 0 }, { name := "REVERSE", type := .boolean, accessFlags := 26, slot := 1, constantValue := 0 }, { name := "archivedObjects", type := (.array (.object "java/lang/Object")), accessFlags := 10, slot := 2, constantValue := 0 }, { name := "EMPTY", type := (.object "java/lang/Object"), accessFlags := 26, slot := 3, constantValue := 0 }, { name := "EMPTY_LIST", type := (.object "java/util/ImmutableCollections$ListN"), accessFlags := 24, slot := 4, constantValue := 0 }, { name := "EMPTY_LIST_NULLS", type := (.object "java/util/ImmutableCollections$ListN"), accessFlags := 24, slot := 5, constantValue := 0 }, { name := "EMPTY_SET", type := (.object "java/util/ImmutableCollections$SetN"), accessFlags := 24, slot := 6, constantValue := 0 }, { name := "EMPTY_MAP", type := (.object "java/util/ImmutableCollections$MapN"), accessFlags := 24, slot := 7, constantValue := 0 }, { name := "EXPAND_FACTOR", type := .int, accessFlags := 24, slot := 8, constantValue := 0 }, { name := "$assertionsDisabled", type := .boolean, accessFlags := 4120, slot := 9, constantValue := 0 }]
  methods := #[k15m0]
  instanceTypes := #[]
  staticTypes := #[.long, .boolean, (.array (.object "java/lang/Object")), (.object "java/lang/Object"), (.object "java/util/ImmutableCollections$ListN"), (.object "java/util/ImmutableCollections$ListN"), (.object "java/util/ImmutableCollections$SetN"), (.object "java/util/ImmutableCollections$MapN"), .int, .boolean]
  resolved := Array.replicate 213 none
  statics := some 2 }

def pool16 : Array CpInfo := pool [(1, .fieldref 2 3), (0, .class_ 4), (0, .nameAndType 5 6), (0, u "java/util/Optional"), (0, u "EMPTY"), (0, u "Ljava/util/Optional;"), (0, .methodref 8 9), (0, .class_ 10), (0, .nameAndType 11 12), (0, u "java/lang/Object"), (0, u "<init>"), (0, u "()V"), (0, .fieldref 2 14), (0, .nameAndType 15 16), (0, u "value"), (0, u "Ljava/lang/Object;"), (5, u "(Ljava/lang/Object;)Ljava/lang/Object;"), (0, .methodref 2 24), (0, .nameAndType 11 25), (0, u "(Ljava/lang/Object;)V"), (38, u "ofNullable"), (0, u "(Ljava/lang/Object;)Ljava/util/Optional;"), (99, u "orElse")] 21

def k16c0 : Code := { maxStack := 2, maxLocals := 2, code := jdk_32_method_2_code, exceptionTable := #[], attributes := #[] }
def k16m0 : Method := { name := "<init>", desc := "(Ljava/lang/Object;)V", sig := { parameters := [(.object "java/lang/Object")], returnType := none }, accessFlags := 2, code := some k16c0 }
def k16c1 : Code := { maxStack := 3, maxLocals := 1, code := jdk_32_method_4_code, exceptionTable := #[], attributes := #[] }
def k16m1 : Method := { name := "ofNullable", desc := "(Ljava/lang/Object;)Ljava/util/Optional;", sig := { parameters := [(.object "java/lang/Object")], returnType := some (.object "java/util/Optional") }, accessFlags := 9, code := some k16c1 }
def k16c2 : Code := { maxStack := 1, maxLocals := 2, code := jdk_32_method_15_code, exceptionTable := #[], attributes := #[] }
def k16m2 : Method := { name := "orElse", desc := "(Ljava/lang/Object;)Ljava/lang/Object;", sig := { parameters := [(.object "java/lang/Object")], returnType := some (.object "java/lang/Object") }, accessFlags := 1, code := some k16c2 }
/-- java/util/Optional -/
def k16 : Class := { plain "java/util/Optional" (some 0) with
  accessFlags := 49
  interfaces := #[]
  cf := some (fileOf pool16 2 #[] #[{ accessFlags := 2, nameIndex := 11, descriptorIndex := 25, attributes := #[] }, { accessFlags := 9, nameIndex := 64, descriptorIndex := 65, attributes := #[] }, { accessFlags := 1, nameIndex := 165, descriptorIndex := 22, attributes := #[] }] 49 8 #[] #[{ accessFlags := 26, nameIndex := 5, descriptorIndex := 6, attributes := #[] }, { accessFlags := 18, nameIndex := 15, descriptorIndex := 16, attributes := #[] }])
  fields := #[{ name := "EMPTY", type := (.object "java/util/Optional"), accessFlags := 26, slot := 0, constantValue := 0 }, { name := "value", type := (.object "java/lang/Object"), accessFlags := 18, slot := 0, constantValue := 0 }]
  methods := #[k16m0, k16m1, k16m2]
  instanceTypes := #[(.object "java/lang/Object")]
  staticTypes := #[(.object "java/util/Optional")]
  resolved := Array.replicate 187 none
  statics := some 3 }

def pool17 : Array CpInfo := pool [(2, .class_ 4), (1, u "java/lang/Exception"), (0, u "<init>"), (0, u "()V"), (9, .class_ 17), (0, u "java/io/IOException"), (0, u "serialVersionUID"), (0, u "J")] 14

def k17m0 : Method := { name := "<init>", desc := "()V", sig := { parameters := [], returnType := none }, accessFlags := 1, code := none }
/-- java/io/IOException -/
def k17 : Class := { plain "java/io/IOException" (some 9) with
  accessFlags := 33
  interfaces := #[]
  cf := some (fileOf pool17 16 #[] #[{ accessFlags := 1, nameIndex := 5, descriptorIndex := 6, attributes := #[] }] 33 2 #[] #[{ accessFlags := 24, nameIndex := 18, descriptorIndex := 19, attributes := #[] }])
  fields := #[{ name := "serialVersionUID", type := .long, accessFlags := 24, slot := 0, constantValue := 0 }]
  methods := #[k17m0]
  instanceTypes := #[(.object "java/lang/Object"), (.object "java/lang/String"), (.object "java/lang/Throwable"), (.array (.object "java/lang/StackTraceElement")), .int, (.object "java/util/List")]
  staticTypes := #[.long]
  resolved := Array.replicate 34 none
  statics := none }

def pool18 : Array CpInfo := pool [(1, .class_ 2), (0, u "java/lang/StringBuilder"), (0, .methodref 1 4), (0, .nameAndType 5 6), (0, u "<init>"), (0, u "()V"), (1, .class_ 10), (1, u "com/example/makewhole/makewhole/plandata/PlanDataFormatException"), (0, u "place"), (0, u "(Ljava/lang/String;J)Ljava/lang/String;"), (0, .methodref 1 14), (0, .nameAndType 15 16), (0, u "append"), (0, u "(Ljava/lang/String;)Ljava/lang/StringBuilder;"), (2, .methodref 1 20), (0, .nameAndType 21 22), (0, u "toString"), (0, u "()Ljava/lang/String;"), (1, .class_ 26), (1, u "java/io/IOException"), (1, .string 29), (0, u ", line "), (0, .methodref 1 31), (0, .nameAndType 15 32), (0, u "(J)Ljava/lang/StringBuilder;"), (0, u "serialVersionUID"), (0, u "J")] 8

def k18c0 : Code := { maxStack := 3, maxLocals := 3, code := prog_43_method_2_code, exceptionTable := #[], attributes := #[] }
def k18m0 : Method := { name := "place", desc := "(Ljava/lang/String;J)Ljava/lang/String;", sig := { parameters := [(.object "java/lang/String"), .long], returnType := some (.object "java/lang/String") }, accessFlags := 9, code := some k18c0 }
/-- com/example/makewhole/makewhole/plandata/PlanDataFormatException -/
def k18 : Class := { plain "com/example/makewhole/makewhole/plandata/PlanDataFormatException" (some 17) with
  accessFlags := 33
  interfaces := #[]
  cf := some (fileOf pool18 8 #[] #[{ accessFlags := 9, nameIndex := 11, descriptorIndex := 12, attributes := #[] }] 33 24 #[] #[{ accessFlags := 26, nameIndex := 33, descriptorIndex := 34, attributes := #[] }])
  fields := #[{ name := "serialVersionUID", type := .long, accessFlags := 26, slot := 0, constantValue := 0 }]
  methods := #[k18m0]
  instanceTypes := #[(.object "java/lang/Object"), (.object "java/lang/String"), (.object "java/lang/Throwable"), (.array (.object "java/lang/StackTraceElement")), .int, (.object "java/util/List")]
  staticTypes := #[.long]
  resolved := Array.replicate 43 none
  statics := none }

def pool19 : Array CpInfo := pool [(1, .class_ 2), (0, u "java/lang/Appendable"), (0, .class_ 4), (0, u "java/lang/Object")] 9

/-- java/lang/Appendable -/
def k19 : Class := { plain "java/lang/Appendable" (some 0) with
  accessFlags := 1537
  interfaces := #[]
  cf := some (fileOf pool19 1 #[] #[] 1537 3 #[] #[])
  fields := #[]
  methods := #[]
  instanceTypes := #[]
  staticTypes := #[]
  resolved := Array.replicate 14 none
  statics := none }

def pool20 : Array CpInfo := pool [(1, .class_ 2), (0, u "java/lang/String"), (0, .methodref 4 5), (0, .class_ 6), (0, .nameAndType 7 8), (0, u "java/lang/Object"), (0, u "<init>"), (0, u "()V"), (1, .class_ 12), (1, u "java/lang/AbstractStringBuilder"), (0, u "EMPTYVALUE"), (0, u "[B"), (0, .fieldref 10 16), (0, .nameAndType 17 14), (0, u "value"), (0, .fieldref 1 19), (0, .nameAndType 20 21), (0, u "COMPACT_STRINGS"), (0, u "Z"), (0, .fieldref 10 23), (0, .nameAndType 24 25), (0, u "coder"), (0, u "B"), (6, .methodref 1 33), (0, .nameAndType 34 35), (0, u "length"), (0, u "()I"), (3, .integer 2147483647), (0, .methodref 1 41), (0, .nameAndType 24 42), (0, u "()B"), (2, u "append"), (0, u "(Ljava/lang/String;)Ljava/lang/AbstractStringBuilder;"), (1, .class_ 49), (0, u "java/lang/CharSequence"), (19, u "(Ljava/lang/String;)V"), (5, u "maybeLatin1"), (3, .fieldref 10 80), (0, .nameAndType 81 82), (0, u "count"), (0, u "I"), (0, .methodref 10 84), (0, .nameAndType 85 86), (0, u "isLatin1"), (0, u "()Z"), (13, .methodref 10 101), (0, .nameAndType 102 103), (0, u "ensureCapacityInternal"), (0, u "(I)V"), (0, .methodref 10 105), (0, .nameAndType 106 107), (0, u "newCapacity"), (0, u "(I)I"), (0, .methodref 109 110), (0, .class_ 111), (0, .nameAndType 112 113), (0, u "java/util/Arrays"), (0, u "copyOf"), (0, u "([BI)[B"), (0, .methodref 115 116), (0, .class_ 117), (0, .nameAndType 118 119), (0, u "jdk/internal/util/ArraysSupport"), (0, u "newLength"), (0, u "(III)I"), (68, u "getChars"), (19, .methodref 10 209), (0, .nameAndType 210 211), (0, u "putStringAt"), (0, u "(ILjava/lang/String;)V"), (5, u "inflateIfNeededFor"), (2, .nameAndType 221 222), (0, u "getBytes"), (0, u "([BIB)V"), (24, u "stringSize"), (6, .methodref 255 256), (0, .class_ 257), (0, .nameAndType 247 258), (0, u "java/lang/Long"), (0, u "(J)I"), (0, .methodref 255 260), (0, .nameAndType 188 261), (0, u "(JI[B)I"), (135, .methodref 10 398), (0, .nameAndType 217 69), (0, .methodref 1 220), (3, u "()[B"), (40, .class_ 445), (0, u "java/lang/Appendable"), (67, u "(J)Ljava/lang/AbstractStringBuilder;"), (38, u "getValue")] 56

def k20m0 : Method := { name := "<init>", desc := "()V", sig := { parameters := [], returnType := none }, accessFlags := 0, code := none }
def k20c1 : Code := { maxStack := 2, maxLocals := 2, code := jdk_68_method_2_code, exceptionTable := #[], attributes := #[] }
def k20m1 : Method := { name := "<init>", desc := "(I)V", sig := { parameters := [.int], returnType := none }, accessFlags := 0, code := some k20c1 }
def k20c2 : Code := { maxStack := 1, maxLocals := 1, code := jdk_68_method_6_code, exceptionTable := #[], attributes := #[] }
def k20m2 : Method := { name := "length", desc := "()I", sig := { parameters := [], returnType := some .int }, accessFlags := 1, code := some k20c2 }
def k20c3 : Code := { maxStack := 4, maxLocals := 3, code := jdk_68_method_9_code, exceptionTable := #[], attributes := #[] }
def k20m3 : Method := { name := "ensureCapacityInternal", desc := "(I)V", sig := { parameters := [.int], returnType := none }, accessFlags := 2, code := some k20c3 }
def k20c4 : Code := { maxStack := 5, maxLocals := 6, code := jdk_68_method_10_code, exceptionTable := #[], attributes := #[] }
def k20m4 : Method := { name := "newCapacity", desc := "(I)I", sig := { parameters := [.int], returnType := some .int }, accessFlags := 2, code := some k20c4 }
def k20c5 : Code := { maxStack := 3, maxLocals := 3, code := jdk_68_method_22_code, exceptionTable := #[], attributes := #[] }
def k20m5 : Method := { name := "append", desc := "(Ljava/lang/String;)Ljava/lang/AbstractStringBuilder;", sig := { parameters := [(.object "java/lang/String")], returnType := some (.object "java/lang/AbstractStringBuilder") }, accessFlags := 1, code := some k20c5 }
def k20c6 : Code := { maxStack := 5, maxLocals := 5, code := jdk_68_method_33_code, exceptionTable := #[], attributes := #[] }
def k20m6 : Method := { name := "append", desc := "(J)Ljava/lang/AbstractStringBuilder;", sig := { parameters := [.long], returnType := some (.object "java/lang/AbstractStringBuilder") }, accessFlags := 1, code := some k20c6 }
def k20c7 : Code := { maxStack := 1, maxLocals := 1, code := jdk_68_method_64_code, exceptionTable := #[], attributes := #[] }
def k20m7 : Method := { name := "getValue", desc := "()[B", sig := { parameters := [], returnType := some (.array .byte) }, accessFlags := 16, code := some k20c7 }
def k20c8 : Code := { maxStack := 1, maxLocals := 1, code := jdk_68_method_68_code, exceptionTable := #[], attributes := #[] }
def k20m8 : Method := { name := "isLatin1", desc := "()Z", sig := { parameters := [], returnType := some .boolean }, accessFlags := 16, code := some k20c8 }
def k20c9 : Code := { maxStack := 2, maxLocals := 2, code := jdk_68_method_71_code, exceptionTable := #[], attributes := #[] }
def k20m9 : Method := { name := "inflateIfNeededFor", desc := "(Ljava/lang/String;)V", sig := { parameters := [(.object "java/lang/String")], returnType := none }, accessFlags := 2, code := some k20c9 }
def k20c10 : Code := { maxStack := 4, maxLocals := 3, code := jdk_68_method_73_code, exceptionTable := #[], attributes := #[] }
def k20m10 : Method := { name := "putStringAt", desc := "(ILjava/lang/String;)V", sig := { parameters := [.int, (.object "java/lang/String")], returnType := none }, accessFlags := 2, code := some k20c10 }
/-- java/lang/AbstractStringBuilder -/
def k20 : Class := { plain "java/lang/AbstractStringBuilder" (some 0) with
  accessFlags := 1056
  interfaces := #[19, 4]
  cf := some (fileOf pool20 10 #[] #[{ accessFlags := 0, nameIndex := 7, descriptorIndex := 8, attributes := #[] }, { accessFlags := 0, nameIndex := 7, descriptorIndex := 103, attributes := #[] }, { accessFlags := 1, nameIndex := 34, descriptorIndex := 35, attributes := #[] }, { accessFlags := 2, nameIndex := 102, descriptorIndex := 103, attributes := #[] }, { accessFlags := 2, nameIndex := 106, descriptorIndex := 107, attributes := #[] }, { accessFlags := 1, nameIndex := 45, descriptorIndex := 46, attributes := #[] }, { accessFlags := 1, nameIndex := 45, descriptorIndex := 513, attributes := #[] }, { accessFlags := 16, nameIndex := 552, descriptorIndex := 403, attributes := #[] }, { accessFlags := 16, nameIndex := 85, descriptorIndex := 86, attributes := #[] }, { accessFlags := 2, nameIndex := 217, descriptorIndex := 69, attributes := #[] }, { accessFlags := 2, nameIndex := 210, descriptorIndex := 211, attributes := #[] }] 1056 4 #[444, 48] #[{ accessFlags := 0, nameIndex := 17, descriptorIndex := 14, attributes := #[] }, { accessFlags := 0, nameIndex := 24, descriptorIndex := 25, attributes := #[] }, { accessFlags := 0, nameIndex := 75, descriptorIndex := 21, attributes := #[] }, { accessFlags := 0, nameIndex := 81, descriptorIndex := 82, attributes := #[] }, { accessFlags := 26, nameIndex := 13, descriptorIndex := 14, attributes := #[] }])
  fields := #[{ name := "value", type := (.array .byte), accessFlags := 0, slot := 0, constantValue := 0 }, { name := "coder", type := .byte, accessFlags := 0, slot := 1, constantValue := 0 }, { name := "maybeLatin1", type := .boolean, accessFlags := 0, slot := 2, constantValue := 0 }, { name := "count", type := .int, accessFlags := 0, slot := 3, constantValue := 0 }, { name := "EMPTYVALUE", type := (.array .byte), accessFlags := 26, slot := 0, constantValue := 0 }]
  methods := #[k20m0, k20m1, k20m2, k20m3, k20m4, k20m5, k20m6, k20m7, k20m8, k20m9, k20m10]
  instanceTypes := #[(.array .byte), .byte, .boolean, .int]
  staticTypes := #[(.array .byte)]
  resolved := Array.replicate 609 none
  statics := none }

def pool21 : Array CpInfo := pool [(1, .methodref 2 3), (0, .class_ 4), (0, .nameAndType 5 6), (0, u "java/lang/AbstractStringBuilder"), (0, u "<init>"), (0, u "(I)V"), (11, .class_ 20), (1, u "java/lang/String"), (3, .class_ 26), (1, u "java/lang/StringBuilder"), (0, u "append"), (0, u "(Ljava/lang/String;)Ljava/lang/StringBuilder;"), (0, .methodref 2 30), (0, .nameAndType 27 31), (0, u "(Ljava/lang/String;)Ljava/lang/AbstractStringBuilder;"), (24, .methodref 2 57), (0, .nameAndType 27 58), (0, u "(J)Ljava/lang/AbstractStringBuilder;"), (78, .methodref 18 138), (0, .nameAndType 5 139), (0, u "(Ljava/lang/StringBuilder;)V"), (5, u "()V"), (10, u "()I"), (124, u "(J)Ljava/lang/StringBuilder;"), (61, .methodref 2 344), (0, .nameAndType 345 156), (0, u "length"), (3, .class_ 350), (0, u "java/lang/Appendable"), (0, .class_ 352), (0, u "java/io/Serializable"), (0, .class_ 354), (0, u "java/lang/Comparable"), (0, .class_ 356), (0, u "java/lang/CharSequence"), (0, u "serialVersionUID"), (0, u "J"), (40, u "toString"), (0, u "()Ljava/lang/String;")] 21

def k21c0 : Code := { maxStack := 2, maxLocals := 1, code := jdk_67_method_1_code, exceptionTable := #[], attributes := #[] }
def k21m0 : Method := { name := "<init>", desc := "()V", sig := { parameters := [], returnType := none }, accessFlags := 1, code := some k21c0 }
def k21c1 : Code := { maxStack := 2, maxLocals := 2, code := jdk_67_method_7_code, exceptionTable := #[], attributes := #[] }
def k21m1 : Method := { name := "append", desc := "(Ljava/lang/String;)Ljava/lang/StringBuilder;", sig := { parameters := [(.object "java/lang/String")], returnType := some (.object "java/lang/StringBuilder") }, accessFlags := 1, code := some k21c1 }
def k21c2 : Code := { maxStack := 3, maxLocals := 3, code := jdk_67_method_16_code, exceptionTable := #[], attributes := #[] }
def k21m2 : Method := { name := "append", desc := "(J)Ljava/lang/StringBuilder;", sig := { parameters := [.long], returnType := some (.object "java/lang/StringBuilder") }, accessFlags := 1, code := some k21c2 }
def k21c3 : Code := { maxStack := 3, maxLocals := 1, code := jdk_67_method_42_code, exceptionTable := #[], attributes := #[] }
def k21m3 : Method := { name := "toString", desc := "()Ljava/lang/String;", sig := { parameters := [], returnType := some (.object "java/lang/String") }, accessFlags := 1, code := some k21c3 }
def k21c4 : Code := { maxStack := 1, maxLocals := 1, code := jdk_67_method_93_code, exceptionTable := #[], attributes := #[] }
def k21m4 : Method := { name := "length", desc := "()I", sig := { parameters := [], returnType := some .int }, accessFlags := 4161, code := some k21c4 }
/-- java/lang/StringBuilder -/
def k21 : Class := { plain "java/lang/StringBuilder" (some 20) with
  accessFlags := 49
  interfaces := #[19, 2, 3, 4]
  cf := some (fileOf pool21 24 #[] #[{ accessFlags := 1, nameIndex := 5, descriptorIndex := 145, attributes := #[] }, { accessFlags := 1, nameIndex := 27, descriptorIndex := 28, attributes := #[] }, { accessFlags := 1, nameIndex := 27, descriptorIndex := 281, attributes := #[] }, { accessFlags := 1, nameIndex := 399, descriptorIndex := 400, attributes := #[] }, { accessFlags := 4161, nameIndex := 345, descriptorIndex := 156, attributes := #[] }] 49 2 #[349, 351, 353, 355] #[{ accessFlags := 24, nameIndex := 357, descriptorIndex := 358, attributes := #[] }])
  fields := #[{ name := "serialVersionUID", type := .long, accessFlags := 24, slot := 0, constantValue := 0 }]
  methods := #[k21m0, k21m1, k21m2, k21m3, k21m4]
  instanceTypes := #[(.array .byte), .byte, .boolean, .int]
  staticTypes := #[.long]
  resolved := Array.replicate 422 none
  statics := none }

def pool22 : Array CpInfo := pool [(2, .class_ 4), (1, u "java/lang/Object"), (0, u "<init>"), (0, u "()V"), (1, .class_ 10), (1, u "java/lang/System"), (0, u "allowSecurityManager"), (0, u "I"), (16, u "cons"), (0, u "Ljava/io/Console;"), (77, .class_ 110), (1, u "java/lang/System$CallersHolder"), (43, u "initialErrStream"), (0, u "Ljava/io/PrintStream;"), (19, u "security"), (0, u "Ljava/lang/SecurityManager;"), (31, .class_ 209), (0, u "java/lang/System$1"), (7, u "props"), (0, u "Ljava/util/Properties;"), (2, u "lineSeparator"), (0, u "Ljava/lang/String;"), (96, .class_ 321), (1, u "java/lang/System$LoggerFinder"), (5, .class_ 328), (0, u "java/lang/System$Logger"), (67, u "err"), (2, u "out"), (91, u "notSupportedJnuEncoding"), (15, u "in"), (17, u "initialIn"), (0, u "Ljava/io/InputStream;"), (35, u "bootLayer"), (0, u "Ljava/lang/ModuleLayer;"), (99, .class_ 664), (0, u "java/lang/System$2"), (9, u "NEVER"), (2, u "MAYBE"), (49, u "arraycopy"), (0, u "(Ljava/lang/Object;ILjava/lang/Object;II)V"), (72, .class_ 802), (0, u "java/lang/System$Logger$Level")] 31

def k22m0 : Method := { name := "<init>", desc := "()V", sig := { parameters := [], returnType := none }, accessFlags := 2, code := none }
def k22m1 : Method := { name := "arraycopy", desc := "(Ljava/lang/Object;ILjava/lang/Object;II)V", sig := { parameters := [(.object "java/lang/Object"), .int, (.object "java/lang/Object"), .int, .int], returnType := none }, accessFlags := 265, code := none }
/-- java/lang/System -/
def k22 : Class := { plain "java/lang/System" (some 0) with
  accessFlags := 49
  interfaces := #[]
  cf := some (fileOf pool22 8 #[.nestMembers #[319, 327, 801, 108, 663, 208]] #[{ accessFlags := 2, nameIndex := 5, descriptorIndex := 6, attributes := #[] }, { accessFlags := 265, nameIndex := 727, descriptorIndex := 728, attributes := #[] }] 49 2 #[] #[{ accessFlags := 25, nameIndex := 507, descriptorIndex := 526, attributes := #[] }, { accessFlags := 25, nameIndex := 399, descriptorIndex := 155, attributes := #[] }, { accessFlags := 25, nameIndex := 396, descriptorIndex := 155, attributes := #[] }, { accessFlags := 10, nameIndex := 525, descriptorIndex := 526, attributes := #[] }, { accessFlags := 26, nameIndex := 674, descriptorIndex := 12, attributes := #[] }, { accessFlags := 26, nameIndex := 677, descriptorIndex := 12, attributes := #[] }, { accessFlags := 10, nameIndex := 11, descriptorIndex := 12, attributes := #[] }, { accessFlags := 74, nameIndex := 175, descriptorIndex := 176, attributes := #[] }, { accessFlags := 10, nameIndex := 491, descriptorIndex := 222, attributes := #[] }, { accessFlags := 74, nameIndex := 29, descriptorIndex := 30, attributes := #[] }, { accessFlags := 74, nameIndex := 154, descriptorIndex := 155, attributes := #[] }, { accessFlags := 10, nameIndex := 217, descriptorIndex := 218, attributes := #[] }, { accessFlags := 10, nameIndex := 221, descriptorIndex := 222, attributes := #[] }, { accessFlags := 8, nameIndex := 562, descriptorIndex := 563, attributes := #[] }])
  fields := #[{ name := "in", type := (.object "java/io/InputStream"), accessFlags := 25, slot := 0, constantValue := 0 }, { name := "out", type := (.object "java/io/PrintStream"), accessFlags := 25, slot := 1, constantValue := 0 }, { name := "err", type := (.object "java/io/PrintStream"), accessFlags := 25, slot := 2, constantValue := 0 }, { name := "initialIn", type := (.object "java/io/InputStream"), accessFlags := 10, slot := 3, constantValue := 0 }, { name := "NEVER", type := .int, accessFlags := 26, slot := 4, constantValue := 0 }, { name := "MAYBE", type := .int, accessFlags := 26, slot := 5, constantValue := 0 }, { name := "allowSecurityManager", type := .int, accessFlags := 10, slot := 6, constantValue := 0 }, { name := "security", type := (.object "java/lang/SecurityManager"), accessFlags := 74, slot := 7, constantValue := 0 }, { name := "notSupportedJnuEncoding", type := (.object "java/lang/String"), accessFlags := 10, slot := 8, constantValue := 0 }, { name := "cons", type := (.object "java/io/Console"), accessFlags := 74, slot := 9, constantValue := 0 }, { name := "initialErrStream", type := (.object "java/io/PrintStream"), accessFlags := 74, slot := 10, constantValue := 0 }, { name := "props", type := (.object "java/util/Properties"), accessFlags := 10, slot := 11, constantValue := 0 }, { name := "lineSeparator", type := (.object "java/lang/String"), accessFlags := 10, slot := 12, constantValue := 0 }, { name := "bootLayer", type := (.object "java/lang/ModuleLayer"), accessFlags := 8, slot := 13, constantValue := 0 }]
  methods := #[k22m0, k22m1]
  instanceTypes := #[]
  staticTypes := #[(.object "java/io/InputStream"), (.object "java/io/PrintStream"), (.object "java/io/PrintStream"), (.object "java/io/InputStream"), .int, .int, .int, (.object "java/lang/SecurityManager"), (.object "java/lang/String"), (.object "java/io/Console"), (.object "java/io/PrintStream"), (.object "java/util/Properties"), (.object "java/lang/String"), (.object "java/lang/ModuleLayer")]
  resolved := Array.replicate 834 none
  statics := none }

def pool23 : Array CpInfo := pool [(2, .class_ 4), (1, u "java/lang/Object"), (0, u "<init>"), (0, u "()V"), (1, .class_ 10), (1, u "java/lang/Number"), (2, .class_ 14), (0, u "java/io/Serializable"), (0, u "serialVersionUID"), (0, u "J")] 20

def k23m0 : Method := { name := "<init>", desc := "()V", sig := { parameters := [], returnType := none }, accessFlags := 1, code := none }
/-- java/lang/Number -/
def k23 : Class := { plain "java/lang/Number" (some 0) with
  accessFlags := 1057
  interfaces := #[2]
  cf := some (fileOf pool23 8 #[] #[{ accessFlags := 1, nameIndex := 5, descriptorIndex := 6, attributes := #[] }] 1057 2 #[13] #[{ accessFlags := 26, nameIndex := 15, descriptorIndex := 16, attributes := #[] }])
  fields := #[{ name := "serialVersionUID", type := .long, accessFlags := 26, slot := 0, constantValue := 0 }]
  methods := #[k23m0]
  instanceTypes := #[]
  staticTypes := #[.long]
  resolved := Array.replicate 37 none
  statics := none }

def pool24 : Array CpInfo := pool [(1, .class_ 2), (0, u "java/lang/Long"), (15, .class_ 20), (1, u "java/lang/Integer"), (32, .long 10), (47, u "(J)I"), (18, u "stringSize"), (2, u "getChars"), (0, u "(JI[B)I"), (4, .long 18446744071562067968), (1, .long 100), (1, .fieldref 18 134), (0, .nameAndType 135 136), (0, u "DigitOnes"), (0, u "[B"), (0, .fieldref 18 138), (0, .nameAndType 139 136), (0, u "DigitTens"), (0, .long 18446744073709551606), (94, .class_ 237), (1, u "java/lang/Long$LongCache"), (33, .class_ 272), (0, u "java/lang/Number"), (2, u "value"), (0, u "J"), (84, u "TYPE"), (0, u "Ljava/lang/Class;"), (0, .class_ 364), (0, u "java/lang/Comparable"), (0, .class_ 366), (0, u "java/lang/constant/Constable"), (0, .class_ 368), (0, u "java/lang/constant/ConstantDesc"), (0, u "MIN_VALUE"), (1, u "MAX_VALUE"), (4, u "SIZE"), (0, u "I"), (1, u "BYTES"), (1, u "serialVersionUID")] 142

def k24c0 : Code := { maxStack := 4, maxLocals := 11, code := jdk_35_method_14_code, exceptionTable := #[], attributes := #[] }
def k24m0 : Method := { name := "getChars", desc := "(JI[B)I", sig := { parameters := [.long, .int, (.array .byte)], returnType := some .int }, accessFlags := 8, code := some k24c0 }
def k24c1 : Code := { maxStack := 4, maxLocals := 6, code := jdk_35_method_15_code, exceptionTable := #[], attributes := #[] }
def k24m1 : Method := { name := "stringSize", desc := "(J)I", sig := { parameters := [.long], returnType := some .int }, accessFlags := 8, code := some k24c1 }
/-- java/lang/Long -/
def k24 : Class := { plain "java/lang/Long" (some 23) with
  accessFlags := 49
  interfaces := #[3, 5, 6]
  cf := some (fileOf pool24 1 #[.nestMembers #[235]] #[{ accessFlags := 8, nameIndex := 123, descriptorIndex := 124, attributes := #[] }, { accessFlags := 8, nameIndex := 120, descriptorIndex := 101, attributes := #[] }] 49 271 #[363, 365, 367] #[{ accessFlags := 25, nameIndex := 369, descriptorIndex := 276, attributes := #[] }, { accessFlags := 25, nameIndex := 371, descriptorIndex := 276, attributes := #[] }, { accessFlags := 25, nameIndex := 361, descriptorIndex := 362, attributes := #[] }, { accessFlags := 18, nameIndex := 275, descriptorIndex := 276, attributes := #[] }, { accessFlags := 25, nameIndex := 376, descriptorIndex := 377, attributes := #[] }, { accessFlags := 25, nameIndex := 379, descriptorIndex := 377, attributes := #[] }, { accessFlags := 26, nameIndex := 381, descriptorIndex := 276, attributes := #[] }])
  fields := #[{ name := "MIN_VALUE", type := .long, accessFlags := 25, slot := 0, constantValue := 0 }, { name := "MAX_VALUE", type := .long, accessFlags := 25, slot := 1, constantValue := 0 }, { name := "TYPE", type := (.object "java/lang/Class"), accessFlags := 25, slot := 2, constantValue := 0 }, { name := "value", type := .long, accessFlags := 18, slot := 0, constantValue := 0 }, { name := "SIZE", type := .int, accessFlags := 25, slot := 3, constantValue := 0 }, { name := "BYTES", type := .int, accessFlags := 25, slot := 4, constantValue := 0 }, { name := "serialVersionUID", type := .long, accessFlags := 26, slot := 5, constantValue := 0 }]
  methods := #[k24m0, k24m1]
  instanceTypes := #[.long]
  staticTypes := #[.long, .long, (.object "java/lang/Class"), .int, .int, .long]
  resolved := Array.replicate 524 none
  statics := none }

def pool25 : Array CpInfo := pool [(1, .class_ 2), (0, u "java/lang/Integer"), (16, u "digits"), (0, u "[C"), (64, u "DigitOnes"), (0, u "[B"), (2, u "DigitTens"), (99, .class_ 190), (0, u "java/lang/Integer$IntegerCache"), (3, u "I"), (8, .class_ 204), (0, u "java/lang/Number"), (2, u "value"), (94, u "TYPE"), (0, u "Ljava/lang/Class;"), (0, .class_ 305), (0, u "java/lang/Comparable"), (0, .class_ 307), (0, u "java/lang/constant/Constable"), (0, .class_ 309), (0, u "java/lang/constant/ConstantDesc"), (0, u "MIN_VALUE"), (1, u "MAX_VALUE"), (3, u "SIZE"), (1, u "BYTES"), (1, u "serialVersionUID"), (0, u "J")] 131

/-- java/lang/Integer -/
def k25 : Class := { plain "java/lang/Integer" (some 23) with
  accessFlags := 49
  interfaces := #[3, 5, 6]
  cf := some (fileOf pool25 1 #[.nestMembers #[189]] #[] 49 203 #[304, 306, 308] #[{ accessFlags := 25, nameIndex := 310, descriptorIndex := 194, attributes := #[] }, { accessFlags := 25, nameIndex := 312, descriptorIndex := 194, attributes := #[] }, { accessFlags := 25, nameIndex := 302, descriptorIndex := 303, attributes := #[] }, { accessFlags := 24, nameIndex := 19, descriptorIndex := 20, attributes := #[] }, { accessFlags := 24, nameIndex := 89, descriptorIndex := 86, attributes := #[] }, { accessFlags := 24, nameIndex := 85, descriptorIndex := 86, attributes := #[] }, { accessFlags := 18, nameIndex := 207, descriptorIndex := 194, attributes := #[] }, { accessFlags := 25, nameIndex := 316, descriptorIndex := 194, attributes := #[] }, { accessFlags := 25, nameIndex := 318, descriptorIndex := 194, attributes := #[] }, { accessFlags := 26, nameIndex := 320, descriptorIndex := 321, attributes := #[] }])
  fields := #[{ name := "MIN_VALUE", type := .int, accessFlags := 25, slot := 0, constantValue := 0 }, { name := "MAX_VALUE", type := .int, accessFlags := 25, slot := 1, constantValue := 0 }, { name := "TYPE", type := (.object "java/lang/Class"), accessFlags := 25, slot := 2, constantValue := 0 }, { name := "digits", type := (.array .char), accessFlags := 24, slot := 3, constantValue := 0 }, { name := "DigitTens", type := (.array .byte), accessFlags := 24, slot := 4, constantValue := 0 }, { name := "DigitOnes", type := (.array .byte), accessFlags := 24, slot := 5, constantValue := 0 }, { name := "value", type := .int, accessFlags := 18, slot := 0, constantValue := 0 }, { name := "SIZE", type := .int, accessFlags := 25, slot := 6, constantValue := 0 }, { name := "BYTES", type := .int, accessFlags := 25, slot := 7, constantValue := 0 }, { name := "serialVersionUID", type := .long, accessFlags := 26, slot := 8, constantValue := 0 }]
  methods := #[]
  instanceTypes := #[.int]
  staticTypes := #[.int, .int, (.object "java/lang/Class"), (.array .char), (.array .byte), (.array .byte), .int, .int, .long]
  resolved := Array.replicate 453 none
  statics := some 4 }

def pool26 : Array CpInfo := pool [(2, .class_ 4), (1, u "java/lang/Object"), (0, u "<init>"), (0, u "()V"), (7, .class_ 16), (1, u "java/util/Arrays"), (57, .class_ 76), (1, u "java/util/Arrays$NaturalOrder"), (32, u "()Ljava/lang/Object;"), (3, .class_ 115), (1, u "java/util/Arrays$LegacyMergeSort"), (1, u "Z"), (10, .nameAndType 129 109), (0, u "clone"), (9, u "copyOfRange"), (10, .methodref 151 152), (0, .class_ 153), (0, .nameAndType 154 155), (0, u "java/lang/System"), (0, u "arraycopy"), (0, u "(Ljava/lang/Object;ILjava/lang/Object;II)V"), (146, u "copyOf"), (1, .methodref 305 306), (0, .class_ 307), (0, .nameAndType 308 309), (0, u "java/lang/Math"), (0, u "min"), (0, u "(II)I"), (0, .methodref 311 128), (0, .class_ 312), (0, u "[B"), (26, .methodref 14 340), (0, .nameAndType 341 342), (0, u "copyOfRangeByte"), (0, u "([BII)[B"), (0, .methodref 14 344), (0, .nameAndType 345 346), (0, u "checkLength"), (0, u "(II)V"), (28, .class_ 376), (0, u "java/util/Arrays$ArrayList"), (68, u "$assertionsDisabled"), (269, u "MIN_ARRAY_SORT_GRAN"), (0, u "I"), (2, u "INSERTIONSORT_THRESHOLD"), (149, u "([BI)[B"), (105, .class_ 976), (0, u "java/util/Arrays$ArrayItr")] 52

def k26m0 : Method := { name := "<init>", desc := "()V", sig := { parameters := [], returnType := none }, accessFlags := 2, code := none }
def k26c1 : Code := { maxStack := 6, maxLocals := 3, code := jdk_65_method_121_code, exceptionTable := #[], attributes := #[] }
def k26m1 : Method := { name := "copyOf", desc := "([BI)[B", sig := { parameters := [(.array .byte), .int], returnType := some (.array .byte) }, accessFlags := 9, code := some k26c1 }
def k26c2 : Code := { maxStack := 4, maxLocals := 2, code := jdk_65_method_131_code, exceptionTable := #[], attributes := #[] }
def k26m2 : Method := { name := "checkLength", desc := "(II)V", sig := { parameters := [.int, .int], returnType := none }, accessFlags := 10, code := some k26c2 }
def k26c3 : Code := { maxStack := 3, maxLocals := 3, code := jdk_65_method_132_code, exceptionTable := #[], attributes := #[] }
def k26m3 : Method := { name := "copyOfRange", desc := "([BII)[B", sig := { parameters := [(.array .byte), .int, .int], returnType := some (.array .byte) }, accessFlags := 9, code := some k26c3 }
def k26c4 : Code := { maxStack := 6, maxLocals := 5, code := jdk_65_method_133_code, exceptionTable := #[], attributes := #[] }
def k26m4 : Method := { name := "copyOfRangeByte", desc := "([BII)[B", sig := { parameters := [(.array .byte), .int, .int], returnType := some (.array .byte) }, accessFlags := 10, code := some k26c4 }
/-- java/util/Arrays -/
def k26 : Class := { plain "java/util/Arrays" (some 0) with
  accessFlags := 49
  interfaces := #[]
  cf := some (fileOf pool26 14 #[.nestMembers #[975, 375, 113, 74]] #[{ accessFlags := 2, nameIndex := 5, descriptorIndex := 6, attributes := #[] }, { accessFlags := 9, nameIndex := 302, descriptorIndex := 869, attributes := #[] }, { accessFlags := 10, nameIndex := 345, descriptorIndex := 346, attributes := #[] }, { accessFlags := 9, nameIndex := 139, descriptorIndex := 342, attributes := #[] }, { accessFlags := 10, nameIndex := 341, descriptorIndex := 342, attributes := #[] }] 49 2 #[] #[{ accessFlags := 26, nameIndex := 715, descriptorIndex := 716, attributes := #[] }, { accessFlags := 26, nameIndex := 719, descriptorIndex := 716, attributes := #[] }, { accessFlags := 4120, nameIndex := 445, descriptorIndex := 117, attributes := #[] }])
  fields := #[{ name := "MIN_ARRAY_SORT_GRAN", type := .int, accessFlags := 26, slot := 0, constantValue := 0 }, { name := "INSERTIONSORT_THRESHOLD", type := .int, accessFlags := 26, slot := 1, constantValue := 0 }, { name := "$assertionsDisabled", type := .boolean, accessFlags := 4120, slot := 2, constantValue := 0 }]
  methods := #[k26m0, k26m1, k26m2, k26m3, k26m4]
  instanceTypes := #[]
  staticTypes := #[.int, .int, .boolean]
  resolved := Array.replicate 1029 none
  statics := none }

def pool27 : Array CpInfo := pool [(1, .class_ 2), (0, u "java/lang/Math"), (1, .class_ 6), (1, u "java/lang/Object"), (0, u "<init>"), (0, u "()V"), (89, .class_ 100), (1, u "java/lang/Math$RandomNumberGeneratorHolder"), (71, u "negativeZeroFloatBits"), (0, u "J"), (2, u "negativeZeroDoubleBits"), (21, u "max"), (2, u "min"), (43, u "$assertionsDisabled"), (0, u "Z"), (88, u "(II)I"), (2, u "twoToTheDoubleScaleDown"), (0, u "D"), (4, u "twoToTheDoubleScaleUp"), (9, u "E"), (3, u "PI"), (2, u "TAU"), (2, u "DEGREES_TO_RADIANS"), (0, u "RADIANS_TO_DEGREES")] 94

def k27m0 : Method := { name := "<init>", desc := "()V", sig := { parameters := [], returnType := none }, accessFlags := 2, code := none }
def k27c1 : Code := { maxStack := 2, maxLocals := 2, code := jdk_29_method_65_code, exceptionTable := #[], attributes := #[] }
def k27m1 : Method := { name := "max", desc := "(II)I", sig := { parameters := [.int, .int], returnType := some .int }, accessFlags := 9, code := some k27c1 }
def k27c2 : Code := { maxStack := 2, maxLocals := 2, code := jdk_29_method_69_code, exceptionTable := #[], attributes := #[] }
def k27m2 : Method := { name := "min", desc := "(II)I", sig := { parameters := [.int, .int], returnType := some .int }, accessFlags := 9, code := some k27c2 }
/-- java/lang/Math -/
def k27 : Class := { plain "java/lang/Math" (some 0) with
  accessFlags := 49
  interfaces := #[]
  cf := some (fileOf pool27 1 #[.nestMembers #[98]] #[{ accessFlags := 2, nameIndex := 7, descriptorIndex := 8, attributes := #[] }, { accessFlags := 9, nameIndex := 198, descriptorIndex := 335, attributes := #[] }, { accessFlags := 9, nameIndex := 201, descriptorIndex := 335, attributes := #[] }] 49 4 #[] #[{ accessFlags := 25, nameIndex := 354, descriptorIndex := 339, attributes := #[] }, { accessFlags := 25, nameIndex := 358, descriptorIndex := 339, attributes := #[] }, { accessFlags := 25, nameIndex := 361, descriptorIndex := 339, attributes := #[] }, { accessFlags := 26, nameIndex := 364, descriptorIndex := 339, attributes := #[] }, { accessFlags := 26, nameIndex := 365, descriptorIndex := 339, attributes := #[] }, { accessFlags := 26, nameIndex := 172, descriptorIndex := 173, attributes := #[] }, { accessFlags := 26, nameIndex := 176, descriptorIndex := 173, attributes := #[] }, { accessFlags := 8, nameIndex := 344, descriptorIndex := 339, attributes := #[] }, { accessFlags := 8, nameIndex := 338, descriptorIndex := 339, attributes := #[] }, { accessFlags := 4120, nameIndex := 245, descriptorIndex := 246, attributes := #[] }])
  fields := #[{ name := "E", type := .double, accessFlags := 25, slot := 0, constantValue := 0 }, { name := "PI", type := .double, accessFlags := 25, slot := 1, constantValue := 0 }, { name := "TAU", type := .double, accessFlags := 25, slot := 2, constantValue := 0 }, { name := "DEGREES_TO_RADIANS", type := .double, accessFlags := 26, slot := 3, constantValue := 0 }, { name := "RADIANS_TO_DEGREES", type := .double, accessFlags := 26, slot := 4, constantValue := 0 }, { name := "negativeZeroFloatBits", type := .long, accessFlags := 26, slot := 5, constantValue := 0 }, { name := "negativeZeroDoubleBits", type := .long, accessFlags := 26, slot := 6, constantValue := 0 }, { name := "twoToTheDoubleScaleUp", type := .double, accessFlags := 8, slot := 7, constantValue := 0 }, { name := "twoToTheDoubleScaleDown", type := .double, accessFlags := 8, slot := 8, constantValue := 0 }, { name := "$assertionsDisabled", type := .boolean, accessFlags := 4120, slot := 9, constantValue := 0 }]
  methods := #[k27m0, k27m1, k27m2]
  instanceTypes := #[]
  staticTypes := #[.double, .double, .double, .double, .double, .long, .long, .double, .double, .boolean]
  resolved := Array.replicate 460 none
  statics := none }

def pool28 : Array CpInfo := pool [(2, .class_ 4), (1, u "java/lang/Object"), (0, u "<init>"), (0, u "()V"), (1, .class_ 10), (1, u "java/util/AbstractMap"), (42, .class_ 54), (0, u "java/util/Map"), (9, u "keySet"), (0, u "Ljava/util/Set;"), (0, .class_ 67), (0, u "java/util/AbstractMap$1"), (5, u "values"), (0, u "Ljava/util/Collection;"), (0, .class_ 76), (0, u "java/util/AbstractMap$2"), (104, .class_ 182), (0, u "java/util/AbstractMap$ViewCollection"), (0, .class_ 184), (0, u "java/util/AbstractMap$SimpleImmutableEntry"), (0, .class_ 186), (0, u "java/util/AbstractMap$SimpleEntry"), (0, .class_ 188), (0, u "java/util/AbstractMap$2$1"), (0, .class_ 190), (0, u "java/util/AbstractMap$1$1")] 5

def k28m0 : Method := { name := "<init>", desc := "()V", sig := { parameters := [], returnType := none }, accessFlags := 4, code := none }
/-- java/util/AbstractMap -/
def k28 : Class := { plain "java/util/AbstractMap" (some 0) with
  accessFlags := 1057
  interfaces := #[14]
  cf := some (fileOf pool28 8 #[.nestMembers #[181, 183, 185, 75, 187, 66, 189]] #[{ accessFlags := 4, nameIndex := 5, descriptorIndex := 6, attributes := #[] }] 1057 2 #[53] #[{ accessFlags := 128, nameIndex := 64, descriptorIndex := 65, attributes := #[] }, { accessFlags := 128, nameIndex := 73, descriptorIndex := 74, attributes := #[] }])
  fields := #[{ name := "keySet", type := (.object "java/util/Set"), accessFlags := 128, slot := 0, constantValue := 0 }, { name := "values", type := (.object "java/util/Collection"), accessFlags := 128, slot := 1, constantValue := 0 }]
  methods := #[k28m0]
  instanceTypes := #[(.object "java/util/Set"), (.object "java/util/Collection")]
  staticTypes := #[]
  resolved := Array.replicate 196 none
  statics := none }

def pool29 : Array CpInfo := pool [(2, .class_ 4), (1, u "java/util/AbstractMap"), (0, u "<init>"), (0, u "()V"), (1, .class_ 10), (1, u "java/util/ImmutableCollections"), (3, .class_ 16), (1, u "java/util/ImmutableCollections$AbstractImmutableMap"), (2, .class_ 20), (0, u "java/io/Serializable")] 66

def k29m0 : Method := { name := "<init>", desc := "()V", sig := { parameters := [], returnType := none }, accessFlags := 0, code := none }
/-- java/util/ImmutableCollections$AbstractImmutableMap -/
def k29 : Class := { plain "java/util/ImmutableCollections$AbstractImmutableMap" (some 28) with
  accessFlags := 1056
  interfaces := #[2]
  cf := some (fileOf pool29 14 #[.nestHost 8] #[{ accessFlags := 0, nameIndex := 5, descriptorIndex := 6, attributes := #[] }] 1056 2 #[19] #[])
  fields := #[]
  methods := #[k29m0]
  instanceTypes := #[(.object "java/util/Set"), (.object "java/util/Collection")]
  staticTypes := #[]
  resolved := Array.replicate 87 none
  statics := none }

def pool30 : Array CpInfo := pool [(1, .class_ 2), (0, u "java/util/ImmutableCollections"), (1, .class_ 6), (1, u "java/util/ImmutableCollections$AbstractImmutableMap"), (9, .fieldref 17 18), (0, .class_ 19), (0, .nameAndType 20 21), (0, u "java/util/ImmutableCollections$MapN"), (0, u "size"), (0, u "I"), (4, u "table"), (0, u "[Ljava/lang/Object;"), (0, .methodref 29 30), (0, .class_ 31), (0, .nameAndType 32 33), (0, u "java/util/Objects"), (0, u "requireNonNull"), (0, u "(Ljava/lang/Object;)Ljava/lang/Object;"), (26, u "(Ljava/lang/Object;)Z"), (47, u "containsKey"), (3, u "get")] 36

def k30c0 : Code := { maxStack := 2, maxLocals := 2, code := jdk_2605_method_2_code, exceptionTable := #[], attributes := #[] }
def k30m0 : Method := { name := "containsKey", desc := "(Ljava/lang/Object;)Z", sig := { parameters := [(.object "java/lang/Object")], returnType := some .boolean }, accessFlags := 1, code := some k30c0 }
def k30c1 : Code := { maxStack := 3, maxLocals := 3, code := jdk_2605_method_5_code, exceptionTable := #[], attributes := #[] }
def k30m1 : Method := { name := "get", desc := "(Ljava/lang/Object;)Ljava/lang/Object;", sig := { parameters := [(.object "java/lang/Object")], returnType := some (.object "java/lang/Object") }, accessFlags := 1, code := some k30c1 }
/-- java/util/ImmutableCollections$MapN -/
def k30 : Class := { plain "java/util/ImmutableCollections$MapN" (some 29) with
  accessFlags := 48
  interfaces := #[]
  cf := some (fileOf pool30 17 #[.nestHost 1] #[{ accessFlags := 1, nameIndex := 108, descriptorIndex := 60, attributes := #[] }, { accessFlags := 1, nameIndex := 112, descriptorIndex := 33, attributes := #[] }] 48 4 #[] #[{ accessFlags := 16, nameIndex := 26, descriptorIndex := 27, attributes := #[] }, { accessFlags := 16, nameIndex := 20, descriptorIndex := 21, attributes := #[] }])
  fields := #[{ name := "table", type := (.array (.object "java/lang/Object")), accessFlags := 16, slot := 2, constantValue := 0 }, { name := "size", type := .int, accessFlags := 16, slot := 3, constantValue := 0 }]
  methods := #[k30m0, k30m1]
  instanceTypes := #[(.object "java/util/Set"), (.object "java/util/Collection"), (.array (.object "java/lang/Object")), .int]
  staticTypes := #[]
  resolved := Array.replicate 149 none
  statics := none }

def pool31 : Array CpInfo := pool [(2, .class_ 4), (1, u "java/lang/Object"), (0, u "<init>"), (0, u "()V"), (35, .class_ 44), (1, u "java/util/Objects"), (0, u "requireNonNull"), (0, u "(Ljava/lang/Object;)Ljava/lang/Object;")] 137

def k31m0 : Method := { name := "<init>", desc := "()V", sig := { parameters := [], returnType := none }, accessFlags := 2, code := none }
def k31c1 : Code := { maxStack := 2, maxLocals := 1, code := jdk_31_method_10_code, exceptionTable := #[], attributes := #[] }
def k31m1 : Method := { name := "requireNonNull", desc := "(Ljava/lang/Object;)Ljava/lang/Object;", sig := { parameters := [(.object "java/lang/Object")], returnType := some (.object "java/lang/Object") }, accessFlags := 9, code := some k31c1 }
/-- java/util/Objects -/
def k31 : Class := { plain "java/util/Objects" (some 0) with
  accessFlags := 49
  interfaces := #[]
  cf := some (fileOf pool31 42 #[] #[{ accessFlags := 2, nameIndex := 5, descriptorIndex := 6, attributes := #[] }, { accessFlags := 9, nameIndex := 45, descriptorIndex := 46, attributes := #[] }] 49 2 #[] #[])
  fields := #[]
  methods := #[k31m0, k31m1]
  instanceTypes := #[]
  staticTypes := #[]
  resolved := Array.replicate 184 none
  statics := none }

def pool32 : Array CpInfo := pool [(4, .class_ 6), (1, u "java/lang/Object"), (0, u "<init>"), (0, u "()V"), (5, .class_ 16), (1, u "java/lang/StringLatin1"), (73, u "canEncode"), (14, u "(C)Z"), (15, u "$assertionsDisabled"), (0, u "Z"), (98, .class_ 223), (1, u "java/lang/StringLatin1$LinesSpliterator"), (57, u "equals"), (0, u "([B[B)Z"), (97, u "toBytes"), (1, u "(C)[B"), (7, .class_ 391), (0, u "java/lang/StringLatin1$CharsSpliterator")] 3

def k32m0 : Method := { name := "<init>", desc := "()V", sig := { parameters := [], returnType := none }, accessFlags := 0, code := none }
def k32c1 : Code := { maxStack := 2, maxLocals := 1, code := jdk_43_method_3_code, exceptionTable := #[], attributes := #[] }
def k32m1 : Method := { name := "canEncode", desc := "(C)Z", sig := { parameters := [.char], returnType := some .boolean }, accessFlags := 9, code := some k32c1 }
def k32c2 : Code := { maxStack := 3, maxLocals := 3, code := jdk_43_method_13_code, exceptionTable := #[], attributes := #[] }
def k32m2 : Method := { name := "equals", desc := "([B[B)Z", sig := { parameters := [(.array .byte), (.array .byte)], returnType := some .boolean }, accessFlags := 9, code := some k32c2 }
def k32c3 : Code := { maxStack := 4, maxLocals := 1, code := jdk_43_method_46_code, exceptionTable := #[], attributes := #[] }
def k32m3 : Method := { name := "toBytes", desc := "(C)[B", sig := { parameters := [.char], returnType := some (.array .byte) }, accessFlags := 9, code := some k32c3 }
/-- java/lang/StringLatin1 -/
def k32 : Class := { plain "java/lang/StringLatin1" (some 0) with
  accessFlags := 48
  interfaces := #[]
  cf := some (fileOf pool32 14 #[.nestMembers #[390, 221]] #[{ accessFlags := 0, nameIndex := 7, descriptorIndex := 8, attributes := #[] }, { accessFlags := 9, nameIndex := 90, descriptorIndex := 105, attributes := #[] }, { accessFlags := 9, nameIndex := 281, descriptorIndex := 282, attributes := #[] }, { accessFlags := 9, nameIndex := 380, descriptorIndex := 382, attributes := #[] }] 48 4 #[] #[{ accessFlags := 4120, nameIndex := 121, descriptorIndex := 122, attributes := #[] }])
  fields := #[{ name := "$assertionsDisabled", type := .boolean, accessFlags := 4120, slot := 0, constantValue := 0 }]
  methods := #[k32m0, k32m1, k32m2, k32m3]
  instanceTypes := #[]
  staticTypes := #[.boolean]
  resolved := Array.replicate 395 none
  statics := none }

def pool33 : Array CpInfo := pool [(6, .class_ 8), (1, u "java/lang/Object"), (0, u "<init>"), (0, u "()V"), (1, .class_ 14), (1, u "java/lang/StringUTF16"), (31, u "$assertionsDisabled"), (0, u "Z"), (13, u "HI_BYTE_SHIFT"), (0, u "I"), (2, u "LO_BYTE_SHIFT"), (49, .methodref 12 116), (0, .nameAndType 117 118), (0, u "compress"), (0, u "([CI[BII)I"), (3, u "([CII)[B"), (138, u "coderFromArrayLen"), (0, u "([BI)B"), (106, .class_ 371), (1, u "java/lang/StringUTF16$LinesSpliterator"), (58, u "MAX_LENGTH"), (196, .class_ 628), (0, u "java/lang/StringUTF16$CodePointsSpliterator"), (0, .class_ 630), (0, u "java/lang/StringUTF16$CharsSpliterator")] 4

def k33m0 : Method := { name := "<init>", desc := "()V", sig := { parameters := [], returnType := none }, accessFlags := 0, code := none }
def k33c1 : Code := { maxStack := 2, maxLocals := 2, code := jdk_52_method_15_code, exceptionTable := #[], attributes := #[] }
def k33m1 : Method := { name := "coderFromArrayLen", desc := "([BI)B", sig := { parameters := [(.array .byte), .int], returnType := some .byte }, accessFlags := 8, code := some k33c1 }
def k33c2 : Code := { maxStack := 5, maxLocals := 6, code := jdk_52_method_16_code, exceptionTable := #[], attributes := #[] }
def k33m2 : Method := { name := "compress", desc := "([CII)[B", sig := { parameters := [(.array .char), .int, .int], returnType := some (.array .byte) }, accessFlags := 9, code := some k33c2 }
def k33c3 : Code := { maxStack := 3, maxLocals := 7, code := jdk_52_method_21_code, exceptionTable := #[], attributes := #[] }
def k33m3 : Method := { name := "compress", desc := "([CI[BII)I", sig := { parameters := [(.array .char), .int, (.array .byte), .int, .int], returnType := some .int }, accessFlags := 9, code := some k33c3 }
/-- java/lang/StringUTF16 -/
def k33 : Class := { plain "java/lang/StringUTF16" (some 0) with
  accessFlags := 48
  interfaces := #[]
  cf := some (fileOf pool33 12 #[.nestMembers #[627, 629, 369]] #[{ accessFlags := 0, nameIndex := 9, descriptorIndex := 10, attributes := #[] }, { accessFlags := 8, nameIndex := 261, descriptorIndex := 262, attributes := #[] }, { accessFlags := 9, nameIndex := 117, descriptorIndex := 122, attributes := #[] }, { accessFlags := 9, nameIndex := 117, descriptorIndex := 118, attributes := #[] }] 48 6 #[] #[{ accessFlags := 26, nameIndex := 61, descriptorIndex := 62, attributes := #[] }, { accessFlags := 26, nameIndex := 65, descriptorIndex := 62, attributes := #[] }, { accessFlags := 24, nameIndex := 430, descriptorIndex := 62, attributes := #[] }, { accessFlags := 4120, nameIndex := 46, descriptorIndex := 47, attributes := #[] }])
  fields := #[{ name := "HI_BYTE_SHIFT", type := .int, accessFlags := 26, slot := 0, constantValue := 0 }, { name := "LO_BYTE_SHIFT", type := .int, accessFlags := 26, slot := 1, constantValue := 0 }, { name := "MAX_LENGTH", type := .int, accessFlags := 24, slot := 2, constantValue := 0 }, { name := "$assertionsDisabled", type := .boolean, accessFlags := 4120, slot := 3, constantValue := 0 }]
  methods := #[k33m0, k33m1, k33m2, k33m3]
  instanceTypes := #[]
  staticTypes := #[.int, .int, .int, .boolean]
  resolved := Array.replicate 635 none
  statics := none }

def pool34 : Array CpInfo := pool [(9, u "<init>"), (6, .class_ 18), (1, u "java/lang/Object"), (0, u "()V"), (1, .class_ 23), (1, u "jdk/internal/util/ArraysSupport"), (0, u "LOG2_ARRAY_LONG_INDEX_SCALE"), (0, u "I"), (2, u "U"), (0, u "Ljdk/internal/misc/Unsafe;"), (8, u "BIG_ENDIAN"), (0, u "Z"), (8, u "LOG2_BYTE_BIT_SIZE"), (4, u "LOG2_ARRAY_INT_INDEX_SCALE"), (54, u "JLA"), (0, u "Ljdk/internal/access/JavaLangAccess;"), (11, u "LOG2_ARRAY_BOOLEAN_INDEX_SCALE"), (9, u "LOG2_ARRAY_BYTE_INDEX_SCALE"), (5, u "LOG2_ARRAY_CHAR_INDEX_SCALE"), (5, u "LOG2_ARRAY_SHORT_INDEX_SCALE"), (18, u "LOG2_ARRAY_FLOAT_INDEX_SCALE"), (24, u "LOG2_ARRAY_DOUBLE_INDEX_SCALE"), (6, .methodref 195 196), (0, .class_ 197), (0, .nameAndType 198 199), (0, u "java/lang/Math"), (0, u "max"), (0, u "(II)I"), (0, .integer 2147483639), (76, u "T_BOOLEAN"), (2, u "T_CHAR"), (1, u "T_FLOAT"), (1, u "T_DOUBLE"), (1, u "T_BYTE"), (1, u "T_SHORT"), (1, u "T_INT"), (1, u "T_LONG"), (1, u "SOFT_MAX_ARRAY_LENGTH"), (56, u "newLength"), (0, u "(III)I")] 25

def k34m0 : Method := { name := "<init>", desc := "()V", sig := { parameters := [], returnType := none }, accessFlags := 2, code := none }
def k34c1 : Code := { maxStack := 3, maxLocals := 4, code := jdk_48_method_27_code, exceptionTable := #[], attributes := #[] }
def k34m1 : Method := { name := "newLength", desc := "(III)I", sig := { parameters := [.int, .int, .int], returnType := some .int }, accessFlags := 9, code := some k34c1 }
/-- jdk/internal/util/ArraysSupport -/
def k34 : Class := { plain "jdk/internal/util/ArraysSupport" (some 0) with
  accessFlags := 33
  interfaces := #[]
  cf := some (fileOf pool34 21 #[] #[{ accessFlags := 2, nameIndex := 9, descriptorIndex := 19, attributes := #[] }, { accessFlags := 9, nameIndex := 351, descriptorIndex := 352, attributes := #[] }] 33 16 #[] #[{ accessFlags := 24, nameIndex := 28, descriptorIndex := 29, attributes := #[] }, { accessFlags := 26, nameIndex := 38, descriptorIndex := 39, attributes := #[] }, { accessFlags := 25, nameIndex := 121, descriptorIndex := 25, attributes := #[] }, { accessFlags := 25, nameIndex := 131, descriptorIndex := 25, attributes := #[] }, { accessFlags := 25, nameIndex := 137, descriptorIndex := 25, attributes := #[] }, { accessFlags := 25, nameIndex := 143, descriptorIndex := 25, attributes := #[] }, { accessFlags := 25, nameIndex := 53, descriptorIndex := 25, attributes := #[] }, { accessFlags := 25, nameIndex := 24, descriptorIndex := 25, attributes := #[] }, { accessFlags := 25, nameIndex := 162, descriptorIndex := 25, attributes := #[] }, { accessFlags := 25, nameIndex := 187, descriptorIndex := 25, attributes := #[] }, { accessFlags := 26, nameIndex := 48, descriptorIndex := 25, attributes := #[] }, { accessFlags := 25, nameIndex := 277, descriptorIndex := 25, attributes := #[] }, { accessFlags := 25, nameIndex := 280, descriptorIndex := 25, attributes := #[] }, { accessFlags := 25, nameIndex := 282, descriptorIndex := 25, attributes := #[] }, { accessFlags := 25, nameIndex := 284, descriptorIndex := 25, attributes := #[] }, { accessFlags := 25, nameIndex := 286, descriptorIndex := 25, attributes := #[] }, { accessFlags := 25, nameIndex := 288, descriptorIndex := 25, attributes := #[] }, { accessFlags := 25, nameIndex := 290, descriptorIndex := 25, attributes := #[] }, { accessFlags := 25, nameIndex := 292, descriptorIndex := 25, attributes := #[] }, { accessFlags := 26, nameIndex := 108, descriptorIndex := 109, attributes := #[] }, { accessFlags := 25, nameIndex := 294, descriptorIndex := 25, attributes := #[] }])
  fields := #[{ name := "U", type := (.object "jdk/internal/misc/Unsafe"), accessFlags := 24, slot := 0, constantValue := 0 }, { name := "BIG_ENDIAN", type := .boolean, accessFlags := 26, slot := 1, constantValue := 0 }, { name := "LOG2_ARRAY_BOOLEAN_INDEX_SCALE", type := .int, accessFlags := 25, slot := 2, constantValue := 0 }, { name := "LOG2_ARRAY_BYTE_INDEX_SCALE", type := .int, accessFlags := 25, slot := 3, constantValue := 0 }, { name := "LOG2_ARRAY_CHAR_INDEX_SCALE", type := .int, accessFlags := 25, slot := 4, constantValue := 0 }, { name := "LOG2_ARRAY_SHORT_INDEX_SCALE", type := .int, accessFlags := 25, slot := 5, constantValue := 0 }, { name := "LOG2_ARRAY_INT_INDEX_SCALE", type := .int, accessFlags := 25, slot := 6, constantValue := 0 }, { name := "LOG2_ARRAY_LONG_INDEX_SCALE", type := .int, accessFlags := 25, slot := 7, constantValue := 0 }, { name := "LOG2_ARRAY_FLOAT_INDEX_SCALE", type := .int, accessFlags := 25, slot := 8, constantValue := 0 }, { name := "LOG2_ARRAY_DOUBLE_INDEX_SCALE", type := .int, accessFlags := 25, slot := 9, constantValue := 0 }, { name := "LOG2_BYTE_BIT_SIZE", type := .int, accessFlags := 26, slot := 10, constantValue := 0 }, { name := "T_BOOLEAN", type := .int, accessFlags := 25, slot := 11, constantValue := 0 }, { name := "T_CHAR", type := .int, accessFlags := 25, slot := 12, constantValue := 0 }, { name := "T_FLOAT", type := .int, accessFlags := 25, slot := 13, constantValue := 0 }, { name := "T_DOUBLE", type := .int, accessFlags := 25, slot := 14, constantValue := 0 }, { name := "T_BYTE", type := .int, accessFlags := 25, slot := 15, constantValue := 0 }, { name := "T_SHORT", type := .int, accessFlags := 25, slot := 16, constantValue := 0 }, { name := "T_INT", type := .int, accessFlags := 25, slot := 17, constantValue := 0 }, { name := "T_LONG", type := .int, accessFlags := 25, slot := 18, constantValue := 0 }, { name := "JLA", type := (.object "jdk/internal/access/JavaLangAccess"), accessFlags := 26, slot := 19, constantValue := 0 }, { name := "SOFT_MAX_ARRAY_LENGTH", type := .int, accessFlags := 25, slot := 20, constantValue := 0 }]
  methods := #[k34m0, k34m1]
  instanceTypes := #[]
  staticTypes := #[(.object "jdk/internal/misc/Unsafe"), .boolean, .int, .int, .int, .int, .int, .int, .int, .int, .int, .int, .int, .int, .int, .int, .int, .int, .int, (.object "jdk/internal/access/JavaLangAccess"), .int]
  resolved := Array.replicate 378 none
  statics := none }

def pool35 : Array CpInfo := pool [(1, .class_ 2), (0, u "java/lang/Cloneable"), (0, .class_ 4), (0, u "java/lang/Object")] 2

/-- java/lang/Cloneable -/
def k35 : Class := { plain "java/lang/Cloneable" (some 0) with
  accessFlags := 1537
  interfaces := #[]
  cf := some (fileOf pool35 1 #[] #[] 1537 3 #[] #[])
  fields := #[]
  methods := #[]
  instanceTypes := #[]
  staticTypes := #[]
  resolved := Array.replicate 7 none
  statics := none }

def pool36 : Array CpInfo := pool [(2, .class_ 4), (1, u "java/lang/Object"), (0, u "<init>"), (0, u "()V"), (12, .class_ 20), (0, u "java/util/Collections"), (63, u "r"), (0, u "Ljava/util/Random;"), (80, .class_ 167), (0, u "java/util/Collections$UnmodifiableCollection"), (6, .class_ 175), (0, u "java/util/Collections$UnmodifiableSequencedCollection"), (6, .class_ 183), (0, u "java/util/Collections$UnmodifiableSet"), (6, .class_ 191), (0, u "java/util/Collections$UnmodifiableSequencedSet"), (6, .class_ 199), (0, u "java/util/Collections$UnmodifiableSortedSet"), (6, .class_ 207), (0, u "java/util/Collections$UnmodifiableNavigableSet"), (4, .class_ 213), (0, u "java/util/Collections$UnmodifiableList"), (1, .class_ 216), (0, u "java/util/Collections$UnmodifiableRandomAccessList"), (6, .class_ 224), (0, u "java/util/Collections$UnmodifiableMap"), (6, .class_ 232), (0, u "java/util/Collections$UnmodifiableSequencedMap"), (4, .class_ 238), (0, u "java/util/Collections$UnmodifiableSortedMap"), (6, .class_ 246), (0, u "java/util/Collections$UnmodifiableNavigableMap"), (3, .class_ 251), (0, u "java/util/Collections$SynchronizedCollection"), (4, .class_ 257), (0, u "java/util/Collections$SynchronizedSet"), (4, .class_ 263), (0, u "java/util/Collections$SynchronizedSortedSet"), (1, .class_ 266), (0, u "java/util/Collections$SynchronizedNavigableSet"), (1, .class_ 269), (0, u "java/util/Collections$SynchronizedRandomAccessList"), (1, .class_ 272), (0, u "java/util/Collections$SynchronizedList"), (5, .class_ 279), (0, u "java/util/Collections$SynchronizedMap"), (1, .class_ 282), (0, u "java/util/Collections$SynchronizedSortedMap"), (1, .class_ 285), (0, u "java/util/Collections$SynchronizedNavigableMap"), (1, .class_ 288), (0, u "java/util/Collections$CheckedCollection"), (11, .class_ 301), (0, u "java/util/Collections$CheckedQueue"), (3, .class_ 306), (0, u "java/util/Collections$CheckedSet"), (3, .class_ 311), (0, u "java/util/Collections$CheckedSortedSet"), (3, .class_ 316), (0, u "java/util/Collections$CheckedNavigableSet"), (3, .class_ 321), (0, u "java/util/Collections$CheckedRandomAccessList"), (3, .class_ 326), (0, u "java/util/Collections$CheckedList"), (1, .class_ 329), (0, u "java/util/Collections$CheckedMap"), (3, .class_ 334), (0, u "java/util/Collections$CheckedSortedMap"), (3, .class_ 339), (0, u "java/util/Collections$CheckedNavigableMap"), (4, .class_ 346), (1, u "java/util/Collections$EmptyIterator"), (3, .class_ 352), (1, u "java/util/Collections$EmptyListIterator"), (2, .class_ 357), (1, u "java/util/Collections$EmptyEnumeration"), (4, u "EMPTY_SET"), (0, u "Ljava/util/Set;"), (6, u "EMPTY_LIST"), (0, u "Ljava/util/List;"), (2, u "EMPTY_MAP"), (0, u "Ljava/util/Map;"), (4, .class_ 381), (0, u "java/util/Collections$SingletonSet"), (2, .class_ 385), (0, u "java/util/Collections$1"), (1, .class_ 388), (0, u "java/util/Collections$2"), (1, .class_ 391), (0, u "java/util/Collections$SingletonList"), (1, .class_ 394), (0, u "java/util/Collections$SingletonMap"), (22, .class_ 418), (0, u "java/util/Collections$CopiesList"), (4, .class_ 425), (1, u "java/util/Collections$ReverseComparator"), (8, .class_ 435), (0, u "java/util/Collections$ReverseComparator2"), (6, .class_ 443), (0, u "java/util/Collections$3"), (25, .class_ 470), (0, u "java/util/Collections$SetFromMap"), (2, .class_ 474), (0, u "java/util/Collections$SequencedSetFromMap"), (3, .class_ 479), (0, u "java/util/Collections$AsLIFOQueue"), (11, .class_ 492), (0, u "java/util/Collections$EmptySet"), (1, .class_ 495), (0, u "java/util/Collections$EmptyList"), (1, .class_ 498), (0, u "java/util/Collections$EmptyMap"), (1, u "BINARYSEARCH_THRESHOLD"), (0, u "I"), (2, u "REVERSE_THRESHOLD"), (1, u "SHUFFLE_THRESHOLD"), (1, u "FILL_THRESHOLD"), (1, u "ROTATE_THRESHOLD"), (1, u "COPY_THRESHOLD"), (1, u "REPLACEALL_THRESHOLD"), (1, u "INDEXOFSUBLIST_THRESHOLD"), (333, .class_ 851), (0, u "java/util/Collections$CheckedMap$CheckedEntrySet"), (0, .class_ 853), (0, u "java/util/Collections$CheckedMap$CheckedEntrySet$CheckedEntry"), (0, .class_ 855), (0, u "java/util/Collections$CheckedMap$CheckedEntrySet$1"), (0, .class_ 857), (0, u "java/util/Collections$CheckedList$1"), (0, .class_ 859), (0, u "java/util/Collections$CheckedCollection$1"), (0, .class_ 861), (0, u "java/util/Collections$UnmodifiableNavigableMap$EmptyNavigableMap"), (0, .class_ 863), (0, u "java/util/Collections$UnmodifiableMap$UnmodifiableEntrySet"), (0, .class_ 865), (0, u "java/util/Collections$UnmodifiableMap$UnmodifiableEntrySet$UnmodifiableEntry"), (0, .class_ 867), (0, u "java/util/Collections$UnmodifiableMap$UnmodifiableEntrySet$UnmodifiableEntrySetSpliterator"), (0, .class_ 869), (0, u "java/util/Collections$UnmodifiableMap$UnmodifiableEntrySet$1"), (0, .class_ 871), (0, u "java/util/Collections$UnmodifiableList$1"), (0, .class_ 873), (0, u "java/util/Collections$UnmodifiableNavigableSet$EmptyNavigableSet"), (0, .class_ 875), (0, u "java/util/Collections$UnmodifiableCollection$1")] 57

def k36m0 : Method := { name := "<init>", desc := "()V", sig := { parameters := [], returnType := none }, accessFlags := 2, code := none }
/-- java/util/Collections -/
def k36 : Class := { plain "java/util/Collections" (some 0) with
  accessFlags := 33
  interfaces := #[]
  cf := some (fileOf pool36 19 #[.nestMembers #[478, 473, 469, 434, 423, 417, 393, 390, 380, 497, 494, 491, 355, 350, 344, 338, 333, 328, 850, 852, 854, 320, 325, 856, 315, 310, 305, 300, 287, 858, 284, 281, 278, 268, 271, 265, 262, 256, 250, 245, 860, 237, 231, 223, 862, 864, 866, 868, 215, 212, 870, 206, 872, 198, 190, 182, 174, 166, 874, 442, 387, 384]] #[{ accessFlags := 2, nameIndex := 5, descriptorIndex := 6, attributes := #[] }] 33 2 #[] #[{ accessFlags := 26, nameIndex := 500, descriptorIndex := 501, attributes := #[] }, { accessFlags := 26, nameIndex := 504, descriptorIndex := 501, attributes := #[] }, { accessFlags := 26, nameIndex := 506, descriptorIndex := 501, attributes := #[] }, { accessFlags := 26, nameIndex := 508, descriptorIndex := 501, attributes := #[] }, { accessFlags := 26, nameIndex := 510, descriptorIndex := 501, attributes := #[] }, { accessFlags := 26, nameIndex := 512, descriptorIndex := 501, attributes := #[] }, { accessFlags := 26, nameIndex := 514, descriptorIndex := 501, attributes := #[] }, { accessFlags := 26, nameIndex := 516, descriptorIndex := 501, attributes := #[] }, { accessFlags := 10, nameIndex := 84, descriptorIndex := 85, attributes := #[] }, { accessFlags := 25, nameIndex := 362, descriptorIndex := 363, attributes := #[] }, { accessFlags := 25, nameIndex := 370, descriptorIndex := 371, attributes := #[] }, { accessFlags := 25, nameIndex := 374, descriptorIndex := 375, attributes := #[] }])
  fields := #[{ name := "BINARYSEARCH_THRESHOLD", type := .int, accessFlags := 26, slot := 0, constantValue := 0 }, { name := "REVERSE_THRESHOLD", type := .int, accessFlags := 26, slot := 1, constantValue := 0 }, { name := "SHUFFLE_THRESHOLD", type := .int, accessFlags := 26, slot := 2, constantValue := 0 }, { name := "FILL_THRESHOLD", type := .int, accessFlags := 26, slot := 3, constantValue := 0 }, { name := "ROTATE_THRESHOLD", type := .int, accessFlags := 26, slot := 4, constantValue := 0 }, { name := "COPY_THRESHOLD", type := .int, accessFlags := 26, slot := 5, constantValue := 0 }, { name := "REPLACEALL_THRESHOLD", type := .int, accessFlags := 26, slot := 6, constantValue := 0 }, { name := "INDEXOFSUBLIST_THRESHOLD", type := .int, accessFlags := 26, slot := 7, constantValue := 0 }, { name := "r", type := (.object "java/util/Random"), accessFlags := 10, slot := 8, constantValue := 0 }, { name := "EMPTY_SET", type := (.object "java/util/Set"), accessFlags := 25, slot := 9, constantValue := 0 }, { name := "EMPTY_LIST", type := (.object "java/util/List"), accessFlags := 25, slot := 10, constantValue := 0 }, { name := "EMPTY_MAP", type := (.object "java/util/Map"), accessFlags := 25, slot := 11, constantValue := 0 }]
  methods := #[k36m0]
  instanceTypes := #[]
  staticTypes := #[.int, .int, .int, .int, .int, .int, .int, .int, (.object "java/util/Random"), (.object "java/util/Set"), (.object "java/util/List"), (.object "java/util/Map")]
  resolved := Array.replicate 933 none
  statics := some 5 }

def pool37 : Array CpInfo := pool [(2, .class_ 4), (1, u "java/lang/Object"), (0, u "<init>"), (0, u "()V"), (17, .class_ 26), (1, u "jdk/internal/util/Preconditions"), (28, .class_ 56), (0, u "jdk/internal/util/Preconditions$4"), (57, .class_ 115), (0, u "jdk/internal/util/Preconditions$1"), (7, u "SIOOBE_FORMATTER"), (0, u "Ljava/util/function/BiFunction;"), (0, .class_ 126), (0, u "jdk/internal/util/Preconditions$2"), (3, u "AIOOBE_FORMATTER"), (0, .class_ 132), (0, u "jdk/internal/util/Preconditions$3"), (3, u "IOOBE_FORMATTER")] 57

def k37m0 : Method := { name := "<init>", desc := "()V", sig := { parameters := [], returnType := none }, accessFlags := 1, code := none }
/-- jdk/internal/util/Preconditions -/
def k37 : Class := { plain "jdk/internal/util/Preconditions" (some 0) with
  accessFlags := 33
  interfaces := #[]
  cf := some (fileOf pool37 24 #[.nestMembers #[55, 131, 125, 114]] #[{ accessFlags := 1, nameIndex := 5, descriptorIndex := 6, attributes := #[] }] 33 2 #[] #[{ accessFlags := 25, nameIndex := 123, descriptorIndex := 124, attributes := #[] }, { accessFlags := 25, nameIndex := 130, descriptorIndex := 124, attributes := #[] }, { accessFlags := 25, nameIndex := 136, descriptorIndex := 124, attributes := #[] }])
  fields := #[{ name := "SIOOBE_FORMATTER", type := (.object "java/util/function/BiFunction"), accessFlags := 25, slot := 0, constantValue := 0 }, { name := "AIOOBE_FORMATTER", type := (.object "java/util/function/BiFunction"), accessFlags := 25, slot := 1, constantValue := 0 }, { name := "IOOBE_FORMATTER", type := (.object "java/util/function/BiFunction"), accessFlags := 25, slot := 2, constantValue := 0 }]
  methods := #[k37m0]
  instanceTypes := #[]
  staticTypes := #[(.object "java/util/function/BiFunction"), (.object "java/util/function/BiFunction"), (.object "java/util/function/BiFunction")]
  resolved := Array.replicate 194 none
  statics := some 6 }

def pool38 : Array CpInfo := pool [(8, .class_ 10), (1, u "java/lang/Iterable"), (24, .class_ 36), (0, u "java/lang/Object")] 25

/-- java/lang/Iterable -/
def k38 : Class := { plain "java/lang/Iterable" (some 0) with
  accessFlags := 1537
  interfaces := #[]
  cf := some (fileOf pool38 8 #[] #[] 1537 35 #[] #[])
  fields := #[]
  methods := #[]
  instanceTypes := #[]
  staticTypes := #[]
  resolved := Array.replicate 62 none
  statics := none }

def pool39 : Array CpInfo := pool [(10, .class_ 12), (1, u "java/util/Collection"), (47, .class_ 61), (0, u "java/lang/Object"), (0, .class_ 63), (0, u "java/lang/Iterable")] 51

/-- java/util/Collection -/
def k39 : Class := { plain "java/util/Collection" (some 0) with
  accessFlags := 1537
  interfaces := #[38]
  cf := some (fileOf pool39 10 #[] #[] 1537 60 #[62] #[])
  fields := #[]
  methods := #[]
  instanceTypes := #[]
  staticTypes := #[]
  resolved := Array.replicate 115 none
  statics := none }

def pool40 : Array CpInfo := pool [(2, .class_ 4), (1, u "java/lang/Object"), (0, u "<init>"), (0, u "()V"), (1, .class_ 10), (1, u "java/util/AbstractCollection"), (66, .class_ 78), (0, u "java/util/Collection")] 81

def k40m0 : Method := { name := "<init>", desc := "()V", sig := { parameters := [], returnType := none }, accessFlags := 4, code := none }
/-- java/util/AbstractCollection -/
def k40 : Class := { plain "java/util/AbstractCollection" (some 0) with
  accessFlags := 1057
  interfaces := #[39]
  cf := some (fileOf pool40 8 #[] #[{ accessFlags := 4, nameIndex := 5, descriptorIndex := 6, attributes := #[] }] 1057 2 #[77] #[])
  fields := #[]
  methods := #[k40m0]
  instanceTypes := #[]
  staticTypes := #[]
  resolved := Array.replicate 160 none
  statics := none }

def pool41 : Array CpInfo := pool [(8, .class_ 10), (1, u "java/util/SequencedCollection"), (15, .class_ 27), (0, u "java/lang/Object"), (0, .class_ 29), (0, u "java/util/Collection")] 27

/-- java/util/SequencedCollection -/
def k41 : Class := { plain "java/util/SequencedCollection" (some 0) with
  accessFlags := 1537
  interfaces := #[39]
  cf := some (fileOf pool41 8 #[] #[] 1537 26 #[28] #[])
  fields := #[]
  methods := #[]
  instanceTypes := #[]
  staticTypes := #[]
  resolved := Array.replicate 57 none
  statics := none }

def pool42 : Array CpInfo := pool [(8, .class_ 10), (1, u "java/util/List"), (92, .class_ 104), (0, u "java/lang/Object"), (15, .class_ 121), (0, u "java/util/SequencedCollection")] 129

/-- java/util/List -/
def k42 : Class := { plain "java/util/List" (some 0) with
  accessFlags := 1537
  interfaces := #[41]
  cf := some (fileOf pool42 8 #[] #[] 1537 103 #[120] #[])
  fields := #[]
  methods := #[]
  instanceTypes := #[]
  staticTypes := #[]
  resolved := Array.replicate 251 none
  statics := none }

def pool43 : Array CpInfo := pool [(2, .class_ 4), (1, u "java/util/AbstractCollection"), (0, u "<init>"), (0, u "()V"), (1, .class_ 10), (1, u "java/util/AbstractList"), (0, u "modCount"), (0, u "I"), (64, .class_ 78), (0, u "java/util/AbstractList$Itr"), (3, .class_ 83), (0, u "java/util/AbstractList$ListItr"), (9, .class_ 94), (0, u "java/util/AbstractList$RandomAccessSubList"), (3, .class_ 99), (0, u "java/util/AbstractList$SubList"), (33, .class_ 134), (0, u "java/util/List"), (73, .class_ 209), (0, u "java/util/AbstractList$SubList$1"), (0, .class_ 211), (0, u "java/util/AbstractList$RandomAccessSpliterator")] 6

def k43m0 : Method := { name := "<init>", desc := "()V", sig := { parameters := [], returnType := none }, accessFlags := 4, code := none }
/-- java/util/AbstractList -/
def k43 : Class := { plain "java/util/AbstractList" (some 40) with
  accessFlags := 1057
  interfaces := #[42]
  cf := some (fileOf pool43 8 #[.nestMembers #[93, 98, 208, 210, 82, 77]] #[{ accessFlags := 4, nameIndex := 5, descriptorIndex := 6, attributes := #[] }] 1057 2 #[133] #[{ accessFlags := 132, nameIndex := 11, descriptorIndex := 12, attributes := #[] }])
  fields := #[{ name := "modCount", type := .int, accessFlags := 132, slot := 0, constantValue := 0 }]
  methods := #[k43m0]
  instanceTypes := #[.int]
  staticTypes := #[]
  resolved := Array.replicate 218 none
  statics := none }

def pool44 : Array CpInfo := pool [(1, .class_ 2), (0, u "java/util/RandomAccess"), (0, .class_ 4), (0, u "java/lang/Object")] 2

/-- java/util/RandomAccess -/
def k44 : Class := { plain "java/util/RandomAccess" (some 0) with
  accessFlags := 1537
  interfaces := #[]
  cf := some (fileOf pool44 1 #[] #[] 1537 3 #[] #[])
  fields := #[]
  methods := #[]
  instanceTypes := #[]
  staticTypes := #[]
  resolved := Array.replicate 7 none
  statics := none }

def pool45 : Array CpInfo := pool [(2, .class_ 4), (1, u "java/util/AbstractList"), (0, u "<init>"), (0, u "()V"), (1, .class_ 10), (1, u "java/util/Collections"), (54, .class_ 66), (0, u "java/util/Collections$EmptyList"), (0, .class_ 68), (0, u "java/util/RandomAccess"), (0, .class_ 70), (0, u "java/io/Serializable"), (0, u "serialVersionUID"), (0, u "J")] 77

def k45m0 : Method := { name := "<init>", desc := "()V", sig := { parameters := [], returnType := none }, accessFlags := 2, code := none }
/-- java/util/Collections$EmptyList -/
def k45 : Class := { plain "java/util/Collections$EmptyList" (some 43) with
  accessFlags := 32
  interfaces := #[44, 2]
  cf := some (fileOf pool45 65 #[.nestHost 8] #[{ accessFlags := 2, nameIndex := 5, descriptorIndex := 6, attributes := #[] }] 32 2 #[67, 69] #[{ accessFlags := 26, nameIndex := 71, descriptorIndex := 72, attributes := #[] }])
  fields := #[{ name := "serialVersionUID", type := .long, accessFlags := 26, slot := 0, constantValue := 0 }]
  methods := #[k45m0]
  instanceTypes := #[.int]
  staticTypes := #[.long]
  resolved := Array.replicate 150 none
  statics := none }

def pool46 : Array CpInfo := pool [(2, .class_ 4), (1, u "java/lang/StackTraceElement"), (0, u "<init>"), (2, .class_ 10), (1, u "java/lang/Object"), (0, u "()V"), (2, u "format"), (0, u "B"), (2, u "classLoaderName"), (0, u "Ljava/lang/String;"), (2, u "moduleName"), (2, u "moduleVersion"), (12, u "declaringClass"), (4, u "methodName"), (2, u "fileName"), (2, u "lineNumber"), (0, u "I"), (65, u "declaringClassObject"), (0, u "Ljava/lang/Class;"), (33, .class_ 153), (1, u "java/lang/StackTraceElement$HashedModules"), (17, .class_ 172), (0, u "java/io/Serializable"), (0, u "NATIVE_METHOD"), (1, u "UNKNOWN_SOURCE"), (2, u "BUILTIN_CLASS_LOADER"), (1, u "JDK_NON_UPGRADEABLE_MODULE"), (1, u "serialVersionUID"), (0, u "J")] 51

def k46m0 : Method := { name := "<init>", desc := "()V", sig := { parameters := [], returnType := none }, accessFlags := 2, code := none }
/-- java/lang/StackTraceElement -/
def k46 : Class := { plain "java/lang/StackTraceElement" (some 0) with
  accessFlags := 49
  interfaces := #[2]
  cf := some (fileOf pool46 2 #[.nestMembers #[151]] #[{ accessFlags := 2, nameIndex := 5, descriptorIndex := 11, attributes := #[] }] 49 8 #[171] #[{ accessFlags := 26, nameIndex := 173, descriptorIndex := 19, attributes := #[] }, { accessFlags := 26, nameIndex := 175, descriptorIndex := 19, attributes := #[] }, { accessFlags := 130, nameIndex := 116, descriptorIndex := 117, attributes := #[] }, { accessFlags := 2, nameIndex := 18, descriptorIndex := 19, attributes := #[] }, { accessFlags := 2, nameIndex := 22, descriptorIndex := 19, attributes := #[] }, { accessFlags := 2, nameIndex := 25, descriptorIndex := 19, attributes := #[] }, { accessFlags := 2, nameIndex := 38, descriptorIndex := 19, attributes := #[] }, { accessFlags := 2, nameIndex := 43, descriptorIndex := 19, attributes := #[] }, { accessFlags := 2, nameIndex := 46, descriptorIndex := 19, attributes := #[] }, { accessFlags := 2, nameIndex := 49, descriptorIndex := 50, attributes := #[] }, { accessFlags := 2, nameIndex := 14, descriptorIndex := 15, attributes := #[] }, { accessFlags := 26, nameIndex := 178, descriptorIndex := 15, attributes := #[] }, { accessFlags := 26, nameIndex := 180, descriptorIndex := 15, attributes := #[] }, { accessFlags := 26, nameIndex := 182, descriptorIndex := 183, attributes := #[] }])
  fields := #[{ name := "NATIVE_METHOD", type := (.object "java/lang/String"), accessFlags := 26, slot := 0, constantValue := 0 }, { name := "UNKNOWN_SOURCE", type := (.object "java/lang/String"), accessFlags := 26, slot := 1, constantValue := 0 }, { name := "declaringClassObject", type := (.object "java/lang/Class"), accessFlags := 130, slot := 0, constantValue := 0 }, { name := "classLoaderName", type := (.object "java/lang/String"), accessFlags := 2, slot := 1, constantValue := 0 }, { name := "moduleName", type := (.object "java/lang/String"), accessFlags := 2, slot := 2, constantValue := 0 }, { name := "moduleVersion", type := (.object "java/lang/String"), accessFlags := 2, slot := 3, constantValue := 0 }, { name := "declaringClass", type := (.object "java/lang/String"), accessFlags := 2, slot := 4, constantValue := 0 }, { name := "methodName", type := (.object "java/lang/String"), accessFlags := 2, slot := 5, constantValue := 0 }, { name := "fileName", type := (.object "java/lang/String"), accessFlags := 2, slot := 6, constantValue := 0 }, { name := "lineNumber", type := .int, accessFlags := 2, slot := 7, constantValue := 0 }, { name := "format", type := .byte, accessFlags := 2, slot := 8, constantValue := 0 }, { name := "BUILTIN_CLASS_LOADER", type := .byte, accessFlags := 26, slot := 2, constantValue := 0 }, { name := "JDK_NON_UPGRADEABLE_MODULE", type := .byte, accessFlags := 26, slot := 3, constantValue := 0 }, { name := "serialVersionUID", type := .long, accessFlags := 26, slot := 4, constantValue := 0 }]
  methods := #[k46m0]
  instanceTypes := #[(.object "java/lang/Class"), (.object "java/lang/String"), (.object "java/lang/String"), (.object "java/lang/String"), (.object "java/lang/String"), (.object "java/lang/String"), (.object "java/lang/String"), .int, .byte]
  staticTypes := #[(.object "java/lang/String"), (.object "java/lang/String"), .byte, .byte, .long]
  resolved := Array.replicate 235 none
  statics := none }

/-- the primitive byte -/
def k47 : Class := { plain "byte" none with kind := .primitive 'B', accessFlags := 0x411 }
/-- [B -/
def k48 : Class := { plain "[B" (some 0) with kind := .array 47 .byte, interfaces := #[35, 2], accessFlags := 1041 }

/-- the primitive char -/
def k49 : Class := { plain "char" none with kind := .primitive 'C', accessFlags := 0x411 }
/-- [C -/
def k50 : Class := { plain "[C" (some 0) with kind := .array 49 .char, interfaces := #[35, 2], accessFlags := 1041 }

/-- the primitive int -/
def k51 : Class := { plain "int" none with kind := .primitive 'I', accessFlags := 0x411 }
/-- [I -/
def k52 : Class := { plain "[I" (some 0) with kind := .array 51 .int, interfaces := #[35, 2], accessFlags := 1041 }

/-- [Ljava/lang/Object; -/
def k53 : Class := { plain "[Ljava/lang/Object;" (some 0) with kind := .array 0 (.object "java/lang/Object"), interfaces := #[35, 2], accessFlags := 1041 }

/-- [Ljava/lang/StackTraceElement; -/
def k54 : Class := { plain "[Ljava/lang/StackTraceElement;" (some 0) with kind := .array 46 (.object "java/lang/StackTraceElement"), interfaces := #[35, 2], accessFlags := 1041 }

/-- [Ljava/lang/Throwable; -/
def k55 : Class := { plain "[Ljava/lang/Throwable;" (some 0) with kind := .array 8 (.object "java/lang/Throwable"), interfaces := #[35, 2], accessFlags := 1041 }

def heap : Heap := #[{ cls := 7, slots := #[.long 0, .int 1, .null, .int 0, .null, .int 0, .int 0], vm := .statics 7 },
  { cls := 8, slots := #[.long 0, .ref 11, .ref 12, .null, .null, .null, .null, .ref 13, .int 1], vm := .statics 8 },
  { cls := 15, slots := #[.long 0, .int 0, .null, .null, .null, .null, .null, .ref 10, .int 0, .int 0], vm := .statics 15 },
  { cls := 16, slots := #[.ref 14], vm := .statics 16 },
  { cls := 25, slots := #[.int 0, .int 0, .null, .null, .ref 9, .ref 8, .int 0, .int 0, .long 0], vm := .statics 25 },
  { cls := 36, slots := #[.int 0, .int 0, .int 0, .int 0, .int 0, .int 0, .int 0, .int 0, .null, .null, .ref 12, .null], vm := .statics 36 },
  { cls := 37, slots := #[.null, .null, .null], vm := .statics 37 },
  { cls := 53, slots := #[], vm := .none },
  { cls := 48, slots := #[.int 48, .int 49, .int 50, .int 51, .int 52, .int 53, .int 54, .int 55, .int 56, .int 57, .int 48, .int 49, .int 50, .int 51, .int 52, .int 53, .int 54, .int 55, .int 56, .int 57, .int 48, .int 49, .int 50, .int 51, .int 52, .int 53, .int 54, .int 55, .int 56, .int 57, .int 48, .int 49, .int 50, .int 51, .int 52, .int 53, .int 54, .int 55, .int 56, .int 57, .int 48, .int 49, .int 50, .int 51, .int 52, .int 53, .int 54, .int 55, .int 56, .int 57, .int 48, .int 49, .int 50, .int 51, .int 52, .int 53, .int 54, .int 55, .int 56, .int 57, .int 48, .int 49, .int 50, .int 51, .int 52, .int 53, .int 54, .int 55, .int 56, .int 57, .int 48, .int 49, .int 50, .int 51, .int 52, .int 53, .int 54, .int 55, .int 56, .int 57, .int 48, .int 49, .int 50, .int 51, .int 52, .int 53, .int 54, .int 55, .int 56, .int 57, .int 48, .int 49, .int 50, .int 51, .int 52, .int 53, .int 54, .int 55, .int 56, .int 57], vm := .none },
  { cls := 48, slots := #[.int 48, .int 48, .int 48, .int 48, .int 48, .int 48, .int 48, .int 48, .int 48, .int 48, .int 49, .int 49, .int 49, .int 49, .int 49, .int 49, .int 49, .int 49, .int 49, .int 49, .int 50, .int 50, .int 50, .int 50, .int 50, .int 50, .int 50, .int 50, .int 50, .int 50, .int 51, .int 51, .int 51, .int 51, .int 51, .int 51, .int 51, .int 51, .int 51, .int 51, .int 52, .int 52, .int 52, .int 52, .int 52, .int 52, .int 52, .int 52, .int 52, .int 52, .int 53, .int 53, .int 53, .int 53, .int 53, .int 53, .int 53, .int 53, .int 53, .int 53, .int 54, .int 54, .int 54, .int 54, .int 54, .int 54, .int 54, .int 54, .int 54, .int 54, .int 55, .int 55, .int 55, .int 55, .int 55, .int 55, .int 55, .int 55, .int 55, .int 55, .int 56, .int 56, .int 56, .int 56, .int 56, .int 56, .int 56, .int 56, .int 56, .int 56, .int 57, .int 57, .int 57, .int 57, .int 57, .int 57, .int 57, .int 57, .int 57, .int 57], vm := .none },
  { cls := 30, slots := #[.null, .null, .ref 7, .int 0], vm := .none },
  { cls := 54, slots := #[], vm := .none },
  { cls := 45, slots := #[.int 0], vm := .none },
  { cls := 55, slots := #[], vm := .none },
  { cls := 16, slots := #[.null], vm := .none }]
def classes : Array Class := #[k0, k1, k2, k3, k4, k5, k6, k7, k8, k9, k10, k11, k12, k13, k14, k15, k16, k17, k18, k19, k20, k21, k22, k23, k24, k25, k26, k27, k28, k29, k30, k31, k32, k33, k34, k35, k36, k37, k38, k39, k40, k41, k42, k43, k44, k45, k46, k47, k48, k49, k50, k51, k52, k53, k54, k55]
def interned : List (Array UInt16 × Addr) := []
def slotsUsed : Nat := 257
def theMethod : MethodId := ⟨1, 3⟩
def args0 : Array Value := #[.int 5, .int 66, .long 7, .int 68, .int 69, .int 1023]
def aboutOver (below : List Frame) : State where
  vm := { classes := classes, interned := interned.toArray }
  heap := heap
  slotsUsed := slotsUsed
  threads := #[{ frames := .invoking theMethod args0 :: below }]
def below0 : List Frame := [.native { method := ⟨0, 0⟩, args := #[] }]
def about1 : State := aboutOver below0
def p0 : Program := .bare "" "" ""
def e0 : Env := launch0.env 0 0 0
theorem w_frames : about1.frames = Frame.invoking theMethod args0 :: below0 := rfl
set_option maxRecDepth 65536 in
theorem w_args : argsFit about1.vm theMethod args0 = true := by decide +kernel
set_option maxRecDepth 65536 in
theorem w_heap : heapFits about1 = true := by decide +kernel
set_option maxRecDepth 65536 in
theorem w_runnable : about1.curStatus? = some .runnable := by decide +kernel
set_option maxRecDepth 65536 in
theorem w_alone : about1.alone = true := by decide +kernel
set_option maxRecDepth 65536 in
theorem w_named : about1.methodNamed? x = some theMethod := by decide +kernel
set_option maxRecDepth 65536 in
theorem w_hears : about1.hears theMethod below0 = true := by decide +kernel
set_option maxRecDepth 65536 in
theorem w_ripe : about1.ripe theMethod args0 below0 = true := by decide +kernel
theorem w_running : about1.status = .running := rfl
set_option maxRecDepth 65536 in
theorem w_room : about1.hasRoom e0.platform room_1 = true :=
  launch0.hasRoom_least _ room_1 (by decide +kernel) (by decide +kernel) (by decide +kernel) (by decide +kernel) (by decide +kernel) (by decide +kernel)
theorem allAtoms_all (ts : List Jvm.Cond) (a : Array Jvm.Value) (st : Jvm.State) : (allAtoms ts).before a st = ts.all (fun c => c.before a st) := by
  induction ts with
  | nil => rfl
  | cons c t ih =>
    show (Jvm.Cond.and c (allAtoms t)).before a st = _
    rw [Jvm.Cond.before_and, ih, List.all_cons]
def words1 : List Jvm.Cond := Jvm.Cond.code x code maxLocals ret :: tables_1
/-- a 'code' word, met by the world's own term for the bytes: nothing is compared byte by byte -/
theorem code_word {y : MethodName} {bytes : ByteArray} {mx : Nat} {rt : Option FieldType} {a : Array Value} {s : State} {m : MethodId} {meth : Method} {c : Code} (h1 : s.methodNamed? y = some m) (h2 : s.vm.method? m = some meth) (h3 : meth.code = some c) (h4 : c.code = bytes)
    (h5 : (c.maxLocals == mx && c.exceptionTable.isEmpty && decide (c.maxStack ≤ mostOperands) && decide (meth.sig.returnType = rt) && !meth.locks && decide (parseMethodDescriptor y.desc = some meth.sig)) = true) : (Jvm.Cond.code y bytes mx rt).before a s = true := by
  simp only [Bool.and_eq_true, beq_iff_eq, Bool.not_eq_true', decide_eq_true_eq] at h5
  obtain ⟨⟨⟨⟨⟨g1, g2⟩, g3⟩, g4⟩, g5⟩, g6⟩ := h5
  simp [Cond.before, Cond.holds, Cond.value, h1, h2, h3, h4, g1, g2, g3, g4, g5, g6]
def isCode : Jvm.Cond → Bool
  | .code _ _ _ _ => true
  | _ => false
theorem all_split {L : List Jvm.Cond} {P : Jvm.Cond → Bool} (h1 : L.all (fun c => isCode c || P c) = true) (h2 : ∀ c ∈ L.filter isCode, P c = true) : L.all P = true := by
  refine List.all_eq_true.mpr fun c hc => ?_
  have h := List.all_eq_true.mp h1 c hc
  rcases Bool.eq_false_or_eq_true (isCode c) with hi | hi
  · exact h2 c (List.mem_filter.mpr ⟨hc, hi⟩)
  · simpa [hi] using h
set_option maxRecDepth 65536 in
theorem w_c0 : (Jvm.Cond.code x code maxLocals ret).before args0 about1 = true := code_word (m := ⟨1, 3⟩) (meth := k1m3) (c := k1c3) (by decide +kernel) rfl rfl rfl (by decide +kernel)
set_option maxRecDepth 65536 in
theorem w_c1 : (Jvm.Cond.code ({ cls := "com/example/makewhole/makewhole/memberfiles/TableFieldsOfEntryPinLaw", name := "str", desc := "(II)Ljava/lang/String;" } : Jvm.MethodName) method_2_code (5 : Nat) (Option.some (Jvm.ClassFile.FieldType.object "java/lang/String"))).before args0 about1 = true := code_word (m := ⟨1, 1⟩) (meth := k1m1) (c := k1c1) (by decide +kernel) rfl rfl rfl (by decide +kernel)
set_option maxRecDepth 65536 in
theorem w_c2 : (Jvm.Cond.code ({ cls := "com/example/makewhole/makewhole/member/MemberRecordException", name := "<init>", desc := "(Ljava/lang/String;)V" } : Jvm.MethodName) prog_26_method_1_code (2 : Nat) (Option.none : Option Jvm.ClassFile.FieldType)).before args0 about1 = true := code_word (m := ⟨11, 0⟩) (meth := k11m0) (c := k11c0) (by decide +kernel) rfl rfl rfl (by decide +kernel)
set_option maxRecDepth 65536 in
theorem w_c3 : (Jvm.Cond.code ({ cls := "com/example/makewhole/makewhole/refusal/RefusedException", name := "<init>", desc := "(Ljava/lang/String;)V" } : Jvm.MethodName) prog_50_method_1_code (2 : Nat) (Option.none : Option Jvm.ClassFile.FieldType)).before args0 about1 = true := code_word (m := ⟨10, 0⟩) (meth := k10m0) (c := k10c0) (by decide +kernel) rfl rfl rfl (by decide +kernel)
set_option maxRecDepth 65536 in
theorem w_c4 : (Jvm.Cond.code ({ cls := "java/lang/Exception", name := "<init>", desc := "(Ljava/lang/String;)V" } : Jvm.MethodName) jdk_59_method_2_code (2 : Nat) (Option.none : Option Jvm.ClassFile.FieldType)).before args0 about1 = true := code_word (m := ⟨9, 1⟩) (meth := k9m1) (c := k9c1) (by decide +kernel) rfl rfl rfl (by decide +kernel)
set_option maxRecDepth 65536 in
theorem w_c5 : (Jvm.Cond.code ({ cls := "java/lang/Throwable", name := "<init>", desc := "(Ljava/lang/String;)V" } : Jvm.MethodName) jdk_78_method_2_code (2 : Nat) (Option.none : Option Jvm.ClassFile.FieldType)).before args0 about1 = true := code_word (m := ⟨8, 1⟩) (meth := k8m1) (c := k8c1) (by decide +kernel) rfl rfl rfl (by decide +kernel)
set_option maxRecDepth 65536 in
theorem w_c6 : (Jvm.Cond.code ({ cls := "java/lang/Object", name := "<init>", desc := "()V" } : Jvm.MethodName) object_method_1_code (1 : Nat) (Option.none : Option Jvm.ClassFile.FieldType)).before args0 about1 = true := code_word (m := ⟨0, 0⟩) (meth := k0m0) (c := k0c0) (by decide +kernel) rfl rfl rfl (by decide +kernel)
set_option maxRecDepth 65536 in
theorem w_c7 : (Jvm.Cond.code ({ cls := "java/lang/Throwable", name := "<init>", desc := "()V" } : Jvm.MethodName) jdk_78_method_1_code (1 : Nat) (Option.none : Option Jvm.ClassFile.FieldType)).before args0 about1 = true := code_word (m := ⟨8, 0⟩) (meth := k8m0) (c := k8c0) (by decide +kernel) rfl rfl rfl (by decide +kernel)
set_option maxRecDepth 65536 in
theorem w_c8 : (Jvm.Cond.code ({ cls := "com/example/makewhole/makewhole/memberfiles/TableFields", name := "ofEntry", desc := "(Ljava/util/Map;Ljava/lang/String;Ljava/lang/String;J)Lcom/example/makewhole/makewhole/memberfiles/TableFields;" } : Jvm.MethodName) prog_32_method_3_code (5 : Nat) (Option.some (Jvm.ClassFile.FieldType.object "com/example/makewhole/makewhole/memberfiles/TableFields"))).before args0 about1 = true := code_word (m := ⟨13, 1⟩) (meth := k13m1) (c := k13c1) (by decide +kernel) rfl rfl rfl (by decide +kernel)
set_option maxRecDepth 65536 in
theorem w_c9 : (Jvm.Cond.code ({ cls := "java/util/Map", name := "of", desc := "()Ljava/util/Map;" } : Jvm.MethodName) jdk_72_method_26_code (0 : Nat) (Option.some (Jvm.ClassFile.FieldType.object "java/util/Map"))).before args0 about1 = true := code_word (m := ⟨14, 2⟩) (meth := k14m2) (c := k14c2) (by decide +kernel) rfl rfl rfl (by decide +kernel)
set_option maxRecDepth 65536 in
theorem w_c10 : (Jvm.Cond.code ({ cls := "com/example/makewhole/makewhole/memberfiles/TableFields", name := "<init>", desc := "(Ljava/util/Map;Ljava/lang/String;Ljava/lang/String;Ljava/util/Map;Ljava/lang/String;J)V" } : Jvm.MethodName) prog_32_method_1_code (8 : Nat) (Option.none : Option Jvm.ClassFile.FieldType)).before args0 about1 = true := code_word (m := ⟨13, 0⟩) (meth := k13m0) (c := k13c0) (by decide +kernel) rfl rfl rfl (by decide +kernel)
set_option maxRecDepth 65536 in
theorem w_c11 : (Jvm.Cond.code ({ cls := "com/example/makewhole/makewhole/memberfiles/TableFields", name := "placed", desc := "(Lcom/example/makewhole/makewhole/member/MemberRecordException;)Lcom/example/makewhole/makewhole/member/MemberRecordException;" } : Jvm.MethodName) prog_32_method_11_code (2 : Nat) (Option.some (Jvm.ClassFile.FieldType.object "com/example/makewhole/makewhole/member/MemberRecordException"))).before args0 about1 = true := code_word (m := ⟨13, 5⟩) (meth := k13m5) (c := k13c5) (by decide +kernel) rfl rfl rfl (by decide +kernel)
set_option maxRecDepth 65536 in
theorem w_c12 : (Jvm.Cond.code ({ cls := "com/example/makewhole/makewhole/member/MemberRecordException", name := "getId", desc := "()Ljava/util/Optional;" } : Jvm.MethodName) prog_26_method_4_code (1 : Nat) (Option.some (Jvm.ClassFile.FieldType.object "java/util/Optional"))).before args0 about1 = true := code_word (m := ⟨11, 2⟩) (meth := k11m2) (c := k11c2) (by decide +kernel) rfl rfl rfl (by decide +kernel)
set_option maxRecDepth 65536 in
theorem w_c13 : (Jvm.Cond.code ({ cls := "java/util/Optional", name := "ofNullable", desc := "(Ljava/lang/Object;)Ljava/util/Optional;" } : Jvm.MethodName) jdk_32_method_4_code (1 : Nat) (Option.some (Jvm.ClassFile.FieldType.object "java/util/Optional"))).before args0 about1 = true := code_word (m := ⟨16, 1⟩) (meth := k16m1) (c := k16c1) (by decide +kernel) rfl rfl rfl (by decide +kernel)
set_option maxRecDepth 65536 in
theorem w_c14 : (Jvm.Cond.code ({ cls := "java/util/Optional", name := "orElse", desc := "(Ljava/lang/Object;)Ljava/lang/Object;" } : Jvm.MethodName) jdk_32_method_15_code (2 : Nat) (Option.some (Jvm.ClassFile.FieldType.object "java/lang/Object"))).before args0 about1 = true := code_word (m := ⟨16, 2⟩) (meth := k16m2) (c := k16c2) (by decide +kernel) rfl rfl rfl (by decide +kernel)
set_option maxRecDepth 65536 in
theorem w_c15 : (Jvm.Cond.code ({ cls := "com/example/makewhole/makewhole/plandata/PlanDataFormatException", name := "place", desc := "(Ljava/lang/String;J)Ljava/lang/String;" } : Jvm.MethodName) prog_43_method_2_code (3 : Nat) (Option.some (Jvm.ClassFile.FieldType.object "java/lang/String"))).before args0 about1 = true := code_word (m := ⟨18, 0⟩) (meth := k18m0) (c := k18c0) (by decide +kernel) rfl rfl rfl (by decide +kernel)
set_option maxRecDepth 65536 in
theorem w_c16 : (Jvm.Cond.code ({ cls := "java/lang/StringBuilder", name := "<init>", desc := "()V" } : Jvm.MethodName) jdk_67_method_1_code (1 : Nat) (Option.none : Option Jvm.ClassFile.FieldType)).before args0 about1 = true := code_word (m := ⟨21, 0⟩) (meth := k21m0) (c := k21c0) (by decide +kernel) rfl rfl rfl (by decide +kernel)
set_option maxRecDepth 65536 in
theorem w_c17 : (Jvm.Cond.code ({ cls := "java/lang/AbstractStringBuilder", name := "<init>", desc := "(I)V" } : Jvm.MethodName) jdk_68_method_2_code (2 : Nat) (Option.none : Option Jvm.ClassFile.FieldType)).before args0 about1 = true := code_word (m := ⟨20, 1⟩) (meth := k20m1) (c := k20c1) (by decide +kernel) rfl rfl rfl (by decide +kernel)
set_option maxRecDepth 65536 in
theorem w_c18 : (Jvm.Cond.code ({ cls := "java/lang/StringBuilder", name := "append", desc := "(Ljava/lang/String;)Ljava/lang/StringBuilder;" } : Jvm.MethodName) jdk_67_method_7_code (2 : Nat) (Option.some (Jvm.ClassFile.FieldType.object "java/lang/StringBuilder"))).before args0 about1 = true := code_word (m := ⟨21, 1⟩) (meth := k21m1) (c := k21c1) (by decide +kernel) rfl rfl rfl (by decide +kernel)
set_option maxRecDepth 65536 in
theorem w_c19 : (Jvm.Cond.code ({ cls := "java/lang/AbstractStringBuilder", name := "append", desc := "(Ljava/lang/String;)Ljava/lang/AbstractStringBuilder;" } : Jvm.MethodName) jdk_68_method_22_code (3 : Nat) (Option.some (Jvm.ClassFile.FieldType.object "java/lang/AbstractStringBuilder"))).before args0 about1 = true := code_word (m := ⟨20, 5⟩) (meth := k20m5) (c := k20c5) (by decide +kernel) rfl rfl rfl (by decide +kernel)
set_option maxRecDepth 65536 in
theorem w_c20 : (Jvm.Cond.code ({ cls := "java/lang/String", name := "length", desc := "()I" } : Jvm.MethodName) jdk_42_method_54_code (1 : Nat) (Option.some Jvm.ClassFile.FieldType.int)).before args0 about1 = true := code_word (m := ⟨7, 3⟩) (meth := k7m3) (c := k7c3) (by decide +kernel) rfl rfl rfl (by decide +kernel)
set_option maxRecDepth 65536 in
theorem w_c21 : (Jvm.Cond.code ({ cls := "java/lang/String", name := "coder", desc := "()B" } : Jvm.MethodName) jdk_42_method_152_code (1 : Nat) (Option.some Jvm.ClassFile.FieldType.byte)).before args0 about1 = true := code_word (m := ⟨7, 10⟩) (meth := k7m10) (c := k7c10) (by decide +kernel) rfl rfl rfl (by decide +kernel)
set_option maxRecDepth 65536 in
theorem w_c22 : (Jvm.Cond.code ({ cls := "java/lang/AbstractStringBuilder", name := "ensureCapacityInternal", desc := "(I)V" } : Jvm.MethodName) jdk_68_method_9_code (3 : Nat) (Option.none : Option Jvm.ClassFile.FieldType)).before args0 about1 = true := code_word (m := ⟨20, 3⟩) (meth := k20m3) (c := k20c3) (by decide +kernel) rfl rfl rfl (by decide +kernel)
set_option maxRecDepth 65536 in
theorem w_c23 : (Jvm.Cond.code ({ cls := "java/lang/AbstractStringBuilder", name := "putStringAt", desc := "(ILjava/lang/String;)V" } : Jvm.MethodName) jdk_68_method_73_code (3 : Nat) (Option.none : Option Jvm.ClassFile.FieldType)).before args0 about1 = true := code_word (m := ⟨20, 10⟩) (meth := k20m10) (c := k20c10) (by decide +kernel) rfl rfl rfl (by decide +kernel)
set_option maxRecDepth 65536 in
theorem w_c24 : (Jvm.Cond.code ({ cls := "java/lang/AbstractStringBuilder", name := "inflateIfNeededFor", desc := "(Ljava/lang/String;)V" } : Jvm.MethodName) jdk_68_method_71_code (2 : Nat) (Option.none : Option Jvm.ClassFile.FieldType)).before args0 about1 = true := code_word (m := ⟨20, 9⟩) (meth := k20m9) (c := k20c9) (by decide +kernel) rfl rfl rfl (by decide +kernel)
set_option maxRecDepth 65536 in
theorem w_c25 : (Jvm.Cond.code ({ cls := "java/lang/String", name := "getBytes", desc := "([BIB)V" } : Jvm.MethodName) jdk_42_method_147_code (4 : Nat) (Option.none : Option Jvm.ClassFile.FieldType)).before args0 about1 = true := code_word (m := ⟨7, 6⟩) (meth := k7m6) (c := k7c6) (by decide +kernel) rfl rfl rfl (by decide +kernel)
set_option maxRecDepth 65536 in
theorem w_c26 : (Jvm.Cond.code ({ cls := "java/lang/StringBuilder", name := "append", desc := "(J)Ljava/lang/StringBuilder;" } : Jvm.MethodName) jdk_67_method_16_code (3 : Nat) (Option.some (Jvm.ClassFile.FieldType.object "java/lang/StringBuilder"))).before args0 about1 = true := code_word (m := ⟨21, 2⟩) (meth := k21m2) (c := k21c2) (by decide +kernel) rfl rfl rfl (by decide +kernel)
set_option maxRecDepth 65536 in
theorem w_c27 : (Jvm.Cond.code ({ cls := "java/lang/AbstractStringBuilder", name := "append", desc := "(J)Ljava/lang/AbstractStringBuilder;" } : Jvm.MethodName) jdk_68_method_33_code (5 : Nat) (Option.some (Jvm.ClassFile.FieldType.object "java/lang/AbstractStringBuilder"))).before args0 about1 = true := code_word (m := ⟨20, 6⟩) (meth := k20m6) (c := k20c6) (by decide +kernel) rfl rfl rfl (by decide +kernel)
set_option maxRecDepth 65536 in
theorem w_c28 : (Jvm.Cond.code ({ cls := "java/lang/Long", name := "stringSize", desc := "(J)I" } : Jvm.MethodName) jdk_35_method_15_code (6 : Nat) (Option.some Jvm.ClassFile.FieldType.int)).before args0 about1 = true := code_word (m := ⟨24, 1⟩) (meth := k24m1) (c := k24c1) (by decide +kernel) rfl rfl rfl (by decide +kernel)
set_option maxRecDepth 65536 in
theorem w_c29 : (Jvm.Cond.code ({ cls := "java/lang/AbstractStringBuilder", name := "isLatin1", desc := "()Z" } : Jvm.MethodName) jdk_68_method_68_code (1 : Nat) (Option.some Jvm.ClassFile.FieldType.boolean)).before args0 about1 = true := code_word (m := ⟨20, 8⟩) (meth := k20m8) (c := k20c8) (by decide +kernel) rfl rfl rfl (by decide +kernel)
set_option maxRecDepth 65536 in
theorem w_c30 : (Jvm.Cond.code ({ cls := "java/lang/Long", name := "getChars", desc := "(JI[B)I" } : Jvm.MethodName) jdk_35_method_14_code (11 : Nat) (Option.some Jvm.ClassFile.FieldType.int)).before args0 about1 = true := code_word (m := ⟨24, 0⟩) (meth := k24m0) (c := k24c0) (by decide +kernel) rfl rfl rfl (by decide +kernel)
set_option maxRecDepth 65536 in
theorem w_c31 : (Jvm.Cond.code ({ cls := "java/lang/StringBuilder", name := "toString", desc := "()Ljava/lang/String;" } : Jvm.MethodName) jdk_67_method_42_code (1 : Nat) (Option.some (Jvm.ClassFile.FieldType.object "java/lang/String"))).before args0 about1 = true := code_word (m := ⟨21, 3⟩) (meth := k21m3) (c := k21c3) (by decide +kernel) rfl rfl rfl (by decide +kernel)
set_option maxRecDepth 65536 in
theorem w_c32 : (Jvm.Cond.code ({ cls := "java/lang/String", name := "<init>", desc := "(Ljava/lang/StringBuilder;)V" } : Jvm.MethodName) jdk_42_method_53_code (2 : Nat) (Option.none : Option Jvm.ClassFile.FieldType)).before args0 about1 = true := code_word (m := ⟨7, 2⟩) (meth := k7m2) (c := k7c2) (by decide +kernel) rfl rfl rfl (by decide +kernel)
set_option maxRecDepth 65536 in
theorem w_c33 : (Jvm.Cond.code ({ cls := "java/lang/String", name := "<init>", desc := "(Ljava/lang/AbstractStringBuilder;Ljava/lang/Void;)V" } : Jvm.MethodName) jdk_42_method_150_code (5 : Nat) (Option.none : Option Jvm.ClassFile.FieldType)).before args0 about1 = true := code_word (m := ⟨7, 8⟩) (meth := k7m8) (c := k7c8) (by decide +kernel) rfl rfl rfl (by decide +kernel)
set_option maxRecDepth 65536 in
theorem w_c34 : (Jvm.Cond.code ({ cls := "java/lang/AbstractStringBuilder", name := "getValue", desc := "()[B" } : Jvm.MethodName) jdk_68_method_64_code (1 : Nat) (Option.some (Jvm.ClassFile.FieldType.array Jvm.ClassFile.FieldType.byte))).before args0 about1 = true := code_word (m := ⟨20, 7⟩) (meth := k20m7) (c := k20c7) (by decide +kernel) rfl rfl rfl (by decide +kernel)
set_option maxRecDepth 65536 in
theorem w_c35 : (Jvm.Cond.code ({ cls := "java/lang/StringBuilder", name := "length", desc := "()I" } : Jvm.MethodName) jdk_67_method_93_code (1 : Nat) (Option.some Jvm.ClassFile.FieldType.int)).before args0 about1 = true := code_word (m := ⟨21, 4⟩) (meth := k21m4) (c := k21c4) (by decide +kernel) rfl rfl rfl (by decide +kernel)
set_option maxRecDepth 65536 in
theorem w_c36 : (Jvm.Cond.code ({ cls := "java/lang/AbstractStringBuilder", name := "length", desc := "()I" } : Jvm.MethodName) jdk_68_method_6_code (1 : Nat) (Option.some Jvm.ClassFile.FieldType.int)).before args0 about1 = true := code_word (m := ⟨20, 2⟩) (meth := k20m2) (c := k20c2) (by decide +kernel) rfl rfl rfl (by decide +kernel)
set_option maxRecDepth 65536 in
theorem w_c37 : (Jvm.Cond.code ({ cls := "java/util/Arrays", name := "copyOfRange", desc := "([BII)[B" } : Jvm.MethodName) jdk_65_method_132_code (3 : Nat) (Option.some (Jvm.ClassFile.FieldType.array Jvm.ClassFile.FieldType.byte))).before args0 about1 = true := code_word (m := ⟨26, 3⟩) (meth := k26m3) (c := k26c3) (by decide +kernel) rfl rfl rfl (by decide +kernel)
set_option maxRecDepth 65536 in
theorem w_c38 : (Jvm.Cond.code ({ cls := "java/util/Arrays", name := "copyOfRangeByte", desc := "([BII)[B" } : Jvm.MethodName) jdk_65_method_133_code (5 : Nat) (Option.some (Jvm.ClassFile.FieldType.array Jvm.ClassFile.FieldType.byte))).before args0 about1 = true := code_word (m := ⟨26, 4⟩) (meth := k26m4) (c := k26c4) (by decide +kernel) rfl rfl rfl (by decide +kernel)
set_option maxRecDepth 65536 in
theorem w_c39 : (Jvm.Cond.code ({ cls := "java/util/Arrays", name := "checkLength", desc := "(II)V" } : Jvm.MethodName) jdk_65_method_131_code (2 : Nat) (Option.none : Option Jvm.ClassFile.FieldType)).before args0 about1 = true := code_word (m := ⟨26, 2⟩) (meth := k26m2) (c := k26c2) (by decide +kernel) rfl rfl rfl (by decide +kernel)
set_option maxRecDepth 65536 in
theorem w_c40 : (Jvm.Cond.code ({ cls := "java/lang/Math", name := "min", desc := "(II)I" } : Jvm.MethodName) jdk_29_method_69_code (2 : Nat) (Option.some Jvm.ClassFile.FieldType.int)).before args0 about1 = true := code_word (m := ⟨27, 2⟩) (meth := k27m2) (c := k27c2) (by decide +kernel) rfl rfl rfl (by decide +kernel)
set_option maxRecDepth 65536 in
theorem w_c41 : (Jvm.Cond.code ({ cls := "com/example/makewhole/makewhole/member/MemberRecordException", name := "<init>", desc := "(Lcom/example/makewhole/makewhole/member/MemberRecordException;Ljava/lang/String;Ljava/lang/String;)V" } : Jvm.MethodName) prog_26_method_3_code (4 : Nat) (Option.none : Option Jvm.ClassFile.FieldType)).before args0 about1 = true := code_word (m := ⟨11, 1⟩) (meth := k11m1) (c := k11c1) (by decide +kernel) rfl rfl rfl (by decide +kernel)
set_option maxRecDepth 65536 in
theorem w_c42 : (Jvm.Cond.code ({ cls := "java/lang/Throwable", name := "getMessage", desc := "()Ljava/lang/String;" } : Jvm.MethodName) jdk_78_method_6_code (1 : Nat) (Option.some (Jvm.ClassFile.FieldType.object "java/lang/String"))).before args0 about1 = true := code_word (m := ⟨8, 2⟩) (meth := k8m2) (c := k8c2) (by decide +kernel) rfl rfl rfl (by decide +kernel)
set_option maxRecDepth 65536 in
theorem w_c43 : (Jvm.Cond.code ({ cls := "com/example/makewhole/makewhole/memberfiles/TableFields", name := "getName", desc := "()Ljava/lang/String;" } : Jvm.MethodName) prog_32_method_4_code (1 : Nat) (Option.some (Jvm.ClassFile.FieldType.object "java/lang/String"))).before args0 about1 = true := code_word (m := ⟨13, 2⟩) (meth := k13m2) (c := k13c2) (by decide +kernel) rfl rfl rfl (by decide +kernel)
set_option maxRecDepth 65536 in
theorem w_c44 : (Jvm.Cond.code ({ cls := "java/lang/String", name := "equals", desc := "(Ljava/lang/Object;)Z" } : Jvm.MethodName) jdk_42_method_66_code (3 : Nat) (Option.some Jvm.ClassFile.FieldType.boolean)).before args0 about1 = true := code_word (m := ⟨7, 4⟩) (meth := k7m4) (c := k7c4) (by decide +kernel) rfl rfl rfl (by decide +kernel)
set_option maxRecDepth 65536 in
theorem w_c45 : (Jvm.Cond.code ({ cls := "com/example/makewhole/makewhole/memberfiles/TableFields", name := "hasArray", desc := "(Ljava/lang/String;)Z" } : Jvm.MethodName) prog_32_method_5_code (2 : Nat) (Option.some Jvm.ClassFile.FieldType.boolean)).before args0 about1 = true := code_word (m := ⟨13, 3⟩) (meth := k13m3) (c := k13c3) (by decide +kernel) rfl rfl rfl (by decide +kernel)
set_option maxRecDepth 65536 in
theorem w_c46 : (Jvm.Cond.code ({ cls := "java/util/ImmutableCollections$MapN", name := "containsKey", desc := "(Ljava/lang/Object;)Z" } : Jvm.MethodName) jdk_2605_method_2_code (2 : Nat) (Option.some Jvm.ClassFile.FieldType.boolean)).before args0 about1 = true := code_word (m := ⟨30, 0⟩) (meth := k30m0) (c := k30c0) (by decide +kernel) rfl rfl rfl (by decide +kernel)
set_option maxRecDepth 65536 in
theorem w_c47 : (Jvm.Cond.code ({ cls := "java/util/Objects", name := "requireNonNull", desc := "(Ljava/lang/Object;)Ljava/lang/Object;" } : Jvm.MethodName) jdk_31_method_10_code (1 : Nat) (Option.some (Jvm.ClassFile.FieldType.object "java/lang/Object"))).before args0 about1 = true := code_word (m := ⟨31, 1⟩) (meth := k31m1) (c := k31c1) (by decide +kernel) rfl rfl rfl (by decide +kernel)
set_option maxRecDepth 65536 in
theorem w_c48 : (Jvm.Cond.code ({ cls := "com/example/makewhole/makewhole/memberfiles/TableFields", name := "entries", desc := "(Ljava/lang/String;Ljava/lang/String;)Ljava/util/List;" } : Jvm.MethodName) prog_32_method_10_code (3 : Nat) (Option.some (Jvm.ClassFile.FieldType.object "java/util/List"))).before args0 about1 = true := code_word (m := ⟨13, 4⟩) (meth := k13m4) (c := k13c4) (by decide +kernel) rfl rfl rfl (by decide +kernel)
set_option maxRecDepth 65536 in
theorem w_c49 : (Jvm.Cond.code ({ cls := "java/util/ImmutableCollections$MapN", name := "get", desc := "(Ljava/lang/Object;)Ljava/lang/Object;" } : Jvm.MethodName) jdk_2605_method_5_code (3 : Nat) (Option.some (Jvm.ClassFile.FieldType.object "java/lang/Object"))).before args0 about1 = true := code_word (m := ⟨30, 1⟩) (meth := k30m1) (c := k30c1) (by decide +kernel) rfl rfl rfl (by decide +kernel)
set_option maxRecDepth 65536 in
theorem w_c50 : (Jvm.Cond.code ({ cls := "com/example/makewhole/makewhole/memberfiles/TableFieldsOfEntryPinLaw", name := "same", desc := "(Ljava/lang/String;Ljava/lang/String;)Z" } : Jvm.MethodName) method_3_code (2 : Nat) (Option.some Jvm.ClassFile.FieldType.boolean)).before args0 about1 = true := code_word (m := ⟨1, 2⟩) (meth := k1m2) (c := k1c2) (by decide +kernel) rfl rfl rfl (by decide +kernel)
set_option maxRecDepth 65536 in
theorem w_c51 : (Jvm.Cond.code ({ cls := "com/example/makewhole/makewhole/member/MemberRecordException", name := "getPlace", desc := "()Ljava/util/Optional;" } : Jvm.MethodName) prog_26_method_5_code (1 : Nat) (Option.some (Jvm.ClassFile.FieldType.object "java/util/Optional"))).before args0 about1 = true := code_word (m := ⟨11, 3⟩) (meth := k11m3) (c := k11c3) (by decide +kernel) rfl rfl rfl (by decide +kernel)
set_option maxRecDepth 65536 in
theorem w_c52 : (Jvm.Cond.code ({ cls := "java/util/Optional", name := "<init>", desc := "(Ljava/lang/Object;)V" } : Jvm.MethodName) jdk_32_method_2_code (2 : Nat) (Option.none : Option Jvm.ClassFile.FieldType)).before args0 about1 = true := code_word (m := ⟨16, 0⟩) (meth := k16m0) (c := k16c0) (by decide +kernel) rfl rfl rfl (by decide +kernel)
set_option maxRecDepth 65536 in
theorem w_c53 : (Jvm.Cond.code ({ cls := "java/lang/StringLatin1", name := "equals", desc := "([B[B)Z" } : Jvm.MethodName) jdk_43_method_13_code (3 : Nat) (Option.some Jvm.ClassFile.FieldType.boolean)).before args0 about1 = true := code_word (m := ⟨32, 2⟩) (meth := k32m2) (c := k32c2) (by decide +kernel) rfl rfl rfl (by decide +kernel)
set_option maxRecDepth 65536 in
theorem w_c54 : (Jvm.Cond.code ({ cls := "java/lang/String", name := "<init>", desc := "([C)V" } : Jvm.MethodName) jdk_42_method_3_code (2 : Nat) (Option.none : Option Jvm.ClassFile.FieldType)).before args0 about1 = true := code_word (m := ⟨7, 1⟩) (meth := k7m1) (c := k7c1) (by decide +kernel) rfl rfl rfl (by decide +kernel)
set_option maxRecDepth 65536 in
theorem w_c55 : (Jvm.Cond.code ({ cls := "java/lang/String", name := "<init>", desc := "([CIILjava/lang/Void;)V" } : Jvm.MethodName) jdk_42_method_149_code (6 : Nat) (Option.none : Option Jvm.ClassFile.FieldType)).before args0 about1 = true := code_word (m := ⟨7, 7⟩) (meth := k7m7) (c := k7c7) (by decide +kernel) rfl rfl rfl (by decide +kernel)
set_option maxRecDepth 65536 in
theorem w_c56 : (Jvm.Cond.code ({ cls := "java/lang/StringUTF16", name := "compress", desc := "([CII)[B" } : Jvm.MethodName) jdk_52_method_16_code (6 : Nat) (Option.some (Jvm.ClassFile.FieldType.array Jvm.ClassFile.FieldType.byte))).before args0 about1 = true := code_word (m := ⟨33, 2⟩) (meth := k33m2) (c := k33c2) (by decide +kernel) rfl rfl rfl (by decide +kernel)
set_option maxRecDepth 65536 in
theorem w_c57 : (Jvm.Cond.code ({ cls := "java/lang/StringUTF16", name := "compress", desc := "([CI[BII)I" } : Jvm.MethodName) jdk_52_method_21_code (7 : Nat) (Option.some Jvm.ClassFile.FieldType.int)).before args0 about1 = true := code_word (m := ⟨33, 3⟩) (meth := k33m3) (c := k33c3) (by decide +kernel) rfl rfl rfl (by decide +kernel)
set_option maxRecDepth 65536 in
theorem w_c58 : (Jvm.Cond.code ({ cls := "java/lang/StringUTF16", name := "coderFromArrayLen", desc := "([BI)B" } : Jvm.MethodName) jdk_52_method_15_code (2 : Nat) (Option.some Jvm.ClassFile.FieldType.byte)).before args0 about1 = true := code_word (m := ⟨33, 1⟩) (meth := k33m1) (c := k33c1) (by decide +kernel) rfl rfl rfl (by decide +kernel)
set_option maxRecDepth 65536 in
theorem w_c59 : (Jvm.Cond.code ({ cls := "java/lang/String", name := "valueOf", desc := "(C)Ljava/lang/String;" } : Jvm.MethodName) jdk_42_method_139_code (1 : Nat) (Option.some (Jvm.ClassFile.FieldType.object "java/lang/String"))).before args0 about1 = true := code_word (m := ⟨7, 5⟩) (meth := k7m5) (c := k7c5) (by decide +kernel) rfl rfl rfl (by decide +kernel)
set_option maxRecDepth 65536 in
theorem w_c60 : (Jvm.Cond.code ({ cls := "java/lang/StringLatin1", name := "canEncode", desc := "(C)Z" } : Jvm.MethodName) jdk_43_method_3_code (1 : Nat) (Option.some Jvm.ClassFile.FieldType.boolean)).before args0 about1 = true := code_word (m := ⟨32, 1⟩) (meth := k32m1) (c := k32c1) (by decide +kernel) rfl rfl rfl (by decide +kernel)
set_option maxRecDepth 65536 in
theorem w_c61 : (Jvm.Cond.code ({ cls := "java/lang/StringLatin1", name := "toBytes", desc := "(C)[B" } : Jvm.MethodName) jdk_43_method_46_code (1 : Nat) (Option.some (Jvm.ClassFile.FieldType.array Jvm.ClassFile.FieldType.byte))).before args0 about1 = true := code_word (m := ⟨32, 3⟩) (meth := k32m3) (c := k32c3) (by decide +kernel) rfl rfl rfl (by decide +kernel)
set_option maxRecDepth 65536 in
theorem w_c62 : (Jvm.Cond.code ({ cls := "java/lang/String", name := "<init>", desc := "([BB)V" } : Jvm.MethodName) jdk_42_method_151_code (3 : Nat) (Option.none : Option Jvm.ClassFile.FieldType)).before args0 about1 = true := code_word (m := ⟨7, 9⟩) (meth := k7m9) (c := k7c9) (by decide +kernel) rfl rfl rfl (by decide +kernel)
set_option maxRecDepth 65536 in
theorem w_c63 : (Jvm.Cond.code ({ cls := "java/lang/AbstractStringBuilder", name := "newCapacity", desc := "(I)I" } : Jvm.MethodName) jdk_68_method_10_code (6 : Nat) (Option.some Jvm.ClassFile.FieldType.int)).before args0 about1 = true := code_word (m := ⟨20, 4⟩) (meth := k20m4) (c := k20c4) (by decide +kernel) rfl rfl rfl (by decide +kernel)
set_option maxRecDepth 65536 in
theorem w_c64 : (Jvm.Cond.code ({ cls := "jdk/internal/util/ArraysSupport", name := "newLength", desc := "(III)I" } : Jvm.MethodName) jdk_48_method_27_code (4 : Nat) (Option.some Jvm.ClassFile.FieldType.int)).before args0 about1 = true := code_word (m := ⟨34, 1⟩) (meth := k34m1) (c := k34c1) (by decide +kernel) rfl rfl rfl (by decide +kernel)
set_option maxRecDepth 65536 in
theorem w_c65 : (Jvm.Cond.code ({ cls := "java/lang/Math", name := "max", desc := "(II)I" } : Jvm.MethodName) jdk_29_method_65_code (2 : Nat) (Option.some Jvm.ClassFile.FieldType.int)).before args0 about1 = true := code_word (m := ⟨27, 1⟩) (meth := k27m1) (c := k27c1) (by decide +kernel) rfl rfl rfl (by decide +kernel)
set_option maxRecDepth 65536 in
theorem w_c66 : (Jvm.Cond.code ({ cls := "java/util/Arrays", name := "copyOf", desc := "([BI)[B" } : Jvm.MethodName) jdk_65_method_121_code (3 : Nat) (Option.some (Jvm.ClassFile.FieldType.array Jvm.ClassFile.FieldType.byte))).before args0 about1 = true := code_word (m := ⟨26, 1⟩) (meth := k26m1) (c := k26c1) (by decide +kernel) rfl rfl rfl (by decide +kernel)
def codes1 : List Jvm.Cond := [Jvm.Cond.code x code maxLocals ret, Jvm.Cond.code ({ cls := "com/example/makewhole/makewhole/memberfiles/TableFieldsOfEntryPinLaw", name := "str", desc := "(II)Ljava/lang/String;" } : Jvm.MethodName) method_2_code (5 : Nat) (Option.some (Jvm.ClassFile.FieldType.object "java/lang/String")), Jvm.Cond.code ({ cls := "com/example/makewhole/makewhole/member/MemberRecordException", name := "<init>", desc := "(Ljava/lang/String;)V" } : Jvm.MethodName) prog_26_method_1_code (2 : Nat) (Option.none : Option Jvm.ClassFile.FieldType), Jvm.Cond.code ({ cls := "com/example/makewhole/makewhole/refusal/RefusedException", name := "<init>", desc := "(Ljava/lang/String;)V" } : Jvm.MethodName) prog_50_method_1_code (2 : Nat) (Option.none : Option Jvm.ClassFile.FieldType), Jvm.Cond.code ({ cls := "java/lang/Exception", name := "<init>", desc := "(Ljava/lang/String;)V" } : Jvm.MethodName) jdk_59_method_2_code (2 : Nat) (Option.none : Option Jvm.ClassFile.FieldType), Jvm.Cond.code ({ cls := "java/lang/Throwable", name := "<init>", desc := "(Ljava/lang/String;)V" } : Jvm.MethodName) jdk_78_method_2_code (2 : Nat) (Option.none : Option Jvm.ClassFile.FieldType), Jvm.Cond.code ({ cls := "java/lang/Object", name := "<init>", desc := "()V" } : Jvm.MethodName) object_method_1_code (1 : Nat) (Option.none : Option Jvm.ClassFile.FieldType), Jvm.Cond.code ({ cls := "java/lang/Throwable", name := "<init>", desc := "()V" } : Jvm.MethodName) jdk_78_method_1_code (1 : Nat) (Option.none : Option Jvm.ClassFile.FieldType), Jvm.Cond.code ({ cls := "com/example/makewhole/makewhole/memberfiles/TableFields", name := "ofEntry", desc := "(Ljava/util/Map;Ljava/lang/String;Ljava/lang/String;J)Lcom/example/makewhole/makewhole/memberfiles/TableFields;" } : Jvm.MethodName) prog_32_method_3_code (5 : Nat) (Option.some (Jvm.ClassFile.FieldType.object "com/example/makewhole/makewhole/memberfiles/TableFields")), Jvm.Cond.code ({ cls := "java/util/Map", name := "of", desc := "()Ljava/util/Map;" } : Jvm.MethodName) jdk_72_method_26_code (0 : Nat) (Option.some (Jvm.ClassFile.FieldType.object "java/util/Map")), Jvm.Cond.code ({ cls := "com/example/makewhole/makewhole/memberfiles/TableFields", name := "<init>", desc := "(Ljava/util/Map;Ljava/lang/String;Ljava/lang/String;Ljava/util/Map;Ljava/lang/String;J)V" } : Jvm.MethodName) prog_32_method_1_code (8 : Nat) (Option.none : Option Jvm.ClassFile.FieldType), Jvm.Cond.code ({ cls := "com/example/makewhole/makewhole/memberfiles/TableFields", name := "placed", desc := "(Lcom/example/makewhole/makewhole/member/MemberRecordException;)Lcom/example/makewhole/makewhole/member/MemberRecordException;" } : Jvm.MethodName) prog_32_method_11_code (2 : Nat) (Option.some (Jvm.ClassFile.FieldType.object "com/example/makewhole/makewhole/member/MemberRecordException")), Jvm.Cond.code ({ cls := "com/example/makewhole/makewhole/member/MemberRecordException", name := "getId", desc := "()Ljava/util/Optional;" } : Jvm.MethodName) prog_26_method_4_code (1 : Nat) (Option.some (Jvm.ClassFile.FieldType.object "java/util/Optional")), Jvm.Cond.code ({ cls := "java/util/Optional", name := "ofNullable", desc := "(Ljava/lang/Object;)Ljava/util/Optional;" } : Jvm.MethodName) jdk_32_method_4_code (1 : Nat) (Option.some (Jvm.ClassFile.FieldType.object "java/util/Optional")), Jvm.Cond.code ({ cls := "java/util/Optional", name := "orElse", desc := "(Ljava/lang/Object;)Ljava/lang/Object;" } : Jvm.MethodName) jdk_32_method_15_code (2 : Nat) (Option.some (Jvm.ClassFile.FieldType.object "java/lang/Object")), Jvm.Cond.code ({ cls := "com/example/makewhole/makewhole/plandata/PlanDataFormatException", name := "place", desc := "(Ljava/lang/String;J)Ljava/lang/String;" } : Jvm.MethodName) prog_43_method_2_code (3 : Nat) (Option.some (Jvm.ClassFile.FieldType.object "java/lang/String")), Jvm.Cond.code ({ cls := "java/lang/StringBuilder", name := "<init>", desc := "()V" } : Jvm.MethodName) jdk_67_method_1_code (1 : Nat) (Option.none : Option Jvm.ClassFile.FieldType), Jvm.Cond.code ({ cls := "java/lang/AbstractStringBuilder", name := "<init>", desc := "(I)V" } : Jvm.MethodName) jdk_68_method_2_code (2 : Nat) (Option.none : Option Jvm.ClassFile.FieldType), Jvm.Cond.code ({ cls := "java/lang/StringBuilder", name := "append", desc := "(Ljava/lang/String;)Ljava/lang/StringBuilder;" } : Jvm.MethodName) jdk_67_method_7_code (2 : Nat) (Option.some (Jvm.ClassFile.FieldType.object "java/lang/StringBuilder")), Jvm.Cond.code ({ cls := "java/lang/AbstractStringBuilder", name := "append", desc := "(Ljava/lang/String;)Ljava/lang/AbstractStringBuilder;" } : Jvm.MethodName) jdk_68_method_22_code (3 : Nat) (Option.some (Jvm.ClassFile.FieldType.object "java/lang/AbstractStringBuilder")), Jvm.Cond.code ({ cls := "java/lang/String", name := "length", desc := "()I" } : Jvm.MethodName) jdk_42_method_54_code (1 : Nat) (Option.some Jvm.ClassFile.FieldType.int), Jvm.Cond.code ({ cls := "java/lang/String", name := "coder", desc := "()B" } : Jvm.MethodName) jdk_42_method_152_code (1 : Nat) (Option.some Jvm.ClassFile.FieldType.byte), Jvm.Cond.code ({ cls := "java/lang/AbstractStringBuilder", name := "ensureCapacityInternal", desc := "(I)V" } : Jvm.MethodName) jdk_68_method_9_code (3 : Nat) (Option.none : Option Jvm.ClassFile.FieldType), Jvm.Cond.code ({ cls := "java/lang/AbstractStringBuilder", name := "putStringAt", desc := "(ILjava/lang/String;)V" } : Jvm.MethodName) jdk_68_method_73_code (3 : Nat) (Option.none : Option Jvm.ClassFile.FieldType), Jvm.Cond.code ({ cls := "java/lang/AbstractStringBuilder", name := "inflateIfNeededFor", desc := "(Ljava/lang/String;)V" } : Jvm.MethodName) jdk_68_method_71_code (2 : Nat) (Option.none : Option Jvm.ClassFile.FieldType), Jvm.Cond.code ({ cls := "java/lang/String", name := "getBytes", desc := "([BIB)V" } : Jvm.MethodName) jdk_42_method_147_code (4 : Nat) (Option.none : Option Jvm.ClassFile.FieldType), Jvm.Cond.code ({ cls := "java/lang/StringBuilder", name := "append", desc := "(J)Ljava/lang/StringBuilder;" } : Jvm.MethodName) jdk_67_method_16_code (3 : Nat) (Option.some (Jvm.ClassFile.FieldType.object "java/lang/StringBuilder")), Jvm.Cond.code ({ cls := "java/lang/AbstractStringBuilder", name := "append", desc := "(J)Ljava/lang/AbstractStringBuilder;" } : Jvm.MethodName) jdk_68_method_33_code (5 : Nat) (Option.some (Jvm.ClassFile.FieldType.object "java/lang/AbstractStringBuilder")), Jvm.Cond.code ({ cls := "java/lang/Long", name := "stringSize", desc := "(J)I" } : Jvm.MethodName) jdk_35_method_15_code (6 : Nat) (Option.some Jvm.ClassFile.FieldType.int), Jvm.Cond.code ({ cls := "java/lang/AbstractStringBuilder", name := "isLatin1", desc := "()Z" } : Jvm.MethodName) jdk_68_method_68_code (1 : Nat) (Option.some Jvm.ClassFile.FieldType.boolean), Jvm.Cond.code ({ cls := "java/lang/Long", name := "getChars", desc := "(JI[B)I" } : Jvm.MethodName) jdk_35_method_14_code (11 : Nat) (Option.some Jvm.ClassFile.FieldType.int), Jvm.Cond.code ({ cls := "java/lang/StringBuilder", name := "toString", desc := "()Ljava/lang/String;" } : Jvm.MethodName) jdk_67_method_42_code (1 : Nat) (Option.some (Jvm.ClassFile.FieldType.object "java/lang/String")), Jvm.Cond.code ({ cls := "java/lang/String", name := "<init>", desc := "(Ljava/lang/StringBuilder;)V" } : Jvm.MethodName) jdk_42_method_53_code (2 : Nat) (Option.none : Option Jvm.ClassFile.FieldType), Jvm.Cond.code ({ cls := "java/lang/String", name := "<init>", desc := "(Ljava/lang/AbstractStringBuilder;Ljava/lang/Void;)V" } : Jvm.MethodName) jdk_42_method_150_code (5 : Nat) (Option.none : Option Jvm.ClassFile.FieldType), Jvm.Cond.code ({ cls := "java/lang/AbstractStringBuilder", name := "getValue", desc := "()[B" } : Jvm.MethodName) jdk_68_method_64_code (1 : Nat) (Option.some (Jvm.ClassFile.FieldType.array Jvm.ClassFile.FieldType.byte)), Jvm.Cond.code ({ cls := "java/lang/StringBuilder", name := "length", desc := "()I" } : Jvm.MethodName) jdk_67_method_93_code (1 : Nat) (Option.some Jvm.ClassFile.FieldType.int), Jvm.Cond.code ({ cls := "java/lang/AbstractStringBuilder", name := "length", desc := "()I" } : Jvm.MethodName) jdk_68_method_6_code (1 : Nat) (Option.some Jvm.ClassFile.FieldType.int), Jvm.Cond.code ({ cls := "java/util/Arrays", name := "copyOfRange", desc := "([BII)[B" } : Jvm.MethodName) jdk_65_method_132_code (3 : Nat) (Option.some (Jvm.ClassFile.FieldType.array Jvm.ClassFile.FieldType.byte)), Jvm.Cond.code ({ cls := "java/util/Arrays", name := "copyOfRangeByte", desc := "([BII)[B" } : Jvm.MethodName) jdk_65_method_133_code (5 : Nat) (Option.some (Jvm.ClassFile.FieldType.array Jvm.ClassFile.FieldType.byte)), Jvm.Cond.code ({ cls := "java/util/Arrays", name := "checkLength", desc := "(II)V" } : Jvm.MethodName) jdk_65_method_131_code (2 : Nat) (Option.none : Option Jvm.ClassFile.FieldType), Jvm.Cond.code ({ cls := "java/lang/Math", name := "min", desc := "(II)I" } : Jvm.MethodName) jdk_29_method_69_code (2 : Nat) (Option.some Jvm.ClassFile.FieldType.int), Jvm.Cond.code ({ cls := "com/example/makewhole/makewhole/member/MemberRecordException", name := "<init>", desc := "(Lcom/example/makewhole/makewhole/member/MemberRecordException;Ljava/lang/String;Ljava/lang/String;)V" } : Jvm.MethodName) prog_26_method_3_code (4 : Nat) (Option.none : Option Jvm.ClassFile.FieldType), Jvm.Cond.code ({ cls := "java/lang/Throwable", name := "getMessage", desc := "()Ljava/lang/String;" } : Jvm.MethodName) jdk_78_method_6_code (1 : Nat) (Option.some (Jvm.ClassFile.FieldType.object "java/lang/String")), Jvm.Cond.code ({ cls := "com/example/makewhole/makewhole/memberfiles/TableFields", name := "getName", desc := "()Ljava/lang/String;" } : Jvm.MethodName) prog_32_method_4_code (1 : Nat) (Option.some (Jvm.ClassFile.FieldType.object "java/lang/String")), Jvm.Cond.code ({ cls := "java/lang/String", name := "equals", desc := "(Ljava/lang/Object;)Z" } : Jvm.MethodName) jdk_42_method_66_code (3 : Nat) (Option.some Jvm.ClassFile.FieldType.boolean), Jvm.Cond.code ({ cls := "com/example/makewhole/makewhole/memberfiles/TableFields", name := "hasArray", desc := "(Ljava/lang/String;)Z" } : Jvm.MethodName) prog_32_method_5_code (2 : Nat) (Option.some Jvm.ClassFile.FieldType.boolean), Jvm.Cond.code ({ cls := "java/util/ImmutableCollections$MapN", name := "containsKey", desc := "(Ljava/lang/Object;)Z" } : Jvm.MethodName) jdk_2605_method_2_code (2 : Nat) (Option.some Jvm.ClassFile.FieldType.boolean), Jvm.Cond.code ({ cls := "java/util/Objects", name := "requireNonNull", desc := "(Ljava/lang/Object;)Ljava/lang/Object;" } : Jvm.MethodName) jdk_31_method_10_code (1 : Nat) (Option.some (Jvm.ClassFile.FieldType.object "java/lang/Object")), Jvm.Cond.code ({ cls := "com/example/makewhole/makewhole/memberfiles/TableFields", name := "entries", desc := "(Ljava/lang/String;Ljava/lang/String;)Ljava/util/List;" } : Jvm.MethodName) prog_32_method_10_code (3 : Nat) (Option.some (Jvm.ClassFile.FieldType.object "java/util/List")), Jvm.Cond.code ({ cls := "java/util/ImmutableCollections$MapN", name := "get", desc := "(Ljava/lang/Object;)Ljava/lang/Object;" } : Jvm.MethodName) jdk_2605_method_5_code (3 : Nat) (Option.some (Jvm.ClassFile.FieldType.object "java/lang/Object")), Jvm.Cond.code ({ cls := "com/example/makewhole/makewhole/memberfiles/TableFieldsOfEntryPinLaw", name := "same", desc := "(Ljava/lang/String;Ljava/lang/String;)Z" } : Jvm.MethodName) method_3_code (2 : Nat) (Option.some Jvm.ClassFile.FieldType.boolean), Jvm.Cond.code ({ cls := "com/example/makewhole/makewhole/member/MemberRecordException", name := "getPlace", desc := "()Ljava/util/Optional;" } : Jvm.MethodName) prog_26_method_5_code (1 : Nat) (Option.some (Jvm.ClassFile.FieldType.object "java/util/Optional")), Jvm.Cond.code ({ cls := "java/util/Optional", name := "<init>", desc := "(Ljava/lang/Object;)V" } : Jvm.MethodName) jdk_32_method_2_code (2 : Nat) (Option.none : Option Jvm.ClassFile.FieldType), Jvm.Cond.code ({ cls := "java/lang/StringLatin1", name := "equals", desc := "([B[B)Z" } : Jvm.MethodName) jdk_43_method_13_code (3 : Nat) (Option.some Jvm.ClassFile.FieldType.boolean), Jvm.Cond.code ({ cls := "java/lang/String", name := "<init>", desc := "([C)V" } : Jvm.MethodName) jdk_42_method_3_code (2 : Nat) (Option.none : Option Jvm.ClassFile.FieldType), Jvm.Cond.code ({ cls := "java/lang/String", name := "<init>", desc := "([CIILjava/lang/Void;)V" } : Jvm.MethodName) jdk_42_method_149_code (6 : Nat) (Option.none : Option Jvm.ClassFile.FieldType), Jvm.Cond.code ({ cls := "java/lang/StringUTF16", name := "compress", desc := "([CII)[B" } : Jvm.MethodName) jdk_52_method_16_code (6 : Nat) (Option.some (Jvm.ClassFile.FieldType.array Jvm.ClassFile.FieldType.byte)), Jvm.Cond.code ({ cls := "java/lang/StringUTF16", name := "compress", desc := "([CI[BII)I" } : Jvm.MethodName) jdk_52_method_21_code (7 : Nat) (Option.some Jvm.ClassFile.FieldType.int), Jvm.Cond.code ({ cls := "java/lang/StringUTF16", name := "coderFromArrayLen", desc := "([BI)B" } : Jvm.MethodName) jdk_52_method_15_code (2 : Nat) (Option.some Jvm.ClassFile.FieldType.byte), Jvm.Cond.code ({ cls := "java/lang/String", name := "valueOf", desc := "(C)Ljava/lang/String;" } : Jvm.MethodName) jdk_42_method_139_code (1 : Nat) (Option.some (Jvm.ClassFile.FieldType.object "java/lang/String")), Jvm.Cond.code ({ cls := "java/lang/StringLatin1", name := "canEncode", desc := "(C)Z" } : Jvm.MethodName) jdk_43_method_3_code (1 : Nat) (Option.some Jvm.ClassFile.FieldType.boolean), Jvm.Cond.code ({ cls := "java/lang/StringLatin1", name := "toBytes", desc := "(C)[B" } : Jvm.MethodName) jdk_43_method_46_code (1 : Nat) (Option.some (Jvm.ClassFile.FieldType.array Jvm.ClassFile.FieldType.byte)), Jvm.Cond.code ({ cls := "java/lang/String", name := "<init>", desc := "([BB)V" } : Jvm.MethodName) jdk_42_method_151_code (3 : Nat) (Option.none : Option Jvm.ClassFile.FieldType), Jvm.Cond.code ({ cls := "java/lang/AbstractStringBuilder", name := "newCapacity", desc := "(I)I" } : Jvm.MethodName) jdk_68_method_10_code (6 : Nat) (Option.some Jvm.ClassFile.FieldType.int), Jvm.Cond.code ({ cls := "jdk/internal/util/ArraysSupport", name := "newLength", desc := "(III)I" } : Jvm.MethodName) jdk_48_method_27_code (4 : Nat) (Option.some Jvm.ClassFile.FieldType.int), Jvm.Cond.code ({ cls := "java/lang/Math", name := "max", desc := "(II)I" } : Jvm.MethodName) jdk_29_method_65_code (2 : Nat) (Option.some Jvm.ClassFile.FieldType.int), Jvm.Cond.code ({ cls := "java/util/Arrays", name := "copyOf", desc := "([BI)[B" } : Jvm.MethodName) jdk_65_method_121_code (3 : Nat) (Option.some (Jvm.ClassFile.FieldType.array Jvm.ClassFile.FieldType.byte))]
set_option maxRecDepth 65536 in
theorem codes_eq : words1.filter isCode = codes1 := rfl
theorem w_codes : ∀ c ∈ words1.filter isCode, c.before args0 about1 = true := by
  rw [codes_eq]
  intro c hc
  simp only [codes1, List.mem_cons, List.not_mem_nil, or_false] at hc
  rcases hc with rfl | rfl | rfl | rfl | rfl | rfl | rfl | rfl | rfl | rfl | rfl | rfl | rfl | rfl | rfl | rfl | rfl | rfl | rfl | rfl | rfl | rfl | rfl | rfl | rfl | rfl | rfl | rfl | rfl | rfl | rfl | rfl | rfl | rfl | rfl | rfl | rfl | rfl | rfl | rfl | rfl | rfl | rfl | rfl | rfl | rfl | rfl | rfl | rfl | rfl | rfl | rfl | rfl | rfl | rfl | rfl | rfl | rfl | rfl | rfl | rfl | rfl | rfl | rfl | rfl | rfl | rfl
  · exact w_c0
  · exact w_c1
  · exact w_c2
  · exact w_c3
  · exact w_c4
  · exact w_c5
  · exact w_c6
  · exact w_c7
  · exact w_c8
  · exact w_c9
  · exact w_c10
  · exact w_c11
  · exact w_c12
  · exact w_c13
  · exact w_c14
  · exact w_c15
  · exact w_c16
  · exact w_c17
  · exact w_c18
  · exact w_c19
  · exact w_c20
  · exact w_c21
  · exact w_c22
  · exact w_c23
  · exact w_c24
  · exact w_c25
  · exact w_c26
  · exact w_c27
  · exact w_c28
  · exact w_c29
  · exact w_c30
  · exact w_c31
  · exact w_c32
  · exact w_c33
  · exact w_c34
  · exact w_c35
  · exact w_c36
  · exact w_c37
  · exact w_c38
  · exact w_c39
  · exact w_c40
  · exact w_c41
  · exact w_c42
  · exact w_c43
  · exact w_c44
  · exact w_c45
  · exact w_c46
  · exact w_c47
  · exact w_c48
  · exact w_c49
  · exact w_c50
  · exact w_c51
  · exact w_c52
  · exact w_c53
  · exact w_c54
  · exact w_c55
  · exact w_c56
  · exact w_c57
  · exact w_c58
  · exact w_c59
  · exact w_c60
  · exact w_c61
  · exact w_c62
  · exact w_c63
  · exact w_c64
  · exact w_c65
  · exact w_c66
set_option maxRecDepth 65536 in
theorem w_t1 : (words1.take 24).all (fun c => isCode c || c.before args0 about1) = true := by decide +kernel
set_option maxRecDepth 65536 in
theorem w_t2 : ((words1.drop 24).take 24).all (fun c => isCode c || c.before args0 about1) = true := by decide +kernel
set_option maxRecDepth 65536 in
theorem w_t3 : (((words1.drop 24).drop 24).take 24).all (fun c => isCode c || c.before args0 about1) = true := by decide +kernel
set_option maxRecDepth 65536 in
theorem w_t4 : ((((words1.drop 24).drop 24).drop 24).take 24).all (fun c => isCode c || c.before args0 about1) = true := by decide +kernel
set_option maxRecDepth 65536 in
theorem w_t5 : (((((words1.drop 24).drop 24).drop 24).drop 24).take 24).all (fun c => isCode c || c.before args0 about1) = true := by decide +kernel
set_option maxRecDepth 65536 in
theorem w_t6 : ((((((words1.drop 24).drop 24).drop 24).drop 24).drop 24).take 24).all (fun c => isCode c || c.before args0 about1) = true := by decide +kernel
set_option maxRecDepth 65536 in
theorem w_t7 : (((((((words1.drop 24).drop 24).drop 24).drop 24).drop 24).drop 24).take 24).all (fun c => isCode c || c.before args0 about1) = true := by decide +kernel
set_option maxRecDepth 65536 in
theorem w_t8 : ((((((((words1.drop 24).drop 24).drop 24).drop 24).drop 24).drop 24).drop 24).take 24).all (fun c => isCode c || c.before args0 about1) = true := by decide +kernel
set_option maxRecDepth 65536 in
theorem w_t9 : (((((((((words1.drop 24).drop 24).drop 24).drop 24).drop 24).drop 24).drop 24).drop 24).take 24).all (fun c => isCode c || c.before args0 about1) = true := by decide +kernel
set_option maxRecDepth 65536 in
theorem w_t10 : ((((((((((words1.drop 24).drop 24).drop 24).drop 24).drop 24).drop 24).drop 24).drop 24).drop 24).take 24).all (fun c => isCode c || c.before args0 about1) = true := by decide +kernel
set_option maxRecDepth 65536 in
theorem w_t11 : (((((((((((words1.drop 24).drop 24).drop 24).drop 24).drop 24).drop 24).drop 24).drop 24).drop 24).drop 24).take 24).all (fun c => isCode c || c.before args0 about1) = true := by decide +kernel
set_option maxRecDepth 65536 in
theorem w_t12 : ((((((((((((words1.drop 24).drop 24).drop 24).drop 24).drop 24).drop 24).drop 24).drop 24).drop 24).drop 24).drop 24).take 24).all (fun c => isCode c || c.before args0 about1) = true := by decide +kernel
set_option maxRecDepth 65536 in
theorem w_t13 : (((((((((((((words1.drop 24).drop 24).drop 24).drop 24).drop 24).drop 24).drop 24).drop 24).drop 24).drop 24).drop 24).drop 24).take 24).all (fun c => isCode c || c.before args0 about1) = true := by decide +kernel
set_option maxRecDepth 65536 in
theorem w_t14 : ((((((((((((((words1.drop 24).drop 24).drop 24).drop 24).drop 24).drop 24).drop 24).drop 24).drop 24).drop 24).drop 24).drop 24).drop 24).take 24).all (fun c => isCode c || c.before args0 about1) = true := by decide +kernel
set_option maxRecDepth 65536 in
theorem w_t15 : (((((((((((((((words1.drop 24).drop 24).drop 24).drop 24).drop 24).drop 24).drop 24).drop 24).drop 24).drop 24).drop 24).drop 24).drop 24).drop 24).take 24).all (fun c => isCode c || c.before args0 about1) = true := by decide +kernel
set_option maxRecDepth 65536 in
theorem w_t16 : ((((((((((((((((words1.drop 24).drop 24).drop 24).drop 24).drop 24).drop 24).drop 24).drop 24).drop 24).drop 24).drop 24).drop 24).drop 24).drop 24).drop 24).take 24).all (fun c => isCode c || c.before args0 about1) = true := by decide +kernel
set_option maxRecDepth 65536 in
theorem w_t17 : (((((((((((((((((words1.drop 24).drop 24).drop 24).drop 24).drop 24).drop 24).drop 24).drop 24).drop 24).drop 24).drop 24).drop 24).drop 24).drop 24).drop 24).drop 24).take 24).all (fun c => isCode c || c.before args0 about1) = true := by decide +kernel
set_option maxRecDepth 65536 in
theorem w_t18 : (((((((((((((((((words1.drop 24).drop 24).drop 24).drop 24).drop 24).drop 24).drop 24).drop 24).drop 24).drop 24).drop 24).drop 24).drop 24).drop 24).drop 24).drop 24).drop 24).all (fun c => isCode c || c.before args0 about1) = true := by decide +kernel
theorem w_tables : (allAtoms (Jvm.Cond.code x code maxLocals ret :: tables_1)).before args0 about1 = true := by
  rw [allAtoms_all]
  show words1.all (fun c => c.before args0 about1) = true
  refine all_split ?_ w_codes
  rw [← List.take_append_drop 24 words1, List.all_append, w_t1, ← List.take_append_drop 24 (words1.drop 24), List.all_append, w_t2, ← List.take_append_drop 24 ((words1.drop 24).drop 24), List.all_append, w_t3, ← List.take_append_drop 24 (((words1.drop 24).drop 24).drop 24), List.all_append, w_t4, ← List.take_append_drop 24 ((((words1.drop 24).drop 24).drop 24).drop 24), List.all_append, w_t5, ← List.take_append_drop 24 (((((words1.drop 24).drop 24).drop 24).drop 24).drop 24), List.all_append, w_t6, ← List.take_append_drop 24 ((((((words1.drop 24).drop 24).drop 24).drop 24).drop 24).drop 24), List.all_append, w_t7, ← List.take_append_drop 24 (((((((words1.drop 24).drop 24).drop 24).drop 24).drop 24).drop 24).drop 24), List.all_append, w_t8, ← List.take_append_drop 24 ((((((((words1.drop 24).drop 24).drop 24).drop 24).drop 24).drop 24).drop 24).drop 24), List.all_append, w_t9, ← List.take_append_drop 24 (((((((((words1.drop 24).drop 24).drop 24).drop 24).drop 24).drop 24).drop 24).drop 24).drop 24), List.all_append, w_t10, ← List.take_append_drop 24 ((((((((((words1.drop 24).drop 24).drop 24).drop 24).drop 24).drop 24).drop 24).drop 24).drop 24).drop 24), List.all_append, w_t11, ← List.take_append_drop 24 (((((((((((words1.drop 24).drop 24).drop 24).drop 24).drop 24).drop 24).drop 24).drop 24).drop 24).drop 24).drop 24), List.all_append, w_t12, ← List.take_append_drop 24 ((((((((((((words1.drop 24).drop 24).drop 24).drop 24).drop 24).drop 24).drop 24).drop 24).drop 24).drop 24).drop 24).drop 24), List.all_append, w_t13, ← List.take_append_drop 24 (((((((((((((words1.drop 24).drop 24).drop 24).drop 24).drop 24).drop 24).drop 24).drop 24).drop 24).drop 24).drop 24).drop 24).drop 24), List.all_append, w_t14, ← List.take_append_drop 24 ((((((((((((((words1.drop 24).drop 24).drop 24).drop 24).drop 24).drop 24).drop 24).drop 24).drop 24).drop 24).drop 24).drop 24).drop 24).drop 24), List.all_append, w_t15, ← List.take_append_drop 24 (((((((((((((((words1.drop 24).drop 24).drop 24).drop 24).drop 24).drop 24).drop 24).drop 24).drop 24).drop 24).drop 24).drop 24).drop 24).drop 24).drop 24), List.all_append, w_t16, ← List.take_append_drop 24 ((((((((((((((((words1.drop 24).drop 24).drop 24).drop 24).drop 24).drop 24).drop 24).drop 24).drop 24).drop 24).drop 24).drop 24).drop 24).drop 24).drop 24).drop 24), List.all_append, w_t17, w_t18]
  rfl
set_option maxRecDepth 65536 in
theorem w_rest : rest_1_c.before args0 about1 = true := by decide +kernel
set_option maxRecDepth 65536 in
theorem w_case : (Jvm.Cond.and given_1 narrow_1).before args0 about1 = true := by decide +kernel
set_option maxRecDepth 65536 in
theorem w_consts : constsHeld consts_1 about1 := Jvm.Lit.constsHeldB_iff.mp (by decide +kernel)
theorem w_applies : (headSpec (Jvm.Cond.code x code maxLocals ret :: tables_1) room_1).applies x e0.platform about1 = true :=
  (Spec.applies_iff w_frames).mpr ⟨w_running, w_runnable, w_alone, w_named, w_hears, w_ripe, w_room, w_tables⟩
theorem atStart : AtStart classFile x code maxLocals ret World_1 tables_1 room_1 Calls_1 rest_1 Pre_1 launch0 p0 e0 about1 theMethod args0 below0 :=
  ⟨lists_1, trivial, launch0.admits_env _ _ _, launch0.least_env, fairChoices_fair.cas, fairChoices_fair.clock, w_frames, w_args, w_heap, w_applies, ⟨(by decide +kernel : framesKnown about1 = true), ⟨(by decide +kernel : tablesKnown about1 = true), ⟨w_consts, trivial⟩⟩⟩, w_rest, w_case⟩
end start1
theorem witness_1 : WitnessClaimed_1 := ⟨start1.p0, start1.e0, start1.about1, start1.theMethod, start1.args0, start1.below0, start1.atStart⟩
end Jvm.Pilot.@@N@@
