import JvmDerived
import JvmDerived.Pilot.@@N@@Statement
import JvmDerived.Pilot.@@N@@Code
set_option linter.unusedVariables false
set_option linter.unusedSimpArgs false
namespace Jvm.Pilot.@@N@@
open Jvm Jvm.ClassFile Sem Op Lib Jvm.Free Jvm.Stand Jvm.LawKit Jvm.RoadKit Bundle Jvm.Pilot.@@N@@.Jvm.D
section Own
variable {p : Program} {l : Launch} {e : Env} {R : Room} {s : State} {m : MethodId} {args : Array Value} {below : List Frame} {meth : Method} {c : Code} {T T' : State} {locs : List Loc} {cells slots C N : Nat} {Z : State} {h h' : Heap} {n0 : Nat}
/-- from the frame g over T the run comes to a state of which P holds -/
def own_Rch (p : Program) (e : Env) (below : List Frame) (P : State → Prop) (T : State) (g : JFrame) : Prop := ∃ U, Steps p.tables e below (T.setTop g) U ∧ P U
/-- the body has ended as Q says -/
def own_End (s : State) (below : List Frame) (Q : Option Value → Heap → List Loc → Prop) (C N : Nat) (U : State) : Prop := U.status = .running ∧ ∃ v L, Ended U below (.returned v) ∧ Q v U.heap L ∧ FrameEnd s (.returned v) U L C N
theorem own_st {P : State → Prop} {g g' : JFrame} (h : ∀ t, Steps p.tables e below (T'.setTop g') t → Steps p.tables e below (T.setTop g) t) (k : own_Rch p e below P T' g') : own_Rch p e below P T g := by
  obtain ⟨U, h1, h2⟩ := k
  exact ⟨U, h U h1, h2⟩
theorem own_close {Q : Option Value → Heap → List Loc → Prop} {g : JFrame} (k : own_Rch p e below (own_End s below Q C N) T g) : ∃ U o, Steps p.tables e below (T.setTop g) U ∧ U.status = .running ∧ Ended U below o ∧ ∃ v L, o = .returned v ∧ Q v U.heap L ∧ FrameEnd s o U L C N := by
  obtain ⟨U, h1, h2, v, L, h3, h4, h5⟩ := k
  exact ⟨U, _, h1, h2, h3, v, L, rfl, h4, h5⟩
theorem own_retN {Q : Option Value → Heap → List Loc → Prop} {pc : Nat} {Ls : Array Slot} {z : Int32} {t : FieldType} {rest : List Value} (ht : t = .boolean ∨ t = .byte ∨ t = .char ∨ t = .short) (X : Stand p l e R s m args below meth c T locs cells slots) (hx : p.tables.exec = Jvm.exec) (hlk : meth.locks = false) (hret : meth.sig.returnType = some t) (hd : decode c.code pc = .ok (.ireturn, 1)) (hc : cells ≤ C) (hn : slots ≤ N)
    (hq : Q (some (.int (nar t z))) T.heap locs) : own_Rch p e below (own_End s below Q C N) T (mkF m pc Ls (.int z :: rest)) := by
  obtain ⟨fs, hr, hrun, hended, hW, hsame⟩ := X.leave (v := some (.int (nar t z))) (fun h => by rw [hret] at h; cases h) hlk
  exact ⟨_, retN X hx hret ht hd hr, hrun, _, _, hended, hq, ⟨_, rfl⟩, hW, hsame.mono hc hn⟩
theorem own_retI {Q : Option Value → Heap → List Loc → Prop} {pc : Nat} {Ls : Array Slot} {z : Int32} {rest : List Value} (X : Stand p l e R s m args below meth c T locs cells slots) (hx : p.tables.exec = Jvm.exec) (hlk : meth.locks = false) (hret : meth.sig.returnType = some .int) (hd : decode c.code pc = .ok (.ireturn, 1)) (hc : cells ≤ C) (hn : slots ≤ N)
    (hq : Q (some (.int z)) T.heap locs) : own_Rch p e below (own_End s below Q C N) T (mkF m pc Ls (.int z :: rest)) := by
  obtain ⟨fs, hr, hrun, hended, hW, hsame⟩ := X.leave (v := some (.int z)) (fun h => by rw [hret] at h; cases h) hlk
  exact ⟨_, retOut X hx hret rfl (Or.inl ⟨rfl, Or.inl rfl, z, rfl⟩) hd hr, hrun, _, _, hended, hq, ⟨_, rfl⟩, hW, hsame.mono hc hn⟩
theorem own_retL {Q : Option Value → Heap → List Loc → Prop} {pc : Nat} {Ls : Array Slot} {z : Int64} {rest : List Value} (X : Stand p l e R s m args below meth c T locs cells slots) (hx : p.tables.exec = Jvm.exec) (hlk : meth.locks = false) (hret : meth.sig.returnType = some .long) (hd : decode c.code pc = .ok (.lreturn, 1)) (hc : cells ≤ C) (hn : slots ≤ N)
    (hq : Q (some (.long z)) T.heap locs) : own_Rch p e below (own_End s below Q C N) T (mkF m pc Ls (.long z :: rest)) := by
  obtain ⟨fs, hr, hrun, hended, hW, hsame⟩ := X.leave (v := some (.long z)) (fun h => by rw [hret] at h; cases h) hlk
  exact ⟨_, retOut X hx hret rfl (Or.inr (Or.inl ⟨rfl, rfl, z, rfl⟩)) hd hr, hrun, _, _, hended, hq, ⟨_, rfl⟩, hW, hsame.mono hc hn⟩
theorem own_narref {t : FieldType} {w : Value} (ht : t.isReference = true) : narrow t w = w := by cases t <;> first | rfl | (cases ht; done)
theorem own_retA {Q : Option Value → Heap → List Loc → Prop} {pc : Nat} {Ls : Array Slot} {w : Value} {t : FieldType} {rest : List Value} (ht : t.isReference = true) (hw : w.isRef = true) (X : Stand p l e R s m args below meth c T locs cells slots) (hx : p.tables.exec = Jvm.exec) (hlk : meth.locks = false) (hret : meth.sig.returnType = some t) (hd : decode c.code pc = .ok (.areturn, 1)) (hc : cells ≤ C) (hn : slots ≤ N)
    (hq : Q (some w) T.heap locs) : own_Rch p e below (own_End s below Q C N) T (mkF m pc Ls (w :: rest)) := by
  obtain ⟨fs, hr, hrun, hended, hW, hsame⟩ := X.leave (v := some w) (fun h => by rw [hret] at h; cases h) hlk
  exact ⟨_, retOut X hx hret (own_narref ht) (Or.inr (Or.inr (Or.inr (Or.inr ⟨rfl, ht, hw⟩)))) hd hr, hrun, _, _, hended, hq, ⟨_, rfl⟩, hW, hsame.mono hc hn⟩
theorem own_retV {Q : Option Value → Heap → List Loc → Prop} {pc : Nat} {Ls : Array Slot} (X : Stand p l e R s m args below meth c T locs cells slots) (hx : p.tables.exec = Jvm.exec) (hlk : meth.locks = false) (hret : meth.sig.returnType = none) (hd : decode c.code pc = .ok (.return_, 1)) (hc : cells ≤ C) (hn : slots ≤ N)
    (hq : Q none T.heap locs) : own_Rch p e below (own_End s below Q C N) T (mkF m pc Ls []) := by
  obtain ⟨fs, hr, hrun, hended, hW, hsame⟩ := X.leave (v := none) (fun _ => rfl) hlk
  exact ⟨_, X.returnOut hx hret hd hr, hrun, _, _, hended, hq, ⟨_, rfl⟩, hW, hsame.mono hc hn⟩
theorem own_psel {y : MethodName} {n : Nat} (hins : (Jvm.Cond.instantiable y.cls n).before args s = true) (hpriv : (Jvm.Cond.privateMethod y).before args s = true) (hinst : (Jvm.Cond.instanceMethod y).before args s = true) (hy : y.cls ≠ "java/lang/invoke/MethodHandle" ∧ y.cls ≠ "java/lang/invoke/VarHandle" := by decide) : (Jvm.Cond.selects y.cls y y).before args s = true := by
  obtain ⟨c, k, hc, hk, -, hniab, -, -⟩ := Cond.instantiable_spec hins
  have hni : k.isInterface = false := (Bool.or_eq_false_iff.mp hniab).1
  obtain ⟨mk, methM, hnamed, hmethM, -, -⟩ := Cond.instanceMethod_spec hinst
  have hfound : s.methodFound? y.cls y.name y.desc = some mk := State.methodFound?_of_named hnamed hy
  have hcls : mk.cls = c := Option.some.inj ((findClass_of_methodNamed hnamed).symm.trans hc)
  have hsel : selectMethod {} s.vm c mk = .method mk := selectMethod_private hmethM (Cond.privateMethod_at hpriv mk methM hnamed hmethM)
  simp only [Cond.before, Cond.holds, Cond.value, hc, hfound, hnamed, hsel, hcls, hk]
  simp; exact hni
theorem own_mvMN {a0 : Array Value} {own host : String} {y : MethodName} {index : Nat} (hZ : Z.Warmed39 s.vm) (w : (Jvm.Cond.methodLinkNest own index y host).before a0 Z = true) : (Jvm.Cond.methodLinkNest own index y host).before args s = true := (Cond.methodLinkNest_wide hZ w :)
theorem own_since (s : State) : s.Since s.vm 0 := (State.WarmedH.refl s).since 0
def own_EndW (s : State) (below : List Frame) (Q : Option Value → Heap → List Loc → Prop) (C N : Nat) (U : State) : Prop := U.status = .running ∧ ∃ v L, Ended U below (.returned v) ∧ Q v U.heap L ∧ ReturnedEndW s (.returned v) U L C N
theorem own_closeW {Q : Option Value → Heap → List Loc → Prop} {g : JFrame} (k : own_Rch p e below (own_EndW s below Q C N) T g) : ∃ U o, Steps p.tables e below (T.setTop g) U ∧ U.status = .running ∧ Ended U below o ∧ ∃ v L, o = .returned v ∧ Q v U.heap L ∧ ReturnedEndW s o U L C N := by
  obtain ⟨U, h1, h2, v, L, h3, h4, h5⟩ := k
  exact ⟨U, _, h1, h2, h3, v, L, rfl, h4, h5⟩
theorem own_retNW {vm0 : Vm} {k0 : Nat} {Q : Option Value → Heap → List Loc → Prop} {pc : Nat} {Ls : Array Slot} {z : Int32} {t : FieldType} {rest : List Value} (ht : t = .boolean ∨ t = .byte ∨ t = .char ∨ t = .short) (hS : s.Since vm0 k0) (hk : k0 ≤ T.heap.size) (X : Stand p l e R (s.setVm vm0) m args below meth c T locs cells slots) (hx : p.tables.exec = Jvm.exec) (hlk : meth.locks = false) (hret : meth.sig.returnType = some t) (hd : decode c.code pc = .ok (.ireturn, 1)) (hc : cells ≤ C) (hn : slots ≤ N)
    (hq : Q (some (.int (nar t z))) T.heap locs) : own_Rch p e below (own_EndW s below Q C N) T (mkF m pc Ls (.int z :: rest)) := by
  obtain ⟨fs, hr, hrun, hended, h1, h2, h3, h4⟩ := X.leaveW hS hk (v := some (.int (nar t z))) (fun h => by rw [hret] at h; cases h) hlk
  exact ⟨_, retN X hx hret ht hd hr, hrun, _, _, hended, hq, h1, h2, h3, h4.mono hc hn⟩
theorem own_retIW {vm0 : Vm} {k0 : Nat} {Q : Option Value → Heap → List Loc → Prop} {pc : Nat} {Ls : Array Slot} {z : Int32} {rest : List Value} (hS : s.Since vm0 k0) (hk : k0 ≤ T.heap.size) (X : Stand p l e R (s.setVm vm0) m args below meth c T locs cells slots) (hx : p.tables.exec = Jvm.exec) (hlk : meth.locks = false) (hret : meth.sig.returnType = some .int) (hd : decode c.code pc = .ok (.ireturn, 1)) (hc : cells ≤ C) (hn : slots ≤ N)
    (hq : Q (some (.int z)) T.heap locs) : own_Rch p e below (own_EndW s below Q C N) T (mkF m pc Ls (.int z :: rest)) := by
  obtain ⟨fs, hr, hrun, hended, h1, h2, h3, h4⟩ := X.leaveW hS hk (v := some (.int z)) (fun h => by rw [hret] at h; cases h) hlk
  exact ⟨_, retOut X hx hret rfl (Or.inl ⟨rfl, Or.inl rfl, z, rfl⟩) hd hr, hrun, _, _, hended, hq, h1, h2, h3, h4.mono hc hn⟩
theorem own_retAW {vm0 : Vm} {k0 : Nat} {Q : Option Value → Heap → List Loc → Prop} {pc : Nat} {Ls : Array Slot} {w : Value} {t : FieldType} {rest : List Value} (ht : t.isReference = true) (hw : w.isRef = true) (hS : s.Since vm0 k0) (hk : k0 ≤ T.heap.size) (X : Stand p l e R (s.setVm vm0) m args below meth c T locs cells slots) (hx : p.tables.exec = Jvm.exec) (hlk : meth.locks = false) (hret : meth.sig.returnType = some t) (hd : decode c.code pc = .ok (.areturn, 1)) (hc : cells ≤ C) (hn : slots ≤ N)
    (hq : Q (some w) T.heap locs) : own_Rch p e below (own_EndW s below Q C N) T (mkF m pc Ls (w :: rest)) := by
  obtain ⟨fs, hr, hrun, hended, h1, h2, h3, h4⟩ := X.leaveW hS hk (v := some w) (fun h => by rw [hret] at h; cases h) hlk
  exact ⟨_, retOut X hx hret (own_narref ht) (Or.inr (Or.inr (Or.inr (Or.inr ⟨rfl, ht, hw⟩)))) hd hr, hrun, _, _, hended, hq, h1, h2, h3, h4.mono hc hn⟩
theorem own_retVW {vm0 : Vm} {k0 : Nat} {Q : Option Value → Heap → List Loc → Prop} {pc : Nat} {Ls : Array Slot} (hS : s.Since vm0 k0) (hk : k0 ≤ T.heap.size) (X : Stand p l e R (s.setVm vm0) m args below meth c T locs cells slots) (hx : p.tables.exec = Jvm.exec) (hlk : meth.locks = false) (hret : meth.sig.returnType = none) (hd : decode c.code pc = .ok (.return_, 1)) (hc : cells ≤ C) (hn : slots ≤ N)
    (hq : Q none T.heap locs) : own_Rch p e below (own_EndW s below Q C N) T (mkF m pc Ls []) := by
  obtain ⟨fs, hr, hrun, hended, h1, h2, h3, h4⟩ := X.leaveW hS hk (v := none) (fun _ => rfl) hlk
  exact ⟨_, X.returnOut hx hret hd hr, hrun, _, _, hended, hq, h1, h2, h3, h4.mono hc hn⟩
theorem own_old_le (O : Old Z n0 h) : n0 ≤ h.size := O.1 ▸ O.2.1
end Own
def own_Mir (Z : State) (C : String) (mr : Addr) : Prop := ∃ (c : ClassId) (k : Class), Z.vm.findClass C = some c ∧ Z.vm.classes[c]? = some k ∧ k.mirror = some mr
theorem own_mirev {Z s : State} {args : Array Value} {C : String} {mr : Addr} (hZ : Z.Warmed39 s.vm) (M : own_Mir Z C mr) : (Term.mirror C).eval args s none [] s = some (.ref mr) := by
  obtain ⟨c, k, m1, m2, m3⟩ := M
  obtain ⟨k', q, ek⟩ := hZ.alike.2.2 _ _ m2
  have f : s.vm.findClass C = some c := by rw [hZ.alike.findClass]; exact m1
  have e : k'.mirror = some mr := by rw [ek]; exact m3
  simp [Term.eval, f, q, e]
theorem own_gcls {p : Program} {l : Launch} {e : Env} {R : Room} {s : State} {m : MethodId} {args : Array Value} {below : List Frame} {meth : Method} {c : Code} {T : State} {locs : List Loc} {cells slots : Nat} {Z : State} {h : Heap} {a : Addr} (X : Stand p l e R s m args below meth c T locs cells slots) (hx : p.tables.exec = Jvm.exec) (hZ : Z.Warmed39 s.vm) {a0 : Array Value} {own C : String} {index : Nat} (hown : s.vm.findClass own = some m.cls)
    (w1 : (Jvm.Cond.methodLink own index ⟨"java/lang/Object", "getClass", "()Ljava/lang/Class;"⟩).before a0 Z = true) (w2 : (Jvm.Cond.declares ⟨"java/lang/Object", "getClass", "()Ljava/lang/Class;"⟩).before a0 Z = true) (w3 : (Jvm.Cond.noSuperclass "java/lang/Object").before a0 Z = true) (w4 : (Jvm.Cond.selects C ⟨"java/lang/Object", "getClass", "()Ljava/lang/Class;"⟩ ⟨"java/lang/Object", "getClass", "()Ljava/lang/Class;"⟩).before a0 Z = true)
    (w5 : (Jvm.Cond.instanceMethod ⟨"java/lang/Object", "getClass", "()Ljava/lang/Class;"⟩).before a0 Z = true) (w6 : (Jvm.Cond.native ⟨"java/lang/Object", "getClass", "()Ljava/lang/Class;"⟩).before a0 Z = true) (eT : T.heap = h) (E : Exa Z h a C) {mr : Addr} (M : own_Mir Z C mr)
    {g : JFrame} (hg : g.method = m) (hsize : g.locals.size = c.maxLocals) {rest : List Value} (hs : g.stack = .ref a :: rest) (hd : decode c.code g.pc = .ok (.invokevirtual index, 3)) (hf : 1 ≤ R.frames) {W : Nat} (hW : 2 * g.monitorRoom + (rest.map fun v => v.category).sum ≤ W) (hl : W + (nativeFrameWords "java/lang/Object" "getClass" 1 + 11) ≤ R.locals) :
    ∃ T', Stand p l e R s m args below meth c T' locs cells slots ∧ T'.heap = h ∧ ∀ target, Steps p.tables e below (T'.setTop { g with pc := g.pc + 3, stack := .ref mr :: rest }) target → Steps p.tables e below (T.setTop g) target := by
  obtain ⟨cB, kB, i1, i2, i3⟩ := isOf hZ eT E
  obtain ⟨cc, kc, m1, m2, m3⟩ := M
  rw [hZ.alike.findClass] at i1
  cases i1.symm.trans m1
  obtain ⟨k', q, ek⟩ := hZ.alike.2.2 _ _ m2
  obtain ⟨vm', X', st⟩ := X.getClassOf hx hown (mvT hZ w1) (mvT hZ w2) (nf_top (args := #[]) (mvT hZ w3)) (mvT hZ w4) (mvT hZ w5) (mvT hZ w6) (by rw [hZ.alike.findClass]; exact m1) i3 q (by rw [ek]; exact m3) hg hsize hs hd hf (by omega)
  exact ⟨_, X', eT, st⟩
theorem own_ldcm {p : Program} {l : Launch} {e : Env} {R : Room} {s : State} {m : MethodId} {args : Array Value} {below : List Frame} {meth : Method} {c : Code} {T : State} {locs : List Loc} {cells slots : Nat} {Z : State} {h : Heap} (X : Stand p l e R s m args below meth c T locs cells slots) (hx : p.tables.exec = Jvm.exec) (hZ : Z.Warmed39 s.vm) {a0 : Array Value} {own C : String} {index : Nat} (hown : s.vm.findClass own = some m.cls)
    (w : (Jvm.Cond.classLink own index C).before a0 Z = true) (eT : T.heap = h) {mr : Addr} (M : own_Mir Z C mr) {g : JFrame} (hg : g.method = m) (hd : decode c.code g.pc = .ok (.ldc index, 2)) :
    ∃ T', Stand p l e R s m args below meth c T' locs cells slots ∧ T'.heap = h ∧ ∀ target, Steps p.tables e below (T'.setTop { g with pc := g.pc + 2, stack := .ref mr :: g.stack }) target → Steps p.tables e below (T.setTop g) target := by
  obtain ⟨vm', X', st⟩ := X.ldcMirror hx hown (mvT hZ w) (own_mirev hZ M) hg hd
  exact ⟨_, X', eT, st⟩
theorem own_found {Z : State} {a0 : Array Value} {K : String} {n : Nat} (wk : (Jvm.Cond.instantiable K n).before a0 Z = true) : ∃ t k, Z.vm.findClass K = some t ∧ Z.vm.classes[t]? = some k ∧ k.kind = .ordinary ∧ k.isInterface = false := by
  obtain ⟨c, k, hc, hk, ho, hniab, -, -⟩ := Cond.instantiable_spec wk
  exact ⟨c, k, hc, hk, ho, (Bool.or_eq_false_iff.mp hniab).1⟩
theorem own_nsroot {Z : State} {a0 : Array Value} {O K : String} {n : Nat} (w : (Jvm.Cond.noSuperclass O).before a0 Z = true) (wk : (Jvm.Cond.instantiable K n).before a0 Z = true) (hn : O ≠ K) : NS Z O K := by
  obtain ⟨c, k, h1, h2, h3, -, -⟩ := Cond.noSuperclass_spec w
  obtain ⟨t, -, g1, -⟩ := own_found wk
  have ne := ids_ne h1 g1 hn
  refine ⟨c, t, h1, g1, fun fuel => ?_⟩
  cases fuel with
  | zero => rfl
  | succ f => simp [Vm.isSubclassAux, ne, h2, h3]
theorem own_nsno {Z : State} {a0 : Array Value} {C S K : String} {n : Nat} (w : (Jvm.Cond.superclass C S).before a0 Z = true) (wk : (Jvm.Cond.instantiable K n).before a0 Z = true) (ns : NS Z C K) (hn : C ≠ K) : ∃ c t, Z.vm.findClass C = some c ∧ Z.vm.findClass K = some t ∧ Z.vm.assignable c t = false := by
  obtain ⟨c, t, h0, g0, n3⟩ := ns
  obtain ⟨q, k, kp, h1, h2, h3, h4, h5, -, h7⟩ := Cond.superclass_spec h0 w
  obtain ⟨t', k', g1, g2, g5, g7⟩ := own_found wk
  cases g0.symm.trans g1
  have ne := ids_ne h0 g0 hn
  refine ⟨c, t, h0, g0, ?_⟩
  show Z.vm.assignableAux (255 + 1) c t = false
  simp [Vm.assignableAux, ne, h2, g2, h5, g5, g7, Vm.isSubclass, n3]
theorem own_arr0 {Z : State} {args : Array Value} {t : Term} {a : Addr} (hf : Fit Z) (ht : t.eval args Z none [] Z = some (.ref a)) (h1 : (Jvm.Cond.arrayOf t (.object "java/lang/Object")).value args Z none Z [] = some true) (h2 : (Jvm.Cond.eq (.length t) (.int 0)).value args Z none Z [] = some true) :
    ∃ k, Arv Z Z.heap a k (.object "java/lang/Object") (0 : Int32) [] .null := by
  obtain ⟨cl, A⟩ := Arr.start ht h1
  obtain ⟨x, y, e1, e2, -, k2⟩ := cmp_v (Or.inl h2)
  cases (Term.int_eval (0 : Int32)).symm.trans e2
  obtain ⟨z, rfl⟩ := k2
  simp only [Cond.value, e1, e2] at h2
  have h3 : z = 0 := by simpa using h2
  subst h3
  have A' := Arr.fin (Vm.Alike.refl _) A
  simp [Term.eval, ht, A'] at e1
  exact ⟨_, Arv.start hf A (by omega) e1.2 (by decide) (by decide) trivial⟩
theorem own_pn0 : plainName "java/util/AbstractCollection" = true := by first | (simp [plainName, overriddenIn]; done) | decide +kernel
theorem own_ef3 (m : MethodId) (x0 : Addr) : entryFrame m #[(.ref x0)] 1 = mkF m 0 #[.val (.ref x0)] [] := by first | (simp [entryFrame, mkF, argsToLocals, Value.category]; done) | rfl
theorem own_d3_0 : decode jdk_22_method_1_code 0 = .ok (.aload_n 0, 1) := by decide +kernel
theorem own_d3_1 : decode jdk_22_method_1_code 1 = .ok (.invokespecial 1, 3) := by decide +kernel
theorem own_d3_4 : decode jdk_22_method_1_code 4 = .ok (.return_, 1) := by decide +kernel
def own_Q_own_abc (Z : State) (a : Addr) (h0 : Heap) (n0 : Nat) (v : Option Value) (h : Heap) (L : List Loc) : Prop := v = none ∧ Fr n0 L ∧ h = h0
set_option maxRecDepth 65536 in
set_option maxHeartbeats 40000000 in
theorem own_abc (l : Launch) (Z : State) (a0 : Array Value) (hw : ∀ d ∈ tables_1, d.before a0 Z = true) (ws : List Jvm.Cond) (a : Addr) (h0 : Heap) (n0 : Nat) (O0 : Old Z n0 h0) :
    MetFree l (⟨"java/util/AbstractCollection", "<init>", "()V"⟩ : MethodName) (head1 (Jvm.Cond.code (⟨"java/util/AbstractCollection", "<init>", "()V"⟩ : MethodName) jdk_22_method_1_code 1 none :: ws) ({ frames := 1, cells := 0, slots := 0, locals := 12 } : Room)) (fun args_ U => args_ = #[(.ref a)] ∧ Z.Warmed39 U.vm ∧ U.heap = h0) (fun _ _ _ _ _ => True) (fun _ U o U' => ∃ v L, o = .returned v ∧ (own_Q_own_abc Z a h0 n0) v U'.heap L ∧ FrameEnd U o U' L ({ frames := 1, cells := 0, slots := 0, locals := 12 } : Room).cells ({ frames := 1, cells := 0, slots := 0, locals := 12 } : Room).slots) := by
  refine MetFree.of_bodySF (plainFor_of_name own_pn0) hisR ?_
  intro p e s m args below meth c s₁ Bd hml0 hP hK
  obtain ⟨rfl, hZ, hh⟩ := hP
  have hx := Bd.exec
  have hby := Bd.bytes
  have hml : c.maxLocals = 1 := hml0
  have hown : s.vm.findClass "java/util/AbstractCollection" = some m.cls := findClass_of_methodNamed Bd.named
  have hnm := (name_of_methodNamed Bd.named Bd.method).1
  have X0 : Stand p l e ({ frames := 1, cells := 0, slots := 0, locals := 12 } : Room) s m #[(.ref a)] below meth c s₁ [] 0 0 := Stand.of_body Bd
  have e0 : s₁.heap = h0 := by rw [← hh, Bd.state]; rfl
  have N0 := Fr.nil n0
  refine own_close (s := s) (Q := (own_Q_own_abc Z a h0 n0)) (C := (({ frames := 1, cells := 0, slots := 0, locals := 12 } : Room)).cells) (N := (({ frames := 1, cells := 0, slots := 0, locals := 12 } : Room)).slots) (own_st (fun _ kt => castTop (own_ef3 m a) kt) ?_)
  show own_Rch p e below _ s₁ (mkF m 0 #[.val (.ref a)] [])
  refine own_st (fun _ kt => XS.aloadN X0.here hx rfl (hb hby own_d3_0) rfl rfl  kt) ?_
  show own_Rch p e below _ s₁ (mkF m 1 #[.val (.ref a)] [(.ref a)])
  obtain ⟨T1, X1, e1, st1⟩ := initO X0 hx hZ hown (hw _ (List.mem_of_getElem? (i := 19) rfl)) (hw _ (List.mem_of_getElem? (i := 20) rfl)) (hw _ (List.mem_of_getElem? (i := 21) rfl)) e0 (g := (mkF m 1 #[.val (.ref a)] [(.ref a)])) rfl (by rw [hml]; rfl) rfl (hb hby own_d3_1) (by decide) (W := 0) (by show 2 * 0 + _ ≤ _; exact Nat.le_of_eq rfl) (by decide)
  refine own_st st1 ?_
  show own_Rch p e below _ T1 (mkF m 4 #[.val (.ref a)] [])
  refine own_retV X1 hx Bd.notSynchronized Bd.returns (hb hby own_d3_4) (by decide) (by decide) ?_
  rw [e1]
  exact ⟨rfl, N0, rfl⟩
theorem own_pn1 : plainName "java/util/ImmutableCollections$AbstractImmutableCollection" = true := by first | (simp [plainName, overriddenIn]; done) | decide +kernel
theorem own_ef24 (m : MethodId) (x0 : Addr) : entryFrame m #[(.ref x0)] 1 = mkF m 0 #[.val (.ref x0)] [] := by first | (simp [entryFrame, mkF, argsToLocals, Value.category]; done) | rfl
theorem own_d24_0 : decode jdk_47_method_1_code 0 = .ok (.aload_n 0, 1) := by decide +kernel
theorem own_d24_1 : decode jdk_47_method_1_code 1 = .ok (.invokespecial 1, 3) := by decide +kernel
theorem own_pd0 : parseMethodDescriptor "()V" = some ⟨[], none⟩ := by decide +kernel
theorem own_d24_4 : decode jdk_47_method_1_code 4 = .ok (.return_, 1) := by decide +kernel
def own_Q_own_aic (Z : State) (a : Addr) (h0 : Heap) (n0 : Nat) (v : Option Value) (h : Heap) (L : List Loc) : Prop := v = none ∧ Fr n0 L ∧ h = h0
set_option maxRecDepth 65536 in
set_option maxHeartbeats 40000000 in
theorem own_aic (l : Launch) (Z : State) (a0 : Array Value) (hw : ∀ d ∈ tables_1, d.before a0 Z = true) (ws : List Jvm.Cond) (a : Addr) (h0 : Heap) (n0 : Nat) (O0 : Old Z n0 h0) :
    MetFree l (⟨"java/util/ImmutableCollections$AbstractImmutableCollection", "<init>", "()V"⟩ : MethodName) (head1 (Jvm.Cond.code (⟨"java/util/ImmutableCollections$AbstractImmutableCollection", "<init>", "()V"⟩ : MethodName) jdk_47_method_1_code 1 none :: ws) ({ frames := 2, cells := 0, slots := 0, locals := 24 } : Room)) (fun args_ U => args_ = #[(.ref a)] ∧ Z.Warmed39 U.vm ∧ U.heap = h0) (fun _ _ _ _ _ => True) (fun _ U o U' => ∃ v L, o = .returned v ∧ (own_Q_own_aic Z a h0 n0) v U'.heap L ∧ FrameEnd U o U' L ({ frames := 2, cells := 0, slots := 0, locals := 24 } : Room).cells ({ frames := 2, cells := 0, slots := 0, locals := 24 } : Room).slots) := by
  refine MetFree.of_bodySF (plainFor_of_name own_pn1) hisR ?_
  intro p e s m args below meth c s₁ Bd hml0 hP hK
  obtain ⟨rfl, hZ, hh⟩ := hP
  have hx := Bd.exec
  have hby := Bd.bytes
  have hml : c.maxLocals = 1 := hml0
  have hown : s.vm.findClass "java/util/ImmutableCollections$AbstractImmutableCollection" = some m.cls := findClass_of_methodNamed Bd.named
  have hnm := (name_of_methodNamed Bd.named Bd.method).1
  have X0 : Stand p l e ({ frames := 2, cells := 0, slots := 0, locals := 24 } : Room) s m #[(.ref a)] below meth c s₁ [] 0 0 := Stand.of_body Bd
  have e0 : s₁.heap = h0 := by rw [← hh, Bd.state]; rfl
  have N0 := Fr.nil n0
  refine own_close (s := s) (Q := (own_Q_own_aic Z a h0 n0)) (C := (({ frames := 2, cells := 0, slots := 0, locals := 24 } : Room)).cells) (N := (({ frames := 2, cells := 0, slots := 0, locals := 24 } : Room)).slots) (own_st (fun _ kt => castTop (own_ef24 m a) kt) ?_)
  show own_Rch p e below _ s₁ (mkF m 0 #[.val (.ref a)] [])
  refine own_st (fun _ kt => XS.aloadN X0.here hx rfl (hb hby own_d24_0) rfl rfl  kt) ?_
  show own_Rch p e below _ s₁ (mkF m 1 #[.val (.ref a)] [(.ref a)])
  obtain ⟨_, _, ⟨T1, L1, k1, n1⟩, -, X1, ⟨Lc1, hQ1, l1, y1, z1⟩, st1⟩ := X0.specialBack hx (y := (⟨"java/util/AbstractCollection", "<init>", "()V"⟩ : MethodName)) rfl hown (mvT hZ (hw _ (List.mem_of_getElem? (i := 165) rfl))) (mvT hZ (hw _ (List.mem_of_getElem? (i := 14) rfl))) (mvT hZ (hw _ (List.mem_of_getElem? (i := 18) rfl))) (by decide) (backOf (W := 0) (own_abc l Z a0 hw [] a h0 n0 O0 ) hZ (hw _ (List.mem_of_getElem? (i := 18) rfl)) (hw _ (List.mem_of_getElem? (i := 17) rfl)) (by decide) (by decide)) (g := (mkF m 1 #[.val (.ref a)] [(.ref a)])) rfl (by rw [hml]; rfl) (Steps.refl _) (a := a) (argsL := []) (rest := []) (lenOf own_pd0 rfl) rfl (by show 2 * 0 + _ ≤ _; exact Nat.le_of_eq rfl) (hb hby own_d24_1) (fun _ _ => ⟨rfl, e0, (by decide : 0 + 0 ≤ _), (by decide : 0 + 0 ≤ _)⟩)
  dsimp only [Pt.U, Pt.locs, Pt.cells, Pt.slots] at X1 l1 y1 z1 st1 hQ1
  subst l1 y1 z1
  obtain ⟨rfl, N1q, hh1⟩ := hQ1
  have N1 := Fr.app N0 N1q
  refine own_st (fun _ kt => st1.trans kt) ?_
  show own_Rch p e below _ T1 (mkF m 4 #[.val (.ref a)] [])
  refine own_retV X1 hx Bd.notSynchronized Bd.returns (hb hby own_d24_4) (by decide) (by decide) ?_
  rw [hh1]
  exact ⟨rfl, N1, rfl⟩
theorem own_pn2 : plainName "java/util/ImmutableCollections$AbstractImmutableList" = true := by first | (simp [plainName, overriddenIn]; done) | decide +kernel
theorem own_ef23 (m : MethodId) (x0 : Addr) : entryFrame m #[(.ref x0)] 1 = mkF m 0 #[.val (.ref x0)] [] := by first | (simp [entryFrame, mkF, argsToLocals, Value.category]; done) | rfl
theorem own_d23_0 : decode jdk_46_method_1_code 0 = .ok (.aload_n 0, 1) := by decide +kernel
theorem own_d23_1 : decode jdk_46_method_1_code 1 = .ok (.invokespecial 1, 3) := by decide +kernel
theorem own_d23_4 : decode jdk_46_method_1_code 4 = .ok (.return_, 1) := by decide +kernel
def own_Q_own_ail (Z : State) (a : Addr) (h0 : Heap) (n0 : Nat) (v : Option Value) (h : Heap) (L : List Loc) : Prop := v = none ∧ Fr n0 L ∧ h = h0
set_option maxRecDepth 65536 in
set_option maxHeartbeats 40000000 in
theorem own_ail (l : Launch) (Z : State) (a0 : Array Value) (hw : ∀ d ∈ tables_1, d.before a0 Z = true) (ws : List Jvm.Cond) (a : Addr) (h0 : Heap) (n0 : Nat) (O0 : Old Z n0 h0) :
    MetFree l (⟨"java/util/ImmutableCollections$AbstractImmutableList", "<init>", "()V"⟩ : MethodName) (head1 (Jvm.Cond.code (⟨"java/util/ImmutableCollections$AbstractImmutableList", "<init>", "()V"⟩ : MethodName) jdk_46_method_1_code 1 none :: ws) ({ frames := 3, cells := 0, slots := 0, locals := 36 } : Room)) (fun args_ U => args_ = #[(.ref a)] ∧ Z.Warmed39 U.vm ∧ U.heap = h0) (fun _ _ _ _ _ => True) (fun _ U o U' => ∃ v L, o = .returned v ∧ (own_Q_own_ail Z a h0 n0) v U'.heap L ∧ FrameEnd U o U' L ({ frames := 3, cells := 0, slots := 0, locals := 36 } : Room).cells ({ frames := 3, cells := 0, slots := 0, locals := 36 } : Room).slots) := by
  refine MetFree.of_bodySF (plainFor_of_name own_pn2) hisR ?_
  intro p e s m args below meth c s₁ Bd hml0 hP hK
  obtain ⟨rfl, hZ, hh⟩ := hP
  have hx := Bd.exec
  have hby := Bd.bytes
  have hml : c.maxLocals = 1 := hml0
  have hown : s.vm.findClass "java/util/ImmutableCollections$AbstractImmutableList" = some m.cls := findClass_of_methodNamed Bd.named
  have hnm := (name_of_methodNamed Bd.named Bd.method).1
  have X0 : Stand p l e ({ frames := 3, cells := 0, slots := 0, locals := 36 } : Room) s m #[(.ref a)] below meth c s₁ [] 0 0 := Stand.of_body Bd
  have e0 : s₁.heap = h0 := by rw [← hh, Bd.state]; rfl
  have N0 := Fr.nil n0
  refine own_close (s := s) (Q := (own_Q_own_ail Z a h0 n0)) (C := (({ frames := 3, cells := 0, slots := 0, locals := 36 } : Room)).cells) (N := (({ frames := 3, cells := 0, slots := 0, locals := 36 } : Room)).slots) (own_st (fun _ kt => castTop (own_ef23 m a) kt) ?_)
  show own_Rch p e below _ s₁ (mkF m 0 #[.val (.ref a)] [])
  refine own_st (fun _ kt => XS.aloadN X0.here hx rfl (hb hby own_d23_0) rfl rfl  kt) ?_
  show own_Rch p e below _ s₁ (mkF m 1 #[.val (.ref a)] [(.ref a)])
  obtain ⟨_, _, ⟨T1, L1, k1, n1⟩, -, X1, ⟨Lc1, hQ1, l1, y1, z1⟩, st1⟩ := X0.specialBack hx (y := (⟨"java/util/ImmutableCollections$AbstractImmutableCollection", "<init>", "()V"⟩ : MethodName)) rfl hown (mvT hZ (hw _ (List.mem_of_getElem? (i := 159) rfl))) (mvT hZ (hw _ (List.mem_of_getElem? (i := 160) rfl))) (mvT hZ (hw _ (List.mem_of_getElem? (i := 164) rfl))) (by decide) (backOf (W := 0) (own_aic l Z a0 hw [] a h0 n0 O0 ) hZ (hw _ (List.mem_of_getElem? (i := 164) rfl)) (hw _ (List.mem_of_getElem? (i := 163) rfl)) (by decide) (by decide)) (g := (mkF m 1 #[.val (.ref a)] [(.ref a)])) rfl (by rw [hml]; rfl) (Steps.refl _) (a := a) (argsL := []) (rest := []) (lenOf own_pd0 rfl) rfl (by show 2 * 0 + _ ≤ _; exact Nat.le_of_eq rfl) (hb hby own_d23_1) (fun _ _ => ⟨rfl, e0, (by decide : 0 + 0 ≤ _), (by decide : 0 + 0 ≤ _)⟩)
  dsimp only [Pt.U, Pt.locs, Pt.cells, Pt.slots] at X1 l1 y1 z1 st1 hQ1
  subst l1 y1 z1
  obtain ⟨rfl, N1q, hh1⟩ := hQ1
  have N1 := Fr.app N0 N1q
  refine own_st (fun _ kt => st1.trans kt) ?_
  show own_Rch p e below _ T1 (mkF m 4 #[.val (.ref a)] [])
  refine own_retV X1 hx Bd.notSynchronized Bd.returns (hb hby own_d23_4) (by decide) (by decide) ?_
  rw [hh1]
  exact ⟨rfl, N1, rfl⟩
theorem own_pn3 : plainName "java/util/AbstractList" = true := by first | (simp [plainName, overriddenIn]; done) | decide +kernel
theorem own_ef2 (m : MethodId) (x0 : Addr) : entryFrame m #[(.ref x0)] 1 = mkF m 0 #[.val (.ref x0)] [] := by first | (simp [entryFrame, mkF, argsToLocals, Value.category]; done) | rfl
theorem own_d2_0 : decode jdk_39_method_1_code 0 = .ok (.aload_n 0, 1) := by decide +kernel
theorem own_d2_1 : decode jdk_39_method_1_code 1 = .ok (.invokespecial 1, 3) := by decide +kernel
theorem own_d2_4 : decode jdk_39_method_1_code 4 = .ok (.aload_n 0, 1) := by decide +kernel
theorem own_d2_5 : decode jdk_39_method_1_code 5 = .ok (.iconst 0, 1) := by decide +kernel
theorem own_d2_6 : decode jdk_39_method_1_code 6 = .ok (.putfield 7, 3) := by decide +kernel
theorem own_d2_9 : decode jdk_39_method_1_code 9 = .ok (.return_, 1) := by decide +kernel
def own_Q_own_abl (Z : State) (a : Addr) (h0 : Heap) (n0 : Nat) (v : Option Value) (h : Heap) (L : List Loc) : Prop := v = none ∧ Fr n0 L ∧ Keep h0 h [a] ∧ Exa Z h a "java/util/ArrayList" ∧ Fld Z h a "java/util/ArrayList" "elementData" "[Ljava/lang/Object;" .null ∧ Fld Z h a "java/util/ArrayList" "size" "I" (.int (0 : Int32)) ∧ Fld Z h a "java/util/AbstractList" "modCount" "I" (.int (0 : Int32))
set_option maxRecDepth 65536 in
set_option maxHeartbeats 40000000 in
theorem own_abl (l : Launch) (Z : State) (a0 : Array Value) (hw : ∀ d ∈ tables_1, d.before a0 Z = true) (ws : List Jvm.Cond) (a : Addr) (h0 : Heap) (n0 : Nat) (O0 : Old Z n0 h0) (EA : Exa Z h0 a "java/util/ArrayList") (FE : Fld Z h0 a "java/util/ArrayList" "elementData" "[Ljava/lang/Object;" .null) (FZ : Fld Z h0 a "java/util/ArrayList" "size" "I" (.int (0 : Int32))) (FM : Fld Z h0 a "java/util/AbstractList" "modCount" "I" (.int (0 : Int32))) (ga : n0 ≤ a) :
    MetFree l (⟨"java/util/AbstractList", "<init>", "()V"⟩ : MethodName) (head1 (Jvm.Cond.code (⟨"java/util/AbstractList", "<init>", "()V"⟩ : MethodName) jdk_39_method_1_code 1 none :: ws) ({ frames := 2, cells := 0, slots := 0, locals := 24 } : Room)) (fun args_ U => args_ = #[(.ref a)] ∧ Z.Warmed39 U.vm ∧ U.heap = h0) (fun _ _ _ _ _ => True) (fun _ U o U' => ∃ v L, o = .returned v ∧ (own_Q_own_abl Z a h0 n0) v U'.heap L ∧ FrameEnd U o U' L ({ frames := 2, cells := 0, slots := 0, locals := 24 } : Room).cells ({ frames := 2, cells := 0, slots := 0, locals := 24 } : Room).slots) := by
  refine MetFree.of_bodySF (plainFor_of_name own_pn3) hisR ?_
  intro p e s m args below meth c s₁ Bd hml0 hP hK
  obtain ⟨rfl, hZ, hh⟩ := hP
  have hx := Bd.exec
  have hby := Bd.bytes
  have hml : c.maxLocals = 1 := hml0
  have hown : s.vm.findClass "java/util/AbstractList" = some m.cls := findClass_of_methodNamed Bd.named
  have hnm := (name_of_methodNamed Bd.named Bd.method).1
  have X0 : Stand p l e ({ frames := 2, cells := 0, slots := 0, locals := 24 } : Room) s m #[(.ref a)] below meth c s₁ [] 0 0 := Stand.of_body Bd
  have e0 : s₁.heap = h0 := by rw [← hh, Bd.state]; rfl
  have N0 := Fr.nil n0
  refine own_close (s := s) (Q := (own_Q_own_abl Z a h0 n0)) (C := (({ frames := 2, cells := 0, slots := 0, locals := 24 } : Room)).cells) (N := (({ frames := 2, cells := 0, slots := 0, locals := 24 } : Room)).slots) (own_st (fun _ kt => castTop (own_ef2 m a) kt) ?_)
  have K0 := Keep.refl h0 [a]
  show own_Rch p e below _ s₁ (mkF m 0 #[.val (.ref a)] [])
  refine own_st (fun _ kt => XS.aloadN X0.here hx rfl (hb hby own_d2_0) rfl rfl  kt) ?_
  show own_Rch p e below _ s₁ (mkF m 1 #[.val (.ref a)] [(.ref a)])
  obtain ⟨_, _, ⟨T1, L1, k1, n1⟩, -, X1, ⟨Lc1, hQ1, l1, y1, z1⟩, st1⟩ := X0.specialBack hx (y := (⟨"java/util/AbstractCollection", "<init>", "()V"⟩ : MethodName)) rfl hown (mvT hZ (hw _ (List.mem_of_getElem? (i := 13) rfl))) (mvT hZ (hw _ (List.mem_of_getElem? (i := 14) rfl))) (mvT hZ (hw _ (List.mem_of_getElem? (i := 18) rfl))) (by decide) (backOf (W := 0) (own_abc l Z a0 hw [] a h0 n0 O0 ) hZ (hw _ (List.mem_of_getElem? (i := 18) rfl)) (hw _ (List.mem_of_getElem? (i := 17) rfl)) (by decide) (by decide)) (g := (mkF m 1 #[.val (.ref a)] [(.ref a)])) rfl (by rw [hml]; rfl) (Steps.refl _) (a := a) (argsL := []) (rest := []) (lenOf own_pd0 rfl) rfl (by show 2 * 0 + _ ≤ _; exact Nat.le_of_eq rfl) (hb hby own_d2_1) (fun _ _ => ⟨rfl, e0, (by decide : 0 + 0 ≤ _), (by decide : 0 + 0 ≤ _)⟩)
  dsimp only [Pt.U, Pt.locs, Pt.cells, Pt.slots] at X1 l1 y1 z1 st1 hQ1
  subst l1 y1 z1
  obtain ⟨rfl, N1q, hh1⟩ := hQ1
  have N1 := Fr.app N0 N1q
  refine own_st (fun _ kt => st1.trans kt) ?_
  show own_Rch p e below _ T1 (mkF m 4 #[.val (.ref a)] [])
  refine own_st (fun _ kt => XS.aloadN X1.here hx rfl (hb hby own_d2_4) rfl rfl  kt) ?_
  show own_Rch p e below _ T1 (mkF m 5 #[.val (.ref a)] [(.ref a)])
  refine own_st (fun _ kt => XS.iconst X1.here hx rfl (hb hby own_d2_5) kt) ?_
  show own_Rch p e below _ T1 (mkF m 6 #[.val (.ref a)] [(.int (0 : Int32)), (.ref a)])
  obtain ⟨T2, h2, X2, e2, W2, st2⟩ := putF X1 hx hZ hown (host := "") (Or.inl (hw _ (List.mem_of_getElem? (i := 22) rfl))) Via.refl hh1 FM EA (Or.inl (hw _ (List.mem_of_getElem? (i := 23) rfl))) (hw _ (List.mem_of_getElem? (i := 2) rfl)) (ty := .int) (by decide) rfl rfl (g := (mkF m 6 #[.val (.ref a)] [(.int (0 : Int32)), (.ref a)])) rfl rfl (hb hby own_d2_6)
  refine own_st st2 ?_
  have Fw2 := FM.same W2
  have N2 := Fr.snoc X2 N1 ga
  have O0_x2 := O0.wr W2 ga
  have EA_x2 := EA.wr W2
  have FE_x2 := FE.other W2 (Or.inr (slot_ne (Or.inl (hw _ (List.mem_of_getElem? (i := 26) rfl))) (Or.inl (hw _ (List.mem_of_getElem? (i := 23) rfl))) (by decide) (t := (.array (.object "java/lang/Object"))) (t' := .int) (by decide) (by decide)))
  have FZ_x2 := FZ.other W2 (Or.inr (slot_ne (Or.inl (hw _ (List.mem_of_getElem? (i := 37) rfl))) (Or.inl (hw _ (List.mem_of_getElem? (i := 23) rfl))) (by decide) (t := .int) (t' := .int) (by decide) (by decide)))
  have K0_x2 := K0.wr W2 (Or.inl (List.mem_of_getElem? (i := 0) rfl))
  show own_Rch p e below _ T2 (mkF m 9 #[.val (.ref a)] [])
  refine own_retV X2 hx Bd.notSynchronized Bd.returns (hb hby own_d2_9) (by decide) (by decide) ?_
  rw [e2]
  exact ⟨rfl, N2, K0_x2, EA_x2, FE_x2, FZ_x2, Fw2⟩
theorem own_pn4 : plainName "java/util/ArrayList" = true := by first | (simp [plainName, overriddenIn]; done) | decide +kernel
theorem own_ef1 (m : MethodId) (x0 : Addr) : entryFrame m #[(.ref x0)] 1 = mkF m 0 #[.val (.ref x0)] [] := by first | (simp [entryFrame, mkF, argsToLocals, Value.category]; done) | rfl
theorem own_d1_0 : decode jdk_38_method_2_code 0 = .ok (.aload_n 0, 1) := by decide +kernel
theorem own_d1_1 : decode jdk_38_method_2_code 1 = .ok (.invokespecial 1, 3) := by decide +kernel
theorem own_d1_4 : decode jdk_38_method_2_code 4 = .ok (.aload_n 0, 1) := by decide +kernel
theorem own_d1_5 : decode jdk_38_method_2_code 5 = .ok (.getstatic 39, 3) := by decide +kernel
theorem own_d1_8 : decode jdk_38_method_2_code 8 = .ok (.putfield 9, 3) := by decide +kernel
theorem own_d1_11 : decode jdk_38_method_2_code 11 = .ok (.return_, 1) := by decide +kernel
def own_Q_own_alinit (Z : State) (a : Addr) (w : Addr) (kw : ClassId) (h0 : Heap) (n0 : Nat) (v : Option Value) (h : Heap) (L : List Loc) : Prop := v = none ∧ Fr n0 L ∧ Keep h0 h [a] ∧ Exa Z h a "java/util/ArrayList" ∧ Fld Z h a "java/util/ArrayList" "elementData" "[Ljava/lang/Object;" (.ref w) ∧ Fld Z h a "java/util/ArrayList" "size" "I" (.int (0 : Int32)) ∧ Fld Z h a "java/util/AbstractList" "modCount" "I" (.int (0 : Int32))
set_option maxRecDepth 65536 in
set_option maxHeartbeats 40000000 in
theorem own_alinit (l : Launch) (Z : State) (a0 : Array Value) (hw : ∀ d ∈ tables_1, d.before a0 Z = true) (ws : List Jvm.Cond) (a : Addr) (w : Addr) (kw : ClassId) (h0 : Heap) (n0 : Nat) (O0 : Old Z n0 h0) (SW : Sta Z Z.heap "java/util/ArrayList" "DEFAULTCAPACITY_EMPTY_ELEMENTDATA" "[Ljava/lang/Object;" (.ref w)) (VW : Arv Z Z.heap w kw (.object "java/lang/Object") (0 : Int32) [] .null) (EA : Exa Z h0 a "java/util/ArrayList") (FE : Fld Z h0 a "java/util/ArrayList" "elementData" "[Ljava/lang/Object;" .null) (FZ : Fld Z h0 a "java/util/ArrayList" "size" "I" (.int (0 : Int32))) (FM : Fld Z h0 a "java/util/AbstractList" "modCount" "I" (.int (0 : Int32))) (ga : n0 ≤ a) :
    MetFree l (⟨"java/util/ArrayList", "<init>", "()V"⟩ : MethodName) (head1 (Jvm.Cond.code (⟨"java/util/ArrayList", "<init>", "()V"⟩ : MethodName) jdk_38_method_2_code 1 none :: ws) ({ frames := 3, cells := 0, slots := 0, locals := 36 } : Room)) (fun args_ U => args_ = #[(.ref a)] ∧ Z.Warmed39 U.vm ∧ U.heap = h0) (fun _ _ _ _ _ => True) (fun _ U o U' => ∃ v L, o = .returned v ∧ (own_Q_own_alinit Z a w kw h0 n0) v U'.heap L ∧ FrameEnd U o U' L ({ frames := 3, cells := 0, slots := 0, locals := 36 } : Room).cells ({ frames := 3, cells := 0, slots := 0, locals := 36 } : Room).slots) := by
  refine MetFree.of_bodySF (plainFor_of_name own_pn4) hisR ?_
  intro p e s m args below meth c s₁ Bd hml0 hP hK
  obtain ⟨rfl, hZ, hh⟩ := hP
  have hx := Bd.exec
  have hby := Bd.bytes
  have hml : c.maxLocals = 1 := hml0
  have hown : s.vm.findClass "java/util/ArrayList" = some m.cls := findClass_of_methodNamed Bd.named
  have hnm := (name_of_methodNamed Bd.named Bd.method).1
  have X0 : Stand p l e ({ frames := 3, cells := 0, slots := 0, locals := 36 } : Room) s m #[(.ref a)] below meth c s₁ [] 0 0 := Stand.of_body Bd
  have e0 : s₁.heap = h0 := by rw [← hh, Bd.state]; rfl
  have N0 := Fr.nil n0
  refine own_close (s := s) (Q := (own_Q_own_alinit Z a w kw h0 n0)) (C := (({ frames := 3, cells := 0, slots := 0, locals := 36 } : Room)).cells) (N := (({ frames := 3, cells := 0, slots := 0, locals := 36 } : Room)).slots) (own_st (fun _ kt => castTop (own_ef1 m a) kt) ?_)
  have K0 := Keep.refl h0 [a]
  show own_Rch p e below _ s₁ (mkF m 0 #[.val (.ref a)] [])
  refine own_st (fun _ kt => XS.aloadN X0.here hx rfl (hb hby own_d1_0) rfl rfl  kt) ?_
  show own_Rch p e below _ s₁ (mkF m 1 #[.val (.ref a)] [(.ref a)])
  obtain ⟨_, _, ⟨T1, L1, k1, n1⟩, -, X1, ⟨Lc1, hQ1, l1, y1, z1⟩, st1⟩ := X0.specialBack hx (y := (⟨"java/util/AbstractList", "<init>", "()V"⟩ : MethodName)) rfl hown (mvT hZ (hw _ (List.mem_of_getElem? (i := 7) rfl))) (mvT hZ (hw _ (List.mem_of_getElem? (i := 8) rfl))) (mvT hZ (hw _ (List.mem_of_getElem? (i := 12) rfl))) (by decide) (backOf (W := 0) (own_abl l Z a0 hw [] a h0 n0 O0 EA FE FZ FM ga) hZ (hw _ (List.mem_of_getElem? (i := 12) rfl)) (hw _ (List.mem_of_getElem? (i := 11) rfl)) (by decide) (by decide)) (g := (mkF m 1 #[.val (.ref a)] [(.ref a)])) rfl (by rw [hml]; rfl) (Steps.refl _) (a := a) (argsL := []) (rest := []) (lenOf own_pd0 rfl) rfl (by show 2 * 0 + _ ≤ _; exact Nat.le_of_eq rfl) (hb hby own_d1_1) (fun _ _ => ⟨rfl, e0, (by decide : 0 + 0 ≤ _), (by decide : 0 + 0 ≤ _)⟩)
  dsimp only [Pt.U, Pt.locs, Pt.cells, Pt.slots] at X1 l1 y1 z1 st1 hQ1
  subst l1 y1 z1
  obtain ⟨rfl, N1q, K1, Ea1, Fe1, Fz1, Fm1⟩ := hQ1
  have N1 := Fr.app N0 N1q
  refine own_st (fun _ kt => st1.trans kt) ?_
  have O0_x1 := O0.keep K1 (allS ga all0)
  have EA_x1 := EA.keep K1
  have K0_x1 := K0.trans K1 (allS (Or.inl (List.mem_of_getElem? (i := 0) rfl)) all0)
  show own_Rch p e below _ T1 (mkF m 4 #[.val (.ref a)] [])
  refine own_st (fun _ kt => XS.aloadN X1.here hx rfl (hb hby own_d1_4) rfl rfl  kt) ?_
  show own_Rch p e below _ T1 (mkF m 5 #[.val (.ref a)] [(.ref a)])
  obtain ⟨T2, X2, e2, st2⟩ := getS2 X1 hx hZ hown (host := "") (Or.inl (hw _ (List.mem_of_getElem? (i := 24) rfl))) Via.refl rfl (SW.ext O0_x1.2) (g := (mkF m 5 #[.val (.ref a)] [(.ref a)])) rfl (hb hby own_d1_5)
  refine own_st st2 ?_
  show own_Rch p e below _ T2 (mkF m 8 #[.val (.ref a)] [(.ref w), (.ref a)])
  obtain ⟨T3, h3, X3, e3, W3, st3⟩ := putF X2 hx hZ hown (host := "") (Or.inl (hw _ (List.mem_of_getElem? (i := 25) rfl))) Via.refl e2 Fe1 Ea1 (Or.inl (hw _ (List.mem_of_getElem? (i := 26) rfl))) (hw _ (List.mem_of_getElem? (i := 2) rfl)) (ty := (.array (.object "java/lang/Object"))) (by decide) rfl rfl (g := (mkF m 8 #[.val (.ref a)] [(.ref w), (.ref a)])) rfl rfl (hb hby own_d1_8)
  refine own_st st3 ?_
  have Fw3 := Fe1.same W3
  have N3 := Fr.snoc X3 N1 ga
  have O0_x3 := O0_x1.wr W3 ga
  have Ea1_x3 := Ea1.wr W3
  have K0_x3 := K0_x1.wr W3 (Or.inl (List.mem_of_getElem? (i := 0) rfl))
  have Fz1_x3 := Fz1.other W3 (Or.inr (slot_ne (Or.inl (hw _ (List.mem_of_getElem? (i := 37) rfl))) (Or.inl (hw _ (List.mem_of_getElem? (i := 26) rfl))) (by decide) (t := .int) (t' := (.array (.object "java/lang/Object"))) (by decide) (by decide)))
  have Fm1_x3 := Fm1.other W3 (Or.inr (slot_ne (Or.inl (hw _ (List.mem_of_getElem? (i := 23) rfl))) (Or.inl (hw _ (List.mem_of_getElem? (i := 26) rfl))) (by decide) (t := .int) (t' := (.array (.object "java/lang/Object"))) (by decide) (by decide)))
  show own_Rch p e below _ T3 (mkF m 11 #[.val (.ref a)] [])
  refine own_retV X3 hx Bd.notSynchronized Bd.returns (hb hby own_d1_11) (by decide) (by decide) ?_
  rw [e3]
  exact ⟨rfl, N3, K0_x3, Ea1_x3, Fw3, Fz1_x3, Fm1_x3⟩
theorem own_ef9 (m : MethodId) (x0 : Int32) (x1 : Int32) : entryFrame m #[(.int x0), (.int x1)] 2 = mkF m 0 #[.val (.int x0), .val (.int x1)] [] := by first | (simp [entryFrame, mkF, argsToLocals, Value.category]; done) | rfl
theorem own_d9_0 : decode jdk_29_method_65_code 0 = .ok (.iload_n 0, 1) := by decide +kernel
theorem own_d9_1 : decode jdk_29_method_65_code 1 = .ok (.iload_n 1, 1) := by decide +kernel
theorem own_d9_2 : decode jdk_29_method_65_code 2 = .ok (.if_icmp .lt 7, 3) := by decide +kernel
theorem own_d9_5 : decode jdk_29_method_65_code 5 = .ok (.iload_n 0, 1) := by decide +kernel
theorem own_d9_6 : decode jdk_29_method_65_code 6 = .ok (.goto 4, 3) := by decide +kernel
theorem own_d9_10 : decode jdk_29_method_65_code 10 = .ok (.ireturn, 1) := by decide +kernel
def own_Q_own_mx (Z : State) (x : Int32) (y : Int32) (h0 : Heap) (n0 : Nat) (v : Option Value) (h : Heap) (L : List Loc) : Prop := v = some (.int x) ∧ Fr n0 L ∧ h = h0
set_option maxRecDepth 65536 in
set_option maxHeartbeats 40000000 in
theorem own_mx (l : Launch) (Z : State) (a0 : Array Value) (hw : ∀ d ∈ tables_1, d.before a0 Z = true) (ws : List Jvm.Cond) (x : Int32) (y : Int32) (h0 : Heap) (n0 : Nat) (O0 : Old Z n0 h0) (hxy : ¬ x < y) :
    MetFree l (⟨"java/lang/Math", "max", "(II)I"⟩ : MethodName) (head1 (Jvm.Cond.code (⟨"java/lang/Math", "max", "(II)I"⟩ : MethodName) jdk_29_method_65_code 2 (some .int) :: ws) ({ frames := 0, cells := 0, slots := 0, locals := 0 } : Room)) (fun args_ U => args_ = #[(.int x), (.int y)] ∧ Z.Warmed39 U.vm ∧ U.heap = h0) (fun _ _ _ _ _ => True) (fun _ U o U' => ∃ v L, o = .returned v ∧ (own_Q_own_mx Z x y h0 n0) v U'.heap L ∧ FrameEnd U o U' L ({ frames := 0, cells := 0, slots := 0, locals := 0 } : Room).cells ({ frames := 0, cells := 0, slots := 0, locals := 0 } : Room).slots) := by
  refine MetFree.of_bodySF (Jvm.Free.JP.mathPlain rfl (by decide +kernel)) hisR ?_
  intro p e s m args below meth c s₁ Bd hml0 hP hK
  obtain ⟨rfl, hZ, hh⟩ := hP
  have hx := Bd.exec
  have hby := Bd.bytes
  have hml : c.maxLocals = 2 := hml0
  have hown : s.vm.findClass "java/lang/Math" = some m.cls := findClass_of_methodNamed Bd.named
  have hnm := (name_of_methodNamed Bd.named Bd.method).1
  have X0 : Stand p l e ({ frames := 0, cells := 0, slots := 0, locals := 0 } : Room) s m #[(.int x), (.int y)] below meth c s₁ [] 0 0 := Stand.of_body Bd
  have e0 : s₁.heap = h0 := by rw [← hh, Bd.state]; rfl
  have N0 := Fr.nil n0
  refine own_close (s := s) (Q := (own_Q_own_mx Z x y h0 n0)) (C := (({ frames := 0, cells := 0, slots := 0, locals := 0 } : Room)).cells) (N := (({ frames := 0, cells := 0, slots := 0, locals := 0 } : Room)).slots) (own_st (fun _ kt => castTop (own_ef9 m x y) kt) ?_)
  show own_Rch p e below _ s₁ (mkF m 0 #[.val (.int x), .val (.int y)] [])
  refine own_st (fun _ kt => XS.iloadN X0.here hx rfl (hb hby own_d9_0) rfl  kt) ?_
  show own_Rch p e below _ s₁ (mkF m 1 #[.val (.int x), .val (.int y)] [(.int x)])
  refine own_st (fun _ kt => XS.iloadN X0.here hx rfl (hb hby own_d9_1) rfl  kt) ?_
  show own_Rch p e below _ s₁ (mkF m 2 #[.val (.int x), .val (.int y)] [(.int y), (.int x)])
  refine own_st (fun _ kt => XS.icmpNo X0.here hx rfl (hb hby own_d9_2) rfl (flt (hxy : ¬ (x < y))).1 kt) ?_
  show own_Rch p e below _ s₁ (mkF m 5 #[.val (.int x), .val (.int y)] [])
  refine own_st (fun _ kt => XS.iloadN X0.here hx rfl (hb hby own_d9_5) rfl  kt) ?_
  show own_Rch p e below _ s₁ (mkF m 6 #[.val (.int x), .val (.int y)] [(.int x)])
  refine own_st (fun _ kt => XS.goto X0.here hx rfl (pc0 := 6) (pc' := 10) rfl (hb hby own_d9_6) (by decide) (by decide) kt) ?_
  show own_Rch p e below _ s₁ (mkF m 10 #[.val (.int x), .val (.int y)] [(.int x)])
  refine own_retI X0 hx Bd.notSynchronized Bd.returns (hb hby own_d9_10) (by decide) (by decide) ?_
  rw [e0]
  exact ⟨rfl, N0, rfl⟩
theorem own_ef18 (m : MethodId) (x0 : Int32) (x1 : Int32) : entryFrame m #[(.int x0), (.int x1)] 2 = mkF m 0 #[.val (.int x0), .val (.int x1)] [] := by first | (simp [entryFrame, mkF, argsToLocals, Value.category]; done) | rfl
theorem own_d18_0 : decode jdk_29_method_69_code 0 = .ok (.iload_n 0, 1) := by decide +kernel
theorem own_d18_1 : decode jdk_29_method_69_code 1 = .ok (.iload_n 1, 1) := by decide +kernel
theorem own_d18_2 : decode jdk_29_method_69_code 2 = .ok (.if_icmp .gt 7, 3) := by decide +kernel
theorem own_d18_9 : decode jdk_29_method_69_code 9 = .ok (.iload_n 1, 1) := by decide +kernel
theorem own_d18_10 : decode jdk_29_method_69_code 10 = .ok (.ireturn, 1) := by decide +kernel
def own_Q_own_mi (Z : State) (x : Int32) (y : Int32) (h0 : Heap) (n0 : Nat) (v : Option Value) (h : Heap) (L : List Loc) : Prop := v = some (.int y) ∧ Fr n0 L ∧ h = h0
set_option maxRecDepth 65536 in
set_option maxHeartbeats 40000000 in
theorem own_mi (l : Launch) (Z : State) (a0 : Array Value) (hw : ∀ d ∈ tables_1, d.before a0 Z = true) (ws : List Jvm.Cond) (x : Int32) (y : Int32) (h0 : Heap) (n0 : Nat) (O0 : Old Z n0 h0) (hxy : y < x) :
    MetFree l (⟨"java/lang/Math", "min", "(II)I"⟩ : MethodName) (head1 (Jvm.Cond.code (⟨"java/lang/Math", "min", "(II)I"⟩ : MethodName) jdk_29_method_69_code 2 (some .int) :: ws) ({ frames := 0, cells := 0, slots := 0, locals := 0 } : Room)) (fun args_ U => args_ = #[(.int x), (.int y)] ∧ Z.Warmed39 U.vm ∧ U.heap = h0) (fun _ _ _ _ _ => True) (fun _ U o U' => ∃ v L, o = .returned v ∧ (own_Q_own_mi Z x y h0 n0) v U'.heap L ∧ FrameEnd U o U' L ({ frames := 0, cells := 0, slots := 0, locals := 0 } : Room).cells ({ frames := 0, cells := 0, slots := 0, locals := 0 } : Room).slots) := by
  refine MetFree.of_bodySF (Jvm.Free.JP.mathPlain rfl (by decide +kernel)) hisR ?_
  intro p e s m args below meth c s₁ Bd hml0 hP hK
  obtain ⟨rfl, hZ, hh⟩ := hP
  have hx := Bd.exec
  have hby := Bd.bytes
  have hml : c.maxLocals = 2 := hml0
  have hown : s.vm.findClass "java/lang/Math" = some m.cls := findClass_of_methodNamed Bd.named
  have hnm := (name_of_methodNamed Bd.named Bd.method).1
  have X0 : Stand p l e ({ frames := 0, cells := 0, slots := 0, locals := 0 } : Room) s m #[(.int x), (.int y)] below meth c s₁ [] 0 0 := Stand.of_body Bd
  have e0 : s₁.heap = h0 := by rw [← hh, Bd.state]; rfl
  have N0 := Fr.nil n0
  refine own_close (s := s) (Q := (own_Q_own_mi Z x y h0 n0)) (C := (({ frames := 0, cells := 0, slots := 0, locals := 0 } : Room)).cells) (N := (({ frames := 0, cells := 0, slots := 0, locals := 0 } : Room)).slots) (own_st (fun _ kt => castTop (own_ef18 m x y) kt) ?_)
  show own_Rch p e below _ s₁ (mkF m 0 #[.val (.int x), .val (.int y)] [])
  refine own_st (fun _ kt => XS.iloadN X0.here hx rfl (hb hby own_d18_0) rfl  kt) ?_
  show own_Rch p e below _ s₁ (mkF m 1 #[.val (.int x), .val (.int y)] [(.int x)])
  refine own_st (fun _ kt => XS.iloadN X0.here hx rfl (hb hby own_d18_1) rfl  kt) ?_
  show own_Rch p e below _ s₁ (mkF m 2 #[.val (.int x), .val (.int y)] [(.int y), (.int x)])
  refine own_st (fun _ kt => XS.icmpYes X0.here hx rfl (pc0 := 2) (pc' := 9) rfl (hb hby own_d18_2) rfl (tlt (hxy : y < x)).2.2.1 (by decide) (by decide) kt) ?_
  show own_Rch p e below _ s₁ (mkF m 9 #[.val (.int x), .val (.int y)] [])
  refine own_st (fun _ kt => XS.iloadN X0.here hx rfl (hb hby own_d18_9) rfl  kt) ?_
  show own_Rch p e below _ s₁ (mkF m 10 #[.val (.int x), .val (.int y)] [(.int y)])
  refine own_retI X0 hx Bd.notSynchronized Bd.returns (hb hby own_d18_10) (by decide) (by decide) ?_
  rw [e0]
  exact ⟨rfl, N0, rfl⟩
theorem own_ef8 (m : MethodId) (x0 : Addr) (x1 : Int32) : entryFrame m #[(.ref x0), (.int x1)] 4 = mkF m 0 #[.val (.ref x0), .val (.int x1), .unset, .unset] [] := by first | (simp [entryFrame, mkF, argsToLocals, Value.category]; done) | rfl
theorem own_d8_0 : decode jdk_38_method_6_code 0 = .ok (.aload_n 0, 1) := by decide +kernel
theorem own_d8_1 : decode jdk_38_method_6_code 1 = .ok (.getfield 9, 3) := by decide +kernel
theorem own_d8_4 : decode jdk_38_method_6_code 4 = .ok (.arraylength, 1) := by decide +kernel
theorem own_d8_5 : decode jdk_38_method_6_code 5 = .ok (.istore_n 2, 1) := by decide +kernel
theorem own_d8_6 : decode jdk_38_method_6_code 6 = .ok (.iload_n 2, 1) := by decide +kernel
theorem own_d8_7 : decode jdk_38_method_6_code 7 = .ok (.ifCond .gt 13, 3) := by decide +kernel
theorem own_d8_10 : decode jdk_38_method_6_code 10 = .ok (.aload_n 0, 1) := by decide +kernel
theorem own_d8_11 : decode jdk_38_method_6_code 11 = .ok (.getfield 9, 3) := by decide +kernel
theorem own_d8_14 : decode jdk_38_method_6_code 14 = .ok (.getstatic 39, 3) := by decide +kernel
theorem own_d8_17 : decode jdk_38_method_6_code 17 = .ok (.if_acmp .eq 28, 3) := by decide +kernel
theorem own_d8_45 : decode jdk_38_method_6_code 45 = .ok (.aload_n 0, 1) := by decide +kernel
theorem own_d8_46 : decode jdk_38_method_6_code 46 = .ok (.bipush 10, 2) := by decide +kernel
theorem own_d8_48 : decode jdk_38_method_6_code 48 = .ok (.iload_n 1, 1) := by decide +kernel
theorem own_d8_49 : decode jdk_38_method_6_code 49 = .ok (.invokestatic 79, 3) := by decide +kernel
theorem own_pd1 : parseMethodDescriptor "(II)I" = some ⟨[.int, .int], some .int⟩ := by decide +kernel
theorem own_d8_52 : decode jdk_38_method_6_code 52 = .ok (.anewarray 7, 3) := by decide +kernel
theorem own_d8_55 : decode jdk_38_method_6_code 55 = .ok (.dup_x1, 1) := by decide +kernel
theorem own_d8_56 : decode jdk_38_method_6_code 56 = .ok (.putfield 9, 3) := by decide +kernel
theorem own_d8_59 : decode jdk_38_method_6_code 59 = .ok (.areturn, 1) := by decide +kernel
def own_Q_own_grow1 (Z : State) (a : Addr) (w : Addr) (kw : ClassId) (h0 : Heap) (n0 : Nat) (v : Option Value) (h : Heap) (L : List Loc) : Prop := ∃ (b : Addr) (kb : ClassId), v = some (.ref b) ∧ Fr n0 L ∧ Keep h0 h [a] ∧ h0.size ≤ b ∧ Exa Z h a "java/util/ArrayList" ∧ Fld Z h a "java/util/ArrayList" "elementData" "[Ljava/lang/Object;" (.ref b) ∧ Fld Z h a "java/util/ArrayList" "size" "I" (.int (0 : Int32)) ∧ Fld Z h a "java/util/AbstractList" "modCount" "I" (.int (1 : Int32)) ∧ Exa Z h b "[Ljava/lang/Object;" ∧ Arv Z h b kb (.object "java/lang/Object") (10 : Int32) [.null, .null, .null, .null, .null, .null, .null, .null, .null, .null] .null ∧ Ovr Z kb "java/lang/Object"
set_option maxRecDepth 65536 in
set_option maxHeartbeats 40000000 in
theorem own_grow1 (l : Launch) (Z : State) (a0 : Array Value) (hw : ∀ d ∈ tables_1, d.before a0 Z = true) (ws : List Jvm.Cond) (a : Addr) (w : Addr) (kw : ClassId) (h0 : Heap) (n0 : Nat) (O0 : Old Z n0 h0) (SW : Sta Z Z.heap "java/util/ArrayList" "DEFAULTCAPACITY_EMPTY_ELEMENTDATA" "[Ljava/lang/Object;" (.ref w)) (VW : Arv Z Z.heap w kw (.object "java/lang/Object") (0 : Int32) [] .null) (EA : Exa Z h0 a "java/util/ArrayList") (FE : Fld Z h0 a "java/util/ArrayList" "elementData" "[Ljava/lang/Object;" (.ref w)) (FZ : Fld Z h0 a "java/util/ArrayList" "size" "I" (.int (0 : Int32))) (FM : Fld Z h0 a "java/util/AbstractList" "modCount" "I" (.int (1 : Int32))) (ga : n0 ≤ a) :
    MetFree l (⟨"java/util/ArrayList", "grow", "(I)[Ljava/lang/Object;"⟩ : MethodName) (head1 (Jvm.Cond.code (⟨"java/util/ArrayList", "grow", "(I)[Ljava/lang/Object;"⟩ : MethodName) jdk_38_method_6_code 4 (some (.array (.object "java/lang/Object"))) :: ws) ({ frames := 1, cells := 1, slots := 10, locals := 14 } : Room)) (fun args_ U => args_ = #[(.ref a), (.int (1 : Int32))] ∧ Z.Warmed39 U.vm ∧ U.heap = h0) (fun _ _ _ _ _ => True) (fun _ U o U' => ∃ v L, o = .returned v ∧ (own_Q_own_grow1 Z a w kw h0 n0) v U'.heap L ∧ FrameEnd U o U' L ({ frames := 1, cells := 1, slots := 10, locals := 14 } : Room).cells ({ frames := 1, cells := 1, slots := 10, locals := 14 } : Room).slots) := by
  refine MetFree.of_bodySF (plainFor_of_name own_pn4) hisR ?_
  intro p e s m args below meth c s₁ Bd hml0 hP hK
  obtain ⟨rfl, hZ, hh⟩ := hP
  have hx := Bd.exec
  have hby := Bd.bytes
  have hml : c.maxLocals = 4 := hml0
  have hown : s.vm.findClass "java/util/ArrayList" = some m.cls := findClass_of_methodNamed Bd.named
  have hnm := (name_of_methodNamed Bd.named Bd.method).1
  have X0 : Stand p l e ({ frames := 1, cells := 1, slots := 10, locals := 14 } : Room) s m #[(.ref a), (.int (1 : Int32))] below meth c s₁ [] 0 0 := Stand.of_body Bd
  have e0 : s₁.heap = h0 := by rw [← hh, Bd.state]; rfl
  have N0 := Fr.nil n0
  refine own_close (s := s) (Q := (own_Q_own_grow1 Z a w kw h0 n0)) (C := (({ frames := 1, cells := 1, slots := 10, locals := 14 } : Room)).cells) (N := (({ frames := 1, cells := 1, slots := 10, locals := 14 } : Room)).slots) (own_st (fun _ kt => castTop (own_ef8 m a (1 : Int32)) kt) ?_)
  have K0 := Keep.refl h0 [a]
  show own_Rch p e below _ s₁ (mkF m 0 #[.val (.ref a), .val (.int (1 : Int32)), .unset, .unset] [])
  refine own_st (fun _ kt => XS.aloadN X0.here hx rfl (hb hby own_d8_0) rfl rfl  kt) ?_
  show own_Rch p e below _ s₁ (mkF m 1 #[.val (.ref a), .val (.int (1 : Int32)), .unset, .unset] [(.ref a)])
  obtain ⟨T1, X1, e1, st1⟩ := getF X0 hx hZ hown (host := "") (Or.inl (hw _ (List.mem_of_getElem? (i := 25) rfl))) Via.refl e0 FE (g := (mkF m 1 #[.val (.ref a), .val (.int (1 : Int32)), .unset, .unset] [(.ref a)])) rfl rfl (hb hby own_d8_1)
  refine own_st st1 ?_
  show own_Rch p e below _ T1 (mkF m 4 #[.val (.ref a), .val (.int (1 : Int32)), .unset, .unset] [(.ref w)])
  obtain ⟨cl2, Ar2, -, S2, M2, -, -⟩ := id (VW.ext O0.2)
  refine own_st (X1.arraylength hx (by rw [e1]; exact Ar2.1) (State.isArrayOf_alike (hZ).alike Ar2.2.1) (g := (mkF m 4 #[.val (.ref a), .val (.int (1 : Int32)), .unset, .unset] [(.ref w)])) rfl rfl (hb hby own_d8_4)) ?_
  rw [len_of S2 M2]
  show own_Rch p e below _ T1 (mkF m 5 #[.val (.ref a), .val (.int (1 : Int32)), .unset, .unset] [(.int (0 : Int32))])
  refine own_st (fun _ kt => XS.istoreN X1.here hx rfl (hb hby own_d8_5) rfl (l' := #[.val (.ref a), .val (.int (1 : Int32)), .val (.int (0 : Int32)), .unset]) rfl kt) ?_
  show own_Rch p e below _ T1 (mkF m 6 #[.val (.ref a), .val (.int (1 : Int32)), .val (.int (0 : Int32)), .unset] [])
  refine own_st (fun _ kt => XS.iloadN X1.here hx rfl (hb hby own_d8_6) rfl  kt) ?_
  show own_Rch p e below _ T1 (mkF m 7 #[.val (.ref a), .val (.int (1 : Int32)), .val (.int (0 : Int32)), .unset] [(.int (0 : Int32))])
  refine own_st (fun _ kt => XS.ifNo X1.here hx rfl (hb hby own_d8_7) rfl ((if0 _ _).trans (flt ((by decide) : ¬ ((0 : Int32) < (0 : Int32)))).2.2.1) kt) ?_
  show own_Rch p e below _ T1 (mkF m 10 #[.val (.ref a), .val (.int (1 : Int32)), .val (.int (0 : Int32)), .unset] [])
  refine own_st (fun _ kt => XS.aloadN X1.here hx rfl (hb hby own_d8_10) rfl rfl  kt) ?_
  show own_Rch p e below _ T1 (mkF m 11 #[.val (.ref a), .val (.int (1 : Int32)), .val (.int (0 : Int32)), .unset] [(.ref a)])
  obtain ⟨T3, X3, e3, st3⟩ := getF X1 hx hZ hown (host := "") (Or.inl (hw _ (List.mem_of_getElem? (i := 25) rfl))) Via.refl e1 FE (g := (mkF m 11 #[.val (.ref a), .val (.int (1 : Int32)), .val (.int (0 : Int32)), .unset] [(.ref a)])) rfl rfl (hb hby own_d8_11)
  refine own_st st3 ?_
  show own_Rch p e below _ T3 (mkF m 14 #[.val (.ref a), .val (.int (1 : Int32)), .val (.int (0 : Int32)), .unset] [(.ref w)])
  obtain ⟨T4, X4, e4, st4⟩ := getS2 X3 hx hZ hown (host := "") (Or.inl (hw _ (List.mem_of_getElem? (i := 24) rfl))) Via.refl e3 (SW.ext O0.2) (g := (mkF m 14 #[.val (.ref a), .val (.int (1 : Int32)), .val (.int (0 : Int32)), .unset] [(.ref w)])) rfl (hb hby own_d8_14)
  refine own_st st4 ?_
  show own_Rch p e below _ T4 (mkF m 17 #[.val (.ref a), .val (.int (1 : Int32)), .val (.int (0 : Int32)), .unset] [(.ref w), (.ref w)])
  refine own_st (fun _ kt => Jvm.RoadKit.acmp (g := (mkF m 17 #[.val (.ref a), .val (.int (1 : Int32)), .val (.int (0 : Int32)), .unset] [(.ref w), (.ref w)])) X4 hx rfl rfl rfl (pc0 := 17) (pc' := 45) (same := true) rfl (hb hby own_d8_17) rfl (decide_eq_true rfl) (by decide) (by decide) kt) ?_
  show own_Rch p e below _ T4 (mkF m 45 #[.val (.ref a), .val (.int (1 : Int32)), .val (.int (0 : Int32)), .unset] [])
  refine own_st (fun _ kt => XS.aloadN X4.here hx rfl (hb hby own_d8_45) rfl rfl  kt) ?_
  show own_Rch p e below _ T4 (mkF m 46 #[.val (.ref a), .val (.int (1 : Int32)), .val (.int (0 : Int32)), .unset] [(.ref a)])
  refine own_st (fun _ kt => XS.bipush X4.here hx rfl (hb hby own_d8_46) kt) ?_
  show own_Rch p e below _ T4 (mkF m 48 #[.val (.ref a), .val (.int (1 : Int32)), .val (.int (0 : Int32)), .unset] [(.int (10 : Int32)), (.ref a)])
  refine own_st (fun _ kt => XS.iloadN X4.here hx rfl (hb hby own_d8_48) rfl  kt) ?_
  show own_Rch p e below _ T4 (mkF m 49 #[.val (.ref a), .val (.int (1 : Int32)), .val (.int (0 : Int32)), .unset] [(.int (1 : Int32)), (.int (10 : Int32)), (.ref a)])
  obtain ⟨_, _, ⟨T5, L5, k5, n5⟩, -, X5, ⟨Lc5, hQ5, l5, y5, z5⟩, st5⟩ := Jvm.LawKit.callS X4 hx (y := (⟨"java/lang/Math", "max", "(II)I"⟩ : MethodName)) hown (mvT hZ (hw _ (List.mem_of_getElem? (i := 53) rfl))) (mvT hZ (hw _ (List.mem_of_getElem? (i := 54) rfl))) (mvT hZ (hw _ (List.mem_of_getElem? (i := 55) rfl))) (mvT hZ (hw _ (List.mem_of_getElem? (i := 56) rfl))) (by decide) (backOf (W := 1) (own_mx l Z a0 hw [] (10 : Int32) (1 : Int32) h0 n0 O0 (by decide)) hZ (hw _ (List.mem_of_getElem? (i := 56) rfl)) (hw _ (List.mem_of_getElem? (i := 55) rfl)) (by decide) (by decide)) (g := (mkF m 49 #[.val (.ref a), .val (.int (1 : Int32)), .val (.int (0 : Int32)), .unset] [(.int (1 : Int32)), (.int (10 : Int32)), (.ref a)])) rfl (by rw [hml]; rfl) (argsL := [(.int (10 : Int32)), (.int (1 : Int32))]) (rest := [(.ref a)]) (lenOf own_pd1 rfl) rfl (by show 2 * 0 + _ ≤ _; exact Nat.le_of_eq rfl) (hb hby own_d8_49) (fun _ _ => ⟨rfl, e4, (by decide : 0 + 0 ≤ _), (by decide : 0 + 0 ≤ _)⟩)
  dsimp only [Pt.U, Pt.locs, Pt.cells, Pt.slots] at X5 l5 y5 z5 st5 hQ5
  subst l5 y5 z5
  obtain ⟨rfl, N5q, hh5⟩ := hQ5
  have N5 := Fr.app N0 N5q
  refine own_st st5 ?_
  show own_Rch p e below _ T5 (mkF m 52 #[.val (.ref a), .val (.int (1 : Int32)), .val (.int (0 : Int32)), .unset] [(.int (10 : Int32)), (.ref a)])
  obtain ⟨T6, h6, k6, X6, e6, E6, A6, Ex6, Ov6, st6⟩ := newRE X5 hx hZ hown (hw _ (List.mem_of_getElem? (i := 57) rfl)) (hw _ (List.mem_of_getElem? (i := 58) rfl)) hh5 (g := (mkF m 52 #[.val (.ref a), .val (.int (1 : Int32)), .val (.int (0 : Int32)), .unset] [(.int (10 : Int32)), (.ref a)])) rfl (hb hby own_d8_52) rfl (by decide) (cap := 10) (by decide) (by decide) (by decide) (by decide) (ad := "[Ljava/lang/Object;") (by decide)
  obtain ⟨b6, g6⟩ : ∃ z, z = h0.size := ⟨_, rfl⟩
  rw [← g6] at A6 Ex6 st6
  have ge6 : n0 ≤ b6 := by rw [g6]; exact own_old_le O0
  have ne6_a : a ≠ b6 := by rw [g6]; exact Nat.ne_of_lt EA.lt
  have sz6 : h0.size ≤ b6 := by rw [g6]; exact K0.1
  have O0_x6 := O0.ext E6
  have EA_x6 := EA.ext E6
  have FE_x6 := FE.ext E6
  have FZ_x6 := FZ.ext E6
  have FM_x6 := FM.ext E6
  have K0_x6 := K0.ext E6
  refine own_st st6 ?_
  have V6 := Arv.new A6 (by decide)
  have V6p : Arv Z h6 b6 k6 (.object "java/lang/Object") (10 : Int32) [.null, .null, .null, .null, .null, .null, .null, .null, .null, .null] .null := V6.pad (pad_rep [] .null 10)
  show own_Rch p e below _ T6 (mkF m 55 #[.val (.ref a), .val (.int (1 : Int32)), .val (.int (0 : Int32)), .unset] [(.ref b6), (.ref a)])
  refine own_st (fun _ kt => XS.dupX1 X6.here hx rfl (hb hby own_d8_55) rfl rfl rfl kt) ?_
  show own_Rch p e below _ T6 (mkF m 56 #[.val (.ref a), .val (.int (1 : Int32)), .val (.int (0 : Int32)), .unset] [(.ref b6), (.ref a), (.ref b6)])
  obtain ⟨T7, h7, X7, e7, W7, st7⟩ := putF X6 hx hZ hown (host := "") (Or.inl (hw _ (List.mem_of_getElem? (i := 25) rfl))) Via.refl e6 FE_x6 EA_x6 (Or.inl (hw _ (List.mem_of_getElem? (i := 26) rfl))) (hw _ (List.mem_of_getElem? (i := 2) rfl)) (ty := (.array (.object "java/lang/Object"))) (by decide) rfl rfl (g := (mkF m 56 #[.val (.ref a), .val (.int (1 : Int32)), .val (.int (0 : Int32)), .unset] [(.ref b6), (.ref a), (.ref b6)])) rfl rfl (hb hby own_d8_56)
  refine own_st st7 ?_
  have Fw7 := FE_x6.same W7
  have N7 := Fr.snoc X7 N5 ga
  have O0_x7 := O0_x6.wr W7 ga
  have EA_x7 := EA_x6.wr W7
  have FZ_x7 := FZ_x6.other W7 (Or.inr (slot_ne (Or.inl (hw _ (List.mem_of_getElem? (i := 37) rfl))) (Or.inl (hw _ (List.mem_of_getElem? (i := 26) rfl))) (by decide) (t := .int) (t' := (.array (.object "java/lang/Object"))) (by decide) (by decide)))
  have FM_x7 := FM_x6.other W7 (Or.inr (slot_ne (Or.inl (hw _ (List.mem_of_getElem? (i := 23) rfl))) (Or.inl (hw _ (List.mem_of_getElem? (i := 26) rfl))) (by decide) (t := .int) (t' := (.array (.object "java/lang/Object"))) (by decide) (by decide)))
  have K0_x7 := K0_x6.wr W7 (Or.inl (List.mem_of_getElem? (i := 0) rfl))
  have V6p_x7 := V6p.other W7 (Ne.symm ne6_a)
  have Ex6_x7 := Ex6.wr W7
  show own_Rch p e below _ T7 (mkF m 59 #[.val (.ref a), .val (.int (1 : Int32)), .val (.int (0 : Int32)), .unset] [(.ref b6)])
  refine own_retA rfl rfl X7 hx Bd.notSynchronized Bd.returns (hb hby own_d8_59) (by decide) (by decide) ?_
  rw [e7]
  exact ⟨_, _, rfl, N7, K0_x7, sz6, EA_x7, Fw7, FZ_x7, FM_x7, Ex6_x7, V6p_x7, Ov6⟩
theorem own_ef7 (m : MethodId) (x0 : Addr) : entryFrame m #[(.ref x0)] 1 = mkF m 0 #[.val (.ref x0)] [] := by first | (simp [entryFrame, mkF, argsToLocals, Value.category]; done) | rfl
theorem own_d7_0 : decode jdk_38_method_7_code 0 = .ok (.aload_n 0, 1) := by decide +kernel
theorem own_d7_1 : decode jdk_38_method_7_code 1 = .ok (.aload_n 0, 1) := by decide +kernel
theorem own_d7_2 : decode jdk_38_method_7_code 2 = .ok (.getfield 48, 3) := by decide +kernel
theorem own_d7_5 : decode jdk_38_method_7_code 5 = .ok (.iconst 1, 1) := by decide +kernel
theorem own_d7_6 : decode jdk_38_method_7_code 6 = .ok (.iadd, 1) := by decide +kernel
theorem own_d7_7 : decode jdk_38_method_7_code 7 = .ok (.invokevirtual 69, 3) := by decide +kernel
theorem own_pd2 : parseMethodDescriptor "(I)[Ljava/lang/Object;" = some ⟨[.int], some (.array (.object "java/lang/Object"))⟩ := by decide +kernel
theorem own_d7_10 : decode jdk_38_method_7_code 10 = .ok (.areturn, 1) := by decide +kernel
def own_Q_own_grow0 (Z : State) (a : Addr) (w : Addr) (kw : ClassId) (h0 : Heap) (n0 : Nat) (v : Option Value) (h : Heap) (L : List Loc) : Prop := ∃ (b : Addr) (kb : ClassId), v = some (.ref b) ∧ Fr n0 L ∧ Keep h0 h [a] ∧ h0.size ≤ b ∧ Exa Z h a "java/util/ArrayList" ∧ Fld Z h a "java/util/ArrayList" "elementData" "[Ljava/lang/Object;" (.ref b) ∧ Fld Z h a "java/util/ArrayList" "size" "I" (.int (0 : Int32)) ∧ Fld Z h a "java/util/AbstractList" "modCount" "I" (.int (1 : Int32)) ∧ Exa Z h b "[Ljava/lang/Object;" ∧ Arv Z h b kb (.object "java/lang/Object") (10 : Int32) [.null, .null, .null, .null, .null, .null, .null, .null, .null, .null] .null ∧ Ovr Z kb "java/lang/Object"
set_option maxRecDepth 65536 in
set_option maxHeartbeats 40000000 in
theorem own_grow0 (l : Launch) (Z : State) (a0 : Array Value) (hw : ∀ d ∈ tables_1, d.before a0 Z = true) (ws : List Jvm.Cond) (a : Addr) (w : Addr) (kw : ClassId) (h0 : Heap) (n0 : Nat) (O0 : Old Z n0 h0) (SW : Sta Z Z.heap "java/util/ArrayList" "DEFAULTCAPACITY_EMPTY_ELEMENTDATA" "[Ljava/lang/Object;" (.ref w)) (VW : Arv Z Z.heap w kw (.object "java/lang/Object") (0 : Int32) [] .null) (EA : Exa Z h0 a "java/util/ArrayList") (FE : Fld Z h0 a "java/util/ArrayList" "elementData" "[Ljava/lang/Object;" (.ref w)) (FZ : Fld Z h0 a "java/util/ArrayList" "size" "I" (.int (0 : Int32))) (FM : Fld Z h0 a "java/util/AbstractList" "modCount" "I" (.int (1 : Int32))) (ga : n0 ≤ a) :
    MetFree l (⟨"java/util/ArrayList", "grow", "()[Ljava/lang/Object;"⟩ : MethodName) (head1 (Jvm.Cond.code (⟨"java/util/ArrayList", "grow", "()[Ljava/lang/Object;"⟩ : MethodName) jdk_38_method_7_code 1 (some (.array (.object "java/lang/Object"))) :: ws) ({ frames := 2, cells := 1, slots := 10, locals := 29 } : Room)) (fun args_ U => args_ = #[(.ref a)] ∧ Z.Warmed39 U.vm ∧ U.heap = h0) (fun _ _ _ _ _ => True) (fun _ U o U' => ∃ v L, o = .returned v ∧ (own_Q_own_grow0 Z a w kw h0 n0) v U'.heap L ∧ FrameEnd U o U' L ({ frames := 2, cells := 1, slots := 10, locals := 29 } : Room).cells ({ frames := 2, cells := 1, slots := 10, locals := 29 } : Room).slots) := by
  refine MetFree.of_bodySF (plainFor_of_name own_pn4) hisR ?_
  intro p e s m args below meth c s₁ Bd hml0 hP hK
  obtain ⟨rfl, hZ, hh⟩ := hP
  have hx := Bd.exec
  have hby := Bd.bytes
  have hml : c.maxLocals = 1 := hml0
  have hown : s.vm.findClass "java/util/ArrayList" = some m.cls := findClass_of_methodNamed Bd.named
  have hnm := (name_of_methodNamed Bd.named Bd.method).1
  have X0 : Stand p l e ({ frames := 2, cells := 1, slots := 10, locals := 29 } : Room) s m #[(.ref a)] below meth c s₁ [] 0 0 := Stand.of_body Bd
  have e0 : s₁.heap = h0 := by rw [← hh, Bd.state]; rfl
  have N0 := Fr.nil n0
  refine own_close (s := s) (Q := (own_Q_own_grow0 Z a w kw h0 n0)) (C := (({ frames := 2, cells := 1, slots := 10, locals := 29 } : Room)).cells) (N := (({ frames := 2, cells := 1, slots := 10, locals := 29 } : Room)).slots) (own_st (fun _ kt => castTop (own_ef7 m a) kt) ?_)
  have K0 := Keep.refl h0 [a]
  show own_Rch p e below _ s₁ (mkF m 0 #[.val (.ref a)] [])
  refine own_st (fun _ kt => XS.aloadN X0.here hx rfl (hb hby own_d7_0) rfl rfl  kt) ?_
  show own_Rch p e below _ s₁ (mkF m 1 #[.val (.ref a)] [(.ref a)])
  refine own_st (fun _ kt => XS.aloadN X0.here hx rfl (hb hby own_d7_1) rfl rfl  kt) ?_
  show own_Rch p e below _ s₁ (mkF m 2 #[.val (.ref a)] [(.ref a), (.ref a)])
  obtain ⟨T1, X1, e1, st1⟩ := getF X0 hx hZ hown (host := "") (Or.inl (hw _ (List.mem_of_getElem? (i := 36) rfl))) Via.refl e0 FZ (g := (mkF m 2 #[.val (.ref a)] [(.ref a), (.ref a)])) rfl rfl (hb hby own_d7_2)
  refine own_st st1 ?_
  show own_Rch p e below _ T1 (mkF m 5 #[.val (.ref a)] [(.int (0 : Int32)), (.ref a)])
  refine own_st (fun _ kt => XS.iconst X1.here hx rfl (hb hby own_d7_5) kt) ?_
  show own_Rch p e below _ T1 (mkF m 6 #[.val (.ref a)] [(.int (1 : Int32)), (.int (0 : Int32)), (.ref a)])
  refine own_st (fun _ kt => XS.iadd X1.here hx rfl (hb hby own_d7_6) rfl kt) ?_
  show own_Rch p e below _ T1 (mkF m 7 #[.val (.ref a)] [(.int (1 : Int32)), (.ref a)])
  obtain ⟨cq2, q2a, q2b⟩ := EA.cell
  obtain ⟨_, _, ⟨T2, L2, k2, n2⟩, -, X2, ⟨Lc2, hQ2, l2, y2, z2⟩, st2⟩ := X1.privateBack hx (y := (⟨"java/util/ArrayList", "grow", "(I)[Ljava/lang/Object;"⟩ : MethodName)) hown (mvT hZ (hw _ (List.mem_of_getElem? (i := 48) rfl))) (mvT hZ (hw _ (List.mem_of_getElem? (i := 49) rfl))) (mvT hZ (hw _ (List.mem_of_getElem? (i := 51) rfl))) (Cond.privateMethod_at (mvP hZ (hw _ (List.mem_of_getElem? (i := 50) rfl)) (args := #[]))) (mvT hZ (hw _ (List.mem_of_getElem? (i := 52) rfl))) (by decide) (backOf (W := 0) (own_grow1 l Z a0 hw [] a w kw h0 n0 O0 SW VW EA FE FZ FM ga) hZ (hw _ (List.mem_of_getElem? (i := 52) rfl)) (hw _ (List.mem_of_getElem? (i := 3) rfl)) (by decide) (by decide)) (g := (mkF m 7 #[.val (.ref a)] [(.int (1 : Int32)), (.ref a)])) rfl (by rw [hml]; rfl) (Steps.refl _) (a := a) (by rw [e1]; exact q2a) q2b (argsL := [(.int (1 : Int32))]) (rest := []) (lenOf own_pd2 rfl) rfl (by show 2 * 0 + _ ≤ _; exact Nat.le_of_eq rfl) (hb hby own_d7_7) (fun _ _ => ⟨rfl, e1, (by decide : 0 + 1 ≤ _), (by decide : 0 + 10 ≤ _)⟩)
  dsimp only [Pt.U, Pt.locs, Pt.cells, Pt.slots] at X2 l2 y2 z2 st2 hQ2
  subst l2 y2 z2
  obtain ⟨bg2, kg2, rfl, N2q, K2, hb2, Ea2, Fe2, Fz2, Fm2, Eb2, Vb2, Ob2⟩ := hQ2
  have N2 := Fr.app N0 N2q
  refine own_st (fun _ kt => st2.trans kt) ?_
  have ne2_a_bg2 : a ≠ bg2 := Nat.ne_of_lt (Nat.lt_of_lt_of_le EA.lt hb2)
  have ge2_bg2 : n0 ≤ bg2 := Nat.le_trans (own_old_le O0) hb2
  have sz2_bg2 : h0.size ≤ bg2 := Nat.le_trans K0.1 hb2
  have O0_x2 := O0.keep K2 (allS ga all0)
  have EA_x2 := EA.keep K2
  have K0_x2 := K0.trans K2 (allS (Or.inl (List.mem_of_getElem? (i := 0) rfl)) all0)
  show own_Rch p e below _ T2 (mkF m 10 #[.val (.ref a)] [(.ref bg2)])
  refine own_retA rfl rfl X2 hx Bd.notSynchronized Bd.returns (hb hby own_d7_10) (by decide) (by decide) ?_
  exact ⟨_, _, rfl, N2, K0_x2, sz2_bg2, Ea2, Fe2, Fz2, Fm2, Eb2, Vb2, Ob2⟩
theorem own_ef6 (m : MethodId) (x0 : Addr) (x1 : Addr) (x2 : Addr) (x3 : Int32) : entryFrame m #[(.ref x0), (.ref x1), (.ref x2), (.int x3)] 4 = mkF m 0 #[.val (.ref x0), .val (.ref x1), .val (.ref x2), .val (.int x3)] [] := by first | (simp [entryFrame, mkF, argsToLocals, Value.category]; done) | rfl
theorem own_d6_0 : decode jdk_38_method_24_code 0 = .ok (.iload_n 3, 1) := by decide +kernel
theorem own_d6_1 : decode jdk_38_method_24_code 1 = .ok (.aload_n 2, 1) := by decide +kernel
theorem own_d6_2 : decode jdk_38_method_24_code 2 = .ok (.arraylength, 1) := by decide +kernel
theorem own_d6_3 : decode jdk_38_method_24_code 3 = .ok (.if_icmp .ne 8, 3) := by decide +kernel
theorem own_d6_6 : decode jdk_38_method_24_code 6 = .ok (.aload_n 0, 1) := by decide +kernel
theorem own_d6_7 : decode jdk_38_method_24_code 7 = .ok (.invokevirtual 129, 3) := by decide +kernel
theorem own_pd3 : parseMethodDescriptor "()[Ljava/lang/Object;" = some ⟨[], some (.array (.object "java/lang/Object"))⟩ := by decide +kernel
theorem own_d6_10 : decode jdk_38_method_24_code 10 = .ok (.astore_n 2, 1) := by decide +kernel
theorem own_d6_11 : decode jdk_38_method_24_code 11 = .ok (.aload_n 2, 1) := by decide +kernel
theorem own_d6_12 : decode jdk_38_method_24_code 12 = .ok (.iload_n 3, 1) := by decide +kernel
theorem own_d6_13 : decode jdk_38_method_24_code 13 = .ok (.aload_n 1, 1) := by decide +kernel
theorem own_d6_14 : decode jdk_38_method_24_code 14 = .ok (.aastore, 1) := by decide +kernel
theorem own_d6_15 : decode jdk_38_method_24_code 15 = .ok (.aload_n 0, 1) := by decide +kernel
theorem own_d6_16 : decode jdk_38_method_24_code 16 = .ok (.iload_n 3, 1) := by decide +kernel
theorem own_d6_17 : decode jdk_38_method_24_code 17 = .ok (.iconst 1, 1) := by decide +kernel
theorem own_d6_18 : decode jdk_38_method_24_code 18 = .ok (.iadd, 1) := by decide +kernel
theorem own_d6_19 : decode jdk_38_method_24_code 19 = .ok (.putfield 48, 3) := by decide +kernel
theorem own_d6_22 : decode jdk_38_method_24_code 22 = .ok (.return_, 1) := by decide +kernel
def own_Q_own_addp0 (Z : State) (a : Addr) (x : Addr) (w : Addr) (kw : ClassId) (h0 : Heap) (n0 : Nat) (v : Option Value) (h : Heap) (L : List Loc) : Prop := ∃ (b : Addr) (kb : ClassId), v = none ∧ Fr n0 L ∧ Keep h0 h [a] ∧ h0.size ≤ b ∧ Exa Z h a "java/util/ArrayList" ∧ Fld Z h a "java/util/ArrayList" "elementData" "[Ljava/lang/Object;" (.ref b) ∧ Fld Z h a "java/util/ArrayList" "size" "I" (.int (1 : Int32)) ∧ Fld Z h a "java/util/AbstractList" "modCount" "I" (.int (1 : Int32)) ∧ Exa Z h b "[Ljava/lang/Object;" ∧ Arv Z h b kb (.object "java/lang/Object") (10 : Int32) [(.ref x), .null, .null, .null, .null, .null, .null, .null, .null, .null] .null ∧ Ovr Z kb "java/lang/Object"
set_option maxRecDepth 65536 in
set_option maxHeartbeats 40000000 in
theorem own_addp0 (l : Launch) (Z : State) (a0 : Array Value) (hw : ∀ d ∈ tables_1, d.before a0 Z = true) (ws : List Jvm.Cond) (a : Addr) (x : Addr) (w : Addr) (kw : ClassId) (h0 : Heap) (n0 : Nat) (O0 : Old Z n0 h0) (SW : Sta Z Z.heap "java/util/ArrayList" "DEFAULTCAPACITY_EMPTY_ELEMENTDATA" "[Ljava/lang/Object;" (.ref w)) (VW : Arv Z Z.heap w kw (.object "java/lang/Object") (0 : Int32) [] .null) (EA : Exa Z h0 a "java/util/ArrayList") (FE : Fld Z h0 a "java/util/ArrayList" "elementData" "[Ljava/lang/Object;" (.ref w)) (FZ : Fld Z h0 a "java/util/ArrayList" "size" "I" (.int (0 : Int32))) (FM : Fld Z h0 a "java/util/AbstractList" "modCount" "I" (.int (1 : Int32))) (ga : n0 ≤ a) (EX : Exa Z Z.heap x "java/math/BigDecimal") :
    MetFree l (⟨"java/util/ArrayList", "add", "(Ljava/lang/Object;[Ljava/lang/Object;I)V"⟩ : MethodName) (head1 (Jvm.Cond.code (⟨"java/util/ArrayList", "add", "(Ljava/lang/Object;[Ljava/lang/Object;I)V"⟩ : MethodName) jdk_38_method_24_code 4 none :: ws) ({ frames := 3, cells := 1, slots := 10, locals := 41 } : Room)) (fun args_ U => args_ = #[(.ref a), (.ref x), (.ref w), (.int (0 : Int32))] ∧ Z.Warmed39 U.vm ∧ U.heap = h0) (fun _ _ _ _ _ => True) (fun _ U o U' => ∃ v L, o = .returned v ∧ (own_Q_own_addp0 Z a x w kw h0 n0) v U'.heap L ∧ FrameEnd U o U' L ({ frames := 3, cells := 1, slots := 10, locals := 41 } : Room).cells ({ frames := 3, cells := 1, slots := 10, locals := 41 } : Room).slots) := by
  refine MetFree.of_bodySF (plainFor_of_name own_pn4) hisR ?_
  intro p e s m args below meth c s₁ Bd hml0 hP hK
  obtain ⟨rfl, hZ, hh⟩ := hP
  have hx := Bd.exec
  have hby := Bd.bytes
  have hml : c.maxLocals = 4 := hml0
  have hown : s.vm.findClass "java/util/ArrayList" = some m.cls := findClass_of_methodNamed Bd.named
  have hnm := (name_of_methodNamed Bd.named Bd.method).1
  have X0 : Stand p l e ({ frames := 3, cells := 1, slots := 10, locals := 41 } : Room) s m #[(.ref a), (.ref x), (.ref w), (.int (0 : Int32))] below meth c s₁ [] 0 0 := Stand.of_body Bd
  have e0 : s₁.heap = h0 := by rw [← hh, Bd.state]; rfl
  have N0 := Fr.nil n0
  refine own_close (s := s) (Q := (own_Q_own_addp0 Z a x w kw h0 n0)) (C := (({ frames := 3, cells := 1, slots := 10, locals := 41 } : Room)).cells) (N := (({ frames := 3, cells := 1, slots := 10, locals := 41 } : Room)).slots) (own_st (fun _ kt => castTop (own_ef6 m a x w (0 : Int32)) kt) ?_)
  have K0 := Keep.refl h0 [a]
  show own_Rch p e below _ s₁ (mkF m 0 #[.val (.ref a), .val (.ref x), .val (.ref w), .val (.int (0 : Int32))] [])
  refine own_st (fun _ kt => XS.iloadN X0.here hx rfl (hb hby own_d6_0) rfl  kt) ?_
  show own_Rch p e below _ s₁ (mkF m 1 #[.val (.ref a), .val (.ref x), .val (.ref w), .val (.int (0 : Int32))] [(.int (0 : Int32))])
  refine own_st (fun _ kt => XS.aloadN X0.here hx rfl (hb hby own_d6_1) rfl rfl  kt) ?_
  show own_Rch p e below _ s₁ (mkF m 2 #[.val (.ref a), .val (.ref x), .val (.ref w), .val (.int (0 : Int32))] [(.ref w), (.int (0 : Int32))])
  obtain ⟨cl1, Ar1, -, S1, M1, -, -⟩ := id (VW.ext O0.2)
  refine own_st (X0.arraylength hx (by rw [e0]; exact Ar1.1) (State.isArrayOf_alike (hZ).alike Ar1.2.1) (g := (mkF m 2 #[.val (.ref a), .val (.ref x), .val (.ref w), .val (.int (0 : Int32))] [(.ref w), (.int (0 : Int32))])) rfl rfl (hb hby own_d6_2)) ?_
  rw [len_of S1 M1]
  show own_Rch p e below _ s₁ (mkF m 3 #[.val (.ref a), .val (.ref x), .val (.ref w), .val (.int (0 : Int32))] [(.int (0 : Int32)), (.int (0 : Int32))])
  refine own_st (fun _ kt => XS.icmpNo X0.here hx rfl (hb hby own_d6_3) rfl (teq (rfl : (0 : Int32) = (0 : Int32))).2 kt) ?_
  show own_Rch p e below _ s₁ (mkF m 6 #[.val (.ref a), .val (.ref x), .val (.ref w), .val (.int (0 : Int32))] [])
  refine own_st (fun _ kt => XS.aloadN X0.here hx rfl (hb hby own_d6_6) rfl rfl  kt) ?_
  show own_Rch p e below _ s₁ (mkF m 7 #[.val (.ref a), .val (.ref x), .val (.ref w), .val (.int (0 : Int32))] [(.ref a)])
  obtain ⟨cq2, q2a, q2b⟩ := EA.cell
  obtain ⟨_, _, ⟨T2, L2, k2, n2⟩, -, X2, ⟨Lc2, hQ2, l2, y2, z2⟩, st2⟩ := X0.privateBack hx (y := (⟨"java/util/ArrayList", "grow", "()[Ljava/lang/Object;"⟩ : MethodName)) hown (mvT hZ (hw _ (List.mem_of_getElem? (i := 43) rfl))) (mvT hZ (hw _ (List.mem_of_getElem? (i := 44) rfl))) (mvT hZ (hw _ (List.mem_of_getElem? (i := 46) rfl))) (Cond.privateMethod_at (mvP hZ (hw _ (List.mem_of_getElem? (i := 45) rfl)) (args := #[]))) (mvT hZ (hw _ (List.mem_of_getElem? (i := 47) rfl))) (by decide) (backOf (W := 0) (own_grow0 l Z a0 hw [] a w kw h0 n0 O0 SW VW EA FE FZ FM ga) hZ (hw _ (List.mem_of_getElem? (i := 47) rfl)) (hw _ (List.mem_of_getElem? (i := 3) rfl)) (by decide) (by decide)) (g := (mkF m 7 #[.val (.ref a), .val (.ref x), .val (.ref w), .val (.int (0 : Int32))] [(.ref a)])) rfl (by rw [hml]; rfl) (Steps.refl _) (a := a) (by rw [e0]; exact q2a) q2b (argsL := []) (rest := []) (lenOf own_pd3 rfl) rfl (by show 2 * 0 + _ ≤ _; exact Nat.le_of_eq rfl) (hb hby own_d6_7) (fun _ _ => ⟨rfl, e0, (by decide : 0 + 1 ≤ _), (by decide : 0 + 10 ≤ _)⟩)
  dsimp only [Pt.U, Pt.locs, Pt.cells, Pt.slots] at X2 l2 y2 z2 st2 hQ2
  subst l2 y2 z2
  obtain ⟨bg2, kg2, rfl, N2q, K2, hb2, Ea2, Fe2, Fz2, Fm2, Eb2, Vb2, Ob2⟩ := hQ2
  have N2 := Fr.app N0 N2q
  refine own_st (fun _ kt => st2.trans kt) ?_
  have ne2_a_bg2 : a ≠ bg2 := Nat.ne_of_lt (Nat.lt_of_lt_of_le EA.lt hb2)
  have ge2_bg2 : n0 ≤ bg2 := Nat.le_trans (own_old_le O0) hb2
  have sz2_bg2 : h0.size ≤ bg2 := Nat.le_trans K0.1 hb2
  have O0_x2 := O0.keep K2 (allS ga all0)
  have EA_x2 := EA.keep K2
  have K0_x2 := K0.trans K2 (allS (Or.inl (List.mem_of_getElem? (i := 0) rfl)) all0)
  show own_Rch p e below _ T2 (mkF m 10 #[.val (.ref a), .val (.ref x), .val (.ref w), .val (.int (0 : Int32))] [(.ref bg2)])
  refine own_st (fun _ kt => XS.astoreN X2.here hx rfl (hb hby own_d6_10) rfl rfl (l' := #[.val (.ref a), .val (.ref x), .val (.ref bg2), .val (.int (0 : Int32))]) rfl kt) ?_
  show own_Rch p e below _ T2 (mkF m 11 #[.val (.ref a), .val (.ref x), .val (.ref bg2), .val (.int (0 : Int32))] [])
  refine own_st (fun _ kt => XS.aloadN X2.here hx rfl (hb hby own_d6_11) rfl rfl  kt) ?_
  show own_Rch p e below _ T2 (mkF m 12 #[.val (.ref a), .val (.ref x), .val (.ref bg2), .val (.int (0 : Int32))] [(.ref bg2)])
  refine own_st (fun _ kt => XS.iloadN X2.here hx rfl (hb hby own_d6_12) rfl  kt) ?_
  show own_Rch p e below _ T2 (mkF m 13 #[.val (.ref a), .val (.ref x), .val (.ref bg2), .val (.int (0 : Int32))] [(.int (0 : Int32)), (.ref bg2)])
  refine own_st (fun _ kt => XS.aloadN X2.here hx rfl (hb hby own_d6_13) rfl rfl  kt) ?_
  show own_Rch p e below _ T2 (mkF m 14 #[.val (.ref a), .val (.ref x), .val (.ref bg2), .val (.int (0 : Int32))] [(.ref x), (.int (0 : Int32)), (.ref bg2)])
  obtain ⟨cl3, Ar3, q3, S3, M3, H3, G3⟩ := id Vb2
  have hin3 : ¬ ((0 : Int32) < 0 ∨ cl3.slots.size ≤ ((0 : Int32)).toNatClampNeg) := inb_of S3 ⟨by decide, by decide⟩
  obtain ⟨T3, h3, X3, e3, W3, st3⟩ := stR X2 hx hZ rfl Ar3 (j := (0 : Int32)) hin3 rfl (Sto.ofV Ar3 q3 Ob2 (Ins.of_exa (EX.ext O0_x2.2) (hw _ (List.mem_of_getElem? (i := 59) rfl)))) (g := (mkF m 14 #[.val (.ref a), .val (.ref x), .val (.ref bg2), .val (.int (0 : Int32))] [(.ref x), (.int (0 : Int32)), (.ref bg2)])) rfl rfl (hb hby own_d6_14)
  have V3 := Arv.set Ar3 q3 S3 M3 H3 G3 rfl W3 0 rfl (Nat.le_of_ble_eq_true rfl)
  have V3s : Arv Z h3 bg2 kg2 (.object "java/lang/Object") (10 : Int32) [(.ref x), .null, .null, .null, .null, .null, .null, .null, .null, .null] .null := V3
  have N3 := Fr.snoc X3 N2 ge2_bg2
  refine own_st st3 ?_
  have O0_x3 := O0_x2.wr W3 ge2_bg2
  have Ea2_x3 := Ea2.wr W3
  have K0_x3 := K0_x2.wr W3 (Or.inr sz2_bg2)
  have Fe2_x3 := Fe2.other W3 (Or.inl ne2_a_bg2)
  have Fz2_x3 := Fz2.other W3 (Or.inl ne2_a_bg2)
  have Fm2_x3 := Fm2.other W3 (Or.inl ne2_a_bg2)
  have Eb2_x3 := Eb2.wr W3
  show own_Rch p e below _ T3 (mkF m 15 #[.val (.ref a), .val (.ref x), .val (.ref bg2), .val (.int (0 : Int32))] [])
  refine own_st (fun _ kt => XS.aloadN X3.here hx rfl (hb hby own_d6_15) rfl rfl  kt) ?_
  show own_Rch p e below _ T3 (mkF m 16 #[.val (.ref a), .val (.ref x), .val (.ref bg2), .val (.int (0 : Int32))] [(.ref a)])
  refine own_st (fun _ kt => XS.iloadN X3.here hx rfl (hb hby own_d6_16) rfl  kt) ?_
  show own_Rch p e below _ T3 (mkF m 17 #[.val (.ref a), .val (.ref x), .val (.ref bg2), .val (.int (0 : Int32))] [(.int (0 : Int32)), (.ref a)])
  refine own_st (fun _ kt => XS.iconst X3.here hx rfl (hb hby own_d6_17) kt) ?_
  show own_Rch p e below _ T3 (mkF m 18 #[.val (.ref a), .val (.ref x), .val (.ref bg2), .val (.int (0 : Int32))] [(.int (1 : Int32)), (.int (0 : Int32)), (.ref a)])
  refine own_st (fun _ kt => XS.iadd X3.here hx rfl (hb hby own_d6_18) rfl kt) ?_
  show own_Rch p e below _ T3 (mkF m 19 #[.val (.ref a), .val (.ref x), .val (.ref bg2), .val (.int (0 : Int32))] [(.int (1 : Int32)), (.ref a)])
  obtain ⟨T4, h4, X4, e4, W4, st4⟩ := putF X3 hx hZ hown (host := "") (Or.inl (hw _ (List.mem_of_getElem? (i := 36) rfl))) Via.refl e3 Fz2_x3 Ea2_x3 (Or.inl (hw _ (List.mem_of_getElem? (i := 37) rfl))) (hw _ (List.mem_of_getElem? (i := 2) rfl)) (ty := .int) (by decide) rfl rfl (g := (mkF m 19 #[.val (.ref a), .val (.ref x), .val (.ref bg2), .val (.int (0 : Int32))] [(.int (1 : Int32)), (.ref a)])) rfl rfl (hb hby own_d6_19)
  refine own_st st4 ?_
  have Fw4 := Fz2_x3.same W4
  have N4 := Fr.snoc X4 N3 ga
  have O0_x4 := O0_x3.wr W4 ga
  have Ea2_x4 := Ea2_x3.wr W4
  have K0_x4 := K0_x3.wr W4 (Or.inl (List.mem_of_getElem? (i := 0) rfl))
  have Fe2_x4 := Fe2_x3.other W4 (Or.inr (slot_ne (Or.inl (hw _ (List.mem_of_getElem? (i := 26) rfl))) (Or.inl (hw _ (List.mem_of_getElem? (i := 37) rfl))) (by decide) (t := (.array (.object "java/lang/Object"))) (t' := .int) (by decide) (by decide)))
  have Fm2_x4 := Fm2_x3.other W4 (Or.inr (slot_ne (Or.inl (hw _ (List.mem_of_getElem? (i := 23) rfl))) (Or.inl (hw _ (List.mem_of_getElem? (i := 37) rfl))) (by decide) (t := .int) (t' := .int) (by decide) (by decide)))
  have Eb2_x4 := Eb2_x3.wr W4
  have V3s_x4 := V3s.other W4 (Ne.symm ne2_a_bg2)
  show own_Rch p e below _ T4 (mkF m 22 #[.val (.ref a), .val (.ref x), .val (.ref bg2), .val (.int (0 : Int32))] [])
  refine own_retV X4 hx Bd.notSynchronized Bd.returns (hb hby own_d6_22) (by decide) (by decide) ?_
  rw [e4]
  exact ⟨_, _, rfl, N4, K0_x4, sz2_bg2, Ea2_x4, Fe2_x4, Fw4, Fm2_x4, Eb2_x4, V3s_x4, Ob2⟩
theorem own_ef5 (m : MethodId) (x0 : Addr) (x1 : Addr) : entryFrame m #[(.ref x0), (.ref x1)] 2 = mkF m 0 #[.val (.ref x0), .val (.ref x1)] [] := by first | (simp [entryFrame, mkF, argsToLocals, Value.category]; done) | rfl
theorem own_d5_0 : decode jdk_38_method_25_code 0 = .ok (.aload_n 0, 1) := by decide +kernel
theorem own_d5_1 : decode jdk_38_method_25_code 1 = .ok (.dup, 1) := by decide +kernel
theorem own_d5_2 : decode jdk_38_method_25_code 2 = .ok (.getfield 63, 3) := by decide +kernel
theorem own_d5_5 : decode jdk_38_method_25_code 5 = .ok (.iconst 1, 1) := by decide +kernel
theorem own_d5_6 : decode jdk_38_method_25_code 6 = .ok (.iadd, 1) := by decide +kernel
theorem own_d5_7 : decode jdk_38_method_25_code 7 = .ok (.putfield 63, 3) := by decide +kernel
theorem own_d5_10 : decode jdk_38_method_25_code 10 = .ok (.aload_n 0, 1) := by decide +kernel
theorem own_d5_11 : decode jdk_38_method_25_code 11 = .ok (.aload_n 1, 1) := by decide +kernel
theorem own_d5_12 : decode jdk_38_method_25_code 12 = .ok (.aload_n 0, 1) := by decide +kernel
theorem own_d5_13 : decode jdk_38_method_25_code 13 = .ok (.getfield 9, 3) := by decide +kernel
theorem own_d5_16 : decode jdk_38_method_25_code 16 = .ok (.aload_n 0, 1) := by decide +kernel
theorem own_d5_17 : decode jdk_38_method_25_code 17 = .ok (.getfield 48, 3) := by decide +kernel
theorem own_d5_20 : decode jdk_38_method_25_code 20 = .ok (.invokevirtual 131, 3) := by decide +kernel
theorem own_pd4 : parseMethodDescriptor "(Ljava/lang/Object;[Ljava/lang/Object;I)V" = some ⟨[(.object "java/lang/Object"), (.array (.object "java/lang/Object")), .int], none⟩ := by decide +kernel
theorem own_d5_23 : decode jdk_38_method_25_code 23 = .ok (.iconst 1, 1) := by decide +kernel
theorem own_d5_24 : decode jdk_38_method_25_code 24 = .ok (.ireturn, 1) := by decide +kernel
def own_Q_own_add0 (Z : State) (a : Addr) (x : Addr) (w : Addr) (kw : ClassId) (h0 : Heap) (n0 : Nat) (v : Option Value) (h : Heap) (L : List Loc) : Prop := ∃ (b : Addr) (kb : ClassId), v = some (.int (1 : Int32)) ∧ Fr n0 L ∧ Keep h0 h [a] ∧ h0.size ≤ b ∧ Exa Z h a "java/util/ArrayList" ∧ Fld Z h a "java/util/ArrayList" "elementData" "[Ljava/lang/Object;" (.ref b) ∧ Fld Z h a "java/util/ArrayList" "size" "I" (.int (1 : Int32)) ∧ Fld Z h a "java/util/AbstractList" "modCount" "I" (.int (1 : Int32)) ∧ Exa Z h b "[Ljava/lang/Object;" ∧ Arv Z h b kb (.object "java/lang/Object") (10 : Int32) [(.ref x), .null, .null, .null, .null, .null, .null, .null, .null, .null] .null ∧ Ovr Z kb "java/lang/Object"
set_option maxRecDepth 65536 in
set_option maxHeartbeats 40000000 in
theorem own_add0 (l : Launch) (Z : State) (a0 : Array Value) (hw : ∀ d ∈ tables_1, d.before a0 Z = true) (ws : List Jvm.Cond) (a : Addr) (x : Addr) (w : Addr) (kw : ClassId) (h0 : Heap) (n0 : Nat) (O0 : Old Z n0 h0) (SW : Sta Z Z.heap "java/util/ArrayList" "DEFAULTCAPACITY_EMPTY_ELEMENTDATA" "[Ljava/lang/Object;" (.ref w)) (VW : Arv Z Z.heap w kw (.object "java/lang/Object") (0 : Int32) [] .null) (EA : Exa Z h0 a "java/util/ArrayList") (FE : Fld Z h0 a "java/util/ArrayList" "elementData" "[Ljava/lang/Object;" (.ref w)) (FZ : Fld Z h0 a "java/util/ArrayList" "size" "I" (.int (0 : Int32))) (FM : Fld Z h0 a "java/util/AbstractList" "modCount" "I" (.int (0 : Int32))) (ga : n0 ≤ a) (EX : Exa Z Z.heap x "java/math/BigDecimal") :
    MetFree l (⟨"java/util/ArrayList", "add", "(Ljava/lang/Object;)Z"⟩ : MethodName) (head1 (Jvm.Cond.code (⟨"java/util/ArrayList", "add", "(Ljava/lang/Object;)Z"⟩ : MethodName) jdk_38_method_25_code 2 (some .boolean) :: ws) ({ frames := 4, cells := 1, slots := 10, locals := 56 } : Room)) (fun args_ U => args_ = #[(.ref a), (.ref x)] ∧ Z.Warmed39 U.vm ∧ U.heap = h0) (fun _ _ _ _ _ => True) (fun _ U o U' => ∃ v L, o = .returned v ∧ (own_Q_own_add0 Z a x w kw h0 n0) v U'.heap L ∧ FrameEnd U o U' L ({ frames := 4, cells := 1, slots := 10, locals := 56 } : Room).cells ({ frames := 4, cells := 1, slots := 10, locals := 56 } : Room).slots) := by
  refine MetFree.of_bodySF (plainFor_of_name own_pn4) hisR ?_
  intro p e s m args below meth c s₁ Bd hml0 hP hK
  obtain ⟨rfl, hZ, hh⟩ := hP
  have hx := Bd.exec
  have hby := Bd.bytes
  have hml : c.maxLocals = 2 := hml0
  have hown : s.vm.findClass "java/util/ArrayList" = some m.cls := findClass_of_methodNamed Bd.named
  have hnm := (name_of_methodNamed Bd.named Bd.method).1
  have X0 : Stand p l e ({ frames := 4, cells := 1, slots := 10, locals := 56 } : Room) s m #[(.ref a), (.ref x)] below meth c s₁ [] 0 0 := Stand.of_body Bd
  have e0 : s₁.heap = h0 := by rw [← hh, Bd.state]; rfl
  have N0 := Fr.nil n0
  refine own_close (s := s) (Q := (own_Q_own_add0 Z a x w kw h0 n0)) (C := (({ frames := 4, cells := 1, slots := 10, locals := 56 } : Room)).cells) (N := (({ frames := 4, cells := 1, slots := 10, locals := 56 } : Room)).slots) (own_st (fun _ kt => castTop (own_ef5 m a x) kt) ?_)
  have K0 := Keep.refl h0 [a]
  show own_Rch p e below _ s₁ (mkF m 0 #[.val (.ref a), .val (.ref x)] [])
  refine own_st (fun _ kt => XS.aloadN X0.here hx rfl (hb hby own_d5_0) rfl rfl  kt) ?_
  show own_Rch p e below _ s₁ (mkF m 1 #[.val (.ref a), .val (.ref x)] [(.ref a)])
  refine own_st (fun _ kt => XS.dup X0.here hx rfl (hb hby own_d5_1) rfl rfl kt) ?_
  show own_Rch p e below _ s₁ (mkF m 2 #[.val (.ref a), .val (.ref x)] [(.ref a), (.ref a)])
  obtain ⟨T1, X1, e1, st1⟩ := getF X0 hx hZ hown (host := "") (Or.inl (hw _ (List.mem_of_getElem? (i := 34) rfl))) (Via.of (hw _ (List.mem_of_getElem? (i := 35) rfl))) e0 FM (g := (mkF m 2 #[.val (.ref a), .val (.ref x)] [(.ref a), (.ref a)])) rfl rfl (hb hby own_d5_2)
  refine own_st st1 ?_
  show own_Rch p e below _ T1 (mkF m 5 #[.val (.ref a), .val (.ref x)] [(.int (0 : Int32)), (.ref a)])
  refine own_st (fun _ kt => XS.iconst X1.here hx rfl (hb hby own_d5_5) kt) ?_
  show own_Rch p e below _ T1 (mkF m 6 #[.val (.ref a), .val (.ref x)] [(.int (1 : Int32)), (.int (0 : Int32)), (.ref a)])
  refine own_st (fun _ kt => XS.iadd X1.here hx rfl (hb hby own_d5_6) rfl kt) ?_
  show own_Rch p e below _ T1 (mkF m 7 #[.val (.ref a), .val (.ref x)] [(.int (1 : Int32)), (.ref a)])
  obtain ⟨T2, h2, X2, e2, W2, st2⟩ := putF X1 hx hZ hown (host := "") (Or.inl (hw _ (List.mem_of_getElem? (i := 34) rfl))) (Via.of (hw _ (List.mem_of_getElem? (i := 35) rfl))) e1 FM EA (Or.inl (hw _ (List.mem_of_getElem? (i := 23) rfl))) (hw _ (List.mem_of_getElem? (i := 2) rfl)) (ty := .int) (by decide) rfl rfl (g := (mkF m 7 #[.val (.ref a), .val (.ref x)] [(.int (1 : Int32)), (.ref a)])) rfl rfl (hb hby own_d5_7)
  refine own_st st2 ?_
  have Fw2 := FM.same W2
  have N2 := Fr.snoc X2 N0 ga
  have O0_x2 := O0.wr W2 ga
  have EA_x2 := EA.wr W2
  have FE_x2 := FE.other W2 (Or.inr (slot_ne (Or.inl (hw _ (List.mem_of_getElem? (i := 26) rfl))) (Or.inl (hw _ (List.mem_of_getElem? (i := 23) rfl))) (by decide) (t := (.array (.object "java/lang/Object"))) (t' := .int) (by decide) (by decide)))
  have FZ_x2 := FZ.other W2 (Or.inr (slot_ne (Or.inl (hw _ (List.mem_of_getElem? (i := 37) rfl))) (Or.inl (hw _ (List.mem_of_getElem? (i := 23) rfl))) (by decide) (t := .int) (t' := .int) (by decide) (by decide)))
  have K0_x2 := K0.wr W2 (Or.inl (List.mem_of_getElem? (i := 0) rfl))
  show own_Rch p e below _ T2 (mkF m 10 #[.val (.ref a), .val (.ref x)] [])
  refine own_st (fun _ kt => XS.aloadN X2.here hx rfl (hb hby own_d5_10) rfl rfl  kt) ?_
  show own_Rch p e below _ T2 (mkF m 11 #[.val (.ref a), .val (.ref x)] [(.ref a)])
  refine own_st (fun _ kt => XS.aloadN X2.here hx rfl (hb hby own_d5_11) rfl rfl  kt) ?_
  show own_Rch p e below _ T2 (mkF m 12 #[.val (.ref a), .val (.ref x)] [(.ref x), (.ref a)])
  refine own_st (fun _ kt => XS.aloadN X2.here hx rfl (hb hby own_d5_12) rfl rfl  kt) ?_
  show own_Rch p e below _ T2 (mkF m 13 #[.val (.ref a), .val (.ref x)] [(.ref a), (.ref x), (.ref a)])
  obtain ⟨T3, X3, e3, st3⟩ := getF X2 hx hZ hown (host := "") (Or.inl (hw _ (List.mem_of_getElem? (i := 25) rfl))) Via.refl e2 FE_x2 (g := (mkF m 13 #[.val (.ref a), .val (.ref x)] [(.ref a), (.ref x), (.ref a)])) rfl rfl (hb hby own_d5_13)
  refine own_st st3 ?_
  show own_Rch p e below _ T3 (mkF m 16 #[.val (.ref a), .val (.ref x)] [(.ref w), (.ref x), (.ref a)])
  refine own_st (fun _ kt => XS.aloadN X3.here hx rfl (hb hby own_d5_16) rfl rfl  kt) ?_
  show own_Rch p e below _ T3 (mkF m 17 #[.val (.ref a), .val (.ref x)] [(.ref a), (.ref w), (.ref x), (.ref a)])
  obtain ⟨T4, X4, e4, st4⟩ := getF X3 hx hZ hown (host := "") (Or.inl (hw _ (List.mem_of_getElem? (i := 36) rfl))) Via.refl e3 FZ_x2 (g := (mkF m 17 #[.val (.ref a), .val (.ref x)] [(.ref a), (.ref w), (.ref x), (.ref a)])) rfl rfl (hb hby own_d5_17)
  refine own_st st4 ?_
  show own_Rch p e below _ T4 (mkF m 20 #[.val (.ref a), .val (.ref x)] [(.int (0 : Int32)), (.ref w), (.ref x), (.ref a)])
  obtain ⟨cq5, q5a, q5b⟩ := EA_x2.cell
  obtain ⟨_, _, ⟨T5, L5, k5, n5⟩, -, X5, ⟨Lc5, hQ5, l5, y5, z5⟩, st5⟩ := X4.privateBack hx (y := (⟨"java/util/ArrayList", "add", "(Ljava/lang/Object;[Ljava/lang/Object;I)V"⟩ : MethodName)) hown (mvT hZ (hw _ (List.mem_of_getElem? (i := 38) rfl))) (mvT hZ (hw _ (List.mem_of_getElem? (i := 39) rfl))) (mvT hZ (hw _ (List.mem_of_getElem? (i := 41) rfl))) (Cond.privateMethod_at (mvP hZ (hw _ (List.mem_of_getElem? (i := 40) rfl)) (args := #[]))) (mvT hZ (hw _ (List.mem_of_getElem? (i := 42) rfl))) (by decide) (backOf (W := 0) (own_addp0 l Z a0 hw [] a x w kw h2 n0 O0_x2 SW VW EA_x2 FE_x2 FZ_x2 Fw2 ga EX) hZ (hw _ (List.mem_of_getElem? (i := 42) rfl)) (hw _ (List.mem_of_getElem? (i := 3) rfl)) (by decide) (by decide)) (g := (mkF m 20 #[.val (.ref a), .val (.ref x)] [(.int (0 : Int32)), (.ref w), (.ref x), (.ref a)])) rfl (by rw [hml]; rfl) (Steps.refl _) (a := a) (by rw [e4]; exact q5a) q5b (argsL := [(.ref x), (.ref w), (.int (0 : Int32))]) (rest := []) (lenOf own_pd4 rfl) rfl (by show 2 * 0 + _ ≤ _; exact Nat.le_of_eq rfl) (hb hby own_d5_20) (fun _ _ => ⟨rfl, e4, (by decide : 0 + 1 ≤ _), (by decide : 0 + 10 ≤ _)⟩)
  dsimp only [Pt.U, Pt.locs, Pt.cells, Pt.slots] at X5 l5 y5 z5 st5 hQ5
  subst l5 y5 z5
  obtain ⟨bg5, kg5, rfl, N5q, K5, hb5, Ea5, Fe5, Fz5, Fm5, Eb5, Vb5, Ob5⟩ := hQ5
  have N5 := Fr.app N2 N5q
  refine own_st (fun _ kt => st5.trans kt) ?_
  have ne5_a_bg5 : a ≠ bg5 := Nat.ne_of_lt (Nat.lt_of_lt_of_le EA_x2.lt hb5)
  have ge5_bg5 : n0 ≤ bg5 := Nat.le_trans (own_old_le O0_x2) hb5
  have sz5_bg5 : h0.size ≤ bg5 := Nat.le_trans K0_x2.1 hb5
  have O0_x5 := O0_x2.keep K5 (allS ga all0)
  have EA_x5 := EA_x2.keep K5
  have K0_x5 := K0_x2.trans K5 (allS (Or.inl (List.mem_of_getElem? (i := 0) rfl)) all0)
  show own_Rch p e below _ T5 (mkF m 23 #[.val (.ref a), .val (.ref x)] [])
  refine own_st (fun _ kt => XS.iconst X5.here hx rfl (hb hby own_d5_23) kt) ?_
  show own_Rch p e below _ T5 (mkF m 24 #[.val (.ref a), .val (.ref x)] [(.int (1 : Int32))])
  refine own_retN (t := .boolean) (by simp) X5 hx Bd.notSynchronized Bd.returns (hb hby own_d5_24) (by decide) (by decide) ?_
  exact ⟨_, _, rfl, N5, K0_x5, sz5_bg5, Ea5, Fe5, Fz5, Fm5, Eb5, Vb5, Ob5⟩
def own_Q_own_addp1 (Z : State) (a : Addr) (x : Addr) (b : Addr) (kb : ClassId) (y0 : Addr) (h0 : Heap) (n0 : Nat) (v : Option Value) (h : Heap) (L : List Loc) : Prop := v = none ∧ Fr n0 L ∧ Keep h0 h [a, b] ∧ Exa Z h a "java/util/ArrayList" ∧ Fld Z h a "java/util/ArrayList" "elementData" "[Ljava/lang/Object;" (.ref b) ∧ Fld Z h a "java/util/ArrayList" "size" "I" (.int (2 : Int32)) ∧ Fld Z h a "java/util/AbstractList" "modCount" "I" (.int (2 : Int32)) ∧ Exa Z h b "[Ljava/lang/Object;" ∧ Arv Z h b kb (.object "java/lang/Object") (10 : Int32) [(.ref y0), (.ref x), .null, .null, .null, .null, .null, .null, .null, .null] .null
set_option maxRecDepth 65536 in
set_option maxHeartbeats 40000000 in
theorem own_addp1 (l : Launch) (Z : State) (a0 : Array Value) (hw : ∀ d ∈ tables_1, d.before a0 Z = true) (ws : List Jvm.Cond) (a : Addr) (x : Addr) (b : Addr) (kb : ClassId) (y0 : Addr) (h0 : Heap) (n0 : Nat) (O0 : Old Z n0 h0) (EA : Exa Z h0 a "java/util/ArrayList") (FE : Fld Z h0 a "java/util/ArrayList" "elementData" "[Ljava/lang/Object;" (.ref b)) (FZ : Fld Z h0 a "java/util/ArrayList" "size" "I" (.int (1 : Int32))) (FM : Fld Z h0 a "java/util/AbstractList" "modCount" "I" (.int (2 : Int32))) (ga : n0 ≤ a) (EX : Exa Z Z.heap x "java/math/BigDecimal") (EB : Exa Z h0 b "[Ljava/lang/Object;") (VB : Arv Z h0 b kb (.object "java/lang/Object") (10 : Int32) [(.ref y0), .null, .null, .null, .null, .null, .null, .null, .null, .null] .null) (OB : Ovr Z kb "java/lang/Object") (gb : n0 ≤ b) (hab : a ≠ b) :
    MetFree l (⟨"java/util/ArrayList", "add", "(Ljava/lang/Object;[Ljava/lang/Object;I)V"⟩ : MethodName) (head1 (Jvm.Cond.code (⟨"java/util/ArrayList", "add", "(Ljava/lang/Object;[Ljava/lang/Object;I)V"⟩ : MethodName) jdk_38_method_24_code 4 none :: ws) ({ frames := 0, cells := 0, slots := 0, locals := 0 } : Room)) (fun args_ U => args_ = #[(.ref a), (.ref x), (.ref b), (.int (1 : Int32))] ∧ Z.Warmed39 U.vm ∧ U.heap = h0) (fun _ _ _ _ _ => True) (fun _ U o U' => ∃ v L, o = .returned v ∧ (own_Q_own_addp1 Z a x b kb y0 h0 n0) v U'.heap L ∧ FrameEnd U o U' L ({ frames := 0, cells := 0, slots := 0, locals := 0 } : Room).cells ({ frames := 0, cells := 0, slots := 0, locals := 0 } : Room).slots) := by
  refine MetFree.of_bodySF (plainFor_of_name own_pn4) hisR ?_
  intro p e s m args below meth c s₁ Bd hml0 hP hK
  obtain ⟨rfl, hZ, hh⟩ := hP
  have hx := Bd.exec
  have hby := Bd.bytes
  have hml : c.maxLocals = 4 := hml0
  have hown : s.vm.findClass "java/util/ArrayList" = some m.cls := findClass_of_methodNamed Bd.named
  have hnm := (name_of_methodNamed Bd.named Bd.method).1
  have X0 : Stand p l e ({ frames := 0, cells := 0, slots := 0, locals := 0 } : Room) s m #[(.ref a), (.ref x), (.ref b), (.int (1 : Int32))] below meth c s₁ [] 0 0 := Stand.of_body Bd
  have e0 : s₁.heap = h0 := by rw [← hh, Bd.state]; rfl
  have N0 := Fr.nil n0
  refine own_close (s := s) (Q := (own_Q_own_addp1 Z a x b kb y0 h0 n0)) (C := (({ frames := 0, cells := 0, slots := 0, locals := 0 } : Room)).cells) (N := (({ frames := 0, cells := 0, slots := 0, locals := 0 } : Room)).slots) (own_st (fun _ kt => castTop (own_ef6 m a x b (1 : Int32)) kt) ?_)
  have K0 := Keep.refl h0 [a, b]
  show own_Rch p e below _ s₁ (mkF m 0 #[.val (.ref a), .val (.ref x), .val (.ref b), .val (.int (1 : Int32))] [])
  refine own_st (fun _ kt => XS.iloadN X0.here hx rfl (hb hby own_d6_0) rfl  kt) ?_
  show own_Rch p e below _ s₁ (mkF m 1 #[.val (.ref a), .val (.ref x), .val (.ref b), .val (.int (1 : Int32))] [(.int (1 : Int32))])
  refine own_st (fun _ kt => XS.aloadN X0.here hx rfl (hb hby own_d6_1) rfl rfl  kt) ?_
  show own_Rch p e below _ s₁ (mkF m 2 #[.val (.ref a), .val (.ref x), .val (.ref b), .val (.int (1 : Int32))] [(.ref b), (.int (1 : Int32))])
  obtain ⟨cl1, Ar1, -, S1, M1, -, -⟩ := id VB
  refine own_st (X0.arraylength hx (by rw [e0]; exact Ar1.1) (State.isArrayOf_alike (hZ).alike Ar1.2.1) (g := (mkF m 2 #[.val (.ref a), .val (.ref x), .val (.ref b), .val (.int (1 : Int32))] [(.ref b), (.int (1 : Int32))])) rfl rfl (hb hby own_d6_2)) ?_
  rw [len_of S1 M1]
  show own_Rch p e below _ s₁ (mkF m 3 #[.val (.ref a), .val (.ref x), .val (.ref b), .val (.int (1 : Int32))] [(.int (10 : Int32)), (.int (1 : Int32))])
  refine own_st (fun _ kt => XS.icmpYes X0.here hx rfl (pc0 := 3) (pc' := 11) rfl (hb hby own_d6_3) rfl (feq ((by decide) : ¬ ((1 : Int32) = (10 : Int32)))).2 (by decide) (by decide) kt) ?_
  show own_Rch p e below _ s₁ (mkF m 11 #[.val (.ref a), .val (.ref x), .val (.ref b), .val (.int (1 : Int32))] [])
  refine own_st (fun _ kt => XS.aloadN X0.here hx rfl (hb hby own_d6_11) rfl rfl  kt) ?_
  show own_Rch p e below _ s₁ (mkF m 12 #[.val (.ref a), .val (.ref x), .val (.ref b), .val (.int (1 : Int32))] [(.ref b)])
  refine own_st (fun _ kt => XS.iloadN X0.here hx rfl (hb hby own_d6_12) rfl  kt) ?_
  show own_Rch p e below _ s₁ (mkF m 13 #[.val (.ref a), .val (.ref x), .val (.ref b), .val (.int (1 : Int32))] [(.int (1 : Int32)), (.ref b)])
  refine own_st (fun _ kt => XS.aloadN X0.here hx rfl (hb hby own_d6_13) rfl rfl  kt) ?_
  show own_Rch p e below _ s₁ (mkF m 14 #[.val (.ref a), .val (.ref x), .val (.ref b), .val (.int (1 : Int32))] [(.ref x), (.int (1 : Int32)), (.ref b)])
  obtain ⟨cl2, Ar2, q2, S2, M2, H2, G2⟩ := id VB
  have hin2 : ¬ ((1 : Int32) < 0 ∨ cl2.slots.size ≤ ((1 : Int32)).toNatClampNeg) := inb_of S2 ⟨by decide, by decide⟩
  obtain ⟨T2, h2, X2, e2, W2, st2⟩ := stR X0 hx hZ e0 Ar2 (j := (1 : Int32)) hin2 rfl (Sto.ofV Ar2 q2 OB (Ins.of_exa (EX.ext O0.2) (hw _ (List.mem_of_getElem? (i := 59) rfl)))) (g := (mkF m 14 #[.val (.ref a), .val (.ref x), .val (.ref b), .val (.int (1 : Int32))] [(.ref x), (.int (1 : Int32)), (.ref b)])) rfl rfl (hb hby own_d6_14)
  have V2 := Arv.set Ar2 q2 S2 M2 H2 G2 rfl W2 1 rfl (Nat.le_of_ble_eq_true rfl)
  have V2s : Arv Z h2 b kb (.object "java/lang/Object") (10 : Int32) [(.ref y0), (.ref x), .null, .null, .null, .null, .null, .null, .null, .null] .null := V2
  have N2 := Fr.snoc X2 N0 gb
  refine own_st st2 ?_
  have O0_x2 := O0.wr W2 gb
  have EA_x2 := EA.wr W2
  have FE_x2 := FE.other W2 (Or.inl hab)
  have FZ_x2 := FZ.other W2 (Or.inl hab)
  have FM_x2 := FM.other W2 (Or.inl hab)
  have EB_x2 := EB.wr W2
  have K0_x2 := K0.wr W2 (Or.inl (List.mem_of_getElem? (i := 1) rfl))
  show own_Rch p e below _ T2 (mkF m 15 #[.val (.ref a), .val (.ref x), .val (.ref b), .val (.int (1 : Int32))] [])
  refine own_st (fun _ kt => XS.aloadN X2.here hx rfl (hb hby own_d6_15) rfl rfl  kt) ?_
  show own_Rch p e below _ T2 (mkF m 16 #[.val (.ref a), .val (.ref x), .val (.ref b), .val (.int (1 : Int32))] [(.ref a)])
  refine own_st (fun _ kt => XS.iloadN X2.here hx rfl (hb hby own_d6_16) rfl  kt) ?_
  show own_Rch p e below _ T2 (mkF m 17 #[.val (.ref a), .val (.ref x), .val (.ref b), .val (.int (1 : Int32))] [(.int (1 : Int32)), (.ref a)])
  refine own_st (fun _ kt => XS.iconst X2.here hx rfl (hb hby own_d6_17) kt) ?_
  show own_Rch p e below _ T2 (mkF m 18 #[.val (.ref a), .val (.ref x), .val (.ref b), .val (.int (1 : Int32))] [(.int (1 : Int32)), (.int (1 : Int32)), (.ref a)])
  refine own_st (fun _ kt => XS.iadd X2.here hx rfl (hb hby own_d6_18) rfl kt) ?_
  show own_Rch p e below _ T2 (mkF m 19 #[.val (.ref a), .val (.ref x), .val (.ref b), .val (.int (1 : Int32))] [(.int (2 : Int32)), (.ref a)])
  obtain ⟨T3, h3, X3, e3, W3, st3⟩ := putF X2 hx hZ hown (host := "") (Or.inl (hw _ (List.mem_of_getElem? (i := 36) rfl))) Via.refl e2 FZ_x2 EA_x2 (Or.inl (hw _ (List.mem_of_getElem? (i := 37) rfl))) (hw _ (List.mem_of_getElem? (i := 2) rfl)) (ty := .int) (by decide) rfl rfl (g := (mkF m 19 #[.val (.ref a), .val (.ref x), .val (.ref b), .val (.int (1 : Int32))] [(.int (2 : Int32)), (.ref a)])) rfl rfl (hb hby own_d6_19)
  refine own_st st3 ?_
  have Fw3 := FZ_x2.same W3
  have N3 := Fr.snoc X3 N2 ga
  have O0_x3 := O0_x2.wr W3 ga
  have EA_x3 := EA_x2.wr W3
  have FE_x3 := FE_x2.other W3 (Or.inr (slot_ne (Or.inl (hw _ (List.mem_of_getElem? (i := 26) rfl))) (Or.inl (hw _ (List.mem_of_getElem? (i := 37) rfl))) (by decide) (t := (.array (.object "java/lang/Object"))) (t' := .int) (by decide) (by decide)))
  have FM_x3 := FM_x2.other W3 (Or.inr (slot_ne (Or.inl (hw _ (List.mem_of_getElem? (i := 23) rfl))) (Or.inl (hw _ (List.mem_of_getElem? (i := 37) rfl))) (by decide) (t := .int) (t' := .int) (by decide) (by decide)))
  have EB_x3 := EB_x2.wr W3
  have V2s_x3 := V2s.other W3 (Ne.symm hab)
  have K0_x3 := K0_x2.wr W3 (Or.inl (List.mem_of_getElem? (i := 0) rfl))
  show own_Rch p e below _ T3 (mkF m 22 #[.val (.ref a), .val (.ref x), .val (.ref b), .val (.int (1 : Int32))] [])
  refine own_retV X3 hx Bd.notSynchronized Bd.returns (hb hby own_d6_22) (by decide) (by decide) ?_
  rw [e3]
  exact ⟨rfl, N3, K0_x3, EA_x3, FE_x3, Fw3, FM_x3, EB_x3, V2s_x3⟩
def own_Q_own_add1 (Z : State) (a : Addr) (x : Addr) (b : Addr) (kb : ClassId) (y0 : Addr) (h0 : Heap) (n0 : Nat) (v : Option Value) (h : Heap) (L : List Loc) : Prop := v = some (.int (1 : Int32)) ∧ Fr n0 L ∧ Keep h0 h [a, b] ∧ Exa Z h a "java/util/ArrayList" ∧ Fld Z h a "java/util/ArrayList" "elementData" "[Ljava/lang/Object;" (.ref b) ∧ Fld Z h a "java/util/ArrayList" "size" "I" (.int (2 : Int32)) ∧ Fld Z h a "java/util/AbstractList" "modCount" "I" (.int (2 : Int32)) ∧ Exa Z h b "[Ljava/lang/Object;" ∧ Arv Z h b kb (.object "java/lang/Object") (10 : Int32) [(.ref y0), (.ref x), .null, .null, .null, .null, .null, .null, .null, .null] .null
set_option maxRecDepth 65536 in
set_option maxHeartbeats 40000000 in
theorem own_add1 (l : Launch) (Z : State) (a0 : Array Value) (hw : ∀ d ∈ tables_1, d.before a0 Z = true) (ws : List Jvm.Cond) (a : Addr) (x : Addr) (b : Addr) (kb : ClassId) (y0 : Addr) (h0 : Heap) (n0 : Nat) (O0 : Old Z n0 h0) (EA : Exa Z h0 a "java/util/ArrayList") (FE : Fld Z h0 a "java/util/ArrayList" "elementData" "[Ljava/lang/Object;" (.ref b)) (FZ : Fld Z h0 a "java/util/ArrayList" "size" "I" (.int (1 : Int32))) (FM : Fld Z h0 a "java/util/AbstractList" "modCount" "I" (.int (1 : Int32))) (ga : n0 ≤ a) (EX : Exa Z Z.heap x "java/math/BigDecimal") (EB : Exa Z h0 b "[Ljava/lang/Object;") (VB : Arv Z h0 b kb (.object "java/lang/Object") (10 : Int32) [(.ref y0), .null, .null, .null, .null, .null, .null, .null, .null, .null] .null) (OB : Ovr Z kb "java/lang/Object") (gb : n0 ≤ b) (hab : a ≠ b) :
    MetFree l (⟨"java/util/ArrayList", "add", "(Ljava/lang/Object;)Z"⟩ : MethodName) (head1 (Jvm.Cond.code (⟨"java/util/ArrayList", "add", "(Ljava/lang/Object;)Z"⟩ : MethodName) jdk_38_method_25_code 2 (some .boolean) :: ws) ({ frames := 1, cells := 0, slots := 0, locals := 15 } : Room)) (fun args_ U => args_ = #[(.ref a), (.ref x)] ∧ Z.Warmed39 U.vm ∧ U.heap = h0) (fun _ _ _ _ _ => True) (fun _ U o U' => ∃ v L, o = .returned v ∧ (own_Q_own_add1 Z a x b kb y0 h0 n0) v U'.heap L ∧ FrameEnd U o U' L ({ frames := 1, cells := 0, slots := 0, locals := 15 } : Room).cells ({ frames := 1, cells := 0, slots := 0, locals := 15 } : Room).slots) := by
  refine MetFree.of_bodySF (plainFor_of_name own_pn4) hisR ?_
  intro p e s m args below meth c s₁ Bd hml0 hP hK
  obtain ⟨rfl, hZ, hh⟩ := hP
  have hx := Bd.exec
  have hby := Bd.bytes
  have hml : c.maxLocals = 2 := hml0
  have hown : s.vm.findClass "java/util/ArrayList" = some m.cls := findClass_of_methodNamed Bd.named
  have hnm := (name_of_methodNamed Bd.named Bd.method).1
  have X0 : Stand p l e ({ frames := 1, cells := 0, slots := 0, locals := 15 } : Room) s m #[(.ref a), (.ref x)] below meth c s₁ [] 0 0 := Stand.of_body Bd
  have e0 : s₁.heap = h0 := by rw [← hh, Bd.state]; rfl
  have N0 := Fr.nil n0
  refine own_close (s := s) (Q := (own_Q_own_add1 Z a x b kb y0 h0 n0)) (C := (({ frames := 1, cells := 0, slots := 0, locals := 15 } : Room)).cells) (N := (({ frames := 1, cells := 0, slots := 0, locals := 15 } : Room)).slots) (own_st (fun _ kt => castTop (own_ef5 m a x) kt) ?_)
  have K0 := Keep.refl h0 [a, b]
  show own_Rch p e below _ s₁ (mkF m 0 #[.val (.ref a), .val (.ref x)] [])
  refine own_st (fun _ kt => XS.aloadN X0.here hx rfl (hb hby own_d5_0) rfl rfl  kt) ?_
  show own_Rch p e below _ s₁ (mkF m 1 #[.val (.ref a), .val (.ref x)] [(.ref a)])
  refine own_st (fun _ kt => XS.dup X0.here hx rfl (hb hby own_d5_1) rfl rfl kt) ?_
  show own_Rch p e below _ s₁ (mkF m 2 #[.val (.ref a), .val (.ref x)] [(.ref a), (.ref a)])
  obtain ⟨T1, X1, e1, st1⟩ := getF X0 hx hZ hown (host := "") (Or.inl (hw _ (List.mem_of_getElem? (i := 34) rfl))) (Via.of (hw _ (List.mem_of_getElem? (i := 35) rfl))) e0 FM (g := (mkF m 2 #[.val (.ref a), .val (.ref x)] [(.ref a), (.ref a)])) rfl rfl (hb hby own_d5_2)
  refine own_st st1 ?_
  show own_Rch p e below _ T1 (mkF m 5 #[.val (.ref a), .val (.ref x)] [(.int (1 : Int32)), (.ref a)])
  refine own_st (fun _ kt => XS.iconst X1.here hx rfl (hb hby own_d5_5) kt) ?_
  show own_Rch p e below _ T1 (mkF m 6 #[.val (.ref a), .val (.ref x)] [(.int (1 : Int32)), (.int (1 : Int32)), (.ref a)])
  refine own_st (fun _ kt => XS.iadd X1.here hx rfl (hb hby own_d5_6) rfl kt) ?_
  show own_Rch p e below _ T1 (mkF m 7 #[.val (.ref a), .val (.ref x)] [(.int (2 : Int32)), (.ref a)])
  obtain ⟨T2, h2, X2, e2, W2, st2⟩ := putF X1 hx hZ hown (host := "") (Or.inl (hw _ (List.mem_of_getElem? (i := 34) rfl))) (Via.of (hw _ (List.mem_of_getElem? (i := 35) rfl))) e1 FM EA (Or.inl (hw _ (List.mem_of_getElem? (i := 23) rfl))) (hw _ (List.mem_of_getElem? (i := 2) rfl)) (ty := .int) (by decide) rfl rfl (g := (mkF m 7 #[.val (.ref a), .val (.ref x)] [(.int (2 : Int32)), (.ref a)])) rfl rfl (hb hby own_d5_7)
  refine own_st st2 ?_
  have Fw2 := FM.same W2
  have N2 := Fr.snoc X2 N0 ga
  have O0_x2 := O0.wr W2 ga
  have EA_x2 := EA.wr W2
  have FE_x2 := FE.other W2 (Or.inr (slot_ne (Or.inl (hw _ (List.mem_of_getElem? (i := 26) rfl))) (Or.inl (hw _ (List.mem_of_getElem? (i := 23) rfl))) (by decide) (t := (.array (.object "java/lang/Object"))) (t' := .int) (by decide) (by decide)))
  have FZ_x2 := FZ.other W2 (Or.inr (slot_ne (Or.inl (hw _ (List.mem_of_getElem? (i := 37) rfl))) (Or.inl (hw _ (List.mem_of_getElem? (i := 23) rfl))) (by decide) (t := .int) (t' := .int) (by decide) (by decide)))
  have EB_x2 := EB.wr W2
  have VB_x2 := VB.other W2 (Ne.symm hab)
  have K0_x2 := K0.wr W2 (Or.inl (List.mem_of_getElem? (i := 0) rfl))
  show own_Rch p e below _ T2 (mkF m 10 #[.val (.ref a), .val (.ref x)] [])
  refine own_st (fun _ kt => XS.aloadN X2.here hx rfl (hb hby own_d5_10) rfl rfl  kt) ?_
  show own_Rch p e below _ T2 (mkF m 11 #[.val (.ref a), .val (.ref x)] [(.ref a)])
  refine own_st (fun _ kt => XS.aloadN X2.here hx rfl (hb hby own_d5_11) rfl rfl  kt) ?_
  show own_Rch p e below _ T2 (mkF m 12 #[.val (.ref a), .val (.ref x)] [(.ref x), (.ref a)])
  refine own_st (fun _ kt => XS.aloadN X2.here hx rfl (hb hby own_d5_12) rfl rfl  kt) ?_
  show own_Rch p e below _ T2 (mkF m 13 #[.val (.ref a), .val (.ref x)] [(.ref a), (.ref x), (.ref a)])
  obtain ⟨T3, X3, e3, st3⟩ := getF X2 hx hZ hown (host := "") (Or.inl (hw _ (List.mem_of_getElem? (i := 25) rfl))) Via.refl e2 FE_x2 (g := (mkF m 13 #[.val (.ref a), .val (.ref x)] [(.ref a), (.ref x), (.ref a)])) rfl rfl (hb hby own_d5_13)
  refine own_st st3 ?_
  show own_Rch p e below _ T3 (mkF m 16 #[.val (.ref a), .val (.ref x)] [(.ref b), (.ref x), (.ref a)])
  refine own_st (fun _ kt => XS.aloadN X3.here hx rfl (hb hby own_d5_16) rfl rfl  kt) ?_
  show own_Rch p e below _ T3 (mkF m 17 #[.val (.ref a), .val (.ref x)] [(.ref a), (.ref b), (.ref x), (.ref a)])
  obtain ⟨T4, X4, e4, st4⟩ := getF X3 hx hZ hown (host := "") (Or.inl (hw _ (List.mem_of_getElem? (i := 36) rfl))) Via.refl e3 FZ_x2 (g := (mkF m 17 #[.val (.ref a), .val (.ref x)] [(.ref a), (.ref b), (.ref x), (.ref a)])) rfl rfl (hb hby own_d5_17)
  refine own_st st4 ?_
  show own_Rch p e below _ T4 (mkF m 20 #[.val (.ref a), .val (.ref x)] [(.int (1 : Int32)), (.ref b), (.ref x), (.ref a)])
  obtain ⟨cq5, q5a, q5b⟩ := EA_x2.cell
  obtain ⟨_, _, ⟨T5, L5, k5, n5⟩, -, X5, ⟨Lc5, hQ5, l5, y5, z5⟩, st5⟩ := X4.privateBack hx (y := (⟨"java/util/ArrayList", "add", "(Ljava/lang/Object;[Ljava/lang/Object;I)V"⟩ : MethodName)) hown (mvT hZ (hw _ (List.mem_of_getElem? (i := 38) rfl))) (mvT hZ (hw _ (List.mem_of_getElem? (i := 39) rfl))) (mvT hZ (hw _ (List.mem_of_getElem? (i := 41) rfl))) (Cond.privateMethod_at (mvP hZ (hw _ (List.mem_of_getElem? (i := 40) rfl)) (args := #[]))) (mvT hZ (hw _ (List.mem_of_getElem? (i := 42) rfl))) (by decide) (backOf (W := 0) (own_addp1 l Z a0 hw [] a x b kb y0 h2 n0 O0_x2 EA_x2 FE_x2 FZ_x2 Fw2 ga EX EB_x2 VB_x2 OB gb hab) hZ (hw _ (List.mem_of_getElem? (i := 42) rfl)) (hw _ (List.mem_of_getElem? (i := 3) rfl)) (by decide) (by decide)) (g := (mkF m 20 #[.val (.ref a), .val (.ref x)] [(.int (1 : Int32)), (.ref b), (.ref x), (.ref a)])) rfl (by rw [hml]; rfl) (Steps.refl _) (a := a) (by rw [e4]; exact q5a) q5b (argsL := [(.ref x), (.ref b), (.int (1 : Int32))]) (rest := []) (lenOf own_pd4 rfl) rfl (by show 2 * 0 + _ ≤ _; exact Nat.le_of_eq rfl) (hb hby own_d5_20) (fun _ _ => ⟨rfl, e4, (by decide : 0 + 0 ≤ _), (by decide : 0 + 0 ≤ _)⟩)
  dsimp only [Pt.U, Pt.locs, Pt.cells, Pt.slots] at X5 l5 y5 z5 st5 hQ5
  subst l5 y5 z5
  obtain ⟨rfl, N5q, K5, Ea5, Fe5, Fz5, Fm5, Eb5, Vb5⟩ := hQ5
  have N5 := Fr.app N2 N5q
  refine own_st (fun _ kt => st5.trans kt) ?_
  have O0_x5 := O0_x2.keep K5 (allS ga (allS gb all0))
  have EA_x5 := EA_x2.keep K5
  have EB_x5 := EB_x2.keep K5
  have K0_x5 := K0_x2.trans K5 (allS (Or.inl (List.mem_of_getElem? (i := 0) rfl)) (allS (Or.inl (List.mem_of_getElem? (i := 1) rfl)) all0))
  show own_Rch p e below _ T5 (mkF m 23 #[.val (.ref a), .val (.ref x)] [])
  refine own_st (fun _ kt => XS.iconst X5.here hx rfl (hb hby own_d5_23) kt) ?_
  show own_Rch p e below _ T5 (mkF m 24 #[.val (.ref a), .val (.ref x)] [(.int (1 : Int32))])
  refine own_retN (t := .boolean) (by simp) X5 hx Bd.notSynchronized Bd.returns (hb hby own_d5_24) (by decide) (by decide) ?_
  exact ⟨rfl, N5, K0_x5, Ea5, Fe5, Fz5, Fm5, Eb5, Vb5⟩
def own_Q_own_addp2 (Z : State) (a : Addr) (x : Addr) (b : Addr) (kb : ClassId) (y0 : Addr) (y1 : Addr) (h0 : Heap) (n0 : Nat) (v : Option Value) (h : Heap) (L : List Loc) : Prop := v = none ∧ Fr n0 L ∧ Keep h0 h [a, b] ∧ Exa Z h a "java/util/ArrayList" ∧ Fld Z h a "java/util/ArrayList" "elementData" "[Ljava/lang/Object;" (.ref b) ∧ Fld Z h a "java/util/ArrayList" "size" "I" (.int (3 : Int32)) ∧ Fld Z h a "java/util/AbstractList" "modCount" "I" (.int (3 : Int32)) ∧ Exa Z h b "[Ljava/lang/Object;" ∧ Arv Z h b kb (.object "java/lang/Object") (10 : Int32) [(.ref y0), (.ref y1), (.ref x), .null, .null, .null, .null, .null, .null, .null] .null
set_option maxRecDepth 65536 in
set_option maxHeartbeats 40000000 in
theorem own_addp2 (l : Launch) (Z : State) (a0 : Array Value) (hw : ∀ d ∈ tables_1, d.before a0 Z = true) (ws : List Jvm.Cond) (a : Addr) (x : Addr) (b : Addr) (kb : ClassId) (y0 : Addr) (y1 : Addr) (h0 : Heap) (n0 : Nat) (O0 : Old Z n0 h0) (EA : Exa Z h0 a "java/util/ArrayList") (FE : Fld Z h0 a "java/util/ArrayList" "elementData" "[Ljava/lang/Object;" (.ref b)) (FZ : Fld Z h0 a "java/util/ArrayList" "size" "I" (.int (2 : Int32))) (FM : Fld Z h0 a "java/util/AbstractList" "modCount" "I" (.int (3 : Int32))) (ga : n0 ≤ a) (EX : Exa Z Z.heap x "java/math/BigDecimal") (EB : Exa Z h0 b "[Ljava/lang/Object;") (VB : Arv Z h0 b kb (.object "java/lang/Object") (10 : Int32) [(.ref y0), (.ref y1), .null, .null, .null, .null, .null, .null, .null, .null] .null) (OB : Ovr Z kb "java/lang/Object") (gb : n0 ≤ b) (hab : a ≠ b) :
    MetFree l (⟨"java/util/ArrayList", "add", "(Ljava/lang/Object;[Ljava/lang/Object;I)V"⟩ : MethodName) (head1 (Jvm.Cond.code (⟨"java/util/ArrayList", "add", "(Ljava/lang/Object;[Ljava/lang/Object;I)V"⟩ : MethodName) jdk_38_method_24_code 4 none :: ws) ({ frames := 0, cells := 0, slots := 0, locals := 0 } : Room)) (fun args_ U => args_ = #[(.ref a), (.ref x), (.ref b), (.int (2 : Int32))] ∧ Z.Warmed39 U.vm ∧ U.heap = h0) (fun _ _ _ _ _ => True) (fun _ U o U' => ∃ v L, o = .returned v ∧ (own_Q_own_addp2 Z a x b kb y0 y1 h0 n0) v U'.heap L ∧ FrameEnd U o U' L ({ frames := 0, cells := 0, slots := 0, locals := 0 } : Room).cells ({ frames := 0, cells := 0, slots := 0, locals := 0 } : Room).slots) := by
  refine MetFree.of_bodySF (plainFor_of_name own_pn4) hisR ?_
  intro p e s m args below meth c s₁ Bd hml0 hP hK
  obtain ⟨rfl, hZ, hh⟩ := hP
  have hx := Bd.exec
  have hby := Bd.bytes
  have hml : c.maxLocals = 4 := hml0
  have hown : s.vm.findClass "java/util/ArrayList" = some m.cls := findClass_of_methodNamed Bd.named
  have hnm := (name_of_methodNamed Bd.named Bd.method).1
  have X0 : Stand p l e ({ frames := 0, cells := 0, slots := 0, locals := 0 } : Room) s m #[(.ref a), (.ref x), (.ref b), (.int (2 : Int32))] below meth c s₁ [] 0 0 := Stand.of_body Bd
  have e0 : s₁.heap = h0 := by rw [← hh, Bd.state]; rfl
  have N0 := Fr.nil n0
  refine own_close (s := s) (Q := (own_Q_own_addp2 Z a x b kb y0 y1 h0 n0)) (C := (({ frames := 0, cells := 0, slots := 0, locals := 0 } : Room)).cells) (N := (({ frames := 0, cells := 0, slots := 0, locals := 0 } : Room)).slots) (own_st (fun _ kt => castTop (own_ef6 m a x b (2 : Int32)) kt) ?_)
  have K0 := Keep.refl h0 [a, b]
  show own_Rch p e below _ s₁ (mkF m 0 #[.val (.ref a), .val (.ref x), .val (.ref b), .val (.int (2 : Int32))] [])
  refine own_st (fun _ kt => XS.iloadN X0.here hx rfl (hb hby own_d6_0) rfl  kt) ?_
  show own_Rch p e below _ s₁ (mkF m 1 #[.val (.ref a), .val (.ref x), .val (.ref b), .val (.int (2 : Int32))] [(.int (2 : Int32))])
  refine own_st (fun _ kt => XS.aloadN X0.here hx rfl (hb hby own_d6_1) rfl rfl  kt) ?_
  show own_Rch p e below _ s₁ (mkF m 2 #[.val (.ref a), .val (.ref x), .val (.ref b), .val (.int (2 : Int32))] [(.ref b), (.int (2 : Int32))])
  obtain ⟨cl1, Ar1, -, S1, M1, -, -⟩ := id VB
  refine own_st (X0.arraylength hx (by rw [e0]; exact Ar1.1) (State.isArrayOf_alike (hZ).alike Ar1.2.1) (g := (mkF m 2 #[.val (.ref a), .val (.ref x), .val (.ref b), .val (.int (2 : Int32))] [(.ref b), (.int (2 : Int32))])) rfl rfl (hb hby own_d6_2)) ?_
  rw [len_of S1 M1]
  show own_Rch p e below _ s₁ (mkF m 3 #[.val (.ref a), .val (.ref x), .val (.ref b), .val (.int (2 : Int32))] [(.int (10 : Int32)), (.int (2 : Int32))])
  refine own_st (fun _ kt => XS.icmpYes X0.here hx rfl (pc0 := 3) (pc' := 11) rfl (hb hby own_d6_3) rfl (feq ((by decide) : ¬ ((2 : Int32) = (10 : Int32)))).2 (by decide) (by decide) kt) ?_
  show own_Rch p e below _ s₁ (mkF m 11 #[.val (.ref a), .val (.ref x), .val (.ref b), .val (.int (2 : Int32))] [])
  refine own_st (fun _ kt => XS.aloadN X0.here hx rfl (hb hby own_d6_11) rfl rfl  kt) ?_
  show own_Rch p e below _ s₁ (mkF m 12 #[.val (.ref a), .val (.ref x), .val (.ref b), .val (.int (2 : Int32))] [(.ref b)])
  refine own_st (fun _ kt => XS.iloadN X0.here hx rfl (hb hby own_d6_12) rfl  kt) ?_
  show own_Rch p e below _ s₁ (mkF m 13 #[.val (.ref a), .val (.ref x), .val (.ref b), .val (.int (2 : Int32))] [(.int (2 : Int32)), (.ref b)])
  refine own_st (fun _ kt => XS.aloadN X0.here hx rfl (hb hby own_d6_13) rfl rfl  kt) ?_
  show own_Rch p e below _ s₁ (mkF m 14 #[.val (.ref a), .val (.ref x), .val (.ref b), .val (.int (2 : Int32))] [(.ref x), (.int (2 : Int32)), (.ref b)])
  obtain ⟨cl2, Ar2, q2, S2, M2, H2, G2⟩ := id VB
  have hin2 : ¬ ((2 : Int32) < 0 ∨ cl2.slots.size ≤ ((2 : Int32)).toNatClampNeg) := inb_of S2 ⟨by decide, by decide⟩
  obtain ⟨T2, h2, X2, e2, W2, st2⟩ := stR X0 hx hZ e0 Ar2 (j := (2 : Int32)) hin2 rfl (Sto.ofV Ar2 q2 OB (Ins.of_exa (EX.ext O0.2) (hw _ (List.mem_of_getElem? (i := 59) rfl)))) (g := (mkF m 14 #[.val (.ref a), .val (.ref x), .val (.ref b), .val (.int (2 : Int32))] [(.ref x), (.int (2 : Int32)), (.ref b)])) rfl rfl (hb hby own_d6_14)
  have V2 := Arv.set Ar2 q2 S2 M2 H2 G2 rfl W2 2 rfl (Nat.le_of_ble_eq_true rfl)
  have V2s : Arv Z h2 b kb (.object "java/lang/Object") (10 : Int32) [(.ref y0), (.ref y1), (.ref x), .null, .null, .null, .null, .null, .null, .null] .null := V2
  have N2 := Fr.snoc X2 N0 gb
  refine own_st st2 ?_
  have O0_x2 := O0.wr W2 gb
  have EA_x2 := EA.wr W2
  have FE_x2 := FE.other W2 (Or.inl hab)
  have FZ_x2 := FZ.other W2 (Or.inl hab)
  have FM_x2 := FM.other W2 (Or.inl hab)
  have EB_x2 := EB.wr W2
  have K0_x2 := K0.wr W2 (Or.inl (List.mem_of_getElem? (i := 1) rfl))
  show own_Rch p e below _ T2 (mkF m 15 #[.val (.ref a), .val (.ref x), .val (.ref b), .val (.int (2 : Int32))] [])
  refine own_st (fun _ kt => XS.aloadN X2.here hx rfl (hb hby own_d6_15) rfl rfl  kt) ?_
  show own_Rch p e below _ T2 (mkF m 16 #[.val (.ref a), .val (.ref x), .val (.ref b), .val (.int (2 : Int32))] [(.ref a)])
  refine own_st (fun _ kt => XS.iloadN X2.here hx rfl (hb hby own_d6_16) rfl  kt) ?_
  show own_Rch p e below _ T2 (mkF m 17 #[.val (.ref a), .val (.ref x), .val (.ref b), .val (.int (2 : Int32))] [(.int (2 : Int32)), (.ref a)])
  refine own_st (fun _ kt => XS.iconst X2.here hx rfl (hb hby own_d6_17) kt) ?_
  show own_Rch p e below _ T2 (mkF m 18 #[.val (.ref a), .val (.ref x), .val (.ref b), .val (.int (2 : Int32))] [(.int (1 : Int32)), (.int (2 : Int32)), (.ref a)])
  refine own_st (fun _ kt => XS.iadd X2.here hx rfl (hb hby own_d6_18) rfl kt) ?_
  show own_Rch p e below _ T2 (mkF m 19 #[.val (.ref a), .val (.ref x), .val (.ref b), .val (.int (2 : Int32))] [(.int (3 : Int32)), (.ref a)])
  obtain ⟨T3, h3, X3, e3, W3, st3⟩ := putF X2 hx hZ hown (host := "") (Or.inl (hw _ (List.mem_of_getElem? (i := 36) rfl))) Via.refl e2 FZ_x2 EA_x2 (Or.inl (hw _ (List.mem_of_getElem? (i := 37) rfl))) (hw _ (List.mem_of_getElem? (i := 2) rfl)) (ty := .int) (by decide) rfl rfl (g := (mkF m 19 #[.val (.ref a), .val (.ref x), .val (.ref b), .val (.int (2 : Int32))] [(.int (3 : Int32)), (.ref a)])) rfl rfl (hb hby own_d6_19)
  refine own_st st3 ?_
  have Fw3 := FZ_x2.same W3
  have N3 := Fr.snoc X3 N2 ga
  have O0_x3 := O0_x2.wr W3 ga
  have EA_x3 := EA_x2.wr W3
  have FE_x3 := FE_x2.other W3 (Or.inr (slot_ne (Or.inl (hw _ (List.mem_of_getElem? (i := 26) rfl))) (Or.inl (hw _ (List.mem_of_getElem? (i := 37) rfl))) (by decide) (t := (.array (.object "java/lang/Object"))) (t' := .int) (by decide) (by decide)))
  have FM_x3 := FM_x2.other W3 (Or.inr (slot_ne (Or.inl (hw _ (List.mem_of_getElem? (i := 23) rfl))) (Or.inl (hw _ (List.mem_of_getElem? (i := 37) rfl))) (by decide) (t := .int) (t' := .int) (by decide) (by decide)))
  have EB_x3 := EB_x2.wr W3
  have V2s_x3 := V2s.other W3 (Ne.symm hab)
  have K0_x3 := K0_x2.wr W3 (Or.inl (List.mem_of_getElem? (i := 0) rfl))
  show own_Rch p e below _ T3 (mkF m 22 #[.val (.ref a), .val (.ref x), .val (.ref b), .val (.int (2 : Int32))] [])
  refine own_retV X3 hx Bd.notSynchronized Bd.returns (hb hby own_d6_22) (by decide) (by decide) ?_
  rw [e3]
  exact ⟨rfl, N3, K0_x3, EA_x3, FE_x3, Fw3, FM_x3, EB_x3, V2s_x3⟩
def own_Q_own_add2 (Z : State) (a : Addr) (x : Addr) (b : Addr) (kb : ClassId) (y0 : Addr) (y1 : Addr) (h0 : Heap) (n0 : Nat) (v : Option Value) (h : Heap) (L : List Loc) : Prop := v = some (.int (1 : Int32)) ∧ Fr n0 L ∧ Keep h0 h [a, b] ∧ Exa Z h a "java/util/ArrayList" ∧ Fld Z h a "java/util/ArrayList" "elementData" "[Ljava/lang/Object;" (.ref b) ∧ Fld Z h a "java/util/ArrayList" "size" "I" (.int (3 : Int32)) ∧ Fld Z h a "java/util/AbstractList" "modCount" "I" (.int (3 : Int32)) ∧ Exa Z h b "[Ljava/lang/Object;" ∧ Arv Z h b kb (.object "java/lang/Object") (10 : Int32) [(.ref y0), (.ref y1), (.ref x), .null, .null, .null, .null, .null, .null, .null] .null
set_option maxRecDepth 65536 in
set_option maxHeartbeats 40000000 in
theorem own_add2 (l : Launch) (Z : State) (a0 : Array Value) (hw : ∀ d ∈ tables_1, d.before a0 Z = true) (ws : List Jvm.Cond) (a : Addr) (x : Addr) (b : Addr) (kb : ClassId) (y0 : Addr) (y1 : Addr) (h0 : Heap) (n0 : Nat) (O0 : Old Z n0 h0) (EA : Exa Z h0 a "java/util/ArrayList") (FE : Fld Z h0 a "java/util/ArrayList" "elementData" "[Ljava/lang/Object;" (.ref b)) (FZ : Fld Z h0 a "java/util/ArrayList" "size" "I" (.int (2 : Int32))) (FM : Fld Z h0 a "java/util/AbstractList" "modCount" "I" (.int (2 : Int32))) (ga : n0 ≤ a) (EX : Exa Z Z.heap x "java/math/BigDecimal") (EB : Exa Z h0 b "[Ljava/lang/Object;") (VB : Arv Z h0 b kb (.object "java/lang/Object") (10 : Int32) [(.ref y0), (.ref y1), .null, .null, .null, .null, .null, .null, .null, .null] .null) (OB : Ovr Z kb "java/lang/Object") (gb : n0 ≤ b) (hab : a ≠ b) :
    MetFree l (⟨"java/util/ArrayList", "add", "(Ljava/lang/Object;)Z"⟩ : MethodName) (head1 (Jvm.Cond.code (⟨"java/util/ArrayList", "add", "(Ljava/lang/Object;)Z"⟩ : MethodName) jdk_38_method_25_code 2 (some .boolean) :: ws) ({ frames := 1, cells := 0, slots := 0, locals := 15 } : Room)) (fun args_ U => args_ = #[(.ref a), (.ref x)] ∧ Z.Warmed39 U.vm ∧ U.heap = h0) (fun _ _ _ _ _ => True) (fun _ U o U' => ∃ v L, o = .returned v ∧ (own_Q_own_add2 Z a x b kb y0 y1 h0 n0) v U'.heap L ∧ FrameEnd U o U' L ({ frames := 1, cells := 0, slots := 0, locals := 15 } : Room).cells ({ frames := 1, cells := 0, slots := 0, locals := 15 } : Room).slots) := by
  refine MetFree.of_bodySF (plainFor_of_name own_pn4) hisR ?_
  intro p e s m args below meth c s₁ Bd hml0 hP hK
  obtain ⟨rfl, hZ, hh⟩ := hP
  have hx := Bd.exec
  have hby := Bd.bytes
  have hml : c.maxLocals = 2 := hml0
  have hown : s.vm.findClass "java/util/ArrayList" = some m.cls := findClass_of_methodNamed Bd.named
  have hnm := (name_of_methodNamed Bd.named Bd.method).1
  have X0 : Stand p l e ({ frames := 1, cells := 0, slots := 0, locals := 15 } : Room) s m #[(.ref a), (.ref x)] below meth c s₁ [] 0 0 := Stand.of_body Bd
  have e0 : s₁.heap = h0 := by rw [← hh, Bd.state]; rfl
  have N0 := Fr.nil n0
  refine own_close (s := s) (Q := (own_Q_own_add2 Z a x b kb y0 y1 h0 n0)) (C := (({ frames := 1, cells := 0, slots := 0, locals := 15 } : Room)).cells) (N := (({ frames := 1, cells := 0, slots := 0, locals := 15 } : Room)).slots) (own_st (fun _ kt => castTop (own_ef5 m a x) kt) ?_)
  have K0 := Keep.refl h0 [a, b]
  show own_Rch p e below _ s₁ (mkF m 0 #[.val (.ref a), .val (.ref x)] [])
  refine own_st (fun _ kt => XS.aloadN X0.here hx rfl (hb hby own_d5_0) rfl rfl  kt) ?_
  show own_Rch p e below _ s₁ (mkF m 1 #[.val (.ref a), .val (.ref x)] [(.ref a)])
  refine own_st (fun _ kt => XS.dup X0.here hx rfl (hb hby own_d5_1) rfl rfl kt) ?_
  show own_Rch p e below _ s₁ (mkF m 2 #[.val (.ref a), .val (.ref x)] [(.ref a), (.ref a)])
  obtain ⟨T1, X1, e1, st1⟩ := getF X0 hx hZ hown (host := "") (Or.inl (hw _ (List.mem_of_getElem? (i := 34) rfl))) (Via.of (hw _ (List.mem_of_getElem? (i := 35) rfl))) e0 FM (g := (mkF m 2 #[.val (.ref a), .val (.ref x)] [(.ref a), (.ref a)])) rfl rfl (hb hby own_d5_2)
  refine own_st st1 ?_
  show own_Rch p e below _ T1 (mkF m 5 #[.val (.ref a), .val (.ref x)] [(.int (2 : Int32)), (.ref a)])
  refine own_st (fun _ kt => XS.iconst X1.here hx rfl (hb hby own_d5_5) kt) ?_
  show own_Rch p e below _ T1 (mkF m 6 #[.val (.ref a), .val (.ref x)] [(.int (1 : Int32)), (.int (2 : Int32)), (.ref a)])
  refine own_st (fun _ kt => XS.iadd X1.here hx rfl (hb hby own_d5_6) rfl kt) ?_
  show own_Rch p e below _ T1 (mkF m 7 #[.val (.ref a), .val (.ref x)] [(.int (3 : Int32)), (.ref a)])
  obtain ⟨T2, h2, X2, e2, W2, st2⟩ := putF X1 hx hZ hown (host := "") (Or.inl (hw _ (List.mem_of_getElem? (i := 34) rfl))) (Via.of (hw _ (List.mem_of_getElem? (i := 35) rfl))) e1 FM EA (Or.inl (hw _ (List.mem_of_getElem? (i := 23) rfl))) (hw _ (List.mem_of_getElem? (i := 2) rfl)) (ty := .int) (by decide) rfl rfl (g := (mkF m 7 #[.val (.ref a), .val (.ref x)] [(.int (3 : Int32)), (.ref a)])) rfl rfl (hb hby own_d5_7)
  refine own_st st2 ?_
  have Fw2 := FM.same W2
  have N2 := Fr.snoc X2 N0 ga
  have O0_x2 := O0.wr W2 ga
  have EA_x2 := EA.wr W2
  have FE_x2 := FE.other W2 (Or.inr (slot_ne (Or.inl (hw _ (List.mem_of_getElem? (i := 26) rfl))) (Or.inl (hw _ (List.mem_of_getElem? (i := 23) rfl))) (by decide) (t := (.array (.object "java/lang/Object"))) (t' := .int) (by decide) (by decide)))
  have FZ_x2 := FZ.other W2 (Or.inr (slot_ne (Or.inl (hw _ (List.mem_of_getElem? (i := 37) rfl))) (Or.inl (hw _ (List.mem_of_getElem? (i := 23) rfl))) (by decide) (t := .int) (t' := .int) (by decide) (by decide)))
  have EB_x2 := EB.wr W2
  have VB_x2 := VB.other W2 (Ne.symm hab)
  have K0_x2 := K0.wr W2 (Or.inl (List.mem_of_getElem? (i := 0) rfl))
  show own_Rch p e below _ T2 (mkF m 10 #[.val (.ref a), .val (.ref x)] [])
  refine own_st (fun _ kt => XS.aloadN X2.here hx rfl (hb hby own_d5_10) rfl rfl  kt) ?_
  show own_Rch p e below _ T2 (mkF m 11 #[.val (.ref a), .val (.ref x)] [(.ref a)])
  refine own_st (fun _ kt => XS.aloadN X2.here hx rfl (hb hby own_d5_11) rfl rfl  kt) ?_
  show own_Rch p e below _ T2 (mkF m 12 #[.val (.ref a), .val (.ref x)] [(.ref x), (.ref a)])
  refine own_st (fun _ kt => XS.aloadN X2.here hx rfl (hb hby own_d5_12) rfl rfl  kt) ?_
  show own_Rch p e below _ T2 (mkF m 13 #[.val (.ref a), .val (.ref x)] [(.ref a), (.ref x), (.ref a)])
  obtain ⟨T3, X3, e3, st3⟩ := getF X2 hx hZ hown (host := "") (Or.inl (hw _ (List.mem_of_getElem? (i := 25) rfl))) Via.refl e2 FE_x2 (g := (mkF m 13 #[.val (.ref a), .val (.ref x)] [(.ref a), (.ref x), (.ref a)])) rfl rfl (hb hby own_d5_13)
  refine own_st st3 ?_
  show own_Rch p e below _ T3 (mkF m 16 #[.val (.ref a), .val (.ref x)] [(.ref b), (.ref x), (.ref a)])
  refine own_st (fun _ kt => XS.aloadN X3.here hx rfl (hb hby own_d5_16) rfl rfl  kt) ?_
  show own_Rch p e below _ T3 (mkF m 17 #[.val (.ref a), .val (.ref x)] [(.ref a), (.ref b), (.ref x), (.ref a)])
  obtain ⟨T4, X4, e4, st4⟩ := getF X3 hx hZ hown (host := "") (Or.inl (hw _ (List.mem_of_getElem? (i := 36) rfl))) Via.refl e3 FZ_x2 (g := (mkF m 17 #[.val (.ref a), .val (.ref x)] [(.ref a), (.ref b), (.ref x), (.ref a)])) rfl rfl (hb hby own_d5_17)
  refine own_st st4 ?_
  show own_Rch p e below _ T4 (mkF m 20 #[.val (.ref a), .val (.ref x)] [(.int (2 : Int32)), (.ref b), (.ref x), (.ref a)])
  obtain ⟨cq5, q5a, q5b⟩ := EA_x2.cell
  obtain ⟨_, _, ⟨T5, L5, k5, n5⟩, -, X5, ⟨Lc5, hQ5, l5, y5, z5⟩, st5⟩ := X4.privateBack hx (y := (⟨"java/util/ArrayList", "add", "(Ljava/lang/Object;[Ljava/lang/Object;I)V"⟩ : MethodName)) hown (mvT hZ (hw _ (List.mem_of_getElem? (i := 38) rfl))) (mvT hZ (hw _ (List.mem_of_getElem? (i := 39) rfl))) (mvT hZ (hw _ (List.mem_of_getElem? (i := 41) rfl))) (Cond.privateMethod_at (mvP hZ (hw _ (List.mem_of_getElem? (i := 40) rfl)) (args := #[]))) (mvT hZ (hw _ (List.mem_of_getElem? (i := 42) rfl))) (by decide) (backOf (W := 0) (own_addp2 l Z a0 hw [] a x b kb y0 y1 h2 n0 O0_x2 EA_x2 FE_x2 FZ_x2 Fw2 ga EX EB_x2 VB_x2 OB gb hab) hZ (hw _ (List.mem_of_getElem? (i := 42) rfl)) (hw _ (List.mem_of_getElem? (i := 3) rfl)) (by decide) (by decide)) (g := (mkF m 20 #[.val (.ref a), .val (.ref x)] [(.int (2 : Int32)), (.ref b), (.ref x), (.ref a)])) rfl (by rw [hml]; rfl) (Steps.refl _) (a := a) (by rw [e4]; exact q5a) q5b (argsL := [(.ref x), (.ref b), (.int (2 : Int32))]) (rest := []) (lenOf own_pd4 rfl) rfl (by show 2 * 0 + _ ≤ _; exact Nat.le_of_eq rfl) (hb hby own_d5_20) (fun _ _ => ⟨rfl, e4, (by decide : 0 + 0 ≤ _), (by decide : 0 + 0 ≤ _)⟩)
  dsimp only [Pt.U, Pt.locs, Pt.cells, Pt.slots] at X5 l5 y5 z5 st5 hQ5
  subst l5 y5 z5
  obtain ⟨rfl, N5q, K5, Ea5, Fe5, Fz5, Fm5, Eb5, Vb5⟩ := hQ5
  have N5 := Fr.app N2 N5q
  refine own_st (fun _ kt => st5.trans kt) ?_
  have O0_x5 := O0_x2.keep K5 (allS ga (allS gb all0))
  have EA_x5 := EA_x2.keep K5
  have EB_x5 := EB_x2.keep K5
  have K0_x5 := K0_x2.trans K5 (allS (Or.inl (List.mem_of_getElem? (i := 0) rfl)) (allS (Or.inl (List.mem_of_getElem? (i := 1) rfl)) all0))
  show own_Rch p e below _ T5 (mkF m 23 #[.val (.ref a), .val (.ref x)] [])
  refine own_st (fun _ kt => XS.iconst X5.here hx rfl (hb hby own_d5_23) kt) ?_
  show own_Rch p e below _ T5 (mkF m 24 #[.val (.ref a), .val (.ref x)] [(.int (1 : Int32))])
  refine own_retN (t := .boolean) (by simp) X5 hx Bd.notSynchronized Bd.returns (hb hby own_d5_24) (by decide) (by decide) ?_
  exact ⟨rfl, N5, K0_x5, Ea5, Fe5, Fz5, Fm5, Eb5, Vb5⟩
def own_Q_own_addp3 (Z : State) (a : Addr) (x : Addr) (b : Addr) (kb : ClassId) (y0 : Addr) (y1 : Addr) (y2 : Addr) (h0 : Heap) (n0 : Nat) (v : Option Value) (h : Heap) (L : List Loc) : Prop := v = none ∧ Fr n0 L ∧ Keep h0 h [a, b] ∧ Exa Z h a "java/util/ArrayList" ∧ Fld Z h a "java/util/ArrayList" "elementData" "[Ljava/lang/Object;" (.ref b) ∧ Fld Z h a "java/util/ArrayList" "size" "I" (.int (4 : Int32)) ∧ Fld Z h a "java/util/AbstractList" "modCount" "I" (.int (4 : Int32)) ∧ Exa Z h b "[Ljava/lang/Object;" ∧ Arv Z h b kb (.object "java/lang/Object") (10 : Int32) [(.ref y0), (.ref y1), (.ref y2), (.ref x), .null, .null, .null, .null, .null, .null] .null
set_option maxRecDepth 65536 in
set_option maxHeartbeats 40000000 in
theorem own_addp3 (l : Launch) (Z : State) (a0 : Array Value) (hw : ∀ d ∈ tables_1, d.before a0 Z = true) (ws : List Jvm.Cond) (a : Addr) (x : Addr) (b : Addr) (kb : ClassId) (y0 : Addr) (y1 : Addr) (y2 : Addr) (h0 : Heap) (n0 : Nat) (O0 : Old Z n0 h0) (EA : Exa Z h0 a "java/util/ArrayList") (FE : Fld Z h0 a "java/util/ArrayList" "elementData" "[Ljava/lang/Object;" (.ref b)) (FZ : Fld Z h0 a "java/util/ArrayList" "size" "I" (.int (3 : Int32))) (FM : Fld Z h0 a "java/util/AbstractList" "modCount" "I" (.int (4 : Int32))) (ga : n0 ≤ a) (EX : Exa Z Z.heap x "java/math/BigDecimal") (EB : Exa Z h0 b "[Ljava/lang/Object;") (VB : Arv Z h0 b kb (.object "java/lang/Object") (10 : Int32) [(.ref y0), (.ref y1), (.ref y2), .null, .null, .null, .null, .null, .null, .null] .null) (OB : Ovr Z kb "java/lang/Object") (gb : n0 ≤ b) (hab : a ≠ b) :
    MetFree l (⟨"java/util/ArrayList", "add", "(Ljava/lang/Object;[Ljava/lang/Object;I)V"⟩ : MethodName) (head1 (Jvm.Cond.code (⟨"java/util/ArrayList", "add", "(Ljava/lang/Object;[Ljava/lang/Object;I)V"⟩ : MethodName) jdk_38_method_24_code 4 none :: ws) ({ frames := 0, cells := 0, slots := 0, locals := 0 } : Room)) (fun args_ U => args_ = #[(.ref a), (.ref x), (.ref b), (.int (3 : Int32))] ∧ Z.Warmed39 U.vm ∧ U.heap = h0) (fun _ _ _ _ _ => True) (fun _ U o U' => ∃ v L, o = .returned v ∧ (own_Q_own_addp3 Z a x b kb y0 y1 y2 h0 n0) v U'.heap L ∧ FrameEnd U o U' L ({ frames := 0, cells := 0, slots := 0, locals := 0 } : Room).cells ({ frames := 0, cells := 0, slots := 0, locals := 0 } : Room).slots) := by
  refine MetFree.of_bodySF (plainFor_of_name own_pn4) hisR ?_
  intro p e s m args below meth c s₁ Bd hml0 hP hK
  obtain ⟨rfl, hZ, hh⟩ := hP
  have hx := Bd.exec
  have hby := Bd.bytes
  have hml : c.maxLocals = 4 := hml0
  have hown : s.vm.findClass "java/util/ArrayList" = some m.cls := findClass_of_methodNamed Bd.named
  have hnm := (name_of_methodNamed Bd.named Bd.method).1
  have X0 : Stand p l e ({ frames := 0, cells := 0, slots := 0, locals := 0 } : Room) s m #[(.ref a), (.ref x), (.ref b), (.int (3 : Int32))] below meth c s₁ [] 0 0 := Stand.of_body Bd
  have e0 : s₁.heap = h0 := by rw [← hh, Bd.state]; rfl
  have N0 := Fr.nil n0
  refine own_close (s := s) (Q := (own_Q_own_addp3 Z a x b kb y0 y1 y2 h0 n0)) (C := (({ frames := 0, cells := 0, slots := 0, locals := 0 } : Room)).cells) (N := (({ frames := 0, cells := 0, slots := 0, locals := 0 } : Room)).slots) (own_st (fun _ kt => castTop (own_ef6 m a x b (3 : Int32)) kt) ?_)
  have K0 := Keep.refl h0 [a, b]
  show own_Rch p e below _ s₁ (mkF m 0 #[.val (.ref a), .val (.ref x), .val (.ref b), .val (.int (3 : Int32))] [])
  refine own_st (fun _ kt => XS.iloadN X0.here hx rfl (hb hby own_d6_0) rfl  kt) ?_
  show own_Rch p e below _ s₁ (mkF m 1 #[.val (.ref a), .val (.ref x), .val (.ref b), .val (.int (3 : Int32))] [(.int (3 : Int32))])
  refine own_st (fun _ kt => XS.aloadN X0.here hx rfl (hb hby own_d6_1) rfl rfl  kt) ?_
  show own_Rch p e below _ s₁ (mkF m 2 #[.val (.ref a), .val (.ref x), .val (.ref b), .val (.int (3 : Int32))] [(.ref b), (.int (3 : Int32))])
  obtain ⟨cl1, Ar1, -, S1, M1, -, -⟩ := id VB
  refine own_st (X0.arraylength hx (by rw [e0]; exact Ar1.1) (State.isArrayOf_alike (hZ).alike Ar1.2.1) (g := (mkF m 2 #[.val (.ref a), .val (.ref x), .val (.ref b), .val (.int (3 : Int32))] [(.ref b), (.int (3 : Int32))])) rfl rfl (hb hby own_d6_2)) ?_
  rw [len_of S1 M1]
  show own_Rch p e below _ s₁ (mkF m 3 #[.val (.ref a), .val (.ref x), .val (.ref b), .val (.int (3 : Int32))] [(.int (10 : Int32)), (.int (3 : Int32))])
  refine own_st (fun _ kt => XS.icmpYes X0.here hx rfl (pc0 := 3) (pc' := 11) rfl (hb hby own_d6_3) rfl (feq ((by decide) : ¬ ((3 : Int32) = (10 : Int32)))).2 (by decide) (by decide) kt) ?_
  show own_Rch p e below _ s₁ (mkF m 11 #[.val (.ref a), .val (.ref x), .val (.ref b), .val (.int (3 : Int32))] [])
  refine own_st (fun _ kt => XS.aloadN X0.here hx rfl (hb hby own_d6_11) rfl rfl  kt) ?_
  show own_Rch p e below _ s₁ (mkF m 12 #[.val (.ref a), .val (.ref x), .val (.ref b), .val (.int (3 : Int32))] [(.ref b)])
  refine own_st (fun _ kt => XS.iloadN X0.here hx rfl (hb hby own_d6_12) rfl  kt) ?_
  show own_Rch p e below _ s₁ (mkF m 13 #[.val (.ref a), .val (.ref x), .val (.ref b), .val (.int (3 : Int32))] [(.int (3 : Int32)), (.ref b)])
  refine own_st (fun _ kt => XS.aloadN X0.here hx rfl (hb hby own_d6_13) rfl rfl  kt) ?_
  show own_Rch p e below _ s₁ (mkF m 14 #[.val (.ref a), .val (.ref x), .val (.ref b), .val (.int (3 : Int32))] [(.ref x), (.int (3 : Int32)), (.ref b)])
  obtain ⟨cl2, Ar2, q2, S2, M2, H2, G2⟩ := id VB
  have hin2 : ¬ ((3 : Int32) < 0 ∨ cl2.slots.size ≤ ((3 : Int32)).toNatClampNeg) := inb_of S2 ⟨by decide, by decide⟩
  obtain ⟨T2, h2, X2, e2, W2, st2⟩ := stR X0 hx hZ e0 Ar2 (j := (3 : Int32)) hin2 rfl (Sto.ofV Ar2 q2 OB (Ins.of_exa (EX.ext O0.2) (hw _ (List.mem_of_getElem? (i := 59) rfl)))) (g := (mkF m 14 #[.val (.ref a), .val (.ref x), .val (.ref b), .val (.int (3 : Int32))] [(.ref x), (.int (3 : Int32)), (.ref b)])) rfl rfl (hb hby own_d6_14)
  have V2 := Arv.set Ar2 q2 S2 M2 H2 G2 rfl W2 3 rfl (Nat.le_of_ble_eq_true rfl)
  have V2s : Arv Z h2 b kb (.object "java/lang/Object") (10 : Int32) [(.ref y0), (.ref y1), (.ref y2), (.ref x), .null, .null, .null, .null, .null, .null] .null := V2
  have N2 := Fr.snoc X2 N0 gb
  refine own_st st2 ?_
  have O0_x2 := O0.wr W2 gb
  have EA_x2 := EA.wr W2
  have FE_x2 := FE.other W2 (Or.inl hab)
  have FZ_x2 := FZ.other W2 (Or.inl hab)
  have FM_x2 := FM.other W2 (Or.inl hab)
  have EB_x2 := EB.wr W2
  have K0_x2 := K0.wr W2 (Or.inl (List.mem_of_getElem? (i := 1) rfl))
  show own_Rch p e below _ T2 (mkF m 15 #[.val (.ref a), .val (.ref x), .val (.ref b), .val (.int (3 : Int32))] [])
  refine own_st (fun _ kt => XS.aloadN X2.here hx rfl (hb hby own_d6_15) rfl rfl  kt) ?_
  show own_Rch p e below _ T2 (mkF m 16 #[.val (.ref a), .val (.ref x), .val (.ref b), .val (.int (3 : Int32))] [(.ref a)])
  refine own_st (fun _ kt => XS.iloadN X2.here hx rfl (hb hby own_d6_16) rfl  kt) ?_
  show own_Rch p e below _ T2 (mkF m 17 #[.val (.ref a), .val (.ref x), .val (.ref b), .val (.int (3 : Int32))] [(.int (3 : Int32)), (.ref a)])
  refine own_st (fun _ kt => XS.iconst X2.here hx rfl (hb hby own_d6_17) kt) ?_
  show own_Rch p e below _ T2 (mkF m 18 #[.val (.ref a), .val (.ref x), .val (.ref b), .val (.int (3 : Int32))] [(.int (1 : Int32)), (.int (3 : Int32)), (.ref a)])
  refine own_st (fun _ kt => XS.iadd X2.here hx rfl (hb hby own_d6_18) rfl kt) ?_
  show own_Rch p e below _ T2 (mkF m 19 #[.val (.ref a), .val (.ref x), .val (.ref b), .val (.int (3 : Int32))] [(.int (4 : Int32)), (.ref a)])
  obtain ⟨T3, h3, X3, e3, W3, st3⟩ := putF X2 hx hZ hown (host := "") (Or.inl (hw _ (List.mem_of_getElem? (i := 36) rfl))) Via.refl e2 FZ_x2 EA_x2 (Or.inl (hw _ (List.mem_of_getElem? (i := 37) rfl))) (hw _ (List.mem_of_getElem? (i := 2) rfl)) (ty := .int) (by decide) rfl rfl (g := (mkF m 19 #[.val (.ref a), .val (.ref x), .val (.ref b), .val (.int (3 : Int32))] [(.int (4 : Int32)), (.ref a)])) rfl rfl (hb hby own_d6_19)
  refine own_st st3 ?_
  have Fw3 := FZ_x2.same W3
  have N3 := Fr.snoc X3 N2 ga
  have O0_x3 := O0_x2.wr W3 ga
  have EA_x3 := EA_x2.wr W3
  have FE_x3 := FE_x2.other W3 (Or.inr (slot_ne (Or.inl (hw _ (List.mem_of_getElem? (i := 26) rfl))) (Or.inl (hw _ (List.mem_of_getElem? (i := 37) rfl))) (by decide) (t := (.array (.object "java/lang/Object"))) (t' := .int) (by decide) (by decide)))
  have FM_x3 := FM_x2.other W3 (Or.inr (slot_ne (Or.inl (hw _ (List.mem_of_getElem? (i := 23) rfl))) (Or.inl (hw _ (List.mem_of_getElem? (i := 37) rfl))) (by decide) (t := .int) (t' := .int) (by decide) (by decide)))
  have EB_x3 := EB_x2.wr W3
  have V2s_x3 := V2s.other W3 (Ne.symm hab)
  have K0_x3 := K0_x2.wr W3 (Or.inl (List.mem_of_getElem? (i := 0) rfl))
  show own_Rch p e below _ T3 (mkF m 22 #[.val (.ref a), .val (.ref x), .val (.ref b), .val (.int (3 : Int32))] [])
  refine own_retV X3 hx Bd.notSynchronized Bd.returns (hb hby own_d6_22) (by decide) (by decide) ?_
  rw [e3]
  exact ⟨rfl, N3, K0_x3, EA_x3, FE_x3, Fw3, FM_x3, EB_x3, V2s_x3⟩
def own_Q_own_add3 (Z : State) (a : Addr) (x : Addr) (b : Addr) (kb : ClassId) (y0 : Addr) (y1 : Addr) (y2 : Addr) (h0 : Heap) (n0 : Nat) (v : Option Value) (h : Heap) (L : List Loc) : Prop := v = some (.int (1 : Int32)) ∧ Fr n0 L ∧ Keep h0 h [a, b] ∧ Exa Z h a "java/util/ArrayList" ∧ Fld Z h a "java/util/ArrayList" "elementData" "[Ljava/lang/Object;" (.ref b) ∧ Fld Z h a "java/util/ArrayList" "size" "I" (.int (4 : Int32)) ∧ Fld Z h a "java/util/AbstractList" "modCount" "I" (.int (4 : Int32)) ∧ Exa Z h b "[Ljava/lang/Object;" ∧ Arv Z h b kb (.object "java/lang/Object") (10 : Int32) [(.ref y0), (.ref y1), (.ref y2), (.ref x), .null, .null, .null, .null, .null, .null] .null
set_option maxRecDepth 65536 in
set_option maxHeartbeats 40000000 in
theorem own_add3 (l : Launch) (Z : State) (a0 : Array Value) (hw : ∀ d ∈ tables_1, d.before a0 Z = true) (ws : List Jvm.Cond) (a : Addr) (x : Addr) (b : Addr) (kb : ClassId) (y0 : Addr) (y1 : Addr) (y2 : Addr) (h0 : Heap) (n0 : Nat) (O0 : Old Z n0 h0) (EA : Exa Z h0 a "java/util/ArrayList") (FE : Fld Z h0 a "java/util/ArrayList" "elementData" "[Ljava/lang/Object;" (.ref b)) (FZ : Fld Z h0 a "java/util/ArrayList" "size" "I" (.int (3 : Int32))) (FM : Fld Z h0 a "java/util/AbstractList" "modCount" "I" (.int (3 : Int32))) (ga : n0 ≤ a) (EX : Exa Z Z.heap x "java/math/BigDecimal") (EB : Exa Z h0 b "[Ljava/lang/Object;") (VB : Arv Z h0 b kb (.object "java/lang/Object") (10 : Int32) [(.ref y0), (.ref y1), (.ref y2), .null, .null, .null, .null, .null, .null, .null] .null) (OB : Ovr Z kb "java/lang/Object") (gb : n0 ≤ b) (hab : a ≠ b) :
    MetFree l (⟨"java/util/ArrayList", "add", "(Ljava/lang/Object;)Z"⟩ : MethodName) (head1 (Jvm.Cond.code (⟨"java/util/ArrayList", "add", "(Ljava/lang/Object;)Z"⟩ : MethodName) jdk_38_method_25_code 2 (some .boolean) :: ws) ({ frames := 1, cells := 0, slots := 0, locals := 15 } : Room)) (fun args_ U => args_ = #[(.ref a), (.ref x)] ∧ Z.Warmed39 U.vm ∧ U.heap = h0) (fun _ _ _ _ _ => True) (fun _ U o U' => ∃ v L, o = .returned v ∧ (own_Q_own_add3 Z a x b kb y0 y1 y2 h0 n0) v U'.heap L ∧ FrameEnd U o U' L ({ frames := 1, cells := 0, slots := 0, locals := 15 } : Room).cells ({ frames := 1, cells := 0, slots := 0, locals := 15 } : Room).slots) := by
  refine MetFree.of_bodySF (plainFor_of_name own_pn4) hisR ?_
  intro p e s m args below meth c s₁ Bd hml0 hP hK
  obtain ⟨rfl, hZ, hh⟩ := hP
  have hx := Bd.exec
  have hby := Bd.bytes
  have hml : c.maxLocals = 2 := hml0
  have hown : s.vm.findClass "java/util/ArrayList" = some m.cls := findClass_of_methodNamed Bd.named
  have hnm := (name_of_methodNamed Bd.named Bd.method).1
  have X0 : Stand p l e ({ frames := 1, cells := 0, slots := 0, locals := 15 } : Room) s m #[(.ref a), (.ref x)] below meth c s₁ [] 0 0 := Stand.of_body Bd
  have e0 : s₁.heap = h0 := by rw [← hh, Bd.state]; rfl
  have N0 := Fr.nil n0
  refine own_close (s := s) (Q := (own_Q_own_add3 Z a x b kb y0 y1 y2 h0 n0)) (C := (({ frames := 1, cells := 0, slots := 0, locals := 15 } : Room)).cells) (N := (({ frames := 1, cells := 0, slots := 0, locals := 15 } : Room)).slots) (own_st (fun _ kt => castTop (own_ef5 m a x) kt) ?_)
  have K0 := Keep.refl h0 [a, b]
  show own_Rch p e below _ s₁ (mkF m 0 #[.val (.ref a), .val (.ref x)] [])
  refine own_st (fun _ kt => XS.aloadN X0.here hx rfl (hb hby own_d5_0) rfl rfl  kt) ?_
  show own_Rch p e below _ s₁ (mkF m 1 #[.val (.ref a), .val (.ref x)] [(.ref a)])
  refine own_st (fun _ kt => XS.dup X0.here hx rfl (hb hby own_d5_1) rfl rfl kt) ?_
  show own_Rch p e below _ s₁ (mkF m 2 #[.val (.ref a), .val (.ref x)] [(.ref a), (.ref a)])
  obtain ⟨T1, X1, e1, st1⟩ := getF X0 hx hZ hown (host := "") (Or.inl (hw _ (List.mem_of_getElem? (i := 34) rfl))) (Via.of (hw _ (List.mem_of_getElem? (i := 35) rfl))) e0 FM (g := (mkF m 2 #[.val (.ref a), .val (.ref x)] [(.ref a), (.ref a)])) rfl rfl (hb hby own_d5_2)
  refine own_st st1 ?_
  show own_Rch p e below _ T1 (mkF m 5 #[.val (.ref a), .val (.ref x)] [(.int (3 : Int32)), (.ref a)])
  refine own_st (fun _ kt => XS.iconst X1.here hx rfl (hb hby own_d5_5) kt) ?_
  show own_Rch p e below _ T1 (mkF m 6 #[.val (.ref a), .val (.ref x)] [(.int (1 : Int32)), (.int (3 : Int32)), (.ref a)])
  refine own_st (fun _ kt => XS.iadd X1.here hx rfl (hb hby own_d5_6) rfl kt) ?_
  show own_Rch p e below _ T1 (mkF m 7 #[.val (.ref a), .val (.ref x)] [(.int (4 : Int32)), (.ref a)])
  obtain ⟨T2, h2, X2, e2, W2, st2⟩ := putF X1 hx hZ hown (host := "") (Or.inl (hw _ (List.mem_of_getElem? (i := 34) rfl))) (Via.of (hw _ (List.mem_of_getElem? (i := 35) rfl))) e1 FM EA (Or.inl (hw _ (List.mem_of_getElem? (i := 23) rfl))) (hw _ (List.mem_of_getElem? (i := 2) rfl)) (ty := .int) (by decide) rfl rfl (g := (mkF m 7 #[.val (.ref a), .val (.ref x)] [(.int (4 : Int32)), (.ref a)])) rfl rfl (hb hby own_d5_7)
  refine own_st st2 ?_
  have Fw2 := FM.same W2
  have N2 := Fr.snoc X2 N0 ga
  have O0_x2 := O0.wr W2 ga
  have EA_x2 := EA.wr W2
  have FE_x2 := FE.other W2 (Or.inr (slot_ne (Or.inl (hw _ (List.mem_of_getElem? (i := 26) rfl))) (Or.inl (hw _ (List.mem_of_getElem? (i := 23) rfl))) (by decide) (t := (.array (.object "java/lang/Object"))) (t' := .int) (by decide) (by decide)))
  have FZ_x2 := FZ.other W2 (Or.inr (slot_ne (Or.inl (hw _ (List.mem_of_getElem? (i := 37) rfl))) (Or.inl (hw _ (List.mem_of_getElem? (i := 23) rfl))) (by decide) (t := .int) (t' := .int) (by decide) (by decide)))
  have EB_x2 := EB.wr W2
  have VB_x2 := VB.other W2 (Ne.symm hab)
  have K0_x2 := K0.wr W2 (Or.inl (List.mem_of_getElem? (i := 0) rfl))
  show own_Rch p e below _ T2 (mkF m 10 #[.val (.ref a), .val (.ref x)] [])
  refine own_st (fun _ kt => XS.aloadN X2.here hx rfl (hb hby own_d5_10) rfl rfl  kt) ?_
  show own_Rch p e below _ T2 (mkF m 11 #[.val (.ref a), .val (.ref x)] [(.ref a)])
  refine own_st (fun _ kt => XS.aloadN X2.here hx rfl (hb hby own_d5_11) rfl rfl  kt) ?_
  show own_Rch p e below _ T2 (mkF m 12 #[.val (.ref a), .val (.ref x)] [(.ref x), (.ref a)])
  refine own_st (fun _ kt => XS.aloadN X2.here hx rfl (hb hby own_d5_12) rfl rfl  kt) ?_
  show own_Rch p e below _ T2 (mkF m 13 #[.val (.ref a), .val (.ref x)] [(.ref a), (.ref x), (.ref a)])
  obtain ⟨T3, X3, e3, st3⟩ := getF X2 hx hZ hown (host := "") (Or.inl (hw _ (List.mem_of_getElem? (i := 25) rfl))) Via.refl e2 FE_x2 (g := (mkF m 13 #[.val (.ref a), .val (.ref x)] [(.ref a), (.ref x), (.ref a)])) rfl rfl (hb hby own_d5_13)
  refine own_st st3 ?_
  show own_Rch p e below _ T3 (mkF m 16 #[.val (.ref a), .val (.ref x)] [(.ref b), (.ref x), (.ref a)])
  refine own_st (fun _ kt => XS.aloadN X3.here hx rfl (hb hby own_d5_16) rfl rfl  kt) ?_
  show own_Rch p e below _ T3 (mkF m 17 #[.val (.ref a), .val (.ref x)] [(.ref a), (.ref b), (.ref x), (.ref a)])
  obtain ⟨T4, X4, e4, st4⟩ := getF X3 hx hZ hown (host := "") (Or.inl (hw _ (List.mem_of_getElem? (i := 36) rfl))) Via.refl e3 FZ_x2 (g := (mkF m 17 #[.val (.ref a), .val (.ref x)] [(.ref a), (.ref b), (.ref x), (.ref a)])) rfl rfl (hb hby own_d5_17)
  refine own_st st4 ?_
  show own_Rch p e below _ T4 (mkF m 20 #[.val (.ref a), .val (.ref x)] [(.int (3 : Int32)), (.ref b), (.ref x), (.ref a)])
  obtain ⟨cq5, q5a, q5b⟩ := EA_x2.cell
  obtain ⟨_, _, ⟨T5, L5, k5, n5⟩, -, X5, ⟨Lc5, hQ5, l5, y5, z5⟩, st5⟩ := X4.privateBack hx (y := (⟨"java/util/ArrayList", "add", "(Ljava/lang/Object;[Ljava/lang/Object;I)V"⟩ : MethodName)) hown (mvT hZ (hw _ (List.mem_of_getElem? (i := 38) rfl))) (mvT hZ (hw _ (List.mem_of_getElem? (i := 39) rfl))) (mvT hZ (hw _ (List.mem_of_getElem? (i := 41) rfl))) (Cond.privateMethod_at (mvP hZ (hw _ (List.mem_of_getElem? (i := 40) rfl)) (args := #[]))) (mvT hZ (hw _ (List.mem_of_getElem? (i := 42) rfl))) (by decide) (backOf (W := 0) (own_addp3 l Z a0 hw [] a x b kb y0 y1 y2 h2 n0 O0_x2 EA_x2 FE_x2 FZ_x2 Fw2 ga EX EB_x2 VB_x2 OB gb hab) hZ (hw _ (List.mem_of_getElem? (i := 42) rfl)) (hw _ (List.mem_of_getElem? (i := 3) rfl)) (by decide) (by decide)) (g := (mkF m 20 #[.val (.ref a), .val (.ref x)] [(.int (3 : Int32)), (.ref b), (.ref x), (.ref a)])) rfl (by rw [hml]; rfl) (Steps.refl _) (a := a) (by rw [e4]; exact q5a) q5b (argsL := [(.ref x), (.ref b), (.int (3 : Int32))]) (rest := []) (lenOf own_pd4 rfl) rfl (by show 2 * 0 + _ ≤ _; exact Nat.le_of_eq rfl) (hb hby own_d5_20) (fun _ _ => ⟨rfl, e4, (by decide : 0 + 0 ≤ _), (by decide : 0 + 0 ≤ _)⟩)
  dsimp only [Pt.U, Pt.locs, Pt.cells, Pt.slots] at X5 l5 y5 z5 st5 hQ5
  subst l5 y5 z5
  obtain ⟨rfl, N5q, K5, Ea5, Fe5, Fz5, Fm5, Eb5, Vb5⟩ := hQ5
  have N5 := Fr.app N2 N5q
  refine own_st (fun _ kt => st5.trans kt) ?_
  have O0_x5 := O0_x2.keep K5 (allS ga (allS gb all0))
  have EA_x5 := EA_x2.keep K5
  have EB_x5 := EB_x2.keep K5
  have K0_x5 := K0_x2.trans K5 (allS (Or.inl (List.mem_of_getElem? (i := 0) rfl)) (allS (Or.inl (List.mem_of_getElem? (i := 1) rfl)) all0))
  show own_Rch p e below _ T5 (mkF m 23 #[.val (.ref a), .val (.ref x)] [])
  refine own_st (fun _ kt => XS.iconst X5.here hx rfl (hb hby own_d5_23) kt) ?_
  show own_Rch p e below _ T5 (mkF m 24 #[.val (.ref a), .val (.ref x)] [(.int (1 : Int32))])
  refine own_retN (t := .boolean) (by simp) X5 hx Bd.notSynchronized Bd.returns (hb hby own_d5_24) (by decide) (by decide) ?_
  exact ⟨rfl, N5, K0_x5, Ea5, Fe5, Fz5, Fm5, Eb5, Vb5⟩
theorem own_ef14 (m : MethodId) (x0 : Addr) : entryFrame m #[(.ref x0)] 1 = mkF m 0 #[.val (.ref x0)] [] := by first | (simp [entryFrame, mkF, argsToLocals, Value.category]; done) | rfl
theorem own_d14_0 : decode jdk_38_method_9_code 0 = .ok (.aload_n 0, 1) := by decide +kernel
theorem own_d14_1 : decode jdk_38_method_9_code 1 = .ok (.getfield 48, 3) := by decide +kernel
theorem own_d14_4 : decode jdk_38_method_9_code 4 = .ok (.ifCond .ne 7, 3) := by decide +kernel
theorem own_d14_11 : decode jdk_38_method_9_code 11 = .ok (.iconst 0, 1) := by decide +kernel
theorem own_d14_12 : decode jdk_38_method_9_code 12 = .ok (.ireturn, 1) := by decide +kernel
def own_Q_own_isempty (Z : State) (a : Addr) (q : Int32) (h0 : Heap) (n0 : Nat) (v : Option Value) (h : Heap) (L : List Loc) : Prop := v = some (.int (0 : Int32)) ∧ Fr n0 L ∧ h = h0
set_option maxRecDepth 65536 in
set_option maxHeartbeats 40000000 in
theorem own_isempty (l : Launch) (Z : State) (a0 : Array Value) (hw : ∀ d ∈ tables_1, d.before a0 Z = true) (ws : List Jvm.Cond) (a : Addr) (q : Int32) (h0 : Heap) (n0 : Nat) (O0 : Old Z n0 h0) (FZ : Fld Z h0 a "java/util/ArrayList" "size" "I" (.int q)) (hq : ¬ q = 0) :
    MetFree l (⟨"java/util/ArrayList", "isEmpty", "()Z"⟩ : MethodName) (head1 (Jvm.Cond.code (⟨"java/util/ArrayList", "isEmpty", "()Z"⟩ : MethodName) jdk_38_method_9_code 1 (some .boolean) :: ws) ({ frames := 0, cells := 0, slots := 0, locals := 0 } : Room)) (fun args_ U => args_ = #[(.ref a)] ∧ Z.Warmed39 U.vm ∧ U.heap = h0) (fun _ _ _ _ _ => True) (fun _ U o U' => ∃ v L, o = .returned v ∧ (own_Q_own_isempty Z a q h0 n0) v U'.heap L ∧ FrameEnd U o U' L ({ frames := 0, cells := 0, slots := 0, locals := 0 } : Room).cells ({ frames := 0, cells := 0, slots := 0, locals := 0 } : Room).slots) := by
  refine MetFree.of_bodySF (plainFor_of_name own_pn4) hisR ?_
  intro p e s m args below meth c s₁ Bd hml0 hP hK
  obtain ⟨rfl, hZ, hh⟩ := hP
  have hx := Bd.exec
  have hby := Bd.bytes
  have hml : c.maxLocals = 1 := hml0
  have hown : s.vm.findClass "java/util/ArrayList" = some m.cls := findClass_of_methodNamed Bd.named
  have hnm := (name_of_methodNamed Bd.named Bd.method).1
  have X0 : Stand p l e ({ frames := 0, cells := 0, slots := 0, locals := 0 } : Room) s m #[(.ref a)] below meth c s₁ [] 0 0 := Stand.of_body Bd
  have e0 : s₁.heap = h0 := by rw [← hh, Bd.state]; rfl
  have N0 := Fr.nil n0
  refine own_close (s := s) (Q := (own_Q_own_isempty Z a q h0 n0)) (C := (({ frames := 0, cells := 0, slots := 0, locals := 0 } : Room)).cells) (N := (({ frames := 0, cells := 0, slots := 0, locals := 0 } : Room)).slots) (own_st (fun _ kt => castTop (own_ef14 m a) kt) ?_)
  show own_Rch p e below _ s₁ (mkF m 0 #[.val (.ref a)] [])
  refine own_st (fun _ kt => XS.aloadN X0.here hx rfl (hb hby own_d14_0) rfl rfl  kt) ?_
  show own_Rch p e below _ s₁ (mkF m 1 #[.val (.ref a)] [(.ref a)])
  obtain ⟨T1, X1, e1, st1⟩ := getF X0 hx hZ hown (host := "") (Or.inl (hw _ (List.mem_of_getElem? (i := 36) rfl))) Via.refl e0 FZ (g := (mkF m 1 #[.val (.ref a)] [(.ref a)])) rfl rfl (hb hby own_d14_1)
  refine own_st st1 ?_
  show own_Rch p e below _ T1 (mkF m 4 #[.val (.ref a)] [(.int q)])
  refine own_st (fun _ kt => XS.ifYes X1.here hx rfl (pc0 := 4) (pc' := 11) rfl (hb hby own_d14_4) rfl ((if0 _ _).trans (feq (hq : ¬ (q = (0 : Int32)))).2) (by decide) (by decide) kt) ?_
  show own_Rch p e below _ T1 (mkF m 11 #[.val (.ref a)] [])
  refine own_st (fun _ kt => XS.iconst X1.here hx rfl (hb hby own_d14_11) kt) ?_
  show own_Rch p e below _ T1 (mkF m 12 #[.val (.ref a)] [(.int (0 : Int32))])
  refine own_retN (t := .boolean) (by simp) X1 hx Bd.notSynchronized Bd.returns (hb hby own_d14_12) (by decide) (by decide) ?_
  rw [e1]
  exact ⟨rfl, N0, rfl⟩
theorem own_pn5 : plainName "java/util/Objects" = true := by first | (simp [plainName, overriddenIn]; done) | decide +kernel
theorem own_ef21 (m : MethodId) (x0 : Addr) : entryFrame m #[(.ref x0)] 1 = mkF m 0 #[.val (.ref x0)] [] := by first | (simp [entryFrame, mkF, argsToLocals, Value.category]; done) | rfl
theorem own_d21_0 : decode jdk_31_method_10_code 0 = .ok (.aload_n 0, 1) := by decide +kernel
theorem own_d21_1 : decode jdk_31_method_10_code 1 = .ok (.ifnonnull 11, 3) := by decide +kernel
theorem own_d21_12 : decode jdk_31_method_10_code 12 = .ok (.aload_n 0, 1) := by decide +kernel
theorem own_d21_13 : decode jdk_31_method_10_code 13 = .ok (.areturn, 1) := by decide +kernel
def own_Q_own_rnn (Z : State) (a : Addr) (h0 : Heap) (n0 : Nat) (v : Option Value) (h : Heap) (L : List Loc) : Prop := v = some (.ref a) ∧ Fr n0 L ∧ h = h0
set_option maxRecDepth 65536 in
set_option maxHeartbeats 40000000 in
theorem own_rnn (l : Launch) (Z : State) (a0 : Array Value) (hw : ∀ d ∈ tables_1, d.before a0 Z = true) (ws : List Jvm.Cond) (a : Addr) (h0 : Heap) (n0 : Nat) (O0 : Old Z n0 h0) :
    MetFree l (⟨"java/util/Objects", "requireNonNull", "(Ljava/lang/Object;)Ljava/lang/Object;"⟩ : MethodName) (head1 (Jvm.Cond.code (⟨"java/util/Objects", "requireNonNull", "(Ljava/lang/Object;)Ljava/lang/Object;"⟩ : MethodName) jdk_31_method_10_code 1 (some (.object "java/lang/Object")) :: ws) ({ frames := 0, cells := 0, slots := 0, locals := 0 } : Room)) (fun args_ U => args_ = #[(.ref a)] ∧ Z.Warmed39 U.vm ∧ U.heap = h0) (fun _ _ _ _ _ => True) (fun _ U o U' => ∃ v L, o = .returned v ∧ (own_Q_own_rnn Z a h0 n0) v U'.heap L ∧ FrameEnd U o U' L ({ frames := 0, cells := 0, slots := 0, locals := 0 } : Room).cells ({ frames := 0, cells := 0, slots := 0, locals := 0 } : Room).slots) := by
  refine MetFree.of_bodySF (plainFor_of_name own_pn5) hisR ?_
  intro p e s m args below meth c s₁ Bd hml0 hP hK
  obtain ⟨rfl, hZ, hh⟩ := hP
  have hx := Bd.exec
  have hby := Bd.bytes
  have hml : c.maxLocals = 1 := hml0
  have hown : s.vm.findClass "java/util/Objects" = some m.cls := findClass_of_methodNamed Bd.named
  have hnm := (name_of_methodNamed Bd.named Bd.method).1
  have X0 : Stand p l e ({ frames := 0, cells := 0, slots := 0, locals := 0 } : Room) s m #[(.ref a)] below meth c s₁ [] 0 0 := Stand.of_body Bd
  have e0 : s₁.heap = h0 := by rw [← hh, Bd.state]; rfl
  have N0 := Fr.nil n0
  refine own_close (s := s) (Q := (own_Q_own_rnn Z a h0 n0)) (C := (({ frames := 0, cells := 0, slots := 0, locals := 0 } : Room)).cells) (N := (({ frames := 0, cells := 0, slots := 0, locals := 0 } : Room)).slots) (own_st (fun _ kt => castTop (own_ef21 m a) kt) ?_)
  show own_Rch p e below _ s₁ (mkF m 0 #[.val (.ref a)] [])
  refine own_st (fun _ kt => XS.aloadN X0.here hx rfl (hb hby own_d21_0) rfl rfl  kt) ?_
  show own_Rch p e below _ s₁ (mkF m 1 #[.val (.ref a)] [(.ref a)])
  refine own_st (fun _ kt => XS.ifnonnullYes X0.here hx rfl (pc0 := 1) (pc' := 12) rfl (hb hby own_d21_1) rfl (by decide) (by decide) kt) ?_
  show own_Rch p e below _ s₁ (mkF m 12 #[.val (.ref a)] [])
  refine own_st (fun _ kt => XS.aloadN X0.here hx rfl (hb hby own_d21_12) rfl rfl  kt) ?_
  show own_Rch p e below _ s₁ (mkF m 13 #[.val (.ref a)] [(.ref a)])
  refine own_retA rfl rfl X0 hx Bd.notSynchronized Bd.returns (hb hby own_d21_13) (by decide) (by decide) ?_
  rw [e0]
  exact ⟨rfl, N0, rfl⟩
theorem own_pn6 : plainName "java/util/Arrays" = true := by first | (simp [plainName, overriddenIn]; done) | decide +kernel
theorem own_ef17 (m : MethodId) (x0 : Addr) (x1 : Int32) (x2 : Addr) : entryFrame m #[(.ref x0), (.int x1), (.ref x2)] 4 = mkF m 0 #[.val (.ref x0), .val (.int x1), .val (.ref x2), .unset] [] := by first | (simp [entryFrame, mkF, argsToLocals, Value.category]; done) | rfl
theorem own_d17_0 : decode jdk_65_method_120_code 0 = .ok (.aload_n 2, 1) := by decide +kernel
theorem own_d17_1 : decode jdk_65_method_120_code 1 = .ok (.ldc 110, 2) := by decide +kernel
theorem own_d17_3 : decode jdk_65_method_120_code 3 = .ok (.if_acmp .ne 10, 3) := by decide +kernel
theorem own_d17_6 : decode jdk_65_method_120_code 6 = .ok (.iload_n 1, 1) := by decide +kernel
theorem own_d17_7 : decode jdk_65_method_120_code 7 = .ok (.anewarray 2, 3) := by decide +kernel
theorem own_d17_10 : decode jdk_65_method_120_code 10 = .ok (.goto 14, 3) := by decide +kernel
theorem own_d17_24 : decode jdk_65_method_120_code 24 = .ok (.astore_n 3, 1) := by decide +kernel
theorem own_d17_25 : decode jdk_65_method_120_code 25 = .ok (.aload_n 0, 1) := by decide +kernel
theorem own_d17_26 : decode jdk_65_method_120_code 26 = .ok (.iconst 0, 1) := by decide +kernel
theorem own_d17_27 : decode jdk_65_method_120_code 27 = .ok (.aload_n 3, 1) := by decide +kernel
theorem own_d17_28 : decode jdk_65_method_120_code 28 = .ok (.iconst 0, 1) := by decide +kernel
theorem own_d17_29 : decode jdk_65_method_120_code 29 = .ok (.aload_n 0, 1) := by decide +kernel
theorem own_d17_30 : decode jdk_65_method_120_code 30 = .ok (.arraylength, 1) := by decide +kernel
theorem own_d17_31 : decode jdk_65_method_120_code 31 = .ok (.iload_n 1, 1) := by decide +kernel
theorem own_d17_32 : decode jdk_65_method_120_code 32 = .ok (.invokestatic 304, 3) := by decide +kernel
theorem own_d17_35 : decode jdk_65_method_120_code 35 = .ok (.invokestatic 150, 3) := by decide +kernel
theorem own_d17_38 : decode jdk_65_method_120_code 38 = .ok (.aload_n 3, 1) := by decide +kernel
theorem own_d17_39 : decode jdk_65_method_120_code 39 = .ok (.areturn, 1) := by decide +kernel
def own_Q_own_copy3_1 (Z : State) (b : Addr) (kb : ClassId) (mr : Addr) (zz : Addr) (oo : Addr) (h0 : Heap) (n0 : Nat) (v : Option Value) (h : Heap) (L : List Loc) : Prop := ∃ (r : Addr) (kr : ClassId), v = some (.ref r) ∧ Fr n0 L ∧ Keep h0 h [] ∧ h0.size ≤ r ∧ Exa Z h r "[Ljava/lang/Object;" ∧ Arv Z h r kr (.object "java/lang/Object") (1 : Int32) [(.ref oo)] .null ∧ Ovr Z kr "java/lang/Object"
set_option maxRecDepth 65536 in
set_option maxHeartbeats 40000000 in
theorem own_copy3_1 (l : Launch) (Z : State) (a0 : Array Value) (hw : ∀ d ∈ tables_1, d.before a0 Z = true) (ws : List Jvm.Cond) (b : Addr) (kb : ClassId) (mr : Addr) (zz : Addr) (oo : Addr) (h0 : Heap) (n0 : Nat) (O0 : Old Z n0 h0) (EB : Exa Z h0 b "[Ljava/lang/Object;") (VB : Arv Z h0 b kb (.object "java/lang/Object") (10 : Int32) [(.ref oo), .null, .null, .null, .null, .null, .null, .null, .null, .null] .null) (EZ : Exa Z Z.heap zz "java/math/BigDecimal") (EO : Exa Z Z.heap oo "java/math/BigDecimal") (MR : own_Mir Z "[Ljava/lang/Object;" mr) :
    MetFree l (⟨"java/util/Arrays", "copyOf", "([Ljava/lang/Object;ILjava/lang/Class;)[Ljava/lang/Object;"⟩ : MethodName) (head1 (Jvm.Cond.code (⟨"java/util/Arrays", "copyOf", "([Ljava/lang/Object;ILjava/lang/Class;)[Ljava/lang/Object;"⟩ : MethodName) jdk_65_method_120_code 4 (some (.array (.object "java/lang/Object"))) :: ws) ({ frames := 1, cells := 1, slots := 1, locals := 18 } : Room)) (fun args_ U => args_ = #[(.ref b), (.int (1 : Int32)), (.ref mr)] ∧ Z.Warmed39 U.vm ∧ U.heap = h0) (fun _ _ _ _ _ => True) (fun _ U o U' => ∃ v L, o = .returned v ∧ (own_Q_own_copy3_1 Z b kb mr zz oo h0 n0) v U'.heap L ∧ FrameEnd U o U' L ({ frames := 1, cells := 1, slots := 1, locals := 18 } : Room).cells ({ frames := 1, cells := 1, slots := 1, locals := 18 } : Room).slots) := by
  refine MetFree.of_bodySF (plainFor_of_name own_pn6) hisR ?_
  intro p e s m args below meth c s₁ Bd hml0 hP hK
  obtain ⟨rfl, hZ, hh⟩ := hP
  have hx := Bd.exec
  have hby := Bd.bytes
  have hml : c.maxLocals = 4 := hml0
  have hown : s.vm.findClass "java/util/Arrays" = some m.cls := findClass_of_methodNamed Bd.named
  have hnm := (name_of_methodNamed Bd.named Bd.method).1
  have X0 : Stand p l e ({ frames := 1, cells := 1, slots := 1, locals := 18 } : Room) s m #[(.ref b), (.int (1 : Int32)), (.ref mr)] below meth c s₁ [] 0 0 := Stand.of_body Bd
  have e0 : s₁.heap = h0 := by rw [← hh, Bd.state]; rfl
  have N0 := Fr.nil n0
  refine own_close (s := s) (Q := (own_Q_own_copy3_1 Z b kb mr zz oo h0 n0)) (C := (({ frames := 1, cells := 1, slots := 1, locals := 18 } : Room)).cells) (N := (({ frames := 1, cells := 1, slots := 1, locals := 18 } : Room)).slots) (own_st (fun _ kt => castTop (own_ef17 m b (1 : Int32) mr) kt) ?_)
  have K0 := Keep.refl h0 []
  show own_Rch p e below _ s₁ (mkF m 0 #[.val (.ref b), .val (.int (1 : Int32)), .val (.ref mr), .unset] [])
  refine own_st (fun _ kt => XS.aloadN X0.here hx rfl (hb hby own_d17_0) rfl rfl  kt) ?_
  show own_Rch p e below _ s₁ (mkF m 1 #[.val (.ref b), .val (.int (1 : Int32)), .val (.ref mr), .unset] [(.ref mr)])
  obtain ⟨T1, X1, e1, st1⟩ := own_ldcm X0 hx hZ hown (hw _ (List.mem_of_getElem? (i := 127) rfl)) e0 MR (g := (mkF m 1 #[.val (.ref b), .val (.int (1 : Int32)), .val (.ref mr), .unset] [(.ref mr)])) rfl (hb hby own_d17_1)
  refine own_st st1 ?_
  show own_Rch p e below _ T1 (mkF m 3 #[.val (.ref b), .val (.int (1 : Int32)), .val (.ref mr), .unset] [(.ref mr), (.ref mr)])
  refine own_st (fun _ kt => Jvm.RoadKit.acmp (g := (mkF m 3 #[.val (.ref b), .val (.int (1 : Int32)), .val (.ref mr), .unset] [(.ref mr), (.ref mr)])) X1 hx rfl rfl rfl (pc0 := 3) (pc' := 6) (same := true) rfl (hb hby own_d17_3) rfl (decide_eq_true rfl) (by decide) (by decide) kt) ?_
  show own_Rch p e below _ T1 (mkF m 6 #[.val (.ref b), .val (.int (1 : Int32)), .val (.ref mr), .unset] [])
  refine own_st (fun _ kt => XS.iloadN X1.here hx rfl (hb hby own_d17_6) rfl  kt) ?_
  show own_Rch p e below _ T1 (mkF m 7 #[.val (.ref b), .val (.int (1 : Int32)), .val (.ref mr), .unset] [(.int (1 : Int32))])
  obtain ⟨T2, h2, k2, X2, e2, E2, A2, Ex2, Ov2, st2⟩ := newRE X1 hx hZ hown (hw _ (List.mem_of_getElem? (i := 128) rfl)) (hw _ (List.mem_of_getElem? (i := 58) rfl)) e1 (g := (mkF m 7 #[.val (.ref b), .val (.int (1 : Int32)), .val (.ref mr), .unset] [(.int (1 : Int32))])) rfl (hb hby own_d17_7) rfl (by decide) (cap := 1) (by decide) (by decide) (by decide) (by decide) (ad := "[Ljava/lang/Object;") (by decide)
  obtain ⟨b2, g2⟩ : ∃ z, z = h0.size := ⟨_, rfl⟩
  rw [← g2] at A2 Ex2 st2
  have ge2 : n0 ≤ b2 := by rw [g2]; exact own_old_le O0
  have ne2_b : b ≠ b2 := by rw [g2]; exact Nat.ne_of_lt EB.lt
  have sz2 : h0.size ≤ b2 := by rw [g2]; exact K0.1
  have O0_x2 := O0.ext E2
  have EB_x2 := EB.ext E2
  have VB_x2 := VB.ext E2
  have K0_x2 := K0.ext E2
  refine own_st st2 ?_
  have V2 := Arv.new A2 (by decide)
  have V2p : Arv Z h2 b2 k2 (.object "java/lang/Object") (1 : Int32) [.null] .null := V2.pad (pad_rep [] .null 1)
  show own_Rch p e below _ T2 (mkF m 10 #[.val (.ref b), .val (.int (1 : Int32)), .val (.ref mr), .unset] [(.ref b2)])
  refine own_st (fun _ kt => XS.goto X2.here hx rfl (pc0 := 10) (pc' := 24) rfl (hb hby own_d17_10) (by decide) (by decide) kt) ?_
  show own_Rch p e below _ T2 (mkF m 24 #[.val (.ref b), .val (.int (1 : Int32)), .val (.ref mr), .unset] [(.ref b2)])
  refine own_st (fun _ kt => XS.astoreN X2.here hx rfl (hb hby own_d17_24) rfl rfl (l' := #[.val (.ref b), .val (.int (1 : Int32)), .val (.ref mr), .val (.ref b2)]) rfl kt) ?_
  show own_Rch p e below _ T2 (mkF m 25 #[.val (.ref b), .val (.int (1 : Int32)), .val (.ref mr), .val (.ref b2)] [])
  refine own_st (fun _ kt => XS.aloadN X2.here hx rfl (hb hby own_d17_25) rfl rfl  kt) ?_
  show own_Rch p e below _ T2 (mkF m 26 #[.val (.ref b), .val (.int (1 : Int32)), .val (.ref mr), .val (.ref b2)] [(.ref b)])
  refine own_st (fun _ kt => XS.iconst X2.here hx rfl (hb hby own_d17_26) kt) ?_
  show own_Rch p e below _ T2 (mkF m 27 #[.val (.ref b), .val (.int (1 : Int32)), .val (.ref mr), .val (.ref b2)] [(.int (0 : Int32)), (.ref b)])
  refine own_st (fun _ kt => XS.aloadN X2.here hx rfl (hb hby own_d17_27) rfl rfl  kt) ?_
  show own_Rch p e below _ T2 (mkF m 28 #[.val (.ref b), .val (.int (1 : Int32)), .val (.ref mr), .val (.ref b2)] [(.ref b2), (.int (0 : Int32)), (.ref b)])
  refine own_st (fun _ kt => XS.iconst X2.here hx rfl (hb hby own_d17_28) kt) ?_
  show own_Rch p e below _ T2 (mkF m 29 #[.val (.ref b), .val (.int (1 : Int32)), .val (.ref mr), .val (.ref b2)] [(.int (0 : Int32)), (.ref b2), (.int (0 : Int32)), (.ref b)])
  refine own_st (fun _ kt => XS.aloadN X2.here hx rfl (hb hby own_d17_29) rfl rfl  kt) ?_
  show own_Rch p e below _ T2 (mkF m 30 #[.val (.ref b), .val (.int (1 : Int32)), .val (.ref mr), .val (.ref b2)] [(.ref b), (.int (0 : Int32)), (.ref b2), (.int (0 : Int32)), (.ref b)])
  obtain ⟨cl3, Ar3, -, S3, M3, -, -⟩ := id VB_x2
  refine own_st (X2.arraylength hx (by rw [e2]; exact Ar3.1) (State.isArrayOf_alike (hZ).alike Ar3.2.1) (g := (mkF m 30 #[.val (.ref b), .val (.int (1 : Int32)), .val (.ref mr), .val (.ref b2)] [(.ref b), (.int (0 : Int32)), (.ref b2), (.int (0 : Int32)), (.ref b)])) rfl rfl (hb hby own_d17_30)) ?_
  rw [len_of S3 M3]
  show own_Rch p e below _ T2 (mkF m 31 #[.val (.ref b), .val (.int (1 : Int32)), .val (.ref mr), .val (.ref b2)] [(.int (10 : Int32)), (.int (0 : Int32)), (.ref b2), (.int (0 : Int32)), (.ref b)])
  refine own_st (fun _ kt => XS.iloadN X2.here hx rfl (hb hby own_d17_31) rfl  kt) ?_
  show own_Rch p e below _ T2 (mkF m 32 #[.val (.ref b), .val (.int (1 : Int32)), .val (.ref mr), .val (.ref b2)] [(.int (1 : Int32)), (.int (10 : Int32)), (.int (0 : Int32)), (.ref b2), (.int (0 : Int32)), (.ref b)])
  obtain ⟨_, _, ⟨T4, L4, k4, n4⟩, -, X4, ⟨Lc4, hQ4, l4, y4, z4⟩, st4⟩ := Jvm.LawKit.callS X2 hx (y := (⟨"java/lang/Math", "min", "(II)I"⟩ : MethodName)) hown (mvT hZ (hw _ (List.mem_of_getElem? (i := 129) rfl))) (mvT hZ (hw _ (List.mem_of_getElem? (i := 130) rfl))) (mvT hZ (hw _ (List.mem_of_getElem? (i := 55) rfl))) (mvT hZ (hw _ (List.mem_of_getElem? (i := 131) rfl))) (by decide) (backOf (W := 4) (own_mi l Z a0 hw [] (10 : Int32) (1 : Int32) h2 n0 O0_x2 (by decide)) hZ (hw _ (List.mem_of_getElem? (i := 131) rfl)) (hw _ (List.mem_of_getElem? (i := 55) rfl)) (by decide) (by decide)) (g := (mkF m 32 #[.val (.ref b), .val (.int (1 : Int32)), .val (.ref mr), .val (.ref b2)] [(.int (1 : Int32)), (.int (10 : Int32)), (.int (0 : Int32)), (.ref b2), (.int (0 : Int32)), (.ref b)])) rfl (by rw [hml]; rfl) (argsL := [(.int (10 : Int32)), (.int (1 : Int32))]) (rest := [(.int (0 : Int32)), (.ref b2), (.int (0 : Int32)), (.ref b)]) (lenOf own_pd1 rfl) rfl (by show 2 * 0 + _ ≤ _; exact Nat.le_of_eq rfl) (hb hby own_d17_32) (fun _ _ => ⟨rfl, e2, (by decide : 1 + 0 ≤ _), (by decide : 1 + 0 ≤ _)⟩)
  dsimp only [Pt.U, Pt.locs, Pt.cells, Pt.slots] at X4 l4 y4 z4 st4 hQ4
  subst l4 y4 z4
  obtain ⟨rfl, N4q, hh4⟩ := hQ4
  have N4 := Fr.app N0 N4q
  refine own_st st4 ?_
  show own_Rch p e below _ T4 (mkF m 35 #[.val (.ref b), .val (.int (1 : Int32)), .val (.ref mr), .val (.ref b2)] [(.int (1 : Int32)), (.int (0 : Int32)), (.ref b2), (.int (0 : Int32)), (.ref b)])
  obtain ⟨cl5, Ar5, q5, -⟩ := id V2p
  obtain ⟨T5, h5, lo5, X5, e5, N5, K5, V5, st5⟩ := cpA X4 hx hZ hown (hw _ (List.mem_of_getElem? (i := 132) rfl)) (hw _ (List.mem_of_getElem? (i := 135) rfl)) (hw _ (List.mem_of_getElem? (i := 133) rfl)) (hw _ (List.mem_of_getElem? (i := 134) rfl)) hh4 VB_x2 V2p (us := [(.ref oo)]) (Or.inr ⟨rfl, rfl, ⟨Sto.ofV Ar5 q5 Ov2 (Ins.of_exa (EO.ext O0_x2.2) (hw _ (List.mem_of_getElem? (i := 59) rfl))), trivial⟩⟩) (sp := (0 : Int32)) (dp := (0 : Int32)) (nn := (1 : Int32)) (by decide) (by decide) (by decide) (by decide) (by decide) rfl (by decide) N4 ge2 (g := (mkF m 35 #[.val (.ref b), .val (.int (1 : Int32)), .val (.ref mr), .val (.ref b2)] [(.int (1 : Int32)), (.int (0 : Int32)), (.ref b2), (.int (0 : Int32)), (.ref b)])) rfl (by rw [hml]; rfl) rfl (hb hby own_d17_35) (by decide) (W := 0) (by show 2 * 0 + _ ≤ _; exact Nat.le_of_eq rfl) (by decide)
  have V5s : Arv Z h5 b2 k2 (.object "java/lang/Object") (1 : Int32) [(.ref oo)] .null := V5
  refine own_st st5 ?_
  have O0_x5 := O0_x2.keep K5 (allS ge2 all0)
  have EB_x5 := EB_x2.keep K5
  have VB_x5 := VB_x2.keep K5 (ninS ne2_b nin0)
  have K0_x5 := K0_x2.trans K5 (allS (Or.inr sz2) all0)
  have Ex2_x5 := Ex2.keep K5
  show own_Rch p e below _ T5 (mkF m 38 #[.val (.ref b), .val (.int (1 : Int32)), .val (.ref mr), .val (.ref b2)] [])
  refine own_st (fun _ kt => XS.aloadN X5.here hx rfl (hb hby own_d17_38) rfl rfl  kt) ?_
  show own_Rch p e below _ T5 (mkF m 39 #[.val (.ref b), .val (.int (1 : Int32)), .val (.ref mr), .val (.ref b2)] [(.ref b2)])
  refine own_retA rfl rfl X5 hx Bd.notSynchronized Bd.returns (hb hby own_d17_39) (by decide) (by decide) ?_
  rw [e5]
  exact ⟨_, _, rfl, N5, K0_x5, sz2, Ex2_x5, V5s, Ov2⟩
theorem own_ef16 (m : MethodId) (x0 : Addr) (x1 : Int32) : entryFrame m #[(.ref x0), (.int x1)] 2 = mkF m 0 #[.val (.ref x0), .val (.int x1)] [] := by first | (simp [entryFrame, mkF, argsToLocals, Value.category]; done) | rfl
theorem own_d16_0 : decode jdk_65_method_119_code 0 = .ok (.aload_n 0, 1) := by decide +kernel
theorem own_d16_1 : decode jdk_65_method_119_code 1 = .ok (.iload_n 1, 1) := by decide +kernel
theorem own_d16_2 : decode jdk_65_method_119_code 2 = .ok (.aload_n 0, 1) := by decide +kernel
theorem own_d16_3 : decode jdk_65_method_119_code 3 = .ok (.invokevirtual 86, 3) := by decide +kernel
theorem own_d16_6 : decode jdk_65_method_119_code 6 = .ok (.invokestatic 300, 3) := by decide +kernel
theorem own_pd5 : parseMethodDescriptor "([Ljava/lang/Object;ILjava/lang/Class;)[Ljava/lang/Object;" = some ⟨[(.array (.object "java/lang/Object")), .int, (.object "java/lang/Class")], some (.array (.object "java/lang/Object"))⟩ := by decide +kernel
theorem own_d16_9 : decode jdk_65_method_119_code 9 = .ok (.areturn, 1) := by decide +kernel
def own_Q_own_copy2_1 (Z : State) (b : Addr) (kb : ClassId) (mr : Addr) (zz : Addr) (oo : Addr) (h0 : Heap) (n0 : Nat) (v : Option Value) (h : Heap) (L : List Loc) : Prop := ∃ (r : Addr) (kr : ClassId), v = some (.ref r) ∧ Fr n0 L ∧ Keep h0 h [] ∧ h0.size ≤ r ∧ Exa Z h r "[Ljava/lang/Object;" ∧ Arv Z h r kr (.object "java/lang/Object") (1 : Int32) [(.ref oo)] .null ∧ Ovr Z kr "java/lang/Object"
set_option maxRecDepth 65536 in
set_option maxHeartbeats 40000000 in
theorem own_copy2_1 (l : Launch) (Z : State) (a0 : Array Value) (hw : ∀ d ∈ tables_1, d.before a0 Z = true) (ws : List Jvm.Cond) (b : Addr) (kb : ClassId) (mr : Addr) (zz : Addr) (oo : Addr) (h0 : Heap) (n0 : Nat) (O0 : Old Z n0 h0) (EB : Exa Z h0 b "[Ljava/lang/Object;") (VB : Arv Z h0 b kb (.object "java/lang/Object") (10 : Int32) [(.ref oo), .null, .null, .null, .null, .null, .null, .null, .null, .null] .null) (EZ : Exa Z Z.heap zz "java/math/BigDecimal") (EO : Exa Z Z.heap oo "java/math/BigDecimal") (MR : own_Mir Z "[Ljava/lang/Object;" mr) :
    MetFree l (⟨"java/util/Arrays", "copyOf", "([Ljava/lang/Object;I)[Ljava/lang/Object;"⟩ : MethodName) (head1 (Jvm.Cond.code (⟨"java/util/Arrays", "copyOf", "([Ljava/lang/Object;I)[Ljava/lang/Object;"⟩ : MethodName) jdk_65_method_119_code 2 (some (.array (.object "java/lang/Object"))) :: ws) ({ frames := 2, cells := 1, slots := 1, locals := 33 } : Room)) (fun args_ U => args_ = #[(.ref b), (.int (1 : Int32))] ∧ Z.Warmed39 U.vm ∧ U.heap = h0) (fun _ _ _ _ _ => True) (fun _ U o U' => ∃ v L, o = .returned v ∧ (own_Q_own_copy2_1 Z b kb mr zz oo h0 n0) v U'.heap L ∧ FrameEnd U o U' L ({ frames := 2, cells := 1, slots := 1, locals := 33 } : Room).cells ({ frames := 2, cells := 1, slots := 1, locals := 33 } : Room).slots) := by
  refine MetFree.of_bodySF (plainFor_of_name own_pn6) hisR ?_
  intro p e s m args below meth c s₁ Bd hml0 hP hK
  obtain ⟨rfl, hZ, hh⟩ := hP
  have hx := Bd.exec
  have hby := Bd.bytes
  have hml : c.maxLocals = 2 := hml0
  have hown : s.vm.findClass "java/util/Arrays" = some m.cls := findClass_of_methodNamed Bd.named
  have hnm := (name_of_methodNamed Bd.named Bd.method).1
  have X0 : Stand p l e ({ frames := 2, cells := 1, slots := 1, locals := 33 } : Room) s m #[(.ref b), (.int (1 : Int32))] below meth c s₁ [] 0 0 := Stand.of_body Bd
  have e0 : s₁.heap = h0 := by rw [← hh, Bd.state]; rfl
  have N0 := Fr.nil n0
  refine own_close (s := s) (Q := (own_Q_own_copy2_1 Z b kb mr zz oo h0 n0)) (C := (({ frames := 2, cells := 1, slots := 1, locals := 33 } : Room)).cells) (N := (({ frames := 2, cells := 1, slots := 1, locals := 33 } : Room)).slots) (own_st (fun _ kt => castTop (own_ef16 m b (1 : Int32)) kt) ?_)
  have K0 := Keep.refl h0 []
  show own_Rch p e below _ s₁ (mkF m 0 #[.val (.ref b), .val (.int (1 : Int32))] [])
  refine own_st (fun _ kt => XS.aloadN X0.here hx rfl (hb hby own_d16_0) rfl rfl  kt) ?_
  show own_Rch p e below _ s₁ (mkF m 1 #[.val (.ref b), .val (.int (1 : Int32))] [(.ref b)])
  refine own_st (fun _ kt => XS.iloadN X0.here hx rfl (hb hby own_d16_1) rfl  kt) ?_
  show own_Rch p e below _ s₁ (mkF m 2 #[.val (.ref b), .val (.int (1 : Int32))] [(.int (1 : Int32)), (.ref b)])
  refine own_st (fun _ kt => XS.aloadN X0.here hx rfl (hb hby own_d16_2) rfl rfl  kt) ?_
  show own_Rch p e below _ s₁ (mkF m 3 #[.val (.ref b), .val (.int (1 : Int32))] [(.ref b), (.int (1 : Int32)), (.ref b)])
  obtain ⟨T1, X1, e1, st1⟩ := own_gcls X0 hx hZ hown (hw _ (List.mem_of_getElem? (i := 118) rfl)) (hw _ (List.mem_of_getElem? (i := 119) rfl)) (hw _ (List.mem_of_getElem? (i := 95) rfl)) (hw _ (List.mem_of_getElem? (i := 121) rfl)) (hw _ (List.mem_of_getElem? (i := 120) rfl)) (hw _ (List.mem_of_getElem? (i := 122) rfl)) e0 EB MR (g := (mkF m 3 #[.val (.ref b), .val (.int (1 : Int32))] [(.ref b), (.int (1 : Int32)), (.ref b)])) rfl (by rw [hml]; rfl) rfl (hb hby own_d16_3) (by decide) (W := 2) (by show 2 * 0 + _ ≤ _; exact Nat.le_of_eq rfl) (by decide)
  refine own_st st1 ?_
  show own_Rch p e below _ T1 (mkF m 6 #[.val (.ref b), .val (.int (1 : Int32))] [(.ref mr), (.int (1 : Int32)), (.ref b)])
  obtain ⟨_, _, ⟨T2, L2, k2, n2⟩, -, X2, ⟨Lc2, hQ2, l2, y2, z2⟩, st2⟩ := Jvm.LawKit.callS X1 hx (y := (⟨"java/util/Arrays", "copyOf", "([Ljava/lang/Object;ILjava/lang/Class;)[Ljava/lang/Object;"⟩ : MethodName)) hown (mvT hZ (hw _ (List.mem_of_getElem? (i := 124) rfl))) (mvT hZ (hw _ (List.mem_of_getElem? (i := 125) rfl))) (mvT hZ (hw _ (List.mem_of_getElem? (i := 116) rfl))) (mvT hZ (hw _ (List.mem_of_getElem? (i := 126) rfl))) (by decide) (backOf (W := 0) (own_copy3_1 l Z a0 hw [] b kb mr zz oo h0 n0 O0 EB VB EZ EO MR) hZ (hw _ (List.mem_of_getElem? (i := 126) rfl)) (hw _ (List.mem_of_getElem? (i := 116) rfl)) (by decide) (by decide)) (g := (mkF m 6 #[.val (.ref b), .val (.int (1 : Int32))] [(.ref mr), (.int (1 : Int32)), (.ref b)])) rfl (by rw [hml]; rfl) (argsL := [(.ref b), (.int (1 : Int32)), (.ref mr)]) (rest := []) (lenOf own_pd5 rfl) rfl (by show 2 * 0 + _ ≤ _; exact Nat.le_of_eq rfl) (hb hby own_d16_6) (fun _ _ => ⟨rfl, e1, (by decide : 0 + 1 ≤ _), (by decide : 0 + 1 ≤ _)⟩)
  dsimp only [Pt.U, Pt.locs, Pt.cells, Pt.slots] at X2 l2 y2 z2 st2 hQ2
  subst l2 y2 z2
  obtain ⟨br2, kr2, rfl, N2q, K2, hb2, Er2, Vr2, Or2⟩ := hQ2
  have N2 := Fr.app N0 N2q
  refine own_st st2 ?_
  have ne2_b_br2 : b ≠ br2 := Nat.ne_of_lt (Nat.lt_of_lt_of_le EB.lt hb2)
  have ge2_br2 : n0 ≤ br2 := Nat.le_trans (own_old_le O0) hb2
  have sz2_br2 : h0.size ≤ br2 := Nat.le_trans K0.1 hb2
  have O0_x2 := O0.keep K2 all0
  have EB_x2 := EB.keep K2
  have VB_x2 := VB.keep K2 nin0
  have K0_x2 := K0.trans K2 all0
  show own_Rch p e below _ T2 (mkF m 9 #[.val (.ref b), .val (.int (1 : Int32))] [(.ref br2)])
  refine own_retA rfl rfl X2 hx Bd.notSynchronized Bd.returns (hb hby own_d16_9) (by decide) (by decide) ?_
  exact ⟨_, _, rfl, N2, K0_x2, sz2_br2, Er2, Vr2, Or2⟩
theorem own_ef15 (m : MethodId) (x0 : Addr) : entryFrame m #[(.ref x0)] 1 = mkF m 0 #[.val (.ref x0)] [] := by first | (simp [entryFrame, mkF, argsToLocals, Value.category]; done) | rfl
theorem own_d15_0 : decode jdk_38_method_16_code 0 = .ok (.aload_n 0, 1) := by decide +kernel
theorem own_d15_1 : decode jdk_38_method_16_code 1 = .ok (.getfield 9, 3) := by decide +kernel
theorem own_d15_4 : decode jdk_38_method_16_code 4 = .ok (.aload_n 0, 1) := by decide +kernel
theorem own_d15_5 : decode jdk_38_method_16_code 5 = .ok (.getfield 48, 3) := by decide +kernel
theorem own_d15_8 : decode jdk_38_method_16_code 8 = .ok (.invokestatic 66, 3) := by decide +kernel
theorem own_pd6 : parseMethodDescriptor "([Ljava/lang/Object;I)[Ljava/lang/Object;" = some ⟨[(.array (.object "java/lang/Object")), .int], some (.array (.object "java/lang/Object"))⟩ := by decide +kernel
theorem own_d15_11 : decode jdk_38_method_16_code 11 = .ok (.areturn, 1) := by decide +kernel
def own_Q_own_toarr_1 (Z : State) (a : Addr) (b : Addr) (kb : ClassId) (mr : Addr) (zz : Addr) (oo : Addr) (h0 : Heap) (n0 : Nat) (v : Option Value) (h : Heap) (L : List Loc) : Prop := ∃ (r : Addr) (kr : ClassId), v = some (.ref r) ∧ Fr n0 L ∧ Keep h0 h [] ∧ h0.size ≤ r ∧ Exa Z h r "[Ljava/lang/Object;" ∧ Arv Z h r kr (.object "java/lang/Object") (1 : Int32) [(.ref oo)] .null ∧ Ovr Z kr "java/lang/Object"
set_option maxRecDepth 65536 in
set_option maxHeartbeats 40000000 in
theorem own_toarr_1 (l : Launch) (Z : State) (a0 : Array Value) (hw : ∀ d ∈ tables_1, d.before a0 Z = true) (ws : List Jvm.Cond) (a : Addr) (b : Addr) (kb : ClassId) (mr : Addr) (zz : Addr) (oo : Addr) (h0 : Heap) (n0 : Nat) (O0 : Old Z n0 h0) (EA : Exa Z h0 a "java/util/ArrayList") (FE : Fld Z h0 a "java/util/ArrayList" "elementData" "[Ljava/lang/Object;" (.ref b)) (FZ : Fld Z h0 a "java/util/ArrayList" "size" "I" (.int (1 : Int32))) (FM : Fld Z h0 a "java/util/AbstractList" "modCount" "I" (.int (1 : Int32))) (EB : Exa Z h0 b "[Ljava/lang/Object;") (VB : Arv Z h0 b kb (.object "java/lang/Object") (10 : Int32) [(.ref oo), .null, .null, .null, .null, .null, .null, .null, .null, .null] .null) (EZ : Exa Z Z.heap zz "java/math/BigDecimal") (EO : Exa Z Z.heap oo "java/math/BigDecimal") (MR : own_Mir Z "[Ljava/lang/Object;" mr) :
    MetFree l (⟨"java/util/ArrayList", "toArray", "()[Ljava/lang/Object;"⟩ : MethodName) (head1 (Jvm.Cond.code (⟨"java/util/ArrayList", "toArray", "()[Ljava/lang/Object;"⟩ : MethodName) jdk_38_method_16_code 1 (some (.array (.object "java/lang/Object"))) :: ws) ({ frames := 3, cells := 1, slots := 1, locals := 46 } : Room)) (fun args_ U => args_ = #[(.ref a)] ∧ Z.Warmed39 U.vm ∧ U.heap = h0) (fun _ _ _ _ _ => True) (fun _ U o U' => ∃ v L, o = .returned v ∧ (own_Q_own_toarr_1 Z a b kb mr zz oo h0 n0) v U'.heap L ∧ FrameEnd U o U' L ({ frames := 3, cells := 1, slots := 1, locals := 46 } : Room).cells ({ frames := 3, cells := 1, slots := 1, locals := 46 } : Room).slots) := by
  refine MetFree.of_bodySF (plainFor_of_name own_pn4) hisR ?_
  intro p e s m args below meth c s₁ Bd hml0 hP hK
  obtain ⟨rfl, hZ, hh⟩ := hP
  have hx := Bd.exec
  have hby := Bd.bytes
  have hml : c.maxLocals = 1 := hml0
  have hown : s.vm.findClass "java/util/ArrayList" = some m.cls := findClass_of_methodNamed Bd.named
  have hnm := (name_of_methodNamed Bd.named Bd.method).1
  have X0 : Stand p l e ({ frames := 3, cells := 1, slots := 1, locals := 46 } : Room) s m #[(.ref a)] below meth c s₁ [] 0 0 := Stand.of_body Bd
  have e0 : s₁.heap = h0 := by rw [← hh, Bd.state]; rfl
  have N0 := Fr.nil n0
  refine own_close (s := s) (Q := (own_Q_own_toarr_1 Z a b kb mr zz oo h0 n0)) (C := (({ frames := 3, cells := 1, slots := 1, locals := 46 } : Room)).cells) (N := (({ frames := 3, cells := 1, slots := 1, locals := 46 } : Room)).slots) (own_st (fun _ kt => castTop (own_ef15 m a) kt) ?_)
  have K0 := Keep.refl h0 []
  show own_Rch p e below _ s₁ (mkF m 0 #[.val (.ref a)] [])
  refine own_st (fun _ kt => XS.aloadN X0.here hx rfl (hb hby own_d15_0) rfl rfl  kt) ?_
  show own_Rch p e below _ s₁ (mkF m 1 #[.val (.ref a)] [(.ref a)])
  obtain ⟨T1, X1, e1, st1⟩ := getF X0 hx hZ hown (host := "") (Or.inl (hw _ (List.mem_of_getElem? (i := 25) rfl))) Via.refl e0 FE (g := (mkF m 1 #[.val (.ref a)] [(.ref a)])) rfl rfl (hb hby own_d15_1)
  refine own_st st1 ?_
  show own_Rch p e below _ T1 (mkF m 4 #[.val (.ref a)] [(.ref b)])
  refine own_st (fun _ kt => XS.aloadN X1.here hx rfl (hb hby own_d15_4) rfl rfl  kt) ?_
  show own_Rch p e below _ T1 (mkF m 5 #[.val (.ref a)] [(.ref a), (.ref b)])
  obtain ⟨T2, X2, e2, st2⟩ := getF X1 hx hZ hown (host := "") (Or.inl (hw _ (List.mem_of_getElem? (i := 36) rfl))) Via.refl e1 FZ (g := (mkF m 5 #[.val (.ref a)] [(.ref a), (.ref b)])) rfl rfl (hb hby own_d15_5)
  refine own_st st2 ?_
  show own_Rch p e below _ T2 (mkF m 8 #[.val (.ref a)] [(.int (1 : Int32)), (.ref b)])
  obtain ⟨_, _, ⟨T3, L3, k3, n3⟩, -, X3, ⟨Lc3, hQ3, l3, y3, z3⟩, st3⟩ := Jvm.LawKit.callS X2 hx (y := (⟨"java/util/Arrays", "copyOf", "([Ljava/lang/Object;I)[Ljava/lang/Object;"⟩ : MethodName)) hown (mvT hZ (hw _ (List.mem_of_getElem? (i := 114) rfl))) (mvT hZ (hw _ (List.mem_of_getElem? (i := 115) rfl))) (mvT hZ (hw _ (List.mem_of_getElem? (i := 116) rfl))) (mvT hZ (hw _ (List.mem_of_getElem? (i := 117) rfl))) (by decide) (backOf (W := 0) (own_copy2_1 l Z a0 hw [] b kb mr zz oo h0 n0 O0 EB VB EZ EO MR) hZ (hw _ (List.mem_of_getElem? (i := 117) rfl)) (hw _ (List.mem_of_getElem? (i := 116) rfl)) (by decide) (by decide)) (g := (mkF m 8 #[.val (.ref a)] [(.int (1 : Int32)), (.ref b)])) rfl (by rw [hml]; rfl) (argsL := [(.ref b), (.int (1 : Int32))]) (rest := []) (lenOf own_pd6 rfl) rfl (by show 2 * 0 + _ ≤ _; exact Nat.le_of_eq rfl) (hb hby own_d15_8) (fun _ _ => ⟨rfl, e2, (by decide : 0 + 1 ≤ _), (by decide : 0 + 1 ≤ _)⟩)
  dsimp only [Pt.U, Pt.locs, Pt.cells, Pt.slots] at X3 l3 y3 z3 st3 hQ3
  subst l3 y3 z3
  obtain ⟨br3, kr3, rfl, N3q, K3, hb3, Er3, Vr3, Or3⟩ := hQ3
  have N3 := Fr.app N0 N3q
  refine own_st st3 ?_
  have ne3_a_br3 : a ≠ br3 := Nat.ne_of_lt (Nat.lt_of_lt_of_le EA.lt hb3)
  have ne3_b_br3 : b ≠ br3 := Nat.ne_of_lt (Nat.lt_of_lt_of_le EB.lt hb3)
  have ge3_br3 : n0 ≤ br3 := Nat.le_trans (own_old_le O0) hb3
  have sz3_br3 : h0.size ≤ br3 := Nat.le_trans K0.1 hb3
  have O0_x3 := O0.keep K3 all0
  have EA_x3 := EA.keep K3
  have FE_x3 := FE.keep K3 nin0
  have FZ_x3 := FZ.keep K3 nin0
  have FM_x3 := FM.keep K3 nin0
  have EB_x3 := EB.keep K3
  have VB_x3 := VB.keep K3 nin0
  have K0_x3 := K0.trans K3 all0
  show own_Rch p e below _ T3 (mkF m 11 #[.val (.ref a)] [(.ref br3)])
  refine own_retA rfl rfl X3 hx Bd.notSynchronized Bd.returns (hb hby own_d15_11) (by decide) (by decide) ?_
  exact ⟨_, _, rfl, N3, K0_x3, sz3_br3, Er3, Vr3, Or3⟩
theorem own_pn7 : plainName "java/util/ImmutableCollections$List12" = true := by first | (simp [plainName, overriddenIn]; done) | decide +kernel
theorem own_ef30 (m : MethodId) (x0 : Addr) (x1 : Addr) : entryFrame m #[(.ref x0), (.ref x1)] 2 = mkF m 0 #[.val (.ref x0), .val (.ref x1)] [] := by first | (simp [entryFrame, mkF, argsToLocals, Value.category]; done) | rfl
theorem own_d30_0 : decode jdk_44_method_1_code 0 = .ok (.aload_n 0, 1) := by decide +kernel
theorem own_d30_1 : decode jdk_44_method_1_code 1 = .ok (.invokespecial 1, 3) := by decide +kernel
theorem own_d30_4 : decode jdk_44_method_1_code 4 = .ok (.aload_n 0, 1) := by decide +kernel
theorem own_d30_5 : decode jdk_44_method_1_code 5 = .ok (.aload_n 1, 1) := by decide +kernel
theorem own_d30_6 : decode jdk_44_method_1_code 6 = .ok (.invokestatic 7, 3) := by decide +kernel
theorem own_pd7 : parseMethodDescriptor "(Ljava/lang/Object;)Ljava/lang/Object;" = some ⟨[(.object "java/lang/Object")], some (.object "java/lang/Object")⟩ := by decide +kernel
theorem own_d30_9 : decode jdk_44_method_1_code 9 = .ok (.putfield 13, 3) := by decide +kernel
theorem own_d30_12 : decode jdk_44_method_1_code 12 = .ok (.aload_n 0, 1) := by decide +kernel
theorem own_d30_13 : decode jdk_44_method_1_code 13 = .ok (.getstatic 19, 3) := by decide +kernel
theorem own_d30_16 : decode jdk_44_method_1_code 16 = .ok (.putfield 24, 3) := by decide +kernel
theorem own_d30_19 : decode jdk_44_method_1_code 19 = .ok (.return_, 1) := by decide +kernel
def own_Q_own_l12_1 (Z : State) (a : Addr) (x : Addr) (em : Addr) (h0 : Heap) (n0 : Nat) (v : Option Value) (h : Heap) (L : List Loc) : Prop := v = none ∧ Fr n0 L ∧ Keep h0 h [a] ∧ Exa Z h a "java/util/ImmutableCollections$List12" ∧ Fld Z h a "java/util/ImmutableCollections$List12" "e1" "Ljava/lang/Object;" (.ref em)
set_option maxRecDepth 65536 in
set_option maxHeartbeats 40000000 in
theorem own_l12_1 (l : Launch) (Z : State) (a0 : Array Value) (hw : ∀ d ∈ tables_1, d.before a0 Z = true) (ws : List Jvm.Cond) (a : Addr) (x : Addr) (em : Addr) (h0 : Heap) (n0 : Nat) (O0 : Old Z n0 h0) (SE : Sta Z Z.heap "java/util/ImmutableCollections" "EMPTY" "Ljava/lang/Object;" (.ref em)) (EA : Exa Z h0 a "java/util/ImmutableCollections$List12") (F0 : Fld Z h0 a "java/util/ImmutableCollections$List12" "e0" "Ljava/lang/Object;" .null) (F1 : Fld Z h0 a "java/util/ImmutableCollections$List12" "e1" "Ljava/lang/Object;" .null) (ga : n0 ≤ a) :
    MetFree l (⟨"java/util/ImmutableCollections$List12", "<init>", "(Ljava/lang/Object;)V"⟩ : MethodName) (head1 (Jvm.Cond.code (⟨"java/util/ImmutableCollections$List12", "<init>", "(Ljava/lang/Object;)V"⟩ : MethodName) jdk_44_method_1_code 2 none :: ws) ({ frames := 4, cells := 0, slots := 0, locals := 48 } : Room)) (fun args_ U => args_ = #[(.ref a), (.ref x)] ∧ Z.Warmed39 U.vm ∧ U.heap = h0) (fun _ _ _ _ _ => True) (fun _ U o U' => ∃ v L, o = .returned v ∧ (own_Q_own_l12_1 Z a x em h0 n0) v U'.heap L ∧ FrameEnd U o U' L ({ frames := 4, cells := 0, slots := 0, locals := 48 } : Room).cells ({ frames := 4, cells := 0, slots := 0, locals := 48 } : Room).slots) := by
  refine MetFree.of_bodySF (plainFor_of_name own_pn7) hisR ?_
  intro p e s m args below meth c s₁ Bd hml0 hP hK
  obtain ⟨rfl, hZ, hh⟩ := hP
  have hx := Bd.exec
  have hby := Bd.bytes
  have hml : c.maxLocals = 2 := hml0
  have hown : s.vm.findClass "java/util/ImmutableCollections$List12" = some m.cls := findClass_of_methodNamed Bd.named
  have hnm := (name_of_methodNamed Bd.named Bd.method).1
  have X0 : Stand p l e ({ frames := 4, cells := 0, slots := 0, locals := 48 } : Room) s m #[(.ref a), (.ref x)] below meth c s₁ [] 0 0 := Stand.of_body Bd
  have e0 : s₁.heap = h0 := by rw [← hh, Bd.state]; rfl
  have N0 := Fr.nil n0
  refine own_close (s := s) (Q := (own_Q_own_l12_1 Z a x em h0 n0)) (C := (({ frames := 4, cells := 0, slots := 0, locals := 48 } : Room)).cells) (N := (({ frames := 4, cells := 0, slots := 0, locals := 48 } : Room)).slots) (own_st (fun _ kt => castTop (own_ef30 m a x) kt) ?_)
  have K0 := Keep.refl h0 [a]
  show own_Rch p e below _ s₁ (mkF m 0 #[.val (.ref a), .val (.ref x)] [])
  refine own_st (fun _ kt => XS.aloadN X0.here hx rfl (hb hby own_d30_0) rfl rfl  kt) ?_
  show own_Rch p e below _ s₁ (mkF m 1 #[.val (.ref a), .val (.ref x)] [(.ref a)])
  obtain ⟨_, _, ⟨T1, L1, k1, n1⟩, -, X1, ⟨Lc1, hQ1, l1, y1, z1⟩, st1⟩ := X0.specialBack hx (y := (⟨"java/util/ImmutableCollections$AbstractImmutableList", "<init>", "()V"⟩ : MethodName)) rfl hown (mvT hZ (hw _ (List.mem_of_getElem? (i := 203) rfl))) (mvT hZ (hw _ (List.mem_of_getElem? (i := 154) rfl))) (mvT hZ (hw _ (List.mem_of_getElem? (i := 158) rfl))) (by decide) (backOf (W := 0) (own_ail l Z a0 hw [] a h0 n0 O0 ) hZ (hw _ (List.mem_of_getElem? (i := 158) rfl)) (hw _ (List.mem_of_getElem? (i := 157) rfl)) (by decide) (by decide)) (g := (mkF m 1 #[.val (.ref a), .val (.ref x)] [(.ref a)])) rfl (by rw [hml]; rfl) (Steps.refl _) (a := a) (argsL := []) (rest := []) (lenOf own_pd0 rfl) rfl (by show 2 * 0 + _ ≤ _; exact Nat.le_of_eq rfl) (hb hby own_d30_1) (fun _ _ => ⟨rfl, e0, (by decide : 0 + 0 ≤ _), (by decide : 0 + 0 ≤ _)⟩)
  dsimp only [Pt.U, Pt.locs, Pt.cells, Pt.slots] at X1 l1 y1 z1 st1 hQ1
  subst l1 y1 z1
  obtain ⟨rfl, N1q, hh1⟩ := hQ1
  have N1 := Fr.app N0 N1q
  refine own_st (fun _ kt => st1.trans kt) ?_
  show own_Rch p e below _ T1 (mkF m 4 #[.val (.ref a), .val (.ref x)] [])
  refine own_st (fun _ kt => XS.aloadN X1.here hx rfl (hb hby own_d30_4) rfl rfl  kt) ?_
  show own_Rch p e below _ T1 (mkF m 5 #[.val (.ref a), .val (.ref x)] [(.ref a)])
  refine own_st (fun _ kt => XS.aloadN X1.here hx rfl (hb hby own_d30_5) rfl rfl  kt) ?_
  show own_Rch p e below _ T1 (mkF m 6 #[.val (.ref a), .val (.ref x)] [(.ref x), (.ref a)])
  obtain ⟨_, _, ⟨T2, L2, k2, n2⟩, -, X2, ⟨Lc2, hQ2, l2, y2, z2⟩, st2⟩ := Jvm.LawKit.callS X1 hx (y := (⟨"java/util/Objects", "requireNonNull", "(Ljava/lang/Object;)Ljava/lang/Object;"⟩ : MethodName)) hown (mvT hZ (hw _ (List.mem_of_getElem? (i := 207) rfl))) (mvT hZ (hw _ (List.mem_of_getElem? (i := 144) rfl))) (mvT hZ (hw _ (List.mem_of_getElem? (i := 145) rfl))) (mvT hZ (hw _ (List.mem_of_getElem? (i := 146) rfl))) (by decide) (backOf (W := 1) (own_rnn l Z a0 hw [] x h0 n0 O0 ) hZ (hw _ (List.mem_of_getElem? (i := 146) rfl)) (hw _ (List.mem_of_getElem? (i := 145) rfl)) (by decide) (by decide)) (g := (mkF m 6 #[.val (.ref a), .val (.ref x)] [(.ref x), (.ref a)])) rfl (by rw [hml]; rfl) (argsL := [(.ref x)]) (rest := [(.ref a)]) (lenOf own_pd7 rfl) rfl (by show 2 * 0 + _ ≤ _; exact Nat.le_of_eq rfl) (hb hby own_d30_6) (fun _ _ => ⟨rfl, hh1, (by decide : 0 + 0 ≤ _), (by decide : 0 + 0 ≤ _)⟩)
  dsimp only [Pt.U, Pt.locs, Pt.cells, Pt.slots] at X2 l2 y2 z2 st2 hQ2
  subst l2 y2 z2
  obtain ⟨rfl, N2q, hh2⟩ := hQ2
  have N2 := Fr.app N1 N2q
  refine own_st st2 ?_
  show own_Rch p e below _ T2 (mkF m 9 #[.val (.ref a), .val (.ref x)] [(.ref x), (.ref a)])
  obtain ⟨T3, h3, X3, e3, W3, st3⟩ := putF X2 hx hZ hown (host := "") (Or.inl (hw _ (List.mem_of_getElem? (i := 208) rfl))) Via.refl hh2 F0 EA (Or.inr ⟨(hw _ (List.mem_of_getElem? (i := 209) rfl)), rfl, hnm⟩) (hw _ (List.mem_of_getElem? (i := 197) rfl)) (ty := (.object "java/lang/Object")) (by decide) rfl rfl (g := (mkF m 9 #[.val (.ref a), .val (.ref x)] [(.ref x), (.ref a)])) rfl rfl (hb hby own_d30_9)
  refine own_st st3 ?_
  have Fw3 := F0.same W3
  have N3 := Fr.snoc X3 N2 ga
  have O0_x3 := O0.wr W3 ga
  have EA_x3 := EA.wr W3
  have F1_x3 := F1.other W3 (Or.inr (slot_ne (Or.inr (hw _ (List.mem_of_getElem? (i := 211) rfl))) (Or.inr (hw _ (List.mem_of_getElem? (i := 209) rfl))) (by decide) (t := (.object "java/lang/Object")) (t' := (.object "java/lang/Object")) (by decide) (by decide)))
  have K0_x3 := K0.wr W3 (Or.inl (List.mem_of_getElem? (i := 0) rfl))
  show own_Rch p e below _ T3 (mkF m 12 #[.val (.ref a), .val (.ref x)] [])
  refine own_st (fun _ kt => XS.aloadN X3.here hx rfl (hb hby own_d30_12) rfl rfl  kt) ?_
  show own_Rch p e below _ T3 (mkF m 13 #[.val (.ref a), .val (.ref x)] [(.ref a)])
  obtain ⟨T4, X4, e4, st4⟩ := getS2 X3 hx hZ hown (Or.inr (hw _ (List.mem_of_getElem? (i := 218) rfl))) Via.refl e3 (SE.ext O0_x3.2) (g := (mkF m 13 #[.val (.ref a), .val (.ref x)] [(.ref a)])) rfl (hb hby own_d30_13)
  refine own_st st4 ?_
  show own_Rch p e below _ T4 (mkF m 16 #[.val (.ref a), .val (.ref x)] [(.ref em), (.ref a)])
  obtain ⟨T5, h5, X5, e5, W5, st5⟩ := putF X4 hx hZ hown (host := "") (Or.inl (hw _ (List.mem_of_getElem? (i := 210) rfl))) Via.refl e4 F1_x3 EA_x3 (Or.inr ⟨(hw _ (List.mem_of_getElem? (i := 211) rfl)), rfl, hnm⟩) (hw _ (List.mem_of_getElem? (i := 197) rfl)) (ty := (.object "java/lang/Object")) (by decide) rfl rfl (g := (mkF m 16 #[.val (.ref a), .val (.ref x)] [(.ref em), (.ref a)])) rfl rfl (hb hby own_d30_16)
  refine own_st st5 ?_
  have Fw5 := F1_x3.same W5
  have N5 := Fr.snoc X5 N3 ga
  have O0_x5 := O0_x3.wr W5 ga
  have EA_x5 := EA_x3.wr W5
  have Fw3_x5 := Fw3.other W5 (Or.inr (slot_ne (Or.inr (hw _ (List.mem_of_getElem? (i := 209) rfl))) (Or.inr (hw _ (List.mem_of_getElem? (i := 211) rfl))) (by decide) (t := (.object "java/lang/Object")) (t' := (.object "java/lang/Object")) (by decide) (by decide)))
  have K0_x5 := K0_x3.wr W5 (Or.inl (List.mem_of_getElem? (i := 0) rfl))
  show own_Rch p e below _ T5 (mkF m 19 #[.val (.ref a), .val (.ref x)] [])
  refine own_retV X5 hx Bd.notSynchronized Bd.returns (hb hby own_d30_19) (by decide) (by decide) ?_
  rw [e5]
  exact ⟨rfl, N5, K0_x5, EA_x5, Fw5⟩
theorem own_pn8 : plainName "java/util/List" = true := by first | (simp [plainName, overriddenIn]; done) | decide +kernel
theorem own_ef19 (m : MethodId) (x0 : Addr) : entryFrame m #[(.ref x0)] 2 = mkF m 0 #[.val (.ref x0), .unset] [] := by first | (simp [entryFrame, mkF, argsToLocals, Value.category]; done) | rfl
theorem own_d19_0 : decode jdk_40_method_47_code 0 = .ok (.aload_n 0, 1) := by decide +kernel
theorem own_d19_1 : decode jdk_40_method_47_code 1 = .ok (.arraylength, 1) := by decide +kernel
theorem own_d19_2 : decode jdk_40_method_47_code 2 = .ok (.tableswitch 57 0 2 #[26, 32, 43], 26) := by decide +kernel
theorem own_d19_34 : decode jdk_40_method_47_code 34 = .ok (.new 96, 3) := by decide +kernel
theorem own_d19_37 : decode jdk_40_method_47_code 37 = .ok (.dup, 1) := by decide +kernel
theorem own_d19_38 : decode jdk_40_method_47_code 38 = .ok (.aload_n 0, 1) := by decide +kernel
theorem own_d19_39 : decode jdk_40_method_47_code 39 = .ok (.iconst 0, 1) := by decide +kernel
theorem own_d19_40 : decode jdk_40_method_47_code 40 = .ok (.aaload, 1) := by decide +kernel
theorem own_d19_41 : decode jdk_40_method_47_code 41 = .ok (.invokespecial 98, 3) := by decide +kernel
theorem own_pd8 : parseMethodDescriptor "(Ljava/lang/Object;)V" = some ⟨[(.object "java/lang/Object")], none⟩ := by decide +kernel
theorem own_d19_44 : decode jdk_40_method_47_code 44 = .ok (.areturn, 1) := by decide +kernel
def own_Q_own_lof_1 (Z : State) (b : Addr) (kb : ClassId) (zz : Addr) (oo : Addr) (em : Addr) (h0 : Heap) (n0 : Nat) (v : Option Value) (h : Heap) (L : List Loc) : Prop := ∃ q : Addr, v = some (.ref q) ∧ Fr n0 L ∧ Keep h0 h [] ∧ h0.size ≤ q ∧ Exa Z h q "java/util/ImmutableCollections$List12" ∧ Fld Z h q "java/util/ImmutableCollections$List12" "e1" "Ljava/lang/Object;" (.ref em)
set_option maxRecDepth 65536 in
set_option maxHeartbeats 40000000 in
theorem own_lof_1 (l : Launch) (Z : State) (a0 : Array Value) (hw : ∀ d ∈ tables_1, d.before a0 Z = true) (ws : List Jvm.Cond) (b : Addr) (kb : ClassId) (zz : Addr) (oo : Addr) (em : Addr) (h0 : Heap) (n0 : Nat) (O0 : Old Z n0 h0) (VB : Arv Z h0 b kb (.object "java/lang/Object") (1 : Int32) [(.ref oo)] .null) (EZ : Exa Z Z.heap zz "java/math/BigDecimal") (EO : Exa Z Z.heap oo "java/math/BigDecimal") (SE : Sta Z Z.heap "java/util/ImmutableCollections" "EMPTY" "Ljava/lang/Object;" (.ref em)) :
    MetFree l (⟨"java/util/List", "of", "([Ljava/lang/Object;)Ljava/util/List;"⟩ : MethodName) (head1 (Jvm.Cond.code (⟨"java/util/List", "of", "([Ljava/lang/Object;)Ljava/util/List;"⟩ : MethodName) jdk_40_method_47_code 2 (some (.object "java/util/List")) :: ws) ({ frames := 5, cells := 1, slots := 2, locals := 62 } : Room)) (fun args_ U => args_ = #[(.ref b)] ∧ Z.Warmed39 U.vm ∧ U.heap = h0) (fun _ _ _ _ _ => True) (fun _ U o U' => ∃ v L, o = .returned v ∧ (own_Q_own_lof_1 Z b kb zz oo em h0 n0) v U'.heap L ∧ FrameEnd U o U' L ({ frames := 5, cells := 1, slots := 2, locals := 62 } : Room).cells ({ frames := 5, cells := 1, slots := 2, locals := 62 } : Room).slots) := by
  refine MetFree.of_bodySF (plainFor_of_name own_pn8) hisR ?_
  intro p e s m args below meth c s₁ Bd hml0 hP hK
  obtain ⟨rfl, hZ, hh⟩ := hP
  have hx := Bd.exec
  have hby := Bd.bytes
  have hml : c.maxLocals = 2 := hml0
  have hown : s.vm.findClass "java/util/List" = some m.cls := findClass_of_methodNamed Bd.named
  have hnm := (name_of_methodNamed Bd.named Bd.method).1
  have X0 : Stand p l e ({ frames := 5, cells := 1, slots := 2, locals := 62 } : Room) s m #[(.ref b)] below meth c s₁ [] 0 0 := Stand.of_body Bd
  have e0 : s₁.heap = h0 := by rw [← hh, Bd.state]; rfl
  have N0 := Fr.nil n0
  refine own_close (s := s) (Q := (own_Q_own_lof_1 Z b kb zz oo em h0 n0)) (C := (({ frames := 5, cells := 1, slots := 2, locals := 62 } : Room)).cells) (N := (({ frames := 5, cells := 1, slots := 2, locals := 62 } : Room)).slots) (own_st (fun _ kt => castTop (own_ef19 m b) kt) ?_)
  have K0 := Keep.refl h0 []
  show own_Rch p e below _ s₁ (mkF m 0 #[.val (.ref b), .unset] [])
  refine own_st (fun _ kt => XS.aloadN X0.here hx rfl (hb hby own_d19_0) rfl rfl  kt) ?_
  show own_Rch p e below _ s₁ (mkF m 1 #[.val (.ref b), .unset] [(.ref b)])
  obtain ⟨cl1, Ar1, -, S1, M1, -, -⟩ := id VB
  refine own_st (X0.arraylength hx (by rw [e0]; exact Ar1.1) (State.isArrayOf_alike (hZ).alike Ar1.2.1) (g := (mkF m 1 #[.val (.ref b), .unset] [(.ref b)])) rfl rfl (hb hby own_d19_1)) ?_
  rw [len_of S1 M1]
  show own_Rch p e below _ s₁ (mkF m 2 #[.val (.ref b), .unset] [(.int (1 : Int32))])
  refine own_st (fun _ kt => XS.tswIn X0.here hx rfl (pc0 := 2) (pc' := 34) (o := 32) rfl (hb hby own_d19_2) rfl (by decide) (by decide) (by decide) (by decide) kt) ?_
  show own_Rch p e below _ s₁ (mkF m 34 #[.val (.ref b), .unset] [])
  obtain ⟨T2, h2, X2, e2, E2, A2, D2, U2, st2⟩ := newO X0 hx hZ hown (hw _ (List.mem_of_getElem? (i := 196) rfl)) (hw _ (List.mem_of_getElem? (i := 197) rfl)) (hw _ (List.mem_of_getElem? (i := 198) rfl)) e0 (g := (mkF m 34 #[.val (.ref b), .unset] [])) rfl (hb hby own_d19_34) (by decide) (by decide)
  obtain ⟨b2, g2⟩ : ∃ z, z = h0.size := ⟨_, rfl⟩
  rw [← g2] at A2 D2 U2 st2
  have ge2 : n0 ≤ b2 := by rw [g2]; exact own_old_le O0
  have ne2_b : b ≠ b2 := by rw [g2]; exact Nat.ne_of_lt VB.lt
  have sz2 : h0.size ≤ b2 := by rw [g2]; exact K0.1
  have O0_x2 := O0.ext E2
  have VB_x2 := VB.ext E2
  have K0_x2 := K0.ext E2
  refine own_st st2 ?_
  have F2_e0 : Fld Z h2 b2 "java/util/ImmutableCollections$List12" "e0" "Ljava/lang/Object;" .null := D2 (Or.inr (hw _ (List.mem_of_getElem? (i := 209) rfl))) (ty := (.object "java/lang/Object")) (by decide)
  have F2_e1 : Fld Z h2 b2 "java/util/ImmutableCollections$List12" "e1" "Ljava/lang/Object;" .null := D2 (Or.inr (hw _ (List.mem_of_getElem? (i := 211) rfl))) (ty := (.object "java/lang/Object")) (by decide)
  show own_Rch p e below _ T2 (mkF m 37 #[.val (.ref b), .unset] [(.ref b2)])
  refine own_st (fun _ kt => XS.dup X2.here hx rfl (hb hby own_d19_37) rfl rfl kt) ?_
  show own_Rch p e below _ T2 (mkF m 38 #[.val (.ref b), .unset] [(.ref b2), (.ref b2)])
  refine own_st (fun _ kt => XS.aloadN X2.here hx rfl (hb hby own_d19_38) rfl rfl  kt) ?_
  show own_Rch p e below _ T2 (mkF m 39 #[.val (.ref b), .unset] [(.ref b), (.ref b2), (.ref b2)])
  refine own_st (fun _ kt => XS.iconst X2.here hx rfl (hb hby own_d19_39) kt) ?_
  show own_Rch p e below _ T2 (mkF m 40 #[.val (.ref b), .unset] [(.int (0 : Int32)), (.ref b), (.ref b2), (.ref b2)])
  obtain ⟨cl3, Ar3, q3, S3, M3, H3, G3⟩ := id VB_x2
  have hin3 : ¬ ((0 : Int32) < 0 ∨ cl3.slots.size ≤ ((0 : Int32)).toNatClampNeg) := inb_of S3 ⟨by decide, by decide⟩
  refine own_st (X2.aaload hx (j := (0 : Int32)) (v := (.ref oo)) (by rw [e2]; exact Ar3.1) (State.isArrayOf_alike (hZ).alike Ar3.2.1) rfl Ar3.2.2 hin3 (H3.at hin3 rfl) (g := (mkF m 40 #[.val (.ref b), .unset] [(.int (0 : Int32)), (.ref b), (.ref b2), (.ref b2)])) rfl rfl (hb hby own_d19_40)) ?_
  show own_Rch p e below _ T2 (mkF m 41 #[.val (.ref b), .unset] [(.ref oo), (.ref b2), (.ref b2)])
  obtain ⟨_, _, ⟨T4, L4, k4, n4⟩, -, X4, ⟨Lc4, hQ4, l4, y4, z4⟩, st4⟩ := X2.specialBack hx (y := (⟨"java/util/ImmutableCollections$List12", "<init>", "(Ljava/lang/Object;)V"⟩ : MethodName)) rfl hown (mvT hZ (hw _ (List.mem_of_getElem? (i := 219) rfl))) (mvT hZ (hw _ (List.mem_of_getElem? (i := 220) rfl))) (mvT hZ (hw _ (List.mem_of_getElem? (i := 221) rfl))) (by decide) (backOf (W := 1) (own_l12_1 l Z a0 hw [] b2 oo em h2 n0 O0_x2 SE A2 F2_e0 F2_e1 ge2) hZ (hw _ (List.mem_of_getElem? (i := 221) rfl)) (hw _ (List.mem_of_getElem? (i := 198) rfl)) (by decide) (by decide)) (g := (mkF m 41 #[.val (.ref b), .unset] [(.ref oo), (.ref b2), (.ref b2)])) rfl (by rw [hml]; rfl) (Steps.refl _) (a := b2) (argsL := [(.ref oo)]) (rest := [(.ref b2)]) (lenOf own_pd8 rfl) rfl (by show 2 * 0 + _ ≤ _; exact Nat.le_of_eq rfl) (hb hby own_d19_41) (fun _ _ => ⟨rfl, e2, (by decide : 1 + 0 ≤ _), (by decide : 2 + 0 ≤ _)⟩)
  dsimp only [Pt.U, Pt.locs, Pt.cells, Pt.slots] at X4 l4 y4 z4 st4 hQ4
  subst l4 y4 z4
  obtain ⟨rfl, N4q, K4, Eq4, Fq4⟩ := hQ4
  have N4 := Fr.app N0 N4q
  refine own_st (fun _ kt => st4.trans kt) ?_
  have O0_x4 := O0_x2.keep K4 (allS ge2 all0)
  have VB_x4 := VB_x2.keep K4 (ninS ne2_b nin0)
  have K0_x4 := K0_x2.trans K4 (allS (Or.inr sz2) all0)
  have A2_x4 := A2.keep K4
  show own_Rch p e below _ T4 (mkF m 44 #[.val (.ref b), .unset] [(.ref b2)])
  refine own_retA rfl rfl X4 hx Bd.notSynchronized Bd.returns (hb hby own_d19_44) (by decide) (by decide) ?_
  exact ⟨_, rfl, N4, K0_x4, sz2, Eq4, Fq4⟩
theorem own_pn9 : plainName "java/util/ImmutableCollections" = true := by first | (simp [plainName, overriddenIn]; done) | decide +kernel
theorem own_ef13 (m : MethodId) (x0 : Addr) : entryFrame m #[(.ref x0)] 2 = mkF m 0 #[.val (.ref x0), .unset] [] := by first | (simp [entryFrame, mkF, argsToLocals, Value.category]; done) | rfl
theorem own_d13_0 : decode jdk_56_method_3_code 0 = .ok (.aload_n 0, 1) := by decide +kernel
theorem own_d13_1 : decode jdk_56_method_3_code 1 = .ok (.instanceof 10, 3) := by decide +kernel
theorem own_d13_4 : decode jdk_56_method_3_code 4 = .ok (.ifCond .ne 22, 3) := by decide +kernel
theorem own_d13_7 : decode jdk_56_method_3_code 7 = .ok (.aload_n 0, 1) := by decide +kernel
theorem own_d13_8 : decode jdk_56_method_3_code 8 = .ok (.instanceof 12, 3) := by decide +kernel
theorem own_d13_11 : decode jdk_56_method_3_code 11 = .ok (.ifCond .eq 20, 3) := by decide +kernel
theorem own_d13_31 : decode jdk_56_method_3_code 31 = .ok (.aload_n 0, 1) := by decide +kernel
theorem own_d13_32 : decode jdk_56_method_3_code 32 = .ok (.invokeinterface 20 1, 5) := by decide +kernel
theorem own_pd9 : parseMethodDescriptor "()Z" = some ⟨[], some .boolean⟩ := by decide +kernel
theorem own_d13_37 : decode jdk_56_method_3_code 37 = .ok (.ifCond .eq 7, 3) := by decide +kernel
theorem own_d13_44 : decode jdk_56_method_3_code 44 = .ok (.aload_n 0, 1) := by decide +kernel
theorem own_d13_45 : decode jdk_56_method_3_code 45 = .ok (.invokeinterface 30 1, 5) := by decide +kernel
theorem own_d13_50 : decode jdk_56_method_3_code 50 = .ok (.invokestatic 34, 3) := by decide +kernel
theorem own_pd10 : parseMethodDescriptor "([Ljava/lang/Object;)Ljava/util/List;" = some ⟨[(.array (.object "java/lang/Object"))], some (.object "java/util/List")⟩ := by decide +kernel
theorem own_d13_53 : decode jdk_56_method_3_code 53 = .ok (.areturn, 1) := by decide +kernel
def own_Q_own_lcopy_1 (Z : State) (a : Addr) (b : Addr) (kb : ClassId) (mr : Addr) (zz : Addr) (oo : Addr) (em : Addr) (h0 : Heap) (n0 : Nat) (v : Option Value) (h : Heap) (L : List Loc) : Prop := ∃ q : Addr, v = some (.ref q) ∧ Fr n0 L ∧ Keep h0 h [] ∧ h0.size ≤ q ∧ Exa Z h q "java/util/ImmutableCollections$List12" ∧ Fld Z h q "java/util/ImmutableCollections$List12" "e1" "Ljava/lang/Object;" (.ref em)
set_option maxRecDepth 65536 in
set_option maxHeartbeats 40000000 in
theorem own_lcopy_1 (l : Launch) (Z : State) (a0 : Array Value) (hw : ∀ d ∈ tables_1, d.before a0 Z = true) (ws : List Jvm.Cond) (a : Addr) (b : Addr) (kb : ClassId) (mr : Addr) (zz : Addr) (oo : Addr) (em : Addr) (h0 : Heap) (n0 : Nat) (O0 : Old Z n0 h0) (EA : Exa Z h0 a "java/util/ArrayList") (FE : Fld Z h0 a "java/util/ArrayList" "elementData" "[Ljava/lang/Object;" (.ref b)) (FZ : Fld Z h0 a "java/util/ArrayList" "size" "I" (.int (1 : Int32))) (FM : Fld Z h0 a "java/util/AbstractList" "modCount" "I" (.int (1 : Int32))) (EB : Exa Z h0 b "[Ljava/lang/Object;") (VB : Arv Z h0 b kb (.object "java/lang/Object") (10 : Int32) [(.ref oo), .null, .null, .null, .null, .null, .null, .null, .null, .null] .null) (EZ : Exa Z Z.heap zz "java/math/BigDecimal") (EO : Exa Z Z.heap oo "java/math/BigDecimal") (MR : own_Mir Z "[Ljava/lang/Object;" mr) (SE : Sta Z Z.heap "java/util/ImmutableCollections" "EMPTY" "Ljava/lang/Object;" (.ref em)) :
    MetFree l (⟨"java/util/ImmutableCollections", "listCopy", "(Ljava/util/Collection;)Ljava/util/List;"⟩ : MethodName) (head1 (Jvm.Cond.code (⟨"java/util/ImmutableCollections", "listCopy", "(Ljava/util/Collection;)Ljava/util/List;"⟩ : MethodName) jdk_56_method_3_code 2 (some (.object "java/util/List")) :: ws) ({ frames := 6, cells := 2, slots := 3, locals := 75 } : Room)) (fun args_ U => args_ = #[(.ref a)] ∧ Z.Warmed39 U.vm ∧ U.heap = h0) (fun _ _ _ _ _ => True) (fun _ U o U' => ∃ v L, o = .returned v ∧ (own_Q_own_lcopy_1 Z a b kb mr zz oo em h0 n0) v U'.heap L ∧ FrameEnd U o U' L ({ frames := 6, cells := 2, slots := 3, locals := 75 } : Room).cells ({ frames := 6, cells := 2, slots := 3, locals := 75 } : Room).slots) := by
  refine MetFree.of_bodySF (plainFor_of_name own_pn9) hisR ?_
  intro p e s m args below meth c s₁ Bd hml0 hP hK
  obtain ⟨rfl, hZ, hh⟩ := hP
  have hx := Bd.exec
  have hby := Bd.bytes
  have hml : c.maxLocals = 2 := hml0
  have hown : s.vm.findClass "java/util/ImmutableCollections" = some m.cls := findClass_of_methodNamed Bd.named
  have hnm := (name_of_methodNamed Bd.named Bd.method).1
  have X0 : Stand p l e ({ frames := 6, cells := 2, slots := 3, locals := 75 } : Room) s m #[(.ref a)] below meth c s₁ [] 0 0 := Stand.of_body Bd
  have e0 : s₁.heap = h0 := by rw [← hh, Bd.state]; rfl
  have N0 := Fr.nil n0
  refine own_close (s := s) (Q := (own_Q_own_lcopy_1 Z a b kb mr zz oo em h0 n0)) (C := (({ frames := 6, cells := 2, slots := 3, locals := 75 } : Room)).cells) (N := (({ frames := 6, cells := 2, slots := 3, locals := 75 } : Room)).slots) (own_st (fun _ kt => castTop (own_ef13 m a) kt) ?_)
  have K0 := Keep.refl h0 []
  show own_Rch p e below _ s₁ (mkF m 0 #[.val (.ref a), .unset] [])
  refine own_st (fun _ kt => XS.aloadN X0.here hx rfl (hb hby own_d13_0) rfl rfl  kt) ?_
  show own_Rch p e below _ s₁ (mkF m 1 #[.val (.ref a), .unset] [(.ref a)])
  obtain ⟨T1, X1, e1, st1⟩ := instNo X0 hx hZ hown (hw _ (List.mem_of_getElem? (i := 91) rfl)) e0 EA (own_nsno (hw _ (List.mem_of_getElem? (i := 92) rfl)) (hw _ (List.mem_of_getElem? (i := 197) rfl)) (NS.step (hw _ (List.mem_of_getElem? (i := 92) rfl)) (NS.step (hw _ (List.mem_of_getElem? (i := 93) rfl)) (NS.step (hw _ (List.mem_of_getElem? (i := 94) rfl)) (own_nsroot (hw _ (List.mem_of_getElem? (i := 95) rfl)) (hw _ (List.mem_of_getElem? (i := 197) rfl)) (by decide)) (by decide)) (by decide)) (by decide)) (by decide)) (g := (mkF m 1 #[.val (.ref a), .unset] [(.ref a)])) rfl rfl (hb hby own_d13_1)
  refine own_st st1 ?_
  show own_Rch p e below _ T1 (mkF m 4 #[.val (.ref a), .unset] [(.int (0 : Int32))])
  refine own_st (fun _ kt => XS.ifNo X1.here hx rfl (hb hby own_d13_4) rfl ((if0 _ _).trans (teq (rfl : (0 : Int32) = (0 : Int32))).2) kt) ?_
  show own_Rch p e below _ T1 (mkF m 7 #[.val (.ref a), .unset] [])
  refine own_st (fun _ kt => XS.aloadN X1.here hx rfl (hb hby own_d13_7) rfl rfl  kt) ?_
  show own_Rch p e below _ T1 (mkF m 8 #[.val (.ref a), .unset] [(.ref a)])
  obtain ⟨T2, X2, e2, st2⟩ := instNo X1 hx hZ hown (hw _ (List.mem_of_getElem? (i := 96) rfl)) e1 EA (own_nsno (hw _ (List.mem_of_getElem? (i := 92) rfl)) (hw _ (List.mem_of_getElem? (i := 147) rfl)) (NS.step (hw _ (List.mem_of_getElem? (i := 92) rfl)) (NS.step (hw _ (List.mem_of_getElem? (i := 93) rfl)) (NS.step (hw _ (List.mem_of_getElem? (i := 94) rfl)) (own_nsroot (hw _ (List.mem_of_getElem? (i := 95) rfl)) (hw _ (List.mem_of_getElem? (i := 147) rfl)) (by decide)) (by decide)) (by decide)) (by decide)) (by decide)) (g := (mkF m 8 #[.val (.ref a), .unset] [(.ref a)])) rfl rfl (hb hby own_d13_8)
  refine own_st st2 ?_
  show own_Rch p e below _ T2 (mkF m 11 #[.val (.ref a), .unset] [(.int (0 : Int32))])
  refine own_st (fun _ kt => XS.ifYes X2.here hx rfl (pc0 := 11) (pc' := 31) rfl (hb hby own_d13_11) rfl ((if0 _ _).trans (teq (rfl : (0 : Int32) = (0 : Int32))).1) (by decide) (by decide) kt) ?_
  show own_Rch p e below _ T2 (mkF m 31 #[.val (.ref a), .unset] [])
  refine own_st (fun _ kt => XS.aloadN X2.here hx rfl (hb hby own_d13_31) rfl rfl  kt) ?_
  show own_Rch p e below _ T2 (mkF m 32 #[.val (.ref a), .unset] [(.ref a)])
  obtain ⟨cq3, kq3, q3a, q3b, q3c⟩ := isOf hZ e2 EA
  obtain ⟨_, _, ⟨T3, L3, k3, n3⟩, -, X3, ⟨Lc3, hQ3, l3, y3, z3⟩, st3⟩ := X2.interfaceBack hx (xi := (⟨"java/util/Collection", "isEmpty", "()Z"⟩ : MethodName)) (y := (⟨"java/util/ArrayList", "isEmpty", "()Z"⟩ : MethodName)) hown (mvT hZ (hw _ (List.mem_of_getElem? (i := 97) rfl))) (mvT hZ (hw _ (List.mem_of_getElem? (i := 98) rfl))) (mvT hZ (hw _ (List.mem_of_getElem? (i := 99) rfl))) (mvT hZ (hw _ (List.mem_of_getElem? (i := 100) rfl))) (mvT hZ (hw _ (List.mem_of_getElem? (i := 101) rfl))) (mvT hZ (hw _ (List.mem_of_getElem? (i := 102) rfl))) (mvT hZ (hw _ (List.mem_of_getElem? (i := 103) rfl))) (mvT hZ (hw _ (List.mem_of_getElem? (i := 104) rfl))) (by decide) (backOf (W := 0) (own_isempty l Z a0 hw [] a (1 : Int32) h0 n0 O0 FZ (by decide)) hZ (hw _ (List.mem_of_getElem? (i := 105) rfl)) (hw _ (List.mem_of_getElem? (i := 3) rfl)) (by decide) (by decide)) q3a q3b q3c (g := (mkF m 32 #[.val (.ref a), .unset] [(.ref a)])) rfl (by rw [hml]; rfl) (Steps.refl _) (argsL := []) (rest := []) (lenOf own_pd9 rfl) rfl (by show 2 * 0 + _ ≤ _; exact Nat.le_of_eq rfl) (hb hby own_d13_32) (fun _ _ => ⟨rfl, e2, (by decide : 0 + 0 ≤ _), (by decide : 0 + 0 ≤ _)⟩)
  dsimp only [Pt.U, Pt.locs, Pt.cells, Pt.slots] at X3 l3 y3 z3 st3 hQ3
  subst l3 y3 z3
  obtain ⟨rfl, N3q, hh3⟩ := hQ3
  have N3 := Fr.app N0 N3q
  refine own_st (fun _ kt => st3.trans kt) ?_
  show own_Rch p e below _ T3 (mkF m 37 #[.val (.ref a), .unset] [(.int (0 : Int32))])
  refine own_st (fun _ kt => XS.ifYes X3.here hx rfl (pc0 := 37) (pc' := 44) rfl (hb hby own_d13_37) rfl ((if0 _ _).trans (teq (rfl : (0 : Int32) = (0 : Int32))).1) (by decide) (by decide) kt) ?_
  show own_Rch p e below _ T3 (mkF m 44 #[.val (.ref a), .unset] [])
  refine own_st (fun _ kt => XS.aloadN X3.here hx rfl (hb hby own_d13_44) rfl rfl  kt) ?_
  show own_Rch p e below _ T3 (mkF m 45 #[.val (.ref a), .unset] [(.ref a)])
  obtain ⟨cq4, kq4, q4a, q4b, q4c⟩ := isOf hZ hh3 EA
  obtain ⟨_, _, ⟨T4, L4, k4, n4⟩, -, X4, ⟨Lc4, hQ4, l4, y4, z4⟩, st4⟩ := X3.interfaceBack hx (xi := (⟨"java/util/Collection", "toArray", "()[Ljava/lang/Object;"⟩ : MethodName)) (y := (⟨"java/util/ArrayList", "toArray", "()[Ljava/lang/Object;"⟩ : MethodName)) hown (mvT hZ (hw _ (List.mem_of_getElem? (i := 106) rfl))) (mvT hZ (hw _ (List.mem_of_getElem? (i := 107) rfl))) (mvT hZ (hw _ (List.mem_of_getElem? (i := 108) rfl))) (mvT hZ (hw _ (List.mem_of_getElem? (i := 109) rfl))) (mvT hZ (hw _ (List.mem_of_getElem? (i := 110) rfl))) (mvT hZ (hw _ (List.mem_of_getElem? (i := 111) rfl))) (mvT hZ (hw _ (List.mem_of_getElem? (i := 112) rfl))) (mvT hZ (hw _ (List.mem_of_getElem? (i := 104) rfl))) (by decide) (backOf (W := 0) (own_toarr_1 l Z a0 hw [] a b kb mr zz oo h0 n0 O0 EA FE FZ FM EB VB EZ EO MR) hZ (hw _ (List.mem_of_getElem? (i := 113) rfl)) (hw _ (List.mem_of_getElem? (i := 3) rfl)) (by decide) (by decide)) q4a q4b q4c (g := (mkF m 45 #[.val (.ref a), .unset] [(.ref a)])) rfl (by rw [hml]; rfl) (Steps.refl _) (argsL := []) (rest := []) (lenOf own_pd3 rfl) rfl (by show 2 * 0 + _ ≤ _; exact Nat.le_of_eq rfl) (hb hby own_d13_45) (fun _ _ => ⟨rfl, hh3, (by decide : 0 + 1 ≤ _), (by decide : 0 + 1 ≤ _)⟩)
  dsimp only [Pt.U, Pt.locs, Pt.cells, Pt.slots] at X4 l4 y4 z4 st4 hQ4
  subst l4 y4 z4
  obtain ⟨br4, kr4, rfl, N4q, K4, hb4, Er4, Vr4, Or4⟩ := hQ4
  have N4 := Fr.app N3 N4q
  refine own_st (fun _ kt => st4.trans kt) ?_
  have ne4_a_br4 : a ≠ br4 := Nat.ne_of_lt (Nat.lt_of_lt_of_le EA.lt hb4)
  have ne4_b_br4 : b ≠ br4 := Nat.ne_of_lt (Nat.lt_of_lt_of_le EB.lt hb4)
  have ge4_br4 : n0 ≤ br4 := Nat.le_trans (own_old_le O0) hb4
  have sz4_br4 : h0.size ≤ br4 := Nat.le_trans K0.1 hb4
  have O0_x4 := O0.keep K4 all0
  have EA_x4 := EA.keep K4
  have FE_x4 := FE.keep K4 nin0
  have FZ_x4 := FZ.keep K4 nin0
  have FM_x4 := FM.keep K4 nin0
  have EB_x4 := EB.keep K4
  have VB_x4 := VB.keep K4 nin0
  have K0_x4 := K0.trans K4 all0
  show own_Rch p e below _ T4 (mkF m 50 #[.val (.ref a), .unset] [(.ref br4)])
  obtain ⟨_, _, ⟨T5, L5, k5, n5⟩, -, X5, ⟨Lc5, hQ5, l5, y5, z5⟩, st5⟩ := Jvm.LawKit.callS X4 hx (y := (⟨"java/util/List", "of", "([Ljava/lang/Object;)Ljava/util/List;"⟩ : MethodName)) hown (mvT hZ (hw _ (List.mem_of_getElem? (i := 136) rfl))) (mvT hZ (hw _ (List.mem_of_getElem? (i := 137) rfl))) (mvT hZ (hw _ (List.mem_of_getElem? (i := 85) rfl))) (mvT hZ (hw _ (List.mem_of_getElem? (i := 138) rfl))) (by decide) (backOf (W := 0) (own_lof_1 l Z a0 hw [] br4 kr4 zz oo em T4.heap n0 O0_x4 Vr4 EZ EO SE) hZ (hw _ (List.mem_of_getElem? (i := 138) rfl)) (hw _ (List.mem_of_getElem? (i := 85) rfl)) (by decide) (by decide)) (g := (mkF m 50 #[.val (.ref a), .unset] [(.ref br4)])) rfl (by rw [hml]; rfl) (argsL := [(.ref br4)]) (rest := []) (lenOf own_pd10 rfl) rfl (by show 2 * 0 + _ ≤ _; exact Nat.le_of_eq rfl) (hb hby own_d13_50) (fun _ _ => ⟨rfl, rfl, (by decide : 1 + 1 ≤ _), (by decide : 1 + 2 ≤ _)⟩)
  dsimp only [Pt.U, Pt.locs, Pt.cells, Pt.slots] at X5 l5 y5 z5 st5 hQ5
  subst l5 y5 z5
  obtain ⟨ql5, rfl, N5q, K5, hq5, Eq5, Fq5⟩ := hQ5
  have N5 := Fr.app N4 N5q
  refine own_st st5 ?_
  have ne5_a_ql5 : a ≠ ql5 := Nat.ne_of_lt (Nat.lt_of_lt_of_le EA_x4.lt hq5)
  have ne5_b_ql5 : b ≠ ql5 := Nat.ne_of_lt (Nat.lt_of_lt_of_le EB_x4.lt hq5)
  have ne5_br4_ql5 : br4 ≠ ql5 := Nat.ne_of_lt (Nat.lt_of_lt_of_le Er4.lt hq5)
  have ge5_ql5 : n0 ≤ ql5 := Nat.le_trans (own_old_le O0_x4) hq5
  have sz5_ql5 : h0.size ≤ ql5 := Nat.le_trans K0_x4.1 hq5
  have O0_x5 := O0_x4.keep K5 all0
  have EA_x5 := EA_x4.keep K5
  have FE_x5 := FE_x4.keep K5 nin0
  have FZ_x5 := FZ_x4.keep K5 nin0
  have FM_x5 := FM_x4.keep K5 nin0
  have EB_x5 := EB_x4.keep K5
  have VB_x5 := VB_x4.keep K5 nin0
  have K0_x5 := K0_x4.trans K5 all0
  have Er4_x5 := Er4.keep K5
  have Vr4_x5 := Vr4.keep K5 nin0
  show own_Rch p e below _ T5 (mkF m 53 #[.val (.ref a), .unset] [(.ref ql5)])
  refine own_retA rfl rfl X5 hx Bd.notSynchronized Bd.returns (hb hby own_d13_53) (by decide) (by decide) ?_
  exact ⟨_, rfl, N5, K0_x5, sz5_ql5, Eq5, Fq5⟩
theorem own_ef12 (m : MethodId) (x0 : Addr) : entryFrame m #[(.ref x0)] 1 = mkF m 0 #[.val (.ref x0)] [] := by first | (simp [entryFrame, mkF, argsToLocals, Value.category]; done) | rfl
theorem own_d12_0 : decode jdk_40_method_48_code 0 = .ok (.aload_n 0, 1) := by decide +kernel
theorem own_d12_1 : decode jdk_40_method_48_code 1 = .ok (.invokestatic 112, 3) := by decide +kernel
theorem own_pd11 : parseMethodDescriptor "(Ljava/util/Collection;)Ljava/util/List;" = some ⟨[(.object "java/util/Collection")], some (.object "java/util/List")⟩ := by decide +kernel
theorem own_d12_4 : decode jdk_40_method_48_code 4 = .ok (.areturn, 1) := by decide +kernel
def own_Q_own_cof_1 (Z : State) (a : Addr) (b : Addr) (kb : ClassId) (mr : Addr) (zz : Addr) (oo : Addr) (em : Addr) (h0 : Heap) (n0 : Nat) (v : Option Value) (h : Heap) (L : List Loc) : Prop := ∃ q : Addr, v = some (.ref q) ∧ Fr n0 L ∧ Keep h0 h [] ∧ h0.size ≤ q ∧ Exa Z h q "java/util/ImmutableCollections$List12" ∧ Fld Z h q "java/util/ImmutableCollections$List12" "e1" "Ljava/lang/Object;" (.ref em)
set_option maxRecDepth 65536 in
set_option maxHeartbeats 40000000 in
theorem own_cof_1 (l : Launch) (Z : State) (a0 : Array Value) (hw : ∀ d ∈ tables_1, d.before a0 Z = true) (ws : List Jvm.Cond) (a : Addr) (b : Addr) (kb : ClassId) (mr : Addr) (zz : Addr) (oo : Addr) (em : Addr) (h0 : Heap) (n0 : Nat) (O0 : Old Z n0 h0) (EA : Exa Z h0 a "java/util/ArrayList") (FE : Fld Z h0 a "java/util/ArrayList" "elementData" "[Ljava/lang/Object;" (.ref b)) (FZ : Fld Z h0 a "java/util/ArrayList" "size" "I" (.int (1 : Int32))) (FM : Fld Z h0 a "java/util/AbstractList" "modCount" "I" (.int (1 : Int32))) (EB : Exa Z h0 b "[Ljava/lang/Object;") (VB : Arv Z h0 b kb (.object "java/lang/Object") (10 : Int32) [(.ref oo), .null, .null, .null, .null, .null, .null, .null, .null, .null] .null) (EZ : Exa Z Z.heap zz "java/math/BigDecimal") (EO : Exa Z Z.heap oo "java/math/BigDecimal") (MR : own_Mir Z "[Ljava/lang/Object;" mr) (SE : Sta Z Z.heap "java/util/ImmutableCollections" "EMPTY" "Ljava/lang/Object;" (.ref em)) :
    MetFree l (⟨"java/util/List", "copyOf", "(Ljava/util/Collection;)Ljava/util/List;"⟩ : MethodName) (head1 (Jvm.Cond.code (⟨"java/util/List", "copyOf", "(Ljava/util/Collection;)Ljava/util/List;"⟩ : MethodName) jdk_40_method_48_code 1 (some (.object "java/util/List")) :: ws) ({ frames := 7, cells := 2, slots := 3, locals := 88 } : Room)) (fun args_ U => args_ = #[(.ref a)] ∧ Z.Warmed39 U.vm ∧ U.heap = h0) (fun _ _ _ _ _ => True) (fun _ U o U' => ∃ v L, o = .returned v ∧ (own_Q_own_cof_1 Z a b kb mr zz oo em h0 n0) v U'.heap L ∧ FrameEnd U o U' L ({ frames := 7, cells := 2, slots := 3, locals := 88 } : Room).cells ({ frames := 7, cells := 2, slots := 3, locals := 88 } : Room).slots) := by
  refine MetFree.of_bodySF (plainFor_of_name own_pn8) hisR ?_
  intro p e s m args below meth c s₁ Bd hml0 hP hK
  obtain ⟨rfl, hZ, hh⟩ := hP
  have hx := Bd.exec
  have hby := Bd.bytes
  have hml : c.maxLocals = 1 := hml0
  have hown : s.vm.findClass "java/util/List" = some m.cls := findClass_of_methodNamed Bd.named
  have hnm := (name_of_methodNamed Bd.named Bd.method).1
  have X0 : Stand p l e ({ frames := 7, cells := 2, slots := 3, locals := 88 } : Room) s m #[(.ref a)] below meth c s₁ [] 0 0 := Stand.of_body Bd
  have e0 : s₁.heap = h0 := by rw [← hh, Bd.state]; rfl
  have N0 := Fr.nil n0
  refine own_close (s := s) (Q := (own_Q_own_cof_1 Z a b kb mr zz oo em h0 n0)) (C := (({ frames := 7, cells := 2, slots := 3, locals := 88 } : Room)).cells) (N := (({ frames := 7, cells := 2, slots := 3, locals := 88 } : Room)).slots) (own_st (fun _ kt => castTop (own_ef12 m a) kt) ?_)
  have K0 := Keep.refl h0 []
  show own_Rch p e below _ s₁ (mkF m 0 #[.val (.ref a)] [])
  refine own_st (fun _ kt => XS.aloadN X0.here hx rfl (hb hby own_d12_0) rfl rfl  kt) ?_
  show own_Rch p e below _ s₁ (mkF m 1 #[.val (.ref a)] [(.ref a)])
  obtain ⟨_, _, ⟨T1, L1, k1, n1⟩, -, X1, ⟨Lc1, hQ1, l1, y1, z1⟩, st1⟩ := Jvm.LawKit.callS X0 hx (y := (⟨"java/util/ImmutableCollections", "listCopy", "(Ljava/util/Collection;)Ljava/util/List;"⟩ : MethodName)) hown (mvT hZ (hw _ (List.mem_of_getElem? (i := 87) rfl))) (mvT hZ (hw _ (List.mem_of_getElem? (i := 88) rfl))) (mvT hZ (hw _ (List.mem_of_getElem? (i := 89) rfl))) (mvT hZ (hw _ (List.mem_of_getElem? (i := 90) rfl))) (by decide) (backOf (W := 0) (own_lcopy_1 l Z a0 hw [] a b kb mr zz oo em h0 n0 O0 EA FE FZ FM EB VB EZ EO MR SE) hZ (hw _ (List.mem_of_getElem? (i := 90) rfl)) (hw _ (List.mem_of_getElem? (i := 89) rfl)) (by decide) (by decide)) (g := (mkF m 1 #[.val (.ref a)] [(.ref a)])) rfl (by rw [hml]; rfl) (argsL := [(.ref a)]) (rest := []) (lenOf own_pd11 rfl) rfl (by show 2 * 0 + _ ≤ _; exact Nat.le_of_eq rfl) (hb hby own_d12_1) (fun _ _ => ⟨rfl, e0, (by decide : 0 + 2 ≤ _), (by decide : 0 + 3 ≤ _)⟩)
  dsimp only [Pt.U, Pt.locs, Pt.cells, Pt.slots] at X1 l1 y1 z1 st1 hQ1
  subst l1 y1 z1
  obtain ⟨ql1, rfl, N1q, K1, hq1, Eq1, Fq1⟩ := hQ1
  have N1 := Fr.app N0 N1q
  refine own_st st1 ?_
  have ne1_a_ql1 : a ≠ ql1 := Nat.ne_of_lt (Nat.lt_of_lt_of_le EA.lt hq1)
  have ne1_b_ql1 : b ≠ ql1 := Nat.ne_of_lt (Nat.lt_of_lt_of_le EB.lt hq1)
  have ge1_ql1 : n0 ≤ ql1 := Nat.le_trans (own_old_le O0) hq1
  have sz1_ql1 : h0.size ≤ ql1 := Nat.le_trans K0.1 hq1
  have O0_x1 := O0.keep K1 all0
  have EA_x1 := EA.keep K1
  have FE_x1 := FE.keep K1 nin0
  have FZ_x1 := FZ.keep K1 nin0
  have FM_x1 := FM.keep K1 nin0
  have EB_x1 := EB.keep K1
  have VB_x1 := VB.keep K1 nin0
  have K0_x1 := K0.trans K1 all0
  show own_Rch p e below _ T1 (mkF m 4 #[.val (.ref a)] [(.ref ql1)])
  refine own_retA rfl rfl X1 hx Bd.notSynchronized Bd.returns (hb hby own_d12_4) (by decide) (by decide) ?_
  exact ⟨_, rfl, N1, K0_x1, sz1_ql1, Eq1, Fq1⟩
theorem own_pn10 : plainName "com/example/makewhole/makewhole/mortality/MortalityTable" = true := by first | (simp [plainName, overriddenIn]; done) | decide +kernel
theorem own_ef11n45 (m : MethodId) (x0 : Addr) (x1 : Addr) (x2 : Int32) (x3 : Addr) : entryFrame m #[(.ref x0), (.ref x1), (.int x2), (.ref x3), .null, .null] 6 = mkF m 0 #[.val (.ref x0), .val (.ref x1), .val (.int x2), .val (.ref x3), .val .null, .val .null] [] := by first | (simp [entryFrame, mkF, argsToLocals, Value.category]; done) | rfl
theorem own_d11_0 : decode prog_36_method_2_code 0 = .ok (.aload_n 0, 1) := by decide +kernel
theorem own_d11_1 : decode prog_36_method_2_code 1 = .ok (.invokespecial 7, 3) := by decide +kernel
theorem own_d11_4 : decode prog_36_method_2_code 4 = .ok (.aload_n 0, 1) := by decide +kernel
theorem own_d11_5 : decode prog_36_method_2_code 5 = .ok (.aload_n 1, 1) := by decide +kernel
theorem own_d11_6 : decode prog_36_method_2_code 6 = .ok (.putfield 12, 3) := by decide +kernel
theorem own_d11_9 : decode prog_36_method_2_code 9 = .ok (.aload_n 0, 1) := by decide +kernel
theorem own_d11_10 : decode prog_36_method_2_code 10 = .ok (.iload_n 2, 1) := by decide +kernel
theorem own_d11_11 : decode prog_36_method_2_code 11 = .ok (.putfield 16, 3) := by decide +kernel
theorem own_d11_14 : decode prog_36_method_2_code 14 = .ok (.aload_n 0, 1) := by decide +kernel
theorem own_d11_15 : decode prog_36_method_2_code 15 = .ok (.aload_n 3, 1) := by decide +kernel
theorem own_d11_16 : decode prog_36_method_2_code 16 = .ok (.invokestatic 20, 3) := by decide +kernel
theorem own_d11_19 : decode prog_36_method_2_code 19 = .ok (.putfield 26, 3) := by decide +kernel
theorem own_d11_22 : decode prog_36_method_2_code 22 = .ok (.aload_n 0, 1) := by decide +kernel
theorem own_d11_23 : decode prog_36_method_2_code 23 = .ok (.aload 4, 2) := by decide +kernel
theorem own_d11_25 : decode prog_36_method_2_code 25 = .ok (.putfield 30, 3) := by decide +kernel
theorem own_d11_28 : decode prog_36_method_2_code 28 = .ok (.aload_n 0, 1) := by decide +kernel
theorem own_d11_29 : decode prog_36_method_2_code 29 = .ok (.aload 5, 2) := by decide +kernel
theorem own_d11_31 : decode prog_36_method_2_code 31 = .ok (.putfield 33, 3) := by decide +kernel
theorem own_d11_34 : decode prog_36_method_2_code 34 = .ok (.return_, 1) := by decide +kernel
def own_Q_own_mt5_1 (Z : State) (x : Addr) (sr : Addr) (pa : Int32) (a : Addr) (b : Addr) (kb : ClassId) (mr : Addr) (zz : Addr) (oo : Addr) (em : Addr) (h0 : Heap) (n0 : Nat) (v : Option Value) (h : Heap) (L : List Loc) : Prop := v = none ∧ Fr n0 L ∧ Keep h0 h [x] ∧ ∃ q : Addr, Exa Z h x "com/example/makewhole/makewhole/mortality/MortalityTable" ∧ Fld Z h x "com/example/makewhole/makewhole/mortality/MortalityTable" "firstAge" "I" (.int pa) ∧ Fld Z h x "com/example/makewhole/makewhole/mortality/MortalityTable" "qx" "Ljava/util/List;" (.ref q) ∧ h0.size ≤ q ∧ Exa Z h q "java/util/ImmutableCollections$List12" ∧ Fld Z h q "java/util/ImmutableCollections$List12" "e1" "Ljava/lang/Object;" (.ref em)
set_option maxRecDepth 65536 in
set_option maxHeartbeats 40000000 in
theorem own_mt5_1 (l : Launch) (Z : State) (a0 : Array Value) (hw : ∀ d ∈ tables_1, d.before a0 Z = true) (ws : List Jvm.Cond) (x : Addr) (sr : Addr) (pa : Int32) (a : Addr) (b : Addr) (kb : ClassId) (mr : Addr) (zz : Addr) (oo : Addr) (em : Addr) (h0 : Heap) (n0 : Nat) (O0 : Old Z n0 h0) (EA : Exa Z h0 a "java/util/ArrayList") (FE : Fld Z h0 a "java/util/ArrayList" "elementData" "[Ljava/lang/Object;" (.ref b)) (FZ : Fld Z h0 a "java/util/ArrayList" "size" "I" (.int (1 : Int32))) (FM : Fld Z h0 a "java/util/AbstractList" "modCount" "I" (.int (1 : Int32))) (EB : Exa Z h0 b "[Ljava/lang/Object;") (VB : Arv Z h0 b kb (.object "java/lang/Object") (10 : Int32) [(.ref oo), .null, .null, .null, .null, .null, .null, .null, .null, .null] .null) (EZ : Exa Z Z.heap zz "java/math/BigDecimal") (EO : Exa Z Z.heap oo "java/math/BigDecimal") (MR : own_Mir Z "[Ljava/lang/Object;" mr) (SE : Sta Z Z.heap "java/util/ImmutableCollections" "EMPTY" "Ljava/lang/Object;" (.ref em)) (EX : Exa Z h0 x "com/example/makewhole/makewhole/mortality/MortalityTable") (G0 : Fld Z h0 x "com/example/makewhole/makewhole/mortality/MortalityTable" "source" "Ljava/lang/String;" .null) (G1 : Fld Z h0 x "com/example/makewhole/makewhole/mortality/MortalityTable" "firstAge" "I" (.int (0 : Int32))) (G2 : Fld Z h0 x "com/example/makewhole/makewhole/mortality/MortalityTable" "qx" "Ljava/util/List;" .null) (G3 : Fld Z h0 x "com/example/makewhole/makewhole/mortality/MortalityTable" "publishedName" "Ljava/lang/String;" .null) (G4 : Fld Z h0 x "com/example/makewhole/makewhole/mortality/MortalityTable" "publishedIdentity" "Ljava/lang/String;" .null) (gx : n0 ≤ x) (hxa : a ≠ x) (hxb : b ≠ x) :
    MetFree l (⟨"com/example/makewhole/makewhole/mortality/MortalityTable", "<init>", "(Ljava/lang/String;ILjava/util/List;Ljava/lang/String;Ljava/lang/String;)V"⟩ : MethodName) (head1 (Jvm.Cond.code (⟨"com/example/makewhole/makewhole/mortality/MortalityTable", "<init>", "(Ljava/lang/String;ILjava/util/List;Ljava/lang/String;Ljava/lang/String;)V"⟩ : MethodName) prog_36_method_2_code 6 none :: ws) ({ frames := 8, cells := 2, slots := 3, locals := 101 } : Room)) (fun args_ U => args_ = #[(.ref x), (.ref sr), (.int pa), (.ref a), .null, .null] ∧ Z.Warmed39 U.vm ∧ U.heap = h0) (fun _ _ _ _ _ => True) (fun _ U o U' => ∃ v L, o = .returned v ∧ (own_Q_own_mt5_1 Z x sr pa a b kb mr zz oo em h0 n0) v U'.heap L ∧ FrameEnd U o U' L ({ frames := 8, cells := 2, slots := 3, locals := 101 } : Room).cells ({ frames := 8, cells := 2, slots := 3, locals := 101 } : Room).slots) := by
  refine MetFree.of_bodySF (plainFor_of_name own_pn10) hisR ?_
  intro p e s m args below meth c s₁ Bd hml0 hP hK
  obtain ⟨rfl, hZ, hh⟩ := hP
  have hx := Bd.exec
  have hby := Bd.bytes
  have hml : c.maxLocals = 6 := hml0
  have hown : s.vm.findClass "com/example/makewhole/makewhole/mortality/MortalityTable" = some m.cls := findClass_of_methodNamed Bd.named
  have hnm := (name_of_methodNamed Bd.named Bd.method).1
  have X0 : Stand p l e ({ frames := 8, cells := 2, slots := 3, locals := 101 } : Room) s m #[(.ref x), (.ref sr), (.int pa), (.ref a), .null, .null] below meth c s₁ [] 0 0 := Stand.of_body Bd
  have e0 : s₁.heap = h0 := by rw [← hh, Bd.state]; rfl
  have N0 := Fr.nil n0
  refine own_close (s := s) (Q := (own_Q_own_mt5_1 Z x sr pa a b kb mr zz oo em h0 n0)) (C := (({ frames := 8, cells := 2, slots := 3, locals := 101 } : Room)).cells) (N := (({ frames := 8, cells := 2, slots := 3, locals := 101 } : Room)).slots) (own_st (fun _ kt => castTop (own_ef11n45 m x sr pa a) kt) ?_)
  have K0 := Keep.refl h0 [x]
  show own_Rch p e below _ s₁ (mkF m 0 #[.val (.ref x), .val (.ref sr), .val (.int pa), .val (.ref a), .val .null, .val .null] [])
  refine own_st (fun _ kt => XS.aloadN X0.here hx rfl (hb hby own_d11_0) rfl rfl  kt) ?_
  show own_Rch p e below _ s₁ (mkF m 1 #[.val (.ref x), .val (.ref sr), .val (.int pa), .val (.ref a), .val .null, .val .null] [(.ref x)])
  obtain ⟨T1, X1, e1, st1⟩ := initO X0 hx hZ hown (hw _ (List.mem_of_getElem? (i := 78) rfl)) (hw _ (List.mem_of_getElem? (i := 20) rfl)) (hw _ (List.mem_of_getElem? (i := 21) rfl)) e0 (g := (mkF m 1 #[.val (.ref x), .val (.ref sr), .val (.int pa), .val (.ref a), .val .null, .val .null] [(.ref x)])) rfl (by rw [hml]; rfl) rfl (hb hby own_d11_1) (by decide) (W := 0) (by show 2 * 0 + _ ≤ _; exact Nat.le_of_eq rfl) (by decide)
  refine own_st st1 ?_
  show own_Rch p e below _ T1 (mkF m 4 #[.val (.ref x), .val (.ref sr), .val (.int pa), .val (.ref a), .val .null, .val .null] [])
  refine own_st (fun _ kt => XS.aloadN X1.here hx rfl (hb hby own_d11_4) rfl rfl  kt) ?_
  show own_Rch p e below _ T1 (mkF m 5 #[.val (.ref x), .val (.ref sr), .val (.int pa), .val (.ref a), .val .null, .val .null] [(.ref x)])
  refine own_st (fun _ kt => XS.aloadN X1.here hx rfl (hb hby own_d11_5) rfl rfl  kt) ?_
  show own_Rch p e below _ T1 (mkF m 6 #[.val (.ref x), .val (.ref sr), .val (.int pa), .val (.ref a), .val .null, .val .null] [(.ref sr), (.ref x)])
  obtain ⟨T2, h2, X2, e2, W2, st2⟩ := putF X1 hx hZ hown (host := "") (Or.inl (hw _ (List.mem_of_getElem? (i := 79) rfl))) Via.refl e1 G0 EX (Or.inr ⟨(hw _ (List.mem_of_getElem? (i := 80) rfl)), rfl, hnm⟩) (hw _ (List.mem_of_getElem? (i := 62) rfl)) (ty := (.object "java/lang/String")) (by decide) rfl rfl (g := (mkF m 6 #[.val (.ref x), .val (.ref sr), .val (.int pa), .val (.ref a), .val .null, .val .null] [(.ref sr), (.ref x)])) rfl rfl (hb hby own_d11_6)
  refine own_st st2 ?_
  have Fw2 := G0.same W2
  have N2 := Fr.snoc X2 N0 gx
  have O0_x2 := O0.wr W2 gx
  have EA_x2 := EA.wr W2
  have FE_x2 := FE.other W2 (Or.inl hxa)
  have FZ_x2 := FZ.other W2 (Or.inl hxa)
  have FM_x2 := FM.other W2 (Or.inl hxa)
  have EB_x2 := EB.wr W2
  have VB_x2 := VB.other W2 hxb
  have EX_x2 := EX.wr W2
  have G1_x2 := G1.other W2 (Or.inr (slot_ne (Or.inr (hw _ (List.mem_of_getElem? (i := 82) rfl))) (Or.inr (hw _ (List.mem_of_getElem? (i := 80) rfl))) (by decide) (t := .int) (t' := (.object "java/lang/String")) (by decide) (by decide)))
  have G2_x2 := G2.other W2 (Or.inr (slot_ne (Or.inr (hw _ (List.mem_of_getElem? (i := 172) rfl))) (Or.inr (hw _ (List.mem_of_getElem? (i := 80) rfl))) (by decide) (t := (.object "java/util/List")) (t' := (.object "java/lang/String")) (by decide) (by decide)))
  have G3_x2 := G3.other W2 (Or.inr (slot_ne (Or.inr (hw _ (List.mem_of_getElem? (i := 174) rfl))) (Or.inr (hw _ (List.mem_of_getElem? (i := 80) rfl))) (by decide) (t := (.object "java/lang/String")) (t' := (.object "java/lang/String")) (by decide) (by decide)))
  have G4_x2 := G4.other W2 (Or.inr (slot_ne (Or.inr (hw _ (List.mem_of_getElem? (i := 176) rfl))) (Or.inr (hw _ (List.mem_of_getElem? (i := 80) rfl))) (by decide) (t := (.object "java/lang/String")) (t' := (.object "java/lang/String")) (by decide) (by decide)))
  have K0_x2 := K0.wr W2 (Or.inl (List.mem_of_getElem? (i := 0) rfl))
  show own_Rch p e below _ T2 (mkF m 9 #[.val (.ref x), .val (.ref sr), .val (.int pa), .val (.ref a), .val .null, .val .null] [])
  refine own_st (fun _ kt => XS.aloadN X2.here hx rfl (hb hby own_d11_9) rfl rfl  kt) ?_
  show own_Rch p e below _ T2 (mkF m 10 #[.val (.ref x), .val (.ref sr), .val (.int pa), .val (.ref a), .val .null, .val .null] [(.ref x)])
  refine own_st (fun _ kt => XS.iloadN X2.here hx rfl (hb hby own_d11_10) rfl  kt) ?_
  show own_Rch p e below _ T2 (mkF m 11 #[.val (.ref x), .val (.ref sr), .val (.int pa), .val (.ref a), .val .null, .val .null] [(.int pa), (.ref x)])
  obtain ⟨T3, h3, X3, e3, W3, st3⟩ := putF X2 hx hZ hown (host := "") (Or.inl (hw _ (List.mem_of_getElem? (i := 81) rfl))) Via.refl e2 G1_x2 EX_x2 (Or.inr ⟨(hw _ (List.mem_of_getElem? (i := 82) rfl)), rfl, hnm⟩) (hw _ (List.mem_of_getElem? (i := 62) rfl)) (ty := .int) (by decide) rfl rfl (g := (mkF m 11 #[.val (.ref x), .val (.ref sr), .val (.int pa), .val (.ref a), .val .null, .val .null] [(.int pa), (.ref x)])) rfl rfl (hb hby own_d11_11)
  refine own_st st3 ?_
  have Fw3 := G1_x2.same W3
  have N3 := Fr.snoc X3 N2 gx
  have O0_x3 := O0_x2.wr W3 gx
  have EA_x3 := EA_x2.wr W3
  have FE_x3 := FE_x2.other W3 (Or.inl hxa)
  have FZ_x3 := FZ_x2.other W3 (Or.inl hxa)
  have FM_x3 := FM_x2.other W3 (Or.inl hxa)
  have EB_x3 := EB_x2.wr W3
  have VB_x3 := VB_x2.other W3 hxb
  have EX_x3 := EX_x2.wr W3
  have Fw2_x3 := Fw2.other W3 (Or.inr (slot_ne (Or.inr (hw _ (List.mem_of_getElem? (i := 80) rfl))) (Or.inr (hw _ (List.mem_of_getElem? (i := 82) rfl))) (by decide) (t := (.object "java/lang/String")) (t' := .int) (by decide) (by decide)))
  have G2_x3 := G2_x2.other W3 (Or.inr (slot_ne (Or.inr (hw _ (List.mem_of_getElem? (i := 172) rfl))) (Or.inr (hw _ (List.mem_of_getElem? (i := 82) rfl))) (by decide) (t := (.object "java/util/List")) (t' := .int) (by decide) (by decide)))
  have G3_x3 := G3_x2.other W3 (Or.inr (slot_ne (Or.inr (hw _ (List.mem_of_getElem? (i := 174) rfl))) (Or.inr (hw _ (List.mem_of_getElem? (i := 82) rfl))) (by decide) (t := (.object "java/lang/String")) (t' := .int) (by decide) (by decide)))
  have G4_x3 := G4_x2.other W3 (Or.inr (slot_ne (Or.inr (hw _ (List.mem_of_getElem? (i := 176) rfl))) (Or.inr (hw _ (List.mem_of_getElem? (i := 82) rfl))) (by decide) (t := (.object "java/lang/String")) (t' := .int) (by decide) (by decide)))
  have K0_x3 := K0_x2.wr W3 (Or.inl (List.mem_of_getElem? (i := 0) rfl))
  show own_Rch p e below _ T3 (mkF m 14 #[.val (.ref x), .val (.ref sr), .val (.int pa), .val (.ref a), .val .null, .val .null] [])
  refine own_st (fun _ kt => XS.aloadN X3.here hx rfl (hb hby own_d11_14) rfl rfl  kt) ?_
  show own_Rch p e below _ T3 (mkF m 15 #[.val (.ref x), .val (.ref sr), .val (.int pa), .val (.ref a), .val .null, .val .null] [(.ref x)])
  refine own_st (fun _ kt => XS.aloadN X3.here hx rfl (hb hby own_d11_15) rfl rfl  kt) ?_
  show own_Rch p e below _ T3 (mkF m 16 #[.val (.ref x), .val (.ref sr), .val (.int pa), .val (.ref a), .val .null, .val .null] [(.ref a), (.ref x)])
  obtain ⟨_, _, ⟨T4, L4, k4, n4⟩, -, X4, ⟨Lc4, hQ4, l4, y4, z4⟩, st4⟩ := Jvm.LawKit.callS X3 hx (y := (⟨"java/util/List", "copyOf", "(Ljava/util/Collection;)Ljava/util/List;"⟩ : MethodName)) hown (mvT hZ (hw _ (List.mem_of_getElem? (i := 83) rfl))) (mvT hZ (hw _ (List.mem_of_getElem? (i := 84) rfl))) (mvT hZ (hw _ (List.mem_of_getElem? (i := 85) rfl))) (mvT hZ (hw _ (List.mem_of_getElem? (i := 86) rfl))) (by decide) (backOf (W := 1) (own_cof_1 l Z a0 hw [] a b kb mr zz oo em h3 n0 O0_x3 EA_x3 FE_x3 FZ_x3 FM_x3 EB_x3 VB_x3 EZ EO MR SE) hZ (hw _ (List.mem_of_getElem? (i := 86) rfl)) (hw _ (List.mem_of_getElem? (i := 85) rfl)) (by decide) (by decide)) (g := (mkF m 16 #[.val (.ref x), .val (.ref sr), .val (.int pa), .val (.ref a), .val .null, .val .null] [(.ref a), (.ref x)])) rfl (by rw [hml]; rfl) (argsL := [(.ref a)]) (rest := [(.ref x)]) (lenOf own_pd11 rfl) rfl (by show 2 * 0 + _ ≤ _; exact Nat.le_of_eq rfl) (hb hby own_d11_16) (fun _ _ => ⟨rfl, e3, (by decide : 0 + 2 ≤ _), (by decide : 0 + 3 ≤ _)⟩)
  dsimp only [Pt.U, Pt.locs, Pt.cells, Pt.slots] at X4 l4 y4 z4 st4 hQ4
  subst l4 y4 z4
  obtain ⟨ql4, rfl, N4q, K4, hq4, Eq4, Fq4⟩ := hQ4
  have N4 := Fr.app N3 N4q
  refine own_st st4 ?_
  have ne4_a_ql4 : a ≠ ql4 := Nat.ne_of_lt (Nat.lt_of_lt_of_le EA_x3.lt hq4)
  have ne4_b_ql4 : b ≠ ql4 := Nat.ne_of_lt (Nat.lt_of_lt_of_le EB_x3.lt hq4)
  have ne4_x_ql4 : x ≠ ql4 := Nat.ne_of_lt (Nat.lt_of_lt_of_le EX_x3.lt hq4)
  have ge4_ql4 : n0 ≤ ql4 := Nat.le_trans (own_old_le O0_x3) hq4
  have sz4_ql4 : h0.size ≤ ql4 := Nat.le_trans K0_x3.1 hq4
  have O0_x4 := O0_x3.keep K4 all0
  have EA_x4 := EA_x3.keep K4
  have FE_x4 := FE_x3.keep K4 nin0
  have FZ_x4 := FZ_x3.keep K4 nin0
  have FM_x4 := FM_x3.keep K4 nin0
  have EB_x4 := EB_x3.keep K4
  have VB_x4 := VB_x3.keep K4 nin0
  have EX_x4 := EX_x3.keep K4
  have Fw2_x4 := Fw2_x3.keep K4 nin0
  have Fw3_x4 := Fw3.keep K4 nin0
  have G2_x4 := G2_x3.keep K4 nin0
  have G3_x4 := G3_x3.keep K4 nin0
  have G4_x4 := G4_x3.keep K4 nin0
  have K0_x4 := K0_x3.trans K4 all0
  show own_Rch p e below _ T4 (mkF m 19 #[.val (.ref x), .val (.ref sr), .val (.int pa), .val (.ref a), .val .null, .val .null] [(.ref ql4), (.ref x)])
  obtain ⟨T5, h5, X5, e5, W5, st5⟩ := putF X4 hx hZ hown (host := "") (Or.inl (hw _ (List.mem_of_getElem? (i := 171) rfl))) Via.refl rfl G2_x4 EX_x4 (Or.inr ⟨(hw _ (List.mem_of_getElem? (i := 172) rfl)), rfl, hnm⟩) (hw _ (List.mem_of_getElem? (i := 62) rfl)) (ty := (.object "java/util/List")) (by decide) rfl rfl (g := (mkF m 19 #[.val (.ref x), .val (.ref sr), .val (.int pa), .val (.ref a), .val .null, .val .null] [(.ref ql4), (.ref x)])) rfl rfl (hb hby own_d11_19)
  refine own_st st5 ?_
  have Fw5 := G2_x4.same W5
  have N5 := Fr.snoc X5 N4 gx
  have O0_x5 := O0_x4.wr W5 gx
  have EA_x5 := EA_x4.wr W5
  have FE_x5 := FE_x4.other W5 (Or.inl hxa)
  have FZ_x5 := FZ_x4.other W5 (Or.inl hxa)
  have FM_x5 := FM_x4.other W5 (Or.inl hxa)
  have EB_x5 := EB_x4.wr W5
  have VB_x5 := VB_x4.other W5 hxb
  have EX_x5 := EX_x4.wr W5
  have Fw2_x5 := Fw2_x4.other W5 (Or.inr (slot_ne (Or.inr (hw _ (List.mem_of_getElem? (i := 80) rfl))) (Or.inr (hw _ (List.mem_of_getElem? (i := 172) rfl))) (by decide) (t := (.object "java/lang/String")) (t' := (.object "java/util/List")) (by decide) (by decide)))
  have Fw3_x5 := Fw3_x4.other W5 (Or.inr (slot_ne (Or.inr (hw _ (List.mem_of_getElem? (i := 82) rfl))) (Or.inr (hw _ (List.mem_of_getElem? (i := 172) rfl))) (by decide) (t := .int) (t' := (.object "java/util/List")) (by decide) (by decide)))
  have G3_x5 := G3_x4.other W5 (Or.inr (slot_ne (Or.inr (hw _ (List.mem_of_getElem? (i := 174) rfl))) (Or.inr (hw _ (List.mem_of_getElem? (i := 172) rfl))) (by decide) (t := (.object "java/lang/String")) (t' := (.object "java/util/List")) (by decide) (by decide)))
  have G4_x5 := G4_x4.other W5 (Or.inr (slot_ne (Or.inr (hw _ (List.mem_of_getElem? (i := 176) rfl))) (Or.inr (hw _ (List.mem_of_getElem? (i := 172) rfl))) (by decide) (t := (.object "java/lang/String")) (t' := (.object "java/util/List")) (by decide) (by decide)))
  have K0_x5 := K0_x4.wr W5 (Or.inl (List.mem_of_getElem? (i := 0) rfl))
  have Eq4_x5 := Eq4.wr W5
  have Fq4_x5 := Fq4.other W5 (Or.inl (Ne.symm ne4_x_ql4))
  show own_Rch p e below _ T5 (mkF m 22 #[.val (.ref x), .val (.ref sr), .val (.int pa), .val (.ref a), .val .null, .val .null] [])
  refine own_st (fun _ kt => XS.aloadN X5.here hx rfl (hb hby own_d11_22) rfl rfl  kt) ?_
  show own_Rch p e below _ T5 (mkF m 23 #[.val (.ref x), .val (.ref sr), .val (.int pa), .val (.ref a), .val .null, .val .null] [(.ref x)])
  refine own_st (fun _ kt => XS.aload X5.here hx rfl (hb hby own_d11_23) rfl rfl  kt) ?_
  show own_Rch p e below _ T5 (mkF m 25 #[.val (.ref x), .val (.ref sr), .val (.int pa), .val (.ref a), .val .null, .val .null] [.null, (.ref x)])
  obtain ⟨T6, h6, X6, e6, W6, st6⟩ := putF X5 hx hZ hown (host := "") (Or.inl (hw _ (List.mem_of_getElem? (i := 173) rfl))) Via.refl e5 G3_x5 EX_x5 (Or.inr ⟨(hw _ (List.mem_of_getElem? (i := 174) rfl)), rfl, hnm⟩) (hw _ (List.mem_of_getElem? (i := 62) rfl)) (ty := (.object "java/lang/String")) (by decide) rfl rfl (g := (mkF m 25 #[.val (.ref x), .val (.ref sr), .val (.int pa), .val (.ref a), .val .null, .val .null] [.null, (.ref x)])) rfl rfl (hb hby own_d11_25)
  refine own_st st6 ?_
  have Fw6 := G3_x5.same W6
  have N6 := Fr.snoc X6 N5 gx
  have O0_x6 := O0_x5.wr W6 gx
  have EA_x6 := EA_x5.wr W6
  have FE_x6 := FE_x5.other W6 (Or.inl hxa)
  have FZ_x6 := FZ_x5.other W6 (Or.inl hxa)
  have FM_x6 := FM_x5.other W6 (Or.inl hxa)
  have EB_x6 := EB_x5.wr W6
  have VB_x6 := VB_x5.other W6 hxb
  have EX_x6 := EX_x5.wr W6
  have Fw2_x6 := Fw2_x5.other W6 (Or.inr (slot_ne (Or.inr (hw _ (List.mem_of_getElem? (i := 80) rfl))) (Or.inr (hw _ (List.mem_of_getElem? (i := 174) rfl))) (by decide) (t := (.object "java/lang/String")) (t' := (.object "java/lang/String")) (by decide) (by decide)))
  have Fw3_x6 := Fw3_x5.other W6 (Or.inr (slot_ne (Or.inr (hw _ (List.mem_of_getElem? (i := 82) rfl))) (Or.inr (hw _ (List.mem_of_getElem? (i := 174) rfl))) (by decide) (t := .int) (t' := (.object "java/lang/String")) (by decide) (by decide)))
  have Fw5_x6 := Fw5.other W6 (Or.inr (slot_ne (Or.inr (hw _ (List.mem_of_getElem? (i := 172) rfl))) (Or.inr (hw _ (List.mem_of_getElem? (i := 174) rfl))) (by decide) (t := (.object "java/util/List")) (t' := (.object "java/lang/String")) (by decide) (by decide)))
  have G4_x6 := G4_x5.other W6 (Or.inr (slot_ne (Or.inr (hw _ (List.mem_of_getElem? (i := 176) rfl))) (Or.inr (hw _ (List.mem_of_getElem? (i := 174) rfl))) (by decide) (t := (.object "java/lang/String")) (t' := (.object "java/lang/String")) (by decide) (by decide)))
  have K0_x6 := K0_x5.wr W6 (Or.inl (List.mem_of_getElem? (i := 0) rfl))
  have Eq4_x6 := Eq4_x5.wr W6
  have Fq4_x6 := Fq4_x5.other W6 (Or.inl (Ne.symm ne4_x_ql4))
  show own_Rch p e below _ T6 (mkF m 28 #[.val (.ref x), .val (.ref sr), .val (.int pa), .val (.ref a), .val .null, .val .null] [])
  refine own_st (fun _ kt => XS.aloadN X6.here hx rfl (hb hby own_d11_28) rfl rfl  kt) ?_
  show own_Rch p e below _ T6 (mkF m 29 #[.val (.ref x), .val (.ref sr), .val (.int pa), .val (.ref a), .val .null, .val .null] [(.ref x)])
  refine own_st (fun _ kt => XS.aload X6.here hx rfl (hb hby own_d11_29) rfl rfl  kt) ?_
  show own_Rch p e below _ T6 (mkF m 31 #[.val (.ref x), .val (.ref sr), .val (.int pa), .val (.ref a), .val .null, .val .null] [.null, (.ref x)])
  obtain ⟨T7, h7, X7, e7, W7, st7⟩ := putF X6 hx hZ hown (host := "") (Or.inl (hw _ (List.mem_of_getElem? (i := 175) rfl))) Via.refl e6 G4_x6 EX_x6 (Or.inr ⟨(hw _ (List.mem_of_getElem? (i := 176) rfl)), rfl, hnm⟩) (hw _ (List.mem_of_getElem? (i := 62) rfl)) (ty := (.object "java/lang/String")) (by decide) rfl rfl (g := (mkF m 31 #[.val (.ref x), .val (.ref sr), .val (.int pa), .val (.ref a), .val .null, .val .null] [.null, (.ref x)])) rfl rfl (hb hby own_d11_31)
  refine own_st st7 ?_
  have Fw7 := G4_x6.same W7
  have N7 := Fr.snoc X7 N6 gx
  have O0_x7 := O0_x6.wr W7 gx
  have EA_x7 := EA_x6.wr W7
  have FE_x7 := FE_x6.other W7 (Or.inl hxa)
  have FZ_x7 := FZ_x6.other W7 (Or.inl hxa)
  have FM_x7 := FM_x6.other W7 (Or.inl hxa)
  have EB_x7 := EB_x6.wr W7
  have VB_x7 := VB_x6.other W7 hxb
  have EX_x7 := EX_x6.wr W7
  have Fw2_x7 := Fw2_x6.other W7 (Or.inr (slot_ne (Or.inr (hw _ (List.mem_of_getElem? (i := 80) rfl))) (Or.inr (hw _ (List.mem_of_getElem? (i := 176) rfl))) (by decide) (t := (.object "java/lang/String")) (t' := (.object "java/lang/String")) (by decide) (by decide)))
  have Fw3_x7 := Fw3_x6.other W7 (Or.inr (slot_ne (Or.inr (hw _ (List.mem_of_getElem? (i := 82) rfl))) (Or.inr (hw _ (List.mem_of_getElem? (i := 176) rfl))) (by decide) (t := .int) (t' := (.object "java/lang/String")) (by decide) (by decide)))
  have Fw5_x7 := Fw5_x6.other W7 (Or.inr (slot_ne (Or.inr (hw _ (List.mem_of_getElem? (i := 172) rfl))) (Or.inr (hw _ (List.mem_of_getElem? (i := 176) rfl))) (by decide) (t := (.object "java/util/List")) (t' := (.object "java/lang/String")) (by decide) (by decide)))
  have Fw6_x7 := Fw6.other W7 (Or.inr (slot_ne (Or.inr (hw _ (List.mem_of_getElem? (i := 174) rfl))) (Or.inr (hw _ (List.mem_of_getElem? (i := 176) rfl))) (by decide) (t := (.object "java/lang/String")) (t' := (.object "java/lang/String")) (by decide) (by decide)))
  have K0_x7 := K0_x6.wr W7 (Or.inl (List.mem_of_getElem? (i := 0) rfl))
  have Eq4_x7 := Eq4_x6.wr W7
  have Fq4_x7 := Fq4_x6.other W7 (Or.inl (Ne.symm ne4_x_ql4))
  show own_Rch p e below _ T7 (mkF m 34 #[.val (.ref x), .val (.ref sr), .val (.int pa), .val (.ref a), .val .null, .val .null] [])
  refine own_retV X7 hx Bd.notSynchronized Bd.returns (hb hby own_d11_34) (by decide) (by decide) ?_
  rw [e7]
  exact ⟨rfl, N7, K0_x7, _, EX_x7, Fw3_x7, Fw5_x7, sz4_ql4, Eq4_x7, Fq4_x7⟩
theorem own_ef10 (m : MethodId) (x0 : Addr) (x1 : Addr) (x2 : Int32) (x3 : Addr) : entryFrame m #[(.ref x0), (.ref x1), (.int x2), (.ref x3)] 4 = mkF m 0 #[.val (.ref x0), .val (.ref x1), .val (.int x2), .val (.ref x3)] [] := by first | (simp [entryFrame, mkF, argsToLocals, Value.category]; done) | rfl
theorem own_d10_0 : decode prog_36_method_1_code 0 = .ok (.aload_n 0, 1) := by decide +kernel
theorem own_d10_1 : decode prog_36_method_1_code 1 = .ok (.aload_n 1, 1) := by decide +kernel
theorem own_d10_2 : decode prog_36_method_1_code 2 = .ok (.iload_n 2, 1) := by decide +kernel
theorem own_d10_3 : decode prog_36_method_1_code 3 = .ok (.aload_n 3, 1) := by decide +kernel
theorem own_d10_4 : decode prog_36_method_1_code 4 = .ok (.aconst_null, 1) := by decide +kernel
theorem own_d10_5 : decode prog_36_method_1_code 5 = .ok (.aconst_null, 1) := by decide +kernel
theorem own_d10_6 : decode prog_36_method_1_code 6 = .ok (.invokespecial 1, 3) := by decide +kernel
theorem own_pd12 : parseMethodDescriptor "(Ljava/lang/String;ILjava/util/List;Ljava/lang/String;Ljava/lang/String;)V" = some ⟨[(.object "java/lang/String"), .int, (.object "java/util/List"), (.object "java/lang/String"), (.object "java/lang/String")], none⟩ := by decide +kernel
theorem own_d10_9 : decode prog_36_method_1_code 9 = .ok (.return_, 1) := by decide +kernel
def own_Q_own_mt3_1 (Z : State) (x : Addr) (sr : Addr) (pa : Int32) (a : Addr) (b : Addr) (kb : ClassId) (mr : Addr) (zz : Addr) (oo : Addr) (em : Addr) (h0 : Heap) (n0 : Nat) (v : Option Value) (h : Heap) (L : List Loc) : Prop := v = none ∧ Fr n0 L ∧ Keep h0 h [x] ∧ ∃ q : Addr, Exa Z h x "com/example/makewhole/makewhole/mortality/MortalityTable" ∧ Fld Z h x "com/example/makewhole/makewhole/mortality/MortalityTable" "firstAge" "I" (.int pa) ∧ Fld Z h x "com/example/makewhole/makewhole/mortality/MortalityTable" "qx" "Ljava/util/List;" (.ref q) ∧ h0.size ≤ q ∧ Exa Z h q "java/util/ImmutableCollections$List12" ∧ Fld Z h q "java/util/ImmutableCollections$List12" "e1" "Ljava/lang/Object;" (.ref em)
set_option maxRecDepth 65536 in
set_option maxHeartbeats 40000000 in
theorem own_mt3_1 (l : Launch) (Z : State) (a0 : Array Value) (hw : ∀ d ∈ tables_1, d.before a0 Z = true) (ws : List Jvm.Cond) (x : Addr) (sr : Addr) (pa : Int32) (a : Addr) (b : Addr) (kb : ClassId) (mr : Addr) (zz : Addr) (oo : Addr) (em : Addr) (h0 : Heap) (n0 : Nat) (O0 : Old Z n0 h0) (EA : Exa Z h0 a "java/util/ArrayList") (FE : Fld Z h0 a "java/util/ArrayList" "elementData" "[Ljava/lang/Object;" (.ref b)) (FZ : Fld Z h0 a "java/util/ArrayList" "size" "I" (.int (1 : Int32))) (FM : Fld Z h0 a "java/util/AbstractList" "modCount" "I" (.int (1 : Int32))) (EB : Exa Z h0 b "[Ljava/lang/Object;") (VB : Arv Z h0 b kb (.object "java/lang/Object") (10 : Int32) [(.ref oo), .null, .null, .null, .null, .null, .null, .null, .null, .null] .null) (EZ : Exa Z Z.heap zz "java/math/BigDecimal") (EO : Exa Z Z.heap oo "java/math/BigDecimal") (MR : own_Mir Z "[Ljava/lang/Object;" mr) (SE : Sta Z Z.heap "java/util/ImmutableCollections" "EMPTY" "Ljava/lang/Object;" (.ref em)) (EX : Exa Z h0 x "com/example/makewhole/makewhole/mortality/MortalityTable") (G0 : Fld Z h0 x "com/example/makewhole/makewhole/mortality/MortalityTable" "source" "Ljava/lang/String;" .null) (G1 : Fld Z h0 x "com/example/makewhole/makewhole/mortality/MortalityTable" "firstAge" "I" (.int (0 : Int32))) (G2 : Fld Z h0 x "com/example/makewhole/makewhole/mortality/MortalityTable" "qx" "Ljava/util/List;" .null) (G3 : Fld Z h0 x "com/example/makewhole/makewhole/mortality/MortalityTable" "publishedName" "Ljava/lang/String;" .null) (G4 : Fld Z h0 x "com/example/makewhole/makewhole/mortality/MortalityTable" "publishedIdentity" "Ljava/lang/String;" .null) (gx : n0 ≤ x) (hxa : a ≠ x) (hxb : b ≠ x) :
    MetFree l (⟨"com/example/makewhole/makewhole/mortality/MortalityTable", "<init>", "(Ljava/lang/String;ILjava/util/List;)V"⟩ : MethodName) (head1 (Jvm.Cond.code (⟨"com/example/makewhole/makewhole/mortality/MortalityTable", "<init>", "(Ljava/lang/String;ILjava/util/List;)V"⟩ : MethodName) prog_36_method_1_code 4 none :: ws) ({ frames := 9, cells := 2, slots := 3, locals := 118 } : Room)) (fun args_ U => args_ = #[(.ref x), (.ref sr), (.int pa), (.ref a)] ∧ Z.Warmed39 U.vm ∧ U.heap = h0) (fun _ _ _ _ _ => True) (fun _ U o U' => ∃ v L, o = .returned v ∧ (own_Q_own_mt3_1 Z x sr pa a b kb mr zz oo em h0 n0) v U'.heap L ∧ FrameEnd U o U' L ({ frames := 9, cells := 2, slots := 3, locals := 118 } : Room).cells ({ frames := 9, cells := 2, slots := 3, locals := 118 } : Room).slots) := by
  refine MetFree.of_bodySF (plainFor_of_name own_pn10) hisR ?_
  intro p e s m args below meth c s₁ Bd hml0 hP hK
  obtain ⟨rfl, hZ, hh⟩ := hP
  have hx := Bd.exec
  have hby := Bd.bytes
  have hml : c.maxLocals = 4 := hml0
  have hown : s.vm.findClass "com/example/makewhole/makewhole/mortality/MortalityTable" = some m.cls := findClass_of_methodNamed Bd.named
  have hnm := (name_of_methodNamed Bd.named Bd.method).1
  have X0 : Stand p l e ({ frames := 9, cells := 2, slots := 3, locals := 118 } : Room) s m #[(.ref x), (.ref sr), (.int pa), (.ref a)] below meth c s₁ [] 0 0 := Stand.of_body Bd
  have e0 : s₁.heap = h0 := by rw [← hh, Bd.state]; rfl
  have N0 := Fr.nil n0
  refine own_close (s := s) (Q := (own_Q_own_mt3_1 Z x sr pa a b kb mr zz oo em h0 n0)) (C := (({ frames := 9, cells := 2, slots := 3, locals := 118 } : Room)).cells) (N := (({ frames := 9, cells := 2, slots := 3, locals := 118 } : Room)).slots) (own_st (fun _ kt => castTop (own_ef10 m x sr pa a) kt) ?_)
  have K0 := Keep.refl h0 [x]
  show own_Rch p e below _ s₁ (mkF m 0 #[.val (.ref x), .val (.ref sr), .val (.int pa), .val (.ref a)] [])
  refine own_st (fun _ kt => XS.aloadN X0.here hx rfl (hb hby own_d10_0) rfl rfl  kt) ?_
  show own_Rch p e below _ s₁ (mkF m 1 #[.val (.ref x), .val (.ref sr), .val (.int pa), .val (.ref a)] [(.ref x)])
  refine own_st (fun _ kt => XS.aloadN X0.here hx rfl (hb hby own_d10_1) rfl rfl  kt) ?_
  show own_Rch p e below _ s₁ (mkF m 2 #[.val (.ref x), .val (.ref sr), .val (.int pa), .val (.ref a)] [(.ref sr), (.ref x)])
  refine own_st (fun _ kt => XS.iloadN X0.here hx rfl (hb hby own_d10_2) rfl  kt) ?_
  show own_Rch p e below _ s₁ (mkF m 3 #[.val (.ref x), .val (.ref sr), .val (.int pa), .val (.ref a)] [(.int pa), (.ref sr), (.ref x)])
  refine own_st (fun _ kt => XS.aloadN X0.here hx rfl (hb hby own_d10_3) rfl rfl  kt) ?_
  show own_Rch p e below _ s₁ (mkF m 4 #[.val (.ref x), .val (.ref sr), .val (.int pa), .val (.ref a)] [(.ref a), (.int pa), (.ref sr), (.ref x)])
  refine own_st (fun _ kt => XS.aconstNull X0.here hx rfl (hb hby own_d10_4) kt) ?_
  show own_Rch p e below _ s₁ (mkF m 5 #[.val (.ref x), .val (.ref sr), .val (.int pa), .val (.ref a)] [.null, (.ref a), (.int pa), (.ref sr), (.ref x)])
  refine own_st (fun _ kt => XS.aconstNull X0.here hx rfl (hb hby own_d10_5) kt) ?_
  show own_Rch p e below _ s₁ (mkF m 6 #[.val (.ref x), .val (.ref sr), .val (.int pa), .val (.ref a)] [.null, .null, (.ref a), (.int pa), (.ref sr), (.ref x)])
  obtain ⟨_, _, ⟨T1, L1, k1, n1⟩, -, X1, ⟨Lc1, hQ1, l1, y1, z1⟩, st1⟩ := X0.specialBack hx (y := (⟨"com/example/makewhole/makewhole/mortality/MortalityTable", "<init>", "(Ljava/lang/String;ILjava/util/List;Ljava/lang/String;Ljava/lang/String;)V"⟩ : MethodName)) rfl hown (mvT hZ (hw _ (List.mem_of_getElem? (i := 75) rfl))) (mvT hZ (hw _ (List.mem_of_getElem? (i := 76) rfl))) (mvT hZ (hw _ (List.mem_of_getElem? (i := 77) rfl))) (by decide) (backOf (W := 0) (own_mt5_1 l Z a0 hw [] x sr pa a b kb mr zz oo em h0 n0 O0 EA FE FZ FM EB VB EZ EO MR SE EX G0 G1 G2 G3 G4 gx hxa hxb) hZ (hw _ (List.mem_of_getElem? (i := 77) rfl)) (hw _ (List.mem_of_getElem? (i := 63) rfl)) (by decide) (by decide)) (g := (mkF m 6 #[.val (.ref x), .val (.ref sr), .val (.int pa), .val (.ref a)] [.null, .null, (.ref a), (.int pa), (.ref sr), (.ref x)])) rfl (by rw [hml]; rfl) (Steps.refl _) (a := x) (argsL := [(.ref sr), (.int pa), (.ref a), .null, .null]) (rest := []) (lenOf own_pd12 rfl) rfl (by show 2 * 0 + _ ≤ _; exact Nat.le_of_eq rfl) (hb hby own_d10_6) (fun _ _ => ⟨rfl, e0, (by decide : 0 + 2 ≤ _), (by decide : 0 + 3 ≤ _)⟩)
  dsimp only [Pt.U, Pt.locs, Pt.cells, Pt.slots] at X1 l1 y1 z1 st1 hQ1
  subst l1 y1 z1
  obtain ⟨rfl, N1q, K1, qm1, Ex1, Fa1, Fx1, hq1, Eq1, Fq1⟩ := hQ1
  have N1 := Fr.app N0 N1q
  refine own_st (fun _ kt => st1.trans kt) ?_
  have ne1_a_qm1 : a ≠ qm1 := Nat.ne_of_lt (Nat.lt_of_lt_of_le EA.lt hq1)
  have ne1_b_qm1 : b ≠ qm1 := Nat.ne_of_lt (Nat.lt_of_lt_of_le EB.lt hq1)
  have ne1_x_qm1 : x ≠ qm1 := Nat.ne_of_lt (Nat.lt_of_lt_of_le EX.lt hq1)
  have ge1_qm1 : n0 ≤ qm1 := Nat.le_trans (own_old_le O0) hq1
  have sz1_qm1 : h0.size ≤ qm1 := Nat.le_trans K0.1 hq1
  have O0_x1 := O0.keep K1 (allS gx all0)
  have EA_x1 := EA.keep K1
  have FE_x1 := FE.keep K1 (ninS hxa nin0)
  have FZ_x1 := FZ.keep K1 (ninS hxa nin0)
  have FM_x1 := FM.keep K1 (ninS hxa nin0)
  have EB_x1 := EB.keep K1
  have VB_x1 := VB.keep K1 (ninS hxb nin0)
  have EX_x1 := EX.keep K1
  have K0_x1 := K0.trans K1 (allS (Or.inl (List.mem_of_getElem? (i := 0) rfl)) all0)
  show own_Rch p e below _ T1 (mkF m 9 #[.val (.ref x), .val (.ref sr), .val (.int pa), .val (.ref a)] [])
  refine own_retV X1 hx Bd.notSynchronized Bd.returns (hb hby own_d10_9) (by decide) (by decide) ?_
  exact ⟨rfl, N1, K0_x1, _, Ex1, Fa1, Fx1, sz1_qm1, Eq1, Fq1⟩
theorem own_ef29 (m : MethodId) (x0 : Addr) : entryFrame m #[(.ref x0)] 1 = mkF m 0 #[.val (.ref x0)] [] := by first | (simp [entryFrame, mkF, argsToLocals, Value.category]; done) | rfl
theorem own_d29_0 : decode jdk_44_method_3_code 0 = .ok (.aload_n 0, 1) := by decide +kernel
theorem own_d29_1 : decode jdk_44_method_3_code 1 = .ok (.getfield 24, 3) := by decide +kernel
theorem own_d29_4 : decode jdk_44_method_3_code 4 = .ok (.getstatic 19, 3) := by decide +kernel
theorem own_d29_7 : decode jdk_44_method_3_code 7 = .ok (.if_acmp .eq 7, 3) := by decide +kernel
theorem own_d29_14 : decode jdk_44_method_3_code 14 = .ok (.iconst 1, 1) := by decide +kernel
theorem own_d29_15 : decode jdk_44_method_3_code 15 = .ok (.ireturn, 1) := by decide +kernel
def own_Q_own_size_1 (Z : State) (a : Addr) (em : Addr) (h0 : Heap) (n0 : Nat) (v : Option Value) (h : Heap) (L : List Loc) : Prop := v = some (.int (1 : Int32)) ∧ Fr n0 L ∧ h = h0
set_option maxRecDepth 65536 in
set_option maxHeartbeats 40000000 in
theorem own_size_1 (l : Launch) (Z : State) (a0 : Array Value) (hw : ∀ d ∈ tables_1, d.before a0 Z = true) (ws : List Jvm.Cond) (a : Addr) (em : Addr) (h0 : Heap) (n0 : Nat) (O0 : Old Z n0 h0) (SE : Sta Z Z.heap "java/util/ImmutableCollections" "EMPTY" "Ljava/lang/Object;" (.ref em)) (F1 : Fld Z h0 a "java/util/ImmutableCollections$List12" "e1" "Ljava/lang/Object;" (.ref em)) :
    MetFree l (⟨"java/util/ImmutableCollections$List12", "size", "()I"⟩ : MethodName) (head1 (Jvm.Cond.code (⟨"java/util/ImmutableCollections$List12", "size", "()I"⟩ : MethodName) jdk_44_method_3_code 1 (some .int) :: ws) ({ frames := 0, cells := 0, slots := 0, locals := 0 } : Room)) (fun args_ U => args_ = #[(.ref a)] ∧ Z.Warmed39 U.vm ∧ U.heap = h0) (fun _ _ _ _ _ => True) (fun _ U o U' => ∃ v L, o = .returned v ∧ (own_Q_own_size_1 Z a em h0 n0) v U'.heap L ∧ FrameEnd U o U' L ({ frames := 0, cells := 0, slots := 0, locals := 0 } : Room).cells ({ frames := 0, cells := 0, slots := 0, locals := 0 } : Room).slots) := by
  refine MetFree.of_bodySF (plainFor_of_name own_pn7) hisR ?_
  intro p e s m args below meth c s₁ Bd hml0 hP hK
  obtain ⟨rfl, hZ, hh⟩ := hP
  have hx := Bd.exec
  have hby := Bd.bytes
  have hml : c.maxLocals = 1 := hml0
  have hown : s.vm.findClass "java/util/ImmutableCollections$List12" = some m.cls := findClass_of_methodNamed Bd.named
  have hnm := (name_of_methodNamed Bd.named Bd.method).1
  have X0 : Stand p l e ({ frames := 0, cells := 0, slots := 0, locals := 0 } : Room) s m #[(.ref a)] below meth c s₁ [] 0 0 := Stand.of_body Bd
  have e0 : s₁.heap = h0 := by rw [← hh, Bd.state]; rfl
  have N0 := Fr.nil n0
  refine own_close (s := s) (Q := (own_Q_own_size_1 Z a em h0 n0)) (C := (({ frames := 0, cells := 0, slots := 0, locals := 0 } : Room)).cells) (N := (({ frames := 0, cells := 0, slots := 0, locals := 0 } : Room)).slots) (own_st (fun _ kt => castTop (own_ef29 m a) kt) ?_)
  show own_Rch p e below _ s₁ (mkF m 0 #[.val (.ref a)] [])
  refine own_st (fun _ kt => XS.aloadN X0.here hx rfl (hb hby own_d29_0) rfl rfl  kt) ?_
  show own_Rch p e below _ s₁ (mkF m 1 #[.val (.ref a)] [(.ref a)])
  obtain ⟨T1, X1, e1, st1⟩ := getF X0 hx hZ hown (host := "") (Or.inl (hw _ (List.mem_of_getElem? (i := 210) rfl))) Via.refl e0 F1 (g := (mkF m 1 #[.val (.ref a)] [(.ref a)])) rfl rfl (hb hby own_d29_1)
  refine own_st st1 ?_
  show own_Rch p e below _ T1 (mkF m 4 #[.val (.ref a)] [(.ref em)])
  obtain ⟨T2, X2, e2, st2⟩ := getS2 X1 hx hZ hown (Or.inr (hw _ (List.mem_of_getElem? (i := 218) rfl))) Via.refl e1 (SE.ext O0.2) (g := (mkF m 4 #[.val (.ref a)] [(.ref em)])) rfl (hb hby own_d29_4)
  refine own_st st2 ?_
  show own_Rch p e below _ T2 (mkF m 7 #[.val (.ref a)] [(.ref em), (.ref em)])
  refine own_st (fun _ kt => Jvm.RoadKit.acmp (g := (mkF m 7 #[.val (.ref a)] [(.ref em), (.ref em)])) X2 hx rfl rfl rfl (pc0 := 7) (pc' := 14) (same := true) rfl (hb hby own_d29_7) rfl (decide_eq_true rfl) (by decide) (by decide) kt) ?_
  show own_Rch p e below _ T2 (mkF m 14 #[.val (.ref a)] [])
  refine own_st (fun _ kt => XS.iconst X2.here hx rfl (hb hby own_d29_14) kt) ?_
  show own_Rch p e below _ T2 (mkF m 15 #[.val (.ref a)] [(.int (1 : Int32))])
  refine own_retI X2 hx Bd.notSynchronized Bd.returns (hb hby own_d29_15) (by decide) (by decide) ?_
  rw [e2]
  exact ⟨rfl, N0, rfl⟩
theorem own_ef25 (m : MethodId) (x0 : Addr) : entryFrame m #[(.ref x0)] 1 = mkF m 0 #[.val (.ref x0)] [] := by first | (simp [entryFrame, mkF, argsToLocals, Value.category]; done) | rfl
theorem own_d25_0 : decode prog_36_method_9_code 0 = .ok (.aload_n 0, 1) := by decide +kernel
theorem own_d25_1 : decode prog_36_method_9_code 1 = .ok (.getfield 16, 3) := by decide +kernel
theorem own_d25_4 : decode prog_36_method_9_code 4 = .ok (.aload_n 0, 1) := by decide +kernel
theorem own_d25_5 : decode prog_36_method_9_code 5 = .ok (.getfield 26, 3) := by decide +kernel
theorem own_d25_8 : decode prog_36_method_9_code 8 = .ok (.invokeinterface 50 1, 5) := by decide +kernel
theorem own_pd13 : parseMethodDescriptor "()I" = some ⟨[], some .int⟩ := by decide +kernel
theorem own_d25_13 : decode prog_36_method_9_code 13 = .ok (.iadd, 1) := by decide +kernel
theorem own_d25_14 : decode prog_36_method_9_code 14 = .ok (.iconst 1, 1) := by decide +kernel
theorem own_d25_15 : decode prog_36_method_9_code 15 = .ok (.isub, 1) := by decide +kernel
theorem own_d25_16 : decode prog_36_method_9_code 16 = .ok (.ireturn, 1) := by decide +kernel
def own_Q_own_last_1 (Z : State) (x : Addr) (pa : Int32) (q : Addr) (em : Addr) (oo : Addr) (h0 : Heap) (n0 : Nat) (v : Option Value) (h : Heap) (L : List Loc) : Prop := v = some (.int ((pa + (1 : Int32)) - (1 : Int32))) ∧ Fr n0 L ∧ h = h0
set_option maxRecDepth 65536 in
set_option maxHeartbeats 40000000 in
theorem own_last_1 (l : Launch) (Z : State) (a0 : Array Value) (hw : ∀ d ∈ tables_1, d.before a0 Z = true) (ws : List Jvm.Cond) (x : Addr) (pa : Int32) (q : Addr) (em : Addr) (oo : Addr) (h0 : Heap) (n0 : Nat) (O0 : Old Z n0 h0) (SE : Sta Z Z.heap "java/util/ImmutableCollections" "EMPTY" "Ljava/lang/Object;" (.ref em)) (EE : Exa Z Z.heap em "java/lang/Object") (EO : Exa Z Z.heap oo "java/math/BigDecimal") (FA : Fld Z h0 x "com/example/makewhole/makewhole/mortality/MortalityTable" "firstAge" "I" (.int pa)) (FX : Fld Z h0 x "com/example/makewhole/makewhole/mortality/MortalityTable" "qx" "Ljava/util/List;" (.ref q)) (E : Exa Z h0 q "java/util/ImmutableCollections$List12") (F1 : Fld Z h0 q "java/util/ImmutableCollections$List12" "e1" "Ljava/lang/Object;" (.ref em)) :
    MetFree l (⟨"com/example/makewhole/makewhole/mortality/MortalityTable", "getLastAge", "()I"⟩ : MethodName) (head1 (Jvm.Cond.code (⟨"com/example/makewhole/makewhole/mortality/MortalityTable", "getLastAge", "()I"⟩ : MethodName) prog_36_method_9_code 1 (some .int) :: ws) ({ frames := 1, cells := 0, slots := 0, locals := 13 } : Room)) (fun args_ U => args_ = #[(.ref x)] ∧ Z.Warmed39 U.vm ∧ U.heap = h0) (fun _ _ _ _ _ => True) (fun _ U o U' => ∃ v L, o = .returned v ∧ (own_Q_own_last_1 Z x pa q em oo h0 n0) v U'.heap L ∧ FrameEnd U o U' L ({ frames := 1, cells := 0, slots := 0, locals := 13 } : Room).cells ({ frames := 1, cells := 0, slots := 0, locals := 13 } : Room).slots) := by
  refine MetFree.of_bodySF (plainFor_of_name own_pn10) hisR ?_
  intro p e s m args below meth c s₁ Bd hml0 hP hK
  obtain ⟨rfl, hZ, hh⟩ := hP
  have hx := Bd.exec
  have hby := Bd.bytes
  have hml : c.maxLocals = 1 := hml0
  have hown : s.vm.findClass "com/example/makewhole/makewhole/mortality/MortalityTable" = some m.cls := findClass_of_methodNamed Bd.named
  have hnm := (name_of_methodNamed Bd.named Bd.method).1
  have X0 : Stand p l e ({ frames := 1, cells := 0, slots := 0, locals := 13 } : Room) s m #[(.ref x)] below meth c s₁ [] 0 0 := Stand.of_body Bd
  have e0 : s₁.heap = h0 := by rw [← hh, Bd.state]; rfl
  have N0 := Fr.nil n0
  refine own_close (s := s) (Q := (own_Q_own_last_1 Z x pa q em oo h0 n0)) (C := (({ frames := 1, cells := 0, slots := 0, locals := 13 } : Room)).cells) (N := (({ frames := 1, cells := 0, slots := 0, locals := 13 } : Room)).slots) (own_st (fun _ kt => castTop (own_ef25 m x) kt) ?_)
  show own_Rch p e below _ s₁ (mkF m 0 #[.val (.ref x)] [])
  refine own_st (fun _ kt => XS.aloadN X0.here hx rfl (hb hby own_d25_0) rfl rfl  kt) ?_
  show own_Rch p e below _ s₁ (mkF m 1 #[.val (.ref x)] [(.ref x)])
  obtain ⟨T1, X1, e1, st1⟩ := getF X0 hx hZ hown (host := "") (Or.inl (hw _ (List.mem_of_getElem? (i := 81) rfl))) Via.refl e0 FA (g := (mkF m 1 #[.val (.ref x)] [(.ref x)])) rfl rfl (hb hby own_d25_1)
  refine own_st st1 ?_
  show own_Rch p e below _ T1 (mkF m 4 #[.val (.ref x)] [(.int pa)])
  refine own_st (fun _ kt => XS.aloadN X1.here hx rfl (hb hby own_d25_4) rfl rfl  kt) ?_
  show own_Rch p e below _ T1 (mkF m 5 #[.val (.ref x)] [(.ref x), (.int pa)])
  obtain ⟨T2, X2, e2, st2⟩ := getF X1 hx hZ hown (host := "") (Or.inl (hw _ (List.mem_of_getElem? (i := 171) rfl))) Via.refl e1 FX (g := (mkF m 5 #[.val (.ref x)] [(.ref x), (.int pa)])) rfl rfl (hb hby own_d25_5)
  refine own_st st2 ?_
  show own_Rch p e below _ T2 (mkF m 8 #[.val (.ref x)] [(.ref q), (.int pa)])
  obtain ⟨cq3, kq3, q3a, q3b, q3c⟩ := isOf hZ e2 E
  obtain ⟨_, _, ⟨T3, L3, k3, n3⟩, -, X3, ⟨Lc3, hQ3, l3, y3, z3⟩, st3⟩ := X2.interfaceBack hx (xi := (⟨"java/util/List", "size", "()I"⟩ : MethodName)) (y := (⟨"java/util/ImmutableCollections$List12", "size", "()I"⟩ : MethodName)) hown (mvT hZ (hw _ (List.mem_of_getElem? (i := 182) rfl))) (mvT hZ (hw _ (List.mem_of_getElem? (i := 183) rfl))) (mvT hZ (hw _ (List.mem_of_getElem? (i := 184) rfl))) (mvT hZ (hw _ (List.mem_of_getElem? (i := 212) rfl))) (mvT hZ (hw _ (List.mem_of_getElem? (i := 213) rfl))) (mvT hZ (hw _ (List.mem_of_getElem? (i := 214) rfl))) (mvT hZ (hw _ (List.mem_of_getElem? (i := 215) rfl))) (mvT hZ (hw _ (List.mem_of_getElem? (i := 216) rfl))) (by decide) (backOf (W := 1) (own_size_1 l Z a0 hw [] q em h0 n0 O0 SE F1) hZ (hw _ (List.mem_of_getElem? (i := 217) rfl)) (hw _ (List.mem_of_getElem? (i := 198) rfl)) (by decide) (by decide)) q3a q3b q3c (g := (mkF m 8 #[.val (.ref x)] [(.ref q), (.int pa)])) rfl (by rw [hml]; rfl) (Steps.refl _) (argsL := []) (rest := [(.int pa)]) (lenOf own_pd13 rfl) rfl (by show 2 * 0 + _ ≤ _; exact Nat.le_of_eq rfl) (hb hby own_d25_8) (fun _ _ => ⟨rfl, e2, (by decide : 0 + 0 ≤ _), (by decide : 0 + 0 ≤ _)⟩)
  dsimp only [Pt.U, Pt.locs, Pt.cells, Pt.slots] at X3 l3 y3 z3 st3 hQ3
  subst l3 y3 z3
  obtain ⟨rfl, N3q, hh3⟩ := hQ3
  have N3 := Fr.app N0 N3q
  refine own_st (fun _ kt => st3.trans kt) ?_
  show own_Rch p e below _ T3 (mkF m 13 #[.val (.ref x)] [(.int (1 : Int32)), (.int pa)])
  refine own_st (fun _ kt => XS.iadd X3.here hx rfl (hb hby own_d25_13) rfl kt) ?_
  show own_Rch p e below _ T3 (mkF m 14 #[.val (.ref x)] [(.int (pa + (1 : Int32)))])
  refine own_st (fun _ kt => XS.iconst X3.here hx rfl (hb hby own_d25_14) kt) ?_
  show own_Rch p e below _ T3 (mkF m 15 #[.val (.ref x)] [(.int (1 : Int32)), (.int (pa + (1 : Int32)))])
  refine own_st (fun _ kt => XS.isub X3.here hx rfl (hb hby own_d25_15) rfl kt) ?_
  show own_Rch p e below _ T3 (mkF m 16 #[.val (.ref x)] [(.int ((pa + (1 : Int32)) - (1 : Int32)))])
  refine own_retI X3 hx Bd.notSynchronized Bd.returns (hb hby own_d25_16) (by decide) (by decide) ?_
  rw [hh3]
  exact ⟨rfl, N3, rfl⟩
def own_Q_own_copy3_2 (Z : State) (b : Addr) (kb : ClassId) (mr : Addr) (zz : Addr) (oo : Addr) (h0 : Heap) (n0 : Nat) (v : Option Value) (h : Heap) (L : List Loc) : Prop := ∃ (r : Addr) (kr : ClassId), v = some (.ref r) ∧ Fr n0 L ∧ Keep h0 h [] ∧ h0.size ≤ r ∧ Exa Z h r "[Ljava/lang/Object;" ∧ Arv Z h r kr (.object "java/lang/Object") (2 : Int32) [(.ref zz), (.ref oo)] .null ∧ Ovr Z kr "java/lang/Object"
set_option maxRecDepth 65536 in
set_option maxHeartbeats 40000000 in
theorem own_copy3_2 (l : Launch) (Z : State) (a0 : Array Value) (hw : ∀ d ∈ tables_1, d.before a0 Z = true) (ws : List Jvm.Cond) (b : Addr) (kb : ClassId) (mr : Addr) (zz : Addr) (oo : Addr) (h0 : Heap) (n0 : Nat) (O0 : Old Z n0 h0) (EB : Exa Z h0 b "[Ljava/lang/Object;") (VB : Arv Z h0 b kb (.object "java/lang/Object") (10 : Int32) [(.ref zz), (.ref oo), .null, .null, .null, .null, .null, .null, .null, .null] .null) (EZ : Exa Z Z.heap zz "java/math/BigDecimal") (EO : Exa Z Z.heap oo "java/math/BigDecimal") (MR : own_Mir Z "[Ljava/lang/Object;" mr) :
    MetFree l (⟨"java/util/Arrays", "copyOf", "([Ljava/lang/Object;ILjava/lang/Class;)[Ljava/lang/Object;"⟩ : MethodName) (head1 (Jvm.Cond.code (⟨"java/util/Arrays", "copyOf", "([Ljava/lang/Object;ILjava/lang/Class;)[Ljava/lang/Object;"⟩ : MethodName) jdk_65_method_120_code 4 (some (.array (.object "java/lang/Object"))) :: ws) ({ frames := 1, cells := 1, slots := 2, locals := 18 } : Room)) (fun args_ U => args_ = #[(.ref b), (.int (2 : Int32)), (.ref mr)] ∧ Z.Warmed39 U.vm ∧ U.heap = h0) (fun _ _ _ _ _ => True) (fun _ U o U' => ∃ v L, o = .returned v ∧ (own_Q_own_copy3_2 Z b kb mr zz oo h0 n0) v U'.heap L ∧ FrameEnd U o U' L ({ frames := 1, cells := 1, slots := 2, locals := 18 } : Room).cells ({ frames := 1, cells := 1, slots := 2, locals := 18 } : Room).slots) := by
  refine MetFree.of_bodySF (plainFor_of_name own_pn6) hisR ?_
  intro p e s m args below meth c s₁ Bd hml0 hP hK
  obtain ⟨rfl, hZ, hh⟩ := hP
  have hx := Bd.exec
  have hby := Bd.bytes
  have hml : c.maxLocals = 4 := hml0
  have hown : s.vm.findClass "java/util/Arrays" = some m.cls := findClass_of_methodNamed Bd.named
  have hnm := (name_of_methodNamed Bd.named Bd.method).1
  have X0 : Stand p l e ({ frames := 1, cells := 1, slots := 2, locals := 18 } : Room) s m #[(.ref b), (.int (2 : Int32)), (.ref mr)] below meth c s₁ [] 0 0 := Stand.of_body Bd
  have e0 : s₁.heap = h0 := by rw [← hh, Bd.state]; rfl
  have N0 := Fr.nil n0
  refine own_close (s := s) (Q := (own_Q_own_copy3_2 Z b kb mr zz oo h0 n0)) (C := (({ frames := 1, cells := 1, slots := 2, locals := 18 } : Room)).cells) (N := (({ frames := 1, cells := 1, slots := 2, locals := 18 } : Room)).slots) (own_st (fun _ kt => castTop (own_ef17 m b (2 : Int32) mr) kt) ?_)
  have K0 := Keep.refl h0 []
  show own_Rch p e below _ s₁ (mkF m 0 #[.val (.ref b), .val (.int (2 : Int32)), .val (.ref mr), .unset] [])
  refine own_st (fun _ kt => XS.aloadN X0.here hx rfl (hb hby own_d17_0) rfl rfl  kt) ?_
  show own_Rch p e below _ s₁ (mkF m 1 #[.val (.ref b), .val (.int (2 : Int32)), .val (.ref mr), .unset] [(.ref mr)])
  obtain ⟨T1, X1, e1, st1⟩ := own_ldcm X0 hx hZ hown (hw _ (List.mem_of_getElem? (i := 127) rfl)) e0 MR (g := (mkF m 1 #[.val (.ref b), .val (.int (2 : Int32)), .val (.ref mr), .unset] [(.ref mr)])) rfl (hb hby own_d17_1)
  refine own_st st1 ?_
  show own_Rch p e below _ T1 (mkF m 3 #[.val (.ref b), .val (.int (2 : Int32)), .val (.ref mr), .unset] [(.ref mr), (.ref mr)])
  refine own_st (fun _ kt => Jvm.RoadKit.acmp (g := (mkF m 3 #[.val (.ref b), .val (.int (2 : Int32)), .val (.ref mr), .unset] [(.ref mr), (.ref mr)])) X1 hx rfl rfl rfl (pc0 := 3) (pc' := 6) (same := true) rfl (hb hby own_d17_3) rfl (decide_eq_true rfl) (by decide) (by decide) kt) ?_
  show own_Rch p e below _ T1 (mkF m 6 #[.val (.ref b), .val (.int (2 : Int32)), .val (.ref mr), .unset] [])
  refine own_st (fun _ kt => XS.iloadN X1.here hx rfl (hb hby own_d17_6) rfl  kt) ?_
  show own_Rch p e below _ T1 (mkF m 7 #[.val (.ref b), .val (.int (2 : Int32)), .val (.ref mr), .unset] [(.int (2 : Int32))])
  obtain ⟨T2, h2, k2, X2, e2, E2, A2, Ex2, Ov2, st2⟩ := newRE X1 hx hZ hown (hw _ (List.mem_of_getElem? (i := 128) rfl)) (hw _ (List.mem_of_getElem? (i := 58) rfl)) e1 (g := (mkF m 7 #[.val (.ref b), .val (.int (2 : Int32)), .val (.ref mr), .unset] [(.int (2 : Int32))])) rfl (hb hby own_d17_7) rfl (by decide) (cap := 2) (by decide) (by decide) (by decide) (by decide) (ad := "[Ljava/lang/Object;") (by decide)
  obtain ⟨b2, g2⟩ : ∃ z, z = h0.size := ⟨_, rfl⟩
  rw [← g2] at A2 Ex2 st2
  have ge2 : n0 ≤ b2 := by rw [g2]; exact own_old_le O0
  have ne2_b : b ≠ b2 := by rw [g2]; exact Nat.ne_of_lt EB.lt
  have sz2 : h0.size ≤ b2 := by rw [g2]; exact K0.1
  have O0_x2 := O0.ext E2
  have EB_x2 := EB.ext E2
  have VB_x2 := VB.ext E2
  have K0_x2 := K0.ext E2
  refine own_st st2 ?_
  have V2 := Arv.new A2 (by decide)
  have V2p : Arv Z h2 b2 k2 (.object "java/lang/Object") (2 : Int32) [.null, .null] .null := V2.pad (pad_rep [] .null 2)
  show own_Rch p e below _ T2 (mkF m 10 #[.val (.ref b), .val (.int (2 : Int32)), .val (.ref mr), .unset] [(.ref b2)])
  refine own_st (fun _ kt => XS.goto X2.here hx rfl (pc0 := 10) (pc' := 24) rfl (hb hby own_d17_10) (by decide) (by decide) kt) ?_
  show own_Rch p e below _ T2 (mkF m 24 #[.val (.ref b), .val (.int (2 : Int32)), .val (.ref mr), .unset] [(.ref b2)])
  refine own_st (fun _ kt => XS.astoreN X2.here hx rfl (hb hby own_d17_24) rfl rfl (l' := #[.val (.ref b), .val (.int (2 : Int32)), .val (.ref mr), .val (.ref b2)]) rfl kt) ?_
  show own_Rch p e below _ T2 (mkF m 25 #[.val (.ref b), .val (.int (2 : Int32)), .val (.ref mr), .val (.ref b2)] [])
  refine own_st (fun _ kt => XS.aloadN X2.here hx rfl (hb hby own_d17_25) rfl rfl  kt) ?_
  show own_Rch p e below _ T2 (mkF m 26 #[.val (.ref b), .val (.int (2 : Int32)), .val (.ref mr), .val (.ref b2)] [(.ref b)])
  refine own_st (fun _ kt => XS.iconst X2.here hx rfl (hb hby own_d17_26) kt) ?_
  show own_Rch p e below _ T2 (mkF m 27 #[.val (.ref b), .val (.int (2 : Int32)), .val (.ref mr), .val (.ref b2)] [(.int (0 : Int32)), (.ref b)])
  refine own_st (fun _ kt => XS.aloadN X2.here hx rfl (hb hby own_d17_27) rfl rfl  kt) ?_
  show own_Rch p e below _ T2 (mkF m 28 #[.val (.ref b), .val (.int (2 : Int32)), .val (.ref mr), .val (.ref b2)] [(.ref b2), (.int (0 : Int32)), (.ref b)])
  refine own_st (fun _ kt => XS.iconst X2.here hx rfl (hb hby own_d17_28) kt) ?_
  show own_Rch p e below _ T2 (mkF m 29 #[.val (.ref b), .val (.int (2 : Int32)), .val (.ref mr), .val (.ref b2)] [(.int (0 : Int32)), (.ref b2), (.int (0 : Int32)), (.ref b)])
  refine own_st (fun _ kt => XS.aloadN X2.here hx rfl (hb hby own_d17_29) rfl rfl  kt) ?_
  show own_Rch p e below _ T2 (mkF m 30 #[.val (.ref b), .val (.int (2 : Int32)), .val (.ref mr), .val (.ref b2)] [(.ref b), (.int (0 : Int32)), (.ref b2), (.int (0 : Int32)), (.ref b)])
  obtain ⟨cl3, Ar3, -, S3, M3, -, -⟩ := id VB_x2
  refine own_st (X2.arraylength hx (by rw [e2]; exact Ar3.1) (State.isArrayOf_alike (hZ).alike Ar3.2.1) (g := (mkF m 30 #[.val (.ref b), .val (.int (2 : Int32)), .val (.ref mr), .val (.ref b2)] [(.ref b), (.int (0 : Int32)), (.ref b2), (.int (0 : Int32)), (.ref b)])) rfl rfl (hb hby own_d17_30)) ?_
  rw [len_of S3 M3]
  show own_Rch p e below _ T2 (mkF m 31 #[.val (.ref b), .val (.int (2 : Int32)), .val (.ref mr), .val (.ref b2)] [(.int (10 : Int32)), (.int (0 : Int32)), (.ref b2), (.int (0 : Int32)), (.ref b)])
  refine own_st (fun _ kt => XS.iloadN X2.here hx rfl (hb hby own_d17_31) rfl  kt) ?_
  show own_Rch p e below _ T2 (mkF m 32 #[.val (.ref b), .val (.int (2 : Int32)), .val (.ref mr), .val (.ref b2)] [(.int (2 : Int32)), (.int (10 : Int32)), (.int (0 : Int32)), (.ref b2), (.int (0 : Int32)), (.ref b)])
  obtain ⟨_, _, ⟨T4, L4, k4, n4⟩, -, X4, ⟨Lc4, hQ4, l4, y4, z4⟩, st4⟩ := Jvm.LawKit.callS X2 hx (y := (⟨"java/lang/Math", "min", "(II)I"⟩ : MethodName)) hown (mvT hZ (hw _ (List.mem_of_getElem? (i := 129) rfl))) (mvT hZ (hw _ (List.mem_of_getElem? (i := 130) rfl))) (mvT hZ (hw _ (List.mem_of_getElem? (i := 55) rfl))) (mvT hZ (hw _ (List.mem_of_getElem? (i := 131) rfl))) (by decide) (backOf (W := 4) (own_mi l Z a0 hw [] (10 : Int32) (2 : Int32) h2 n0 O0_x2 (by decide)) hZ (hw _ (List.mem_of_getElem? (i := 131) rfl)) (hw _ (List.mem_of_getElem? (i := 55) rfl)) (by decide) (by decide)) (g := (mkF m 32 #[.val (.ref b), .val (.int (2 : Int32)), .val (.ref mr), .val (.ref b2)] [(.int (2 : Int32)), (.int (10 : Int32)), (.int (0 : Int32)), (.ref b2), (.int (0 : Int32)), (.ref b)])) rfl (by rw [hml]; rfl) (argsL := [(.int (10 : Int32)), (.int (2 : Int32))]) (rest := [(.int (0 : Int32)), (.ref b2), (.int (0 : Int32)), (.ref b)]) (lenOf own_pd1 rfl) rfl (by show 2 * 0 + _ ≤ _; exact Nat.le_of_eq rfl) (hb hby own_d17_32) (fun _ _ => ⟨rfl, e2, (by decide : 1 + 0 ≤ _), (by decide : 2 + 0 ≤ _)⟩)
  dsimp only [Pt.U, Pt.locs, Pt.cells, Pt.slots] at X4 l4 y4 z4 st4 hQ4
  subst l4 y4 z4
  obtain ⟨rfl, N4q, hh4⟩ := hQ4
  have N4 := Fr.app N0 N4q
  refine own_st st4 ?_
  show own_Rch p e below _ T4 (mkF m 35 #[.val (.ref b), .val (.int (2 : Int32)), .val (.ref mr), .val (.ref b2)] [(.int (2 : Int32)), (.int (0 : Int32)), (.ref b2), (.int (0 : Int32)), (.ref b)])
  obtain ⟨cl5, Ar5, q5, -⟩ := id V2p
  obtain ⟨T5, h5, lo5, X5, e5, N5, K5, V5, st5⟩ := cpA X4 hx hZ hown (hw _ (List.mem_of_getElem? (i := 132) rfl)) (hw _ (List.mem_of_getElem? (i := 135) rfl)) (hw _ (List.mem_of_getElem? (i := 133) rfl)) (hw _ (List.mem_of_getElem? (i := 134) rfl)) hh4 VB_x2 V2p (us := [(.ref zz), (.ref oo)]) (Or.inr ⟨rfl, rfl, ⟨Sto.ofV Ar5 q5 Ov2 (Ins.of_exa (EZ.ext O0_x2.2) (hw _ (List.mem_of_getElem? (i := 59) rfl))), ⟨Sto.ofV Ar5 q5 Ov2 (Ins.of_exa (EO.ext O0_x2.2) (hw _ (List.mem_of_getElem? (i := 59) rfl))), trivial⟩⟩⟩) (sp := (0 : Int32)) (dp := (0 : Int32)) (nn := (2 : Int32)) (by decide) (by decide) (by decide) (by decide) (by decide) rfl (by decide) N4 ge2 (g := (mkF m 35 #[.val (.ref b), .val (.int (2 : Int32)), .val (.ref mr), .val (.ref b2)] [(.int (2 : Int32)), (.int (0 : Int32)), (.ref b2), (.int (0 : Int32)), (.ref b)])) rfl (by rw [hml]; rfl) rfl (hb hby own_d17_35) (by decide) (W := 0) (by show 2 * 0 + _ ≤ _; exact Nat.le_of_eq rfl) (by decide)
  have V5s : Arv Z h5 b2 k2 (.object "java/lang/Object") (2 : Int32) [(.ref zz), (.ref oo)] .null := V5
  refine own_st st5 ?_
  have O0_x5 := O0_x2.keep K5 (allS ge2 all0)
  have EB_x5 := EB_x2.keep K5
  have VB_x5 := VB_x2.keep K5 (ninS ne2_b nin0)
  have K0_x5 := K0_x2.trans K5 (allS (Or.inr sz2) all0)
  have Ex2_x5 := Ex2.keep K5
  show own_Rch p e below _ T5 (mkF m 38 #[.val (.ref b), .val (.int (2 : Int32)), .val (.ref mr), .val (.ref b2)] [])
  refine own_st (fun _ kt => XS.aloadN X5.here hx rfl (hb hby own_d17_38) rfl rfl  kt) ?_
  show own_Rch p e below _ T5 (mkF m 39 #[.val (.ref b), .val (.int (2 : Int32)), .val (.ref mr), .val (.ref b2)] [(.ref b2)])
  refine own_retA rfl rfl X5 hx Bd.notSynchronized Bd.returns (hb hby own_d17_39) (by decide) (by decide) ?_
  rw [e5]
  exact ⟨_, _, rfl, N5, K0_x5, sz2, Ex2_x5, V5s, Ov2⟩
def own_Q_own_copy2_2 (Z : State) (b : Addr) (kb : ClassId) (mr : Addr) (zz : Addr) (oo : Addr) (h0 : Heap) (n0 : Nat) (v : Option Value) (h : Heap) (L : List Loc) : Prop := ∃ (r : Addr) (kr : ClassId), v = some (.ref r) ∧ Fr n0 L ∧ Keep h0 h [] ∧ h0.size ≤ r ∧ Exa Z h r "[Ljava/lang/Object;" ∧ Arv Z h r kr (.object "java/lang/Object") (2 : Int32) [(.ref zz), (.ref oo)] .null ∧ Ovr Z kr "java/lang/Object"
set_option maxRecDepth 65536 in
set_option maxHeartbeats 40000000 in
theorem own_copy2_2 (l : Launch) (Z : State) (a0 : Array Value) (hw : ∀ d ∈ tables_1, d.before a0 Z = true) (ws : List Jvm.Cond) (b : Addr) (kb : ClassId) (mr : Addr) (zz : Addr) (oo : Addr) (h0 : Heap) (n0 : Nat) (O0 : Old Z n0 h0) (EB : Exa Z h0 b "[Ljava/lang/Object;") (VB : Arv Z h0 b kb (.object "java/lang/Object") (10 : Int32) [(.ref zz), (.ref oo), .null, .null, .null, .null, .null, .null, .null, .null] .null) (EZ : Exa Z Z.heap zz "java/math/BigDecimal") (EO : Exa Z Z.heap oo "java/math/BigDecimal") (MR : own_Mir Z "[Ljava/lang/Object;" mr) :
    MetFree l (⟨"java/util/Arrays", "copyOf", "([Ljava/lang/Object;I)[Ljava/lang/Object;"⟩ : MethodName) (head1 (Jvm.Cond.code (⟨"java/util/Arrays", "copyOf", "([Ljava/lang/Object;I)[Ljava/lang/Object;"⟩ : MethodName) jdk_65_method_119_code 2 (some (.array (.object "java/lang/Object"))) :: ws) ({ frames := 2, cells := 1, slots := 2, locals := 33 } : Room)) (fun args_ U => args_ = #[(.ref b), (.int (2 : Int32))] ∧ Z.Warmed39 U.vm ∧ U.heap = h0) (fun _ _ _ _ _ => True) (fun _ U o U' => ∃ v L, o = .returned v ∧ (own_Q_own_copy2_2 Z b kb mr zz oo h0 n0) v U'.heap L ∧ FrameEnd U o U' L ({ frames := 2, cells := 1, slots := 2, locals := 33 } : Room).cells ({ frames := 2, cells := 1, slots := 2, locals := 33 } : Room).slots) := by
  refine MetFree.of_bodySF (plainFor_of_name own_pn6) hisR ?_
  intro p e s m args below meth c s₁ Bd hml0 hP hK
  obtain ⟨rfl, hZ, hh⟩ := hP
  have hx := Bd.exec
  have hby := Bd.bytes
  have hml : c.maxLocals = 2 := hml0
  have hown : s.vm.findClass "java/util/Arrays" = some m.cls := findClass_of_methodNamed Bd.named
  have hnm := (name_of_methodNamed Bd.named Bd.method).1
  have X0 : Stand p l e ({ frames := 2, cells := 1, slots := 2, locals := 33 } : Room) s m #[(.ref b), (.int (2 : Int32))] below meth c s₁ [] 0 0 := Stand.of_body Bd
  have e0 : s₁.heap = h0 := by rw [← hh, Bd.state]; rfl
  have N0 := Fr.nil n0
  refine own_close (s := s) (Q := (own_Q_own_copy2_2 Z b kb mr zz oo h0 n0)) (C := (({ frames := 2, cells := 1, slots := 2, locals := 33 } : Room)).cells) (N := (({ frames := 2, cells := 1, slots := 2, locals := 33 } : Room)).slots) (own_st (fun _ kt => castTop (own_ef16 m b (2 : Int32)) kt) ?_)
  have K0 := Keep.refl h0 []
  show own_Rch p e below _ s₁ (mkF m 0 #[.val (.ref b), .val (.int (2 : Int32))] [])
  refine own_st (fun _ kt => XS.aloadN X0.here hx rfl (hb hby own_d16_0) rfl rfl  kt) ?_
  show own_Rch p e below _ s₁ (mkF m 1 #[.val (.ref b), .val (.int (2 : Int32))] [(.ref b)])
  refine own_st (fun _ kt => XS.iloadN X0.here hx rfl (hb hby own_d16_1) rfl  kt) ?_
  show own_Rch p e below _ s₁ (mkF m 2 #[.val (.ref b), .val (.int (2 : Int32))] [(.int (2 : Int32)), (.ref b)])
  refine own_st (fun _ kt => XS.aloadN X0.here hx rfl (hb hby own_d16_2) rfl rfl  kt) ?_
  show own_Rch p e below _ s₁ (mkF m 3 #[.val (.ref b), .val (.int (2 : Int32))] [(.ref b), (.int (2 : Int32)), (.ref b)])
  obtain ⟨T1, X1, e1, st1⟩ := own_gcls X0 hx hZ hown (hw _ (List.mem_of_getElem? (i := 118) rfl)) (hw _ (List.mem_of_getElem? (i := 119) rfl)) (hw _ (List.mem_of_getElem? (i := 95) rfl)) (hw _ (List.mem_of_getElem? (i := 121) rfl)) (hw _ (List.mem_of_getElem? (i := 120) rfl)) (hw _ (List.mem_of_getElem? (i := 122) rfl)) e0 EB MR (g := (mkF m 3 #[.val (.ref b), .val (.int (2 : Int32))] [(.ref b), (.int (2 : Int32)), (.ref b)])) rfl (by rw [hml]; rfl) rfl (hb hby own_d16_3) (by decide) (W := 2) (by show 2 * 0 + _ ≤ _; exact Nat.le_of_eq rfl) (by decide)
  refine own_st st1 ?_
  show own_Rch p e below _ T1 (mkF m 6 #[.val (.ref b), .val (.int (2 : Int32))] [(.ref mr), (.int (2 : Int32)), (.ref b)])
  obtain ⟨_, _, ⟨T2, L2, k2, n2⟩, -, X2, ⟨Lc2, hQ2, l2, y2, z2⟩, st2⟩ := Jvm.LawKit.callS X1 hx (y := (⟨"java/util/Arrays", "copyOf", "([Ljava/lang/Object;ILjava/lang/Class;)[Ljava/lang/Object;"⟩ : MethodName)) hown (mvT hZ (hw _ (List.mem_of_getElem? (i := 124) rfl))) (mvT hZ (hw _ (List.mem_of_getElem? (i := 125) rfl))) (mvT hZ (hw _ (List.mem_of_getElem? (i := 116) rfl))) (mvT hZ (hw _ (List.mem_of_getElem? (i := 126) rfl))) (by decide) (backOf (W := 0) (own_copy3_2 l Z a0 hw [] b kb mr zz oo h0 n0 O0 EB VB EZ EO MR) hZ (hw _ (List.mem_of_getElem? (i := 126) rfl)) (hw _ (List.mem_of_getElem? (i := 116) rfl)) (by decide) (by decide)) (g := (mkF m 6 #[.val (.ref b), .val (.int (2 : Int32))] [(.ref mr), (.int (2 : Int32)), (.ref b)])) rfl (by rw [hml]; rfl) (argsL := [(.ref b), (.int (2 : Int32)), (.ref mr)]) (rest := []) (lenOf own_pd5 rfl) rfl (by show 2 * 0 + _ ≤ _; exact Nat.le_of_eq rfl) (hb hby own_d16_6) (fun _ _ => ⟨rfl, e1, (by decide : 0 + 1 ≤ _), (by decide : 0 + 2 ≤ _)⟩)
  dsimp only [Pt.U, Pt.locs, Pt.cells, Pt.slots] at X2 l2 y2 z2 st2 hQ2
  subst l2 y2 z2
  obtain ⟨br2, kr2, rfl, N2q, K2, hb2, Er2, Vr2, Or2⟩ := hQ2
  have N2 := Fr.app N0 N2q
  refine own_st st2 ?_
  have ne2_b_br2 : b ≠ br2 := Nat.ne_of_lt (Nat.lt_of_lt_of_le EB.lt hb2)
  have ge2_br2 : n0 ≤ br2 := Nat.le_trans (own_old_le O0) hb2
  have sz2_br2 : h0.size ≤ br2 := Nat.le_trans K0.1 hb2
  have O0_x2 := O0.keep K2 all0
  have EB_x2 := EB.keep K2
  have VB_x2 := VB.keep K2 nin0
  have K0_x2 := K0.trans K2 all0
  show own_Rch p e below _ T2 (mkF m 9 #[.val (.ref b), .val (.int (2 : Int32))] [(.ref br2)])
  refine own_retA rfl rfl X2 hx Bd.notSynchronized Bd.returns (hb hby own_d16_9) (by decide) (by decide) ?_
  exact ⟨_, _, rfl, N2, K0_x2, sz2_br2, Er2, Vr2, Or2⟩
def own_Q_own_toarr_2 (Z : State) (a : Addr) (b : Addr) (kb : ClassId) (mr : Addr) (zz : Addr) (oo : Addr) (h0 : Heap) (n0 : Nat) (v : Option Value) (h : Heap) (L : List Loc) : Prop := ∃ (r : Addr) (kr : ClassId), v = some (.ref r) ∧ Fr n0 L ∧ Keep h0 h [] ∧ h0.size ≤ r ∧ Exa Z h r "[Ljava/lang/Object;" ∧ Arv Z h r kr (.object "java/lang/Object") (2 : Int32) [(.ref zz), (.ref oo)] .null ∧ Ovr Z kr "java/lang/Object"
set_option maxRecDepth 65536 in
set_option maxHeartbeats 40000000 in
theorem own_toarr_2 (l : Launch) (Z : State) (a0 : Array Value) (hw : ∀ d ∈ tables_1, d.before a0 Z = true) (ws : List Jvm.Cond) (a : Addr) (b : Addr) (kb : ClassId) (mr : Addr) (zz : Addr) (oo : Addr) (h0 : Heap) (n0 : Nat) (O0 : Old Z n0 h0) (EA : Exa Z h0 a "java/util/ArrayList") (FE : Fld Z h0 a "java/util/ArrayList" "elementData" "[Ljava/lang/Object;" (.ref b)) (FZ : Fld Z h0 a "java/util/ArrayList" "size" "I" (.int (2 : Int32))) (FM : Fld Z h0 a "java/util/AbstractList" "modCount" "I" (.int (2 : Int32))) (EB : Exa Z h0 b "[Ljava/lang/Object;") (VB : Arv Z h0 b kb (.object "java/lang/Object") (10 : Int32) [(.ref zz), (.ref oo), .null, .null, .null, .null, .null, .null, .null, .null] .null) (EZ : Exa Z Z.heap zz "java/math/BigDecimal") (EO : Exa Z Z.heap oo "java/math/BigDecimal") (MR : own_Mir Z "[Ljava/lang/Object;" mr) :
    MetFree l (⟨"java/util/ArrayList", "toArray", "()[Ljava/lang/Object;"⟩ : MethodName) (head1 (Jvm.Cond.code (⟨"java/util/ArrayList", "toArray", "()[Ljava/lang/Object;"⟩ : MethodName) jdk_38_method_16_code 1 (some (.array (.object "java/lang/Object"))) :: ws) ({ frames := 3, cells := 1, slots := 2, locals := 46 } : Room)) (fun args_ U => args_ = #[(.ref a)] ∧ Z.Warmed39 U.vm ∧ U.heap = h0) (fun _ _ _ _ _ => True) (fun _ U o U' => ∃ v L, o = .returned v ∧ (own_Q_own_toarr_2 Z a b kb mr zz oo h0 n0) v U'.heap L ∧ FrameEnd U o U' L ({ frames := 3, cells := 1, slots := 2, locals := 46 } : Room).cells ({ frames := 3, cells := 1, slots := 2, locals := 46 } : Room).slots) := by
  refine MetFree.of_bodySF (plainFor_of_name own_pn4) hisR ?_
  intro p e s m args below meth c s₁ Bd hml0 hP hK
  obtain ⟨rfl, hZ, hh⟩ := hP
  have hx := Bd.exec
  have hby := Bd.bytes
  have hml : c.maxLocals = 1 := hml0
  have hown : s.vm.findClass "java/util/ArrayList" = some m.cls := findClass_of_methodNamed Bd.named
  have hnm := (name_of_methodNamed Bd.named Bd.method).1
  have X0 : Stand p l e ({ frames := 3, cells := 1, slots := 2, locals := 46 } : Room) s m #[(.ref a)] below meth c s₁ [] 0 0 := Stand.of_body Bd
  have e0 : s₁.heap = h0 := by rw [← hh, Bd.state]; rfl
  have N0 := Fr.nil n0
  refine own_close (s := s) (Q := (own_Q_own_toarr_2 Z a b kb mr zz oo h0 n0)) (C := (({ frames := 3, cells := 1, slots := 2, locals := 46 } : Room)).cells) (N := (({ frames := 3, cells := 1, slots := 2, locals := 46 } : Room)).slots) (own_st (fun _ kt => castTop (own_ef15 m a) kt) ?_)
  have K0 := Keep.refl h0 []
  show own_Rch p e below _ s₁ (mkF m 0 #[.val (.ref a)] [])
  refine own_st (fun _ kt => XS.aloadN X0.here hx rfl (hb hby own_d15_0) rfl rfl  kt) ?_
  show own_Rch p e below _ s₁ (mkF m 1 #[.val (.ref a)] [(.ref a)])
  obtain ⟨T1, X1, e1, st1⟩ := getF X0 hx hZ hown (host := "") (Or.inl (hw _ (List.mem_of_getElem? (i := 25) rfl))) Via.refl e0 FE (g := (mkF m 1 #[.val (.ref a)] [(.ref a)])) rfl rfl (hb hby own_d15_1)
  refine own_st st1 ?_
  show own_Rch p e below _ T1 (mkF m 4 #[.val (.ref a)] [(.ref b)])
  refine own_st (fun _ kt => XS.aloadN X1.here hx rfl (hb hby own_d15_4) rfl rfl  kt) ?_
  show own_Rch p e below _ T1 (mkF m 5 #[.val (.ref a)] [(.ref a), (.ref b)])
  obtain ⟨T2, X2, e2, st2⟩ := getF X1 hx hZ hown (host := "") (Or.inl (hw _ (List.mem_of_getElem? (i := 36) rfl))) Via.refl e1 FZ (g := (mkF m 5 #[.val (.ref a)] [(.ref a), (.ref b)])) rfl rfl (hb hby own_d15_5)
  refine own_st st2 ?_
  show own_Rch p e below _ T2 (mkF m 8 #[.val (.ref a)] [(.int (2 : Int32)), (.ref b)])
  obtain ⟨_, _, ⟨T3, L3, k3, n3⟩, -, X3, ⟨Lc3, hQ3, l3, y3, z3⟩, st3⟩ := Jvm.LawKit.callS X2 hx (y := (⟨"java/util/Arrays", "copyOf", "([Ljava/lang/Object;I)[Ljava/lang/Object;"⟩ : MethodName)) hown (mvT hZ (hw _ (List.mem_of_getElem? (i := 114) rfl))) (mvT hZ (hw _ (List.mem_of_getElem? (i := 115) rfl))) (mvT hZ (hw _ (List.mem_of_getElem? (i := 116) rfl))) (mvT hZ (hw _ (List.mem_of_getElem? (i := 117) rfl))) (by decide) (backOf (W := 0) (own_copy2_2 l Z a0 hw [] b kb mr zz oo h0 n0 O0 EB VB EZ EO MR) hZ (hw _ (List.mem_of_getElem? (i := 117) rfl)) (hw _ (List.mem_of_getElem? (i := 116) rfl)) (by decide) (by decide)) (g := (mkF m 8 #[.val (.ref a)] [(.int (2 : Int32)), (.ref b)])) rfl (by rw [hml]; rfl) (argsL := [(.ref b), (.int (2 : Int32))]) (rest := []) (lenOf own_pd6 rfl) rfl (by show 2 * 0 + _ ≤ _; exact Nat.le_of_eq rfl) (hb hby own_d15_8) (fun _ _ => ⟨rfl, e2, (by decide : 0 + 1 ≤ _), (by decide : 0 + 2 ≤ _)⟩)
  dsimp only [Pt.U, Pt.locs, Pt.cells, Pt.slots] at X3 l3 y3 z3 st3 hQ3
  subst l3 y3 z3
  obtain ⟨br3, kr3, rfl, N3q, K3, hb3, Er3, Vr3, Or3⟩ := hQ3
  have N3 := Fr.app N0 N3q
  refine own_st st3 ?_
  have ne3_a_br3 : a ≠ br3 := Nat.ne_of_lt (Nat.lt_of_lt_of_le EA.lt hb3)
  have ne3_b_br3 : b ≠ br3 := Nat.ne_of_lt (Nat.lt_of_lt_of_le EB.lt hb3)
  have ge3_br3 : n0 ≤ br3 := Nat.le_trans (own_old_le O0) hb3
  have sz3_br3 : h0.size ≤ br3 := Nat.le_trans K0.1 hb3
  have O0_x3 := O0.keep K3 all0
  have EA_x3 := EA.keep K3
  have FE_x3 := FE.keep K3 nin0
  have FZ_x3 := FZ.keep K3 nin0
  have FM_x3 := FM.keep K3 nin0
  have EB_x3 := EB.keep K3
  have VB_x3 := VB.keep K3 nin0
  have K0_x3 := K0.trans K3 all0
  show own_Rch p e below _ T3 (mkF m 11 #[.val (.ref a)] [(.ref br3)])
  refine own_retA rfl rfl X3 hx Bd.notSynchronized Bd.returns (hb hby own_d15_11) (by decide) (by decide) ?_
  exact ⟨_, _, rfl, N3, K0_x3, sz3_br3, Er3, Vr3, Or3⟩
theorem own_ef28 (m : MethodId) (x0 : Addr) (x1 : Addr) (x2 : Addr) : entryFrame m #[(.ref x0), (.ref x1), (.ref x2)] 3 = mkF m 0 #[.val (.ref x0), .val (.ref x1), .val (.ref x2)] [] := by first | (simp [entryFrame, mkF, argsToLocals, Value.category]; done) | rfl
theorem own_d28_0 : decode jdk_44_method_2_code 0 = .ok (.aload_n 0, 1) := by decide +kernel
theorem own_d28_1 : decode jdk_44_method_2_code 1 = .ok (.invokespecial 1, 3) := by decide +kernel
theorem own_d28_4 : decode jdk_44_method_2_code 4 = .ok (.aload_n 0, 1) := by decide +kernel
theorem own_d28_5 : decode jdk_44_method_2_code 5 = .ok (.aload_n 1, 1) := by decide +kernel
theorem own_d28_6 : decode jdk_44_method_2_code 6 = .ok (.invokestatic 7, 3) := by decide +kernel
theorem own_d28_9 : decode jdk_44_method_2_code 9 = .ok (.putfield 13, 3) := by decide +kernel
theorem own_d28_12 : decode jdk_44_method_2_code 12 = .ok (.aload_n 0, 1) := by decide +kernel
theorem own_d28_13 : decode jdk_44_method_2_code 13 = .ok (.aload_n 2, 1) := by decide +kernel
theorem own_d28_14 : decode jdk_44_method_2_code 14 = .ok (.invokestatic 7, 3) := by decide +kernel
theorem own_d28_17 : decode jdk_44_method_2_code 17 = .ok (.putfield 24, 3) := by decide +kernel
theorem own_d28_20 : decode jdk_44_method_2_code 20 = .ok (.return_, 1) := by decide +kernel
def own_Q_own_l12_2 (Z : State) (a : Addr) (x : Addr) (y : Addr) (h0 : Heap) (n0 : Nat) (v : Option Value) (h : Heap) (L : List Loc) : Prop := v = none ∧ Fr n0 L ∧ Keep h0 h [a] ∧ Exa Z h a "java/util/ImmutableCollections$List12" ∧ Fld Z h a "java/util/ImmutableCollections$List12" "e1" "Ljava/lang/Object;" (.ref y)
set_option maxRecDepth 65536 in
set_option maxHeartbeats 40000000 in
theorem own_l12_2 (l : Launch) (Z : State) (a0 : Array Value) (hw : ∀ d ∈ tables_1, d.before a0 Z = true) (ws : List Jvm.Cond) (a : Addr) (x : Addr) (y : Addr) (h0 : Heap) (n0 : Nat) (O0 : Old Z n0 h0) (EA : Exa Z h0 a "java/util/ImmutableCollections$List12") (F0 : Fld Z h0 a "java/util/ImmutableCollections$List12" "e0" "Ljava/lang/Object;" .null) (F1 : Fld Z h0 a "java/util/ImmutableCollections$List12" "e1" "Ljava/lang/Object;" .null) (ga : n0 ≤ a) :
    MetFree l (⟨"java/util/ImmutableCollections$List12", "<init>", "(Ljava/lang/Object;Ljava/lang/Object;)V"⟩ : MethodName) (head1 (Jvm.Cond.code (⟨"java/util/ImmutableCollections$List12", "<init>", "(Ljava/lang/Object;Ljava/lang/Object;)V"⟩ : MethodName) jdk_44_method_2_code 3 none :: ws) ({ frames := 4, cells := 0, slots := 0, locals := 48 } : Room)) (fun args_ U => args_ = #[(.ref a), (.ref x), (.ref y)] ∧ Z.Warmed39 U.vm ∧ U.heap = h0) (fun _ _ _ _ _ => True) (fun _ U o U' => ∃ v L, o = .returned v ∧ (own_Q_own_l12_2 Z a x y h0 n0) v U'.heap L ∧ FrameEnd U o U' L ({ frames := 4, cells := 0, slots := 0, locals := 48 } : Room).cells ({ frames := 4, cells := 0, slots := 0, locals := 48 } : Room).slots) := by
  refine MetFree.of_bodySF (plainFor_of_name own_pn7) hisR ?_
  intro p e s m args below meth c s₁ Bd hml0 hP hK
  obtain ⟨rfl, hZ, hh⟩ := hP
  have hx := Bd.exec
  have hby := Bd.bytes
  have hml : c.maxLocals = 3 := hml0
  have hown : s.vm.findClass "java/util/ImmutableCollections$List12" = some m.cls := findClass_of_methodNamed Bd.named
  have hnm := (name_of_methodNamed Bd.named Bd.method).1
  have X0 : Stand p l e ({ frames := 4, cells := 0, slots := 0, locals := 48 } : Room) s m #[(.ref a), (.ref x), (.ref y)] below meth c s₁ [] 0 0 := Stand.of_body Bd
  have e0 : s₁.heap = h0 := by rw [← hh, Bd.state]; rfl
  have N0 := Fr.nil n0
  refine own_close (s := s) (Q := (own_Q_own_l12_2 Z a x y h0 n0)) (C := (({ frames := 4, cells := 0, slots := 0, locals := 48 } : Room)).cells) (N := (({ frames := 4, cells := 0, slots := 0, locals := 48 } : Room)).slots) (own_st (fun _ kt => castTop (own_ef28 m a x y) kt) ?_)
  have K0 := Keep.refl h0 [a]
  show own_Rch p e below _ s₁ (mkF m 0 #[.val (.ref a), .val (.ref x), .val (.ref y)] [])
  refine own_st (fun _ kt => XS.aloadN X0.here hx rfl (hb hby own_d28_0) rfl rfl  kt) ?_
  show own_Rch p e below _ s₁ (mkF m 1 #[.val (.ref a), .val (.ref x), .val (.ref y)] [(.ref a)])
  obtain ⟨_, _, ⟨T1, L1, k1, n1⟩, -, X1, ⟨Lc1, hQ1, l1, y1, z1⟩, st1⟩ := X0.specialBack hx (y := (⟨"java/util/ImmutableCollections$AbstractImmutableList", "<init>", "()V"⟩ : MethodName)) rfl hown (mvT hZ (hw _ (List.mem_of_getElem? (i := 203) rfl))) (mvT hZ (hw _ (List.mem_of_getElem? (i := 154) rfl))) (mvT hZ (hw _ (List.mem_of_getElem? (i := 158) rfl))) (by decide) (backOf (W := 0) (own_ail l Z a0 hw [] a h0 n0 O0 ) hZ (hw _ (List.mem_of_getElem? (i := 158) rfl)) (hw _ (List.mem_of_getElem? (i := 157) rfl)) (by decide) (by decide)) (g := (mkF m 1 #[.val (.ref a), .val (.ref x), .val (.ref y)] [(.ref a)])) rfl (by rw [hml]; rfl) (Steps.refl _) (a := a) (argsL := []) (rest := []) (lenOf own_pd0 rfl) rfl (by show 2 * 0 + _ ≤ _; exact Nat.le_of_eq rfl) (hb hby own_d28_1) (fun _ _ => ⟨rfl, e0, (by decide : 0 + 0 ≤ _), (by decide : 0 + 0 ≤ _)⟩)
  dsimp only [Pt.U, Pt.locs, Pt.cells, Pt.slots] at X1 l1 y1 z1 st1 hQ1
  subst l1 y1 z1
  obtain ⟨rfl, N1q, hh1⟩ := hQ1
  have N1 := Fr.app N0 N1q
  refine own_st (fun _ kt => st1.trans kt) ?_
  show own_Rch p e below _ T1 (mkF m 4 #[.val (.ref a), .val (.ref x), .val (.ref y)] [])
  refine own_st (fun _ kt => XS.aloadN X1.here hx rfl (hb hby own_d28_4) rfl rfl  kt) ?_
  show own_Rch p e below _ T1 (mkF m 5 #[.val (.ref a), .val (.ref x), .val (.ref y)] [(.ref a)])
  refine own_st (fun _ kt => XS.aloadN X1.here hx rfl (hb hby own_d28_5) rfl rfl  kt) ?_
  show own_Rch p e below _ T1 (mkF m 6 #[.val (.ref a), .val (.ref x), .val (.ref y)] [(.ref x), (.ref a)])
  obtain ⟨_, _, ⟨T2, L2, k2, n2⟩, -, X2, ⟨Lc2, hQ2, l2, y2, z2⟩, st2⟩ := Jvm.LawKit.callS X1 hx (y := (⟨"java/util/Objects", "requireNonNull", "(Ljava/lang/Object;)Ljava/lang/Object;"⟩ : MethodName)) hown (mvT hZ (hw _ (List.mem_of_getElem? (i := 207) rfl))) (mvT hZ (hw _ (List.mem_of_getElem? (i := 144) rfl))) (mvT hZ (hw _ (List.mem_of_getElem? (i := 145) rfl))) (mvT hZ (hw _ (List.mem_of_getElem? (i := 146) rfl))) (by decide) (backOf (W := 1) (own_rnn l Z a0 hw [] x h0 n0 O0 ) hZ (hw _ (List.mem_of_getElem? (i := 146) rfl)) (hw _ (List.mem_of_getElem? (i := 145) rfl)) (by decide) (by decide)) (g := (mkF m 6 #[.val (.ref a), .val (.ref x), .val (.ref y)] [(.ref x), (.ref a)])) rfl (by rw [hml]; rfl) (argsL := [(.ref x)]) (rest := [(.ref a)]) (lenOf own_pd7 rfl) rfl (by show 2 * 0 + _ ≤ _; exact Nat.le_of_eq rfl) (hb hby own_d28_6) (fun _ _ => ⟨rfl, hh1, (by decide : 0 + 0 ≤ _), (by decide : 0 + 0 ≤ _)⟩)
  dsimp only [Pt.U, Pt.locs, Pt.cells, Pt.slots] at X2 l2 y2 z2 st2 hQ2
  subst l2 y2 z2
  obtain ⟨rfl, N2q, hh2⟩ := hQ2
  have N2 := Fr.app N1 N2q
  refine own_st st2 ?_
  show own_Rch p e below _ T2 (mkF m 9 #[.val (.ref a), .val (.ref x), .val (.ref y)] [(.ref x), (.ref a)])
  obtain ⟨T3, h3, X3, e3, W3, st3⟩ := putF X2 hx hZ hown (host := "") (Or.inl (hw _ (List.mem_of_getElem? (i := 208) rfl))) Via.refl hh2 F0 EA (Or.inr ⟨(hw _ (List.mem_of_getElem? (i := 209) rfl)), rfl, hnm⟩) (hw _ (List.mem_of_getElem? (i := 197) rfl)) (ty := (.object "java/lang/Object")) (by decide) rfl rfl (g := (mkF m 9 #[.val (.ref a), .val (.ref x), .val (.ref y)] [(.ref x), (.ref a)])) rfl rfl (hb hby own_d28_9)
  refine own_st st3 ?_
  have Fw3 := F0.same W3
  have N3 := Fr.snoc X3 N2 ga
  have O0_x3 := O0.wr W3 ga
  have EA_x3 := EA.wr W3
  have F1_x3 := F1.other W3 (Or.inr (slot_ne (Or.inr (hw _ (List.mem_of_getElem? (i := 211) rfl))) (Or.inr (hw _ (List.mem_of_getElem? (i := 209) rfl))) (by decide) (t := (.object "java/lang/Object")) (t' := (.object "java/lang/Object")) (by decide) (by decide)))
  have K0_x3 := K0.wr W3 (Or.inl (List.mem_of_getElem? (i := 0) rfl))
  show own_Rch p e below _ T3 (mkF m 12 #[.val (.ref a), .val (.ref x), .val (.ref y)] [])
  refine own_st (fun _ kt => XS.aloadN X3.here hx rfl (hb hby own_d28_12) rfl rfl  kt) ?_
  show own_Rch p e below _ T3 (mkF m 13 #[.val (.ref a), .val (.ref x), .val (.ref y)] [(.ref a)])
  refine own_st (fun _ kt => XS.aloadN X3.here hx rfl (hb hby own_d28_13) rfl rfl  kt) ?_
  show own_Rch p e below _ T3 (mkF m 14 #[.val (.ref a), .val (.ref x), .val (.ref y)] [(.ref y), (.ref a)])
  obtain ⟨_, _, ⟨T4, L4, k4, n4⟩, -, X4, ⟨Lc4, hQ4, l4, y4, z4⟩, st4⟩ := Jvm.LawKit.callS X3 hx (y := (⟨"java/util/Objects", "requireNonNull", "(Ljava/lang/Object;)Ljava/lang/Object;"⟩ : MethodName)) hown (mvT hZ (hw _ (List.mem_of_getElem? (i := 207) rfl))) (mvT hZ (hw _ (List.mem_of_getElem? (i := 144) rfl))) (mvT hZ (hw _ (List.mem_of_getElem? (i := 145) rfl))) (mvT hZ (hw _ (List.mem_of_getElem? (i := 146) rfl))) (by decide) (backOf (W := 1) (own_rnn l Z a0 hw [] y h3 n0 O0_x3 ) hZ (hw _ (List.mem_of_getElem? (i := 146) rfl)) (hw _ (List.mem_of_getElem? (i := 145) rfl)) (by decide) (by decide)) (g := (mkF m 14 #[.val (.ref a), .val (.ref x), .val (.ref y)] [(.ref y), (.ref a)])) rfl (by rw [hml]; rfl) (argsL := [(.ref y)]) (rest := [(.ref a)]) (lenOf own_pd7 rfl) rfl (by show 2 * 0 + _ ≤ _; exact Nat.le_of_eq rfl) (hb hby own_d28_14) (fun _ _ => ⟨rfl, e3, (by decide : 0 + 0 ≤ _), (by decide : 0 + 0 ≤ _)⟩)
  dsimp only [Pt.U, Pt.locs, Pt.cells, Pt.slots] at X4 l4 y4 z4 st4 hQ4
  subst l4 y4 z4
  obtain ⟨rfl, N4q, hh4⟩ := hQ4
  have N4 := Fr.app N3 N4q
  refine own_st st4 ?_
  show own_Rch p e below _ T4 (mkF m 17 #[.val (.ref a), .val (.ref x), .val (.ref y)] [(.ref y), (.ref a)])
  obtain ⟨T5, h5, X5, e5, W5, st5⟩ := putF X4 hx hZ hown (host := "") (Or.inl (hw _ (List.mem_of_getElem? (i := 210) rfl))) Via.refl hh4 F1_x3 EA_x3 (Or.inr ⟨(hw _ (List.mem_of_getElem? (i := 211) rfl)), rfl, hnm⟩) (hw _ (List.mem_of_getElem? (i := 197) rfl)) (ty := (.object "java/lang/Object")) (by decide) rfl rfl (g := (mkF m 17 #[.val (.ref a), .val (.ref x), .val (.ref y)] [(.ref y), (.ref a)])) rfl rfl (hb hby own_d28_17)
  refine own_st st5 ?_
  have Fw5 := F1_x3.same W5
  have N5 := Fr.snoc X5 N4 ga
  have O0_x5 := O0_x3.wr W5 ga
  have EA_x5 := EA_x3.wr W5
  have Fw3_x5 := Fw3.other W5 (Or.inr (slot_ne (Or.inr (hw _ (List.mem_of_getElem? (i := 209) rfl))) (Or.inr (hw _ (List.mem_of_getElem? (i := 211) rfl))) (by decide) (t := (.object "java/lang/Object")) (t' := (.object "java/lang/Object")) (by decide) (by decide)))
  have K0_x5 := K0_x3.wr W5 (Or.inl (List.mem_of_getElem? (i := 0) rfl))
  show own_Rch p e below _ T5 (mkF m 20 #[.val (.ref a), .val (.ref x), .val (.ref y)] [])
  refine own_retV X5 hx Bd.notSynchronized Bd.returns (hb hby own_d28_20) (by decide) (by decide) ?_
  rw [e5]
  exact ⟨rfl, N5, K0_x5, EA_x5, Fw5⟩
theorem own_d19_45 : decode jdk_40_method_47_code 45 = .ok (.new 96, 3) := by decide +kernel
theorem own_d19_48 : decode jdk_40_method_47_code 48 = .ok (.dup, 1) := by decide +kernel
theorem own_d19_49 : decode jdk_40_method_47_code 49 = .ok (.aload_n 0, 1) := by decide +kernel
theorem own_d19_50 : decode jdk_40_method_47_code 50 = .ok (.iconst 0, 1) := by decide +kernel
theorem own_d19_51 : decode jdk_40_method_47_code 51 = .ok (.aaload, 1) := by decide +kernel
theorem own_d19_52 : decode jdk_40_method_47_code 52 = .ok (.aload_n 0, 1) := by decide +kernel
theorem own_d19_53 : decode jdk_40_method_47_code 53 = .ok (.iconst 1, 1) := by decide +kernel
theorem own_d19_54 : decode jdk_40_method_47_code 54 = .ok (.aaload, 1) := by decide +kernel
theorem own_d19_55 : decode jdk_40_method_47_code 55 = .ok (.invokespecial 100, 3) := by decide +kernel
theorem own_pd14 : parseMethodDescriptor "(Ljava/lang/Object;Ljava/lang/Object;)V" = some ⟨[(.object "java/lang/Object"), (.object "java/lang/Object")], none⟩ := by decide +kernel
theorem own_d19_58 : decode jdk_40_method_47_code 58 = .ok (.areturn, 1) := by decide +kernel
def own_Q_own_lof_2 (Z : State) (b : Addr) (kb : ClassId) (zz : Addr) (oo : Addr) (em : Addr) (h0 : Heap) (n0 : Nat) (v : Option Value) (h : Heap) (L : List Loc) : Prop := ∃ q : Addr, v = some (.ref q) ∧ Fr n0 L ∧ Keep h0 h [] ∧ h0.size ≤ q ∧ Exa Z h q "java/util/ImmutableCollections$List12" ∧ Fld Z h q "java/util/ImmutableCollections$List12" "e1" "Ljava/lang/Object;" (.ref oo)
set_option maxRecDepth 65536 in
set_option maxHeartbeats 40000000 in
theorem own_lof_2 (l : Launch) (Z : State) (a0 : Array Value) (hw : ∀ d ∈ tables_1, d.before a0 Z = true) (ws : List Jvm.Cond) (b : Addr) (kb : ClassId) (zz : Addr) (oo : Addr) (em : Addr) (h0 : Heap) (n0 : Nat) (O0 : Old Z n0 h0) (VB : Arv Z h0 b kb (.object "java/lang/Object") (2 : Int32) [(.ref zz), (.ref oo)] .null) (EZ : Exa Z Z.heap zz "java/math/BigDecimal") (EO : Exa Z Z.heap oo "java/math/BigDecimal") (SE : Sta Z Z.heap "java/util/ImmutableCollections" "EMPTY" "Ljava/lang/Object;" (.ref em)) :
    MetFree l (⟨"java/util/List", "of", "([Ljava/lang/Object;)Ljava/util/List;"⟩ : MethodName) (head1 (Jvm.Cond.code (⟨"java/util/List", "of", "([Ljava/lang/Object;)Ljava/util/List;"⟩ : MethodName) jdk_40_method_47_code 2 (some (.object "java/util/List")) :: ws) ({ frames := 5, cells := 1, slots := 2, locals := 63 } : Room)) (fun args_ U => args_ = #[(.ref b)] ∧ Z.Warmed39 U.vm ∧ U.heap = h0) (fun _ _ _ _ _ => True) (fun _ U o U' => ∃ v L, o = .returned v ∧ (own_Q_own_lof_2 Z b kb zz oo em h0 n0) v U'.heap L ∧ FrameEnd U o U' L ({ frames := 5, cells := 1, slots := 2, locals := 63 } : Room).cells ({ frames := 5, cells := 1, slots := 2, locals := 63 } : Room).slots) := by
  refine MetFree.of_bodySF (plainFor_of_name own_pn8) hisR ?_
  intro p e s m args below meth c s₁ Bd hml0 hP hK
  obtain ⟨rfl, hZ, hh⟩ := hP
  have hx := Bd.exec
  have hby := Bd.bytes
  have hml : c.maxLocals = 2 := hml0
  have hown : s.vm.findClass "java/util/List" = some m.cls := findClass_of_methodNamed Bd.named
  have hnm := (name_of_methodNamed Bd.named Bd.method).1
  have X0 : Stand p l e ({ frames := 5, cells := 1, slots := 2, locals := 63 } : Room) s m #[(.ref b)] below meth c s₁ [] 0 0 := Stand.of_body Bd
  have e0 : s₁.heap = h0 := by rw [← hh, Bd.state]; rfl
  have N0 := Fr.nil n0
  refine own_close (s := s) (Q := (own_Q_own_lof_2 Z b kb zz oo em h0 n0)) (C := (({ frames := 5, cells := 1, slots := 2, locals := 63 } : Room)).cells) (N := (({ frames := 5, cells := 1, slots := 2, locals := 63 } : Room)).slots) (own_st (fun _ kt => castTop (own_ef19 m b) kt) ?_)
  have K0 := Keep.refl h0 []
  show own_Rch p e below _ s₁ (mkF m 0 #[.val (.ref b), .unset] [])
  refine own_st (fun _ kt => XS.aloadN X0.here hx rfl (hb hby own_d19_0) rfl rfl  kt) ?_
  show own_Rch p e below _ s₁ (mkF m 1 #[.val (.ref b), .unset] [(.ref b)])
  obtain ⟨cl1, Ar1, -, S1, M1, -, -⟩ := id VB
  refine own_st (X0.arraylength hx (by rw [e0]; exact Ar1.1) (State.isArrayOf_alike (hZ).alike Ar1.2.1) (g := (mkF m 1 #[.val (.ref b), .unset] [(.ref b)])) rfl rfl (hb hby own_d19_1)) ?_
  rw [len_of S1 M1]
  show own_Rch p e below _ s₁ (mkF m 2 #[.val (.ref b), .unset] [(.int (2 : Int32))])
  refine own_st (fun _ kt => XS.tswIn X0.here hx rfl (pc0 := 2) (pc' := 45) (o := 43) rfl (hb hby own_d19_2) rfl (by decide) (by decide) (by decide) (by decide) kt) ?_
  show own_Rch p e below _ s₁ (mkF m 45 #[.val (.ref b), .unset] [])
  obtain ⟨T2, h2, X2, e2, E2, A2, D2, U2, st2⟩ := newO X0 hx hZ hown (hw _ (List.mem_of_getElem? (i := 196) rfl)) (hw _ (List.mem_of_getElem? (i := 197) rfl)) (hw _ (List.mem_of_getElem? (i := 198) rfl)) e0 (g := (mkF m 45 #[.val (.ref b), .unset] [])) rfl (hb hby own_d19_45) (by decide) (by decide)
  obtain ⟨b2, g2⟩ : ∃ z, z = h0.size := ⟨_, rfl⟩
  rw [← g2] at A2 D2 U2 st2
  have ge2 : n0 ≤ b2 := by rw [g2]; exact own_old_le O0
  have ne2_b : b ≠ b2 := by rw [g2]; exact Nat.ne_of_lt VB.lt
  have sz2 : h0.size ≤ b2 := by rw [g2]; exact K0.1
  have O0_x2 := O0.ext E2
  have VB_x2 := VB.ext E2
  have K0_x2 := K0.ext E2
  refine own_st st2 ?_
  have F2_e0 : Fld Z h2 b2 "java/util/ImmutableCollections$List12" "e0" "Ljava/lang/Object;" .null := D2 (Or.inr (hw _ (List.mem_of_getElem? (i := 209) rfl))) (ty := (.object "java/lang/Object")) (by decide)
  have F2_e1 : Fld Z h2 b2 "java/util/ImmutableCollections$List12" "e1" "Ljava/lang/Object;" .null := D2 (Or.inr (hw _ (List.mem_of_getElem? (i := 211) rfl))) (ty := (.object "java/lang/Object")) (by decide)
  show own_Rch p e below _ T2 (mkF m 48 #[.val (.ref b), .unset] [(.ref b2)])
  refine own_st (fun _ kt => XS.dup X2.here hx rfl (hb hby own_d19_48) rfl rfl kt) ?_
  show own_Rch p e below _ T2 (mkF m 49 #[.val (.ref b), .unset] [(.ref b2), (.ref b2)])
  refine own_st (fun _ kt => XS.aloadN X2.here hx rfl (hb hby own_d19_49) rfl rfl  kt) ?_
  show own_Rch p e below _ T2 (mkF m 50 #[.val (.ref b), .unset] [(.ref b), (.ref b2), (.ref b2)])
  refine own_st (fun _ kt => XS.iconst X2.here hx rfl (hb hby own_d19_50) kt) ?_
  show own_Rch p e below _ T2 (mkF m 51 #[.val (.ref b), .unset] [(.int (0 : Int32)), (.ref b), (.ref b2), (.ref b2)])
  obtain ⟨cl3, Ar3, q3, S3, M3, H3, G3⟩ := id VB_x2
  have hin3 : ¬ ((0 : Int32) < 0 ∨ cl3.slots.size ≤ ((0 : Int32)).toNatClampNeg) := inb_of S3 ⟨by decide, by decide⟩
  refine own_st (X2.aaload hx (j := (0 : Int32)) (v := (.ref zz)) (by rw [e2]; exact Ar3.1) (State.isArrayOf_alike (hZ).alike Ar3.2.1) rfl Ar3.2.2 hin3 (H3.at hin3 rfl) (g := (mkF m 51 #[.val (.ref b), .unset] [(.int (0 : Int32)), (.ref b), (.ref b2), (.ref b2)])) rfl rfl (hb hby own_d19_51)) ?_
  show own_Rch p e below _ T2 (mkF m 52 #[.val (.ref b), .unset] [(.ref zz), (.ref b2), (.ref b2)])
  refine own_st (fun _ kt => XS.aloadN X2.here hx rfl (hb hby own_d19_52) rfl rfl  kt) ?_
  show own_Rch p e below _ T2 (mkF m 53 #[.val (.ref b), .unset] [(.ref b), (.ref zz), (.ref b2), (.ref b2)])
  refine own_st (fun _ kt => XS.iconst X2.here hx rfl (hb hby own_d19_53) kt) ?_
  show own_Rch p e below _ T2 (mkF m 54 #[.val (.ref b), .unset] [(.int (1 : Int32)), (.ref b), (.ref zz), (.ref b2), (.ref b2)])
  obtain ⟨cl4, Ar4, q4, S4, M4, H4, G4⟩ := id VB_x2
  have hin4 : ¬ ((1 : Int32) < 0 ∨ cl4.slots.size ≤ ((1 : Int32)).toNatClampNeg) := inb_of S4 ⟨by decide, by decide⟩
  refine own_st (X2.aaload hx (j := (1 : Int32)) (v := (.ref oo)) (by rw [e2]; exact Ar4.1) (State.isArrayOf_alike (hZ).alike Ar4.2.1) rfl Ar4.2.2 hin4 (H4.at hin4 rfl) (g := (mkF m 54 #[.val (.ref b), .unset] [(.int (1 : Int32)), (.ref b), (.ref zz), (.ref b2), (.ref b2)])) rfl rfl (hb hby own_d19_54)) ?_
  show own_Rch p e below _ T2 (mkF m 55 #[.val (.ref b), .unset] [(.ref oo), (.ref zz), (.ref b2), (.ref b2)])
  obtain ⟨_, _, ⟨T5, L5, k5, n5⟩, -, X5, ⟨Lc5, hQ5, l5, y5, z5⟩, st5⟩ := X2.specialBack hx (y := (⟨"java/util/ImmutableCollections$List12", "<init>", "(Ljava/lang/Object;Ljava/lang/Object;)V"⟩ : MethodName)) rfl hown (mvT hZ (hw _ (List.mem_of_getElem? (i := 199) rfl))) (mvT hZ (hw _ (List.mem_of_getElem? (i := 200) rfl))) (mvT hZ (hw _ (List.mem_of_getElem? (i := 202) rfl))) (by decide) (backOf (W := 1) (own_l12_2 l Z a0 hw [] b2 zz oo h2 n0 O0_x2 A2 F2_e0 F2_e1 ge2) hZ (hw _ (List.mem_of_getElem? (i := 202) rfl)) (hw _ (List.mem_of_getElem? (i := 198) rfl)) (by decide) (by decide)) (g := (mkF m 55 #[.val (.ref b), .unset] [(.ref oo), (.ref zz), (.ref b2), (.ref b2)])) rfl (by rw [hml]; rfl) (Steps.refl _) (a := b2) (argsL := [(.ref zz), (.ref oo)]) (rest := [(.ref b2)]) (lenOf own_pd14 rfl) rfl (by show 2 * 0 + _ ≤ _; exact Nat.le_of_eq rfl) (hb hby own_d19_55) (fun _ _ => ⟨rfl, e2, (by decide : 1 + 0 ≤ _), (by decide : 2 + 0 ≤ _)⟩)
  dsimp only [Pt.U, Pt.locs, Pt.cells, Pt.slots] at X5 l5 y5 z5 st5 hQ5
  subst l5 y5 z5
  obtain ⟨rfl, N5q, K5, Eq5, Fq5⟩ := hQ5
  have N5 := Fr.app N0 N5q
  refine own_st (fun _ kt => st5.trans kt) ?_
  have O0_x5 := O0_x2.keep K5 (allS ge2 all0)
  have VB_x5 := VB_x2.keep K5 (ninS ne2_b nin0)
  have K0_x5 := K0_x2.trans K5 (allS (Or.inr sz2) all0)
  have A2_x5 := A2.keep K5
  show own_Rch p e below _ T5 (mkF m 58 #[.val (.ref b), .unset] [(.ref b2)])
  refine own_retA rfl rfl X5 hx Bd.notSynchronized Bd.returns (hb hby own_d19_58) (by decide) (by decide) ?_
  exact ⟨_, rfl, N5, K0_x5, sz2, Eq5, Fq5⟩
def own_Q_own_lcopy_2 (Z : State) (a : Addr) (b : Addr) (kb : ClassId) (mr : Addr) (zz : Addr) (oo : Addr) (em : Addr) (h0 : Heap) (n0 : Nat) (v : Option Value) (h : Heap) (L : List Loc) : Prop := ∃ q : Addr, v = some (.ref q) ∧ Fr n0 L ∧ Keep h0 h [] ∧ h0.size ≤ q ∧ Exa Z h q "java/util/ImmutableCollections$List12" ∧ Fld Z h q "java/util/ImmutableCollections$List12" "e1" "Ljava/lang/Object;" (.ref oo)
set_option maxRecDepth 65536 in
set_option maxHeartbeats 40000000 in
theorem own_lcopy_2 (l : Launch) (Z : State) (a0 : Array Value) (hw : ∀ d ∈ tables_1, d.before a0 Z = true) (ws : List Jvm.Cond) (a : Addr) (b : Addr) (kb : ClassId) (mr : Addr) (zz : Addr) (oo : Addr) (em : Addr) (h0 : Heap) (n0 : Nat) (O0 : Old Z n0 h0) (EA : Exa Z h0 a "java/util/ArrayList") (FE : Fld Z h0 a "java/util/ArrayList" "elementData" "[Ljava/lang/Object;" (.ref b)) (FZ : Fld Z h0 a "java/util/ArrayList" "size" "I" (.int (2 : Int32))) (FM : Fld Z h0 a "java/util/AbstractList" "modCount" "I" (.int (2 : Int32))) (EB : Exa Z h0 b "[Ljava/lang/Object;") (VB : Arv Z h0 b kb (.object "java/lang/Object") (10 : Int32) [(.ref zz), (.ref oo), .null, .null, .null, .null, .null, .null, .null, .null] .null) (EZ : Exa Z Z.heap zz "java/math/BigDecimal") (EO : Exa Z Z.heap oo "java/math/BigDecimal") (MR : own_Mir Z "[Ljava/lang/Object;" mr) (SE : Sta Z Z.heap "java/util/ImmutableCollections" "EMPTY" "Ljava/lang/Object;" (.ref em)) :
    MetFree l (⟨"java/util/ImmutableCollections", "listCopy", "(Ljava/util/Collection;)Ljava/util/List;"⟩ : MethodName) (head1 (Jvm.Cond.code (⟨"java/util/ImmutableCollections", "listCopy", "(Ljava/util/Collection;)Ljava/util/List;"⟩ : MethodName) jdk_56_method_3_code 2 (some (.object "java/util/List")) :: ws) ({ frames := 6, cells := 2, slots := 4, locals := 76 } : Room)) (fun args_ U => args_ = #[(.ref a)] ∧ Z.Warmed39 U.vm ∧ U.heap = h0) (fun _ _ _ _ _ => True) (fun _ U o U' => ∃ v L, o = .returned v ∧ (own_Q_own_lcopy_2 Z a b kb mr zz oo em h0 n0) v U'.heap L ∧ FrameEnd U o U' L ({ frames := 6, cells := 2, slots := 4, locals := 76 } : Room).cells ({ frames := 6, cells := 2, slots := 4, locals := 76 } : Room).slots) := by
  refine MetFree.of_bodySF (plainFor_of_name own_pn9) hisR ?_
  intro p e s m args below meth c s₁ Bd hml0 hP hK
  obtain ⟨rfl, hZ, hh⟩ := hP
  have hx := Bd.exec
  have hby := Bd.bytes
  have hml : c.maxLocals = 2 := hml0
  have hown : s.vm.findClass "java/util/ImmutableCollections" = some m.cls := findClass_of_methodNamed Bd.named
  have hnm := (name_of_methodNamed Bd.named Bd.method).1
  have X0 : Stand p l e ({ frames := 6, cells := 2, slots := 4, locals := 76 } : Room) s m #[(.ref a)] below meth c s₁ [] 0 0 := Stand.of_body Bd
  have e0 : s₁.heap = h0 := by rw [← hh, Bd.state]; rfl
  have N0 := Fr.nil n0
  refine own_close (s := s) (Q := (own_Q_own_lcopy_2 Z a b kb mr zz oo em h0 n0)) (C := (({ frames := 6, cells := 2, slots := 4, locals := 76 } : Room)).cells) (N := (({ frames := 6, cells := 2, slots := 4, locals := 76 } : Room)).slots) (own_st (fun _ kt => castTop (own_ef13 m a) kt) ?_)
  have K0 := Keep.refl h0 []
  show own_Rch p e below _ s₁ (mkF m 0 #[.val (.ref a), .unset] [])
  refine own_st (fun _ kt => XS.aloadN X0.here hx rfl (hb hby own_d13_0) rfl rfl  kt) ?_
  show own_Rch p e below _ s₁ (mkF m 1 #[.val (.ref a), .unset] [(.ref a)])
  obtain ⟨T1, X1, e1, st1⟩ := instNo X0 hx hZ hown (hw _ (List.mem_of_getElem? (i := 91) rfl)) e0 EA (own_nsno (hw _ (List.mem_of_getElem? (i := 92) rfl)) (hw _ (List.mem_of_getElem? (i := 197) rfl)) (NS.step (hw _ (List.mem_of_getElem? (i := 92) rfl)) (NS.step (hw _ (List.mem_of_getElem? (i := 93) rfl)) (NS.step (hw _ (List.mem_of_getElem? (i := 94) rfl)) (own_nsroot (hw _ (List.mem_of_getElem? (i := 95) rfl)) (hw _ (List.mem_of_getElem? (i := 197) rfl)) (by decide)) (by decide)) (by decide)) (by decide)) (by decide)) (g := (mkF m 1 #[.val (.ref a), .unset] [(.ref a)])) rfl rfl (hb hby own_d13_1)
  refine own_st st1 ?_
  show own_Rch p e below _ T1 (mkF m 4 #[.val (.ref a), .unset] [(.int (0 : Int32))])
  refine own_st (fun _ kt => XS.ifNo X1.here hx rfl (hb hby own_d13_4) rfl ((if0 _ _).trans (teq (rfl : (0 : Int32) = (0 : Int32))).2) kt) ?_
  show own_Rch p e below _ T1 (mkF m 7 #[.val (.ref a), .unset] [])
  refine own_st (fun _ kt => XS.aloadN X1.here hx rfl (hb hby own_d13_7) rfl rfl  kt) ?_
  show own_Rch p e below _ T1 (mkF m 8 #[.val (.ref a), .unset] [(.ref a)])
  obtain ⟨T2, X2, e2, st2⟩ := instNo X1 hx hZ hown (hw _ (List.mem_of_getElem? (i := 96) rfl)) e1 EA (own_nsno (hw _ (List.mem_of_getElem? (i := 92) rfl)) (hw _ (List.mem_of_getElem? (i := 147) rfl)) (NS.step (hw _ (List.mem_of_getElem? (i := 92) rfl)) (NS.step (hw _ (List.mem_of_getElem? (i := 93) rfl)) (NS.step (hw _ (List.mem_of_getElem? (i := 94) rfl)) (own_nsroot (hw _ (List.mem_of_getElem? (i := 95) rfl)) (hw _ (List.mem_of_getElem? (i := 147) rfl)) (by decide)) (by decide)) (by decide)) (by decide)) (by decide)) (g := (mkF m 8 #[.val (.ref a), .unset] [(.ref a)])) rfl rfl (hb hby own_d13_8)
  refine own_st st2 ?_
  show own_Rch p e below _ T2 (mkF m 11 #[.val (.ref a), .unset] [(.int (0 : Int32))])
  refine own_st (fun _ kt => XS.ifYes X2.here hx rfl (pc0 := 11) (pc' := 31) rfl (hb hby own_d13_11) rfl ((if0 _ _).trans (teq (rfl : (0 : Int32) = (0 : Int32))).1) (by decide) (by decide) kt) ?_
  show own_Rch p e below _ T2 (mkF m 31 #[.val (.ref a), .unset] [])
  refine own_st (fun _ kt => XS.aloadN X2.here hx rfl (hb hby own_d13_31) rfl rfl  kt) ?_
  show own_Rch p e below _ T2 (mkF m 32 #[.val (.ref a), .unset] [(.ref a)])
  obtain ⟨cq3, kq3, q3a, q3b, q3c⟩ := isOf hZ e2 EA
  obtain ⟨_, _, ⟨T3, L3, k3, n3⟩, -, X3, ⟨Lc3, hQ3, l3, y3, z3⟩, st3⟩ := X2.interfaceBack hx (xi := (⟨"java/util/Collection", "isEmpty", "()Z"⟩ : MethodName)) (y := (⟨"java/util/ArrayList", "isEmpty", "()Z"⟩ : MethodName)) hown (mvT hZ (hw _ (List.mem_of_getElem? (i := 97) rfl))) (mvT hZ (hw _ (List.mem_of_getElem? (i := 98) rfl))) (mvT hZ (hw _ (List.mem_of_getElem? (i := 99) rfl))) (mvT hZ (hw _ (List.mem_of_getElem? (i := 100) rfl))) (mvT hZ (hw _ (List.mem_of_getElem? (i := 101) rfl))) (mvT hZ (hw _ (List.mem_of_getElem? (i := 102) rfl))) (mvT hZ (hw _ (List.mem_of_getElem? (i := 103) rfl))) (mvT hZ (hw _ (List.mem_of_getElem? (i := 104) rfl))) (by decide) (backOf (W := 0) (own_isempty l Z a0 hw [] a (2 : Int32) h0 n0 O0 FZ (by decide)) hZ (hw _ (List.mem_of_getElem? (i := 105) rfl)) (hw _ (List.mem_of_getElem? (i := 3) rfl)) (by decide) (by decide)) q3a q3b q3c (g := (mkF m 32 #[.val (.ref a), .unset] [(.ref a)])) rfl (by rw [hml]; rfl) (Steps.refl _) (argsL := []) (rest := []) (lenOf own_pd9 rfl) rfl (by show 2 * 0 + _ ≤ _; exact Nat.le_of_eq rfl) (hb hby own_d13_32) (fun _ _ => ⟨rfl, e2, (by decide : 0 + 0 ≤ _), (by decide : 0 + 0 ≤ _)⟩)
  dsimp only [Pt.U, Pt.locs, Pt.cells, Pt.slots] at X3 l3 y3 z3 st3 hQ3
  subst l3 y3 z3
  obtain ⟨rfl, N3q, hh3⟩ := hQ3
  have N3 := Fr.app N0 N3q
  refine own_st (fun _ kt => st3.trans kt) ?_
  show own_Rch p e below _ T3 (mkF m 37 #[.val (.ref a), .unset] [(.int (0 : Int32))])
  refine own_st (fun _ kt => XS.ifYes X3.here hx rfl (pc0 := 37) (pc' := 44) rfl (hb hby own_d13_37) rfl ((if0 _ _).trans (teq (rfl : (0 : Int32) = (0 : Int32))).1) (by decide) (by decide) kt) ?_
  show own_Rch p e below _ T3 (mkF m 44 #[.val (.ref a), .unset] [])
  refine own_st (fun _ kt => XS.aloadN X3.here hx rfl (hb hby own_d13_44) rfl rfl  kt) ?_
  show own_Rch p e below _ T3 (mkF m 45 #[.val (.ref a), .unset] [(.ref a)])
  obtain ⟨cq4, kq4, q4a, q4b, q4c⟩ := isOf hZ hh3 EA
  obtain ⟨_, _, ⟨T4, L4, k4, n4⟩, -, X4, ⟨Lc4, hQ4, l4, y4, z4⟩, st4⟩ := X3.interfaceBack hx (xi := (⟨"java/util/Collection", "toArray", "()[Ljava/lang/Object;"⟩ : MethodName)) (y := (⟨"java/util/ArrayList", "toArray", "()[Ljava/lang/Object;"⟩ : MethodName)) hown (mvT hZ (hw _ (List.mem_of_getElem? (i := 106) rfl))) (mvT hZ (hw _ (List.mem_of_getElem? (i := 107) rfl))) (mvT hZ (hw _ (List.mem_of_getElem? (i := 108) rfl))) (mvT hZ (hw _ (List.mem_of_getElem? (i := 109) rfl))) (mvT hZ (hw _ (List.mem_of_getElem? (i := 110) rfl))) (mvT hZ (hw _ (List.mem_of_getElem? (i := 111) rfl))) (mvT hZ (hw _ (List.mem_of_getElem? (i := 112) rfl))) (mvT hZ (hw _ (List.mem_of_getElem? (i := 104) rfl))) (by decide) (backOf (W := 0) (own_toarr_2 l Z a0 hw [] a b kb mr zz oo h0 n0 O0 EA FE FZ FM EB VB EZ EO MR) hZ (hw _ (List.mem_of_getElem? (i := 113) rfl)) (hw _ (List.mem_of_getElem? (i := 3) rfl)) (by decide) (by decide)) q4a q4b q4c (g := (mkF m 45 #[.val (.ref a), .unset] [(.ref a)])) rfl (by rw [hml]; rfl) (Steps.refl _) (argsL := []) (rest := []) (lenOf own_pd3 rfl) rfl (by show 2 * 0 + _ ≤ _; exact Nat.le_of_eq rfl) (hb hby own_d13_45) (fun _ _ => ⟨rfl, hh3, (by decide : 0 + 1 ≤ _), (by decide : 0 + 2 ≤ _)⟩)
  dsimp only [Pt.U, Pt.locs, Pt.cells, Pt.slots] at X4 l4 y4 z4 st4 hQ4
  subst l4 y4 z4
  obtain ⟨br4, kr4, rfl, N4q, K4, hb4, Er4, Vr4, Or4⟩ := hQ4
  have N4 := Fr.app N3 N4q
  refine own_st (fun _ kt => st4.trans kt) ?_
  have ne4_a_br4 : a ≠ br4 := Nat.ne_of_lt (Nat.lt_of_lt_of_le EA.lt hb4)
  have ne4_b_br4 : b ≠ br4 := Nat.ne_of_lt (Nat.lt_of_lt_of_le EB.lt hb4)
  have ge4_br4 : n0 ≤ br4 := Nat.le_trans (own_old_le O0) hb4
  have sz4_br4 : h0.size ≤ br4 := Nat.le_trans K0.1 hb4
  have O0_x4 := O0.keep K4 all0
  have EA_x4 := EA.keep K4
  have FE_x4 := FE.keep K4 nin0
  have FZ_x4 := FZ.keep K4 nin0
  have FM_x4 := FM.keep K4 nin0
  have EB_x4 := EB.keep K4
  have VB_x4 := VB.keep K4 nin0
  have K0_x4 := K0.trans K4 all0
  show own_Rch p e below _ T4 (mkF m 50 #[.val (.ref a), .unset] [(.ref br4)])
  obtain ⟨_, _, ⟨T5, L5, k5, n5⟩, -, X5, ⟨Lc5, hQ5, l5, y5, z5⟩, st5⟩ := Jvm.LawKit.callS X4 hx (y := (⟨"java/util/List", "of", "([Ljava/lang/Object;)Ljava/util/List;"⟩ : MethodName)) hown (mvT hZ (hw _ (List.mem_of_getElem? (i := 136) rfl))) (mvT hZ (hw _ (List.mem_of_getElem? (i := 137) rfl))) (mvT hZ (hw _ (List.mem_of_getElem? (i := 85) rfl))) (mvT hZ (hw _ (List.mem_of_getElem? (i := 138) rfl))) (by decide) (backOf (W := 0) (own_lof_2 l Z a0 hw [] br4 kr4 zz oo em T4.heap n0 O0_x4 Vr4 EZ EO SE) hZ (hw _ (List.mem_of_getElem? (i := 138) rfl)) (hw _ (List.mem_of_getElem? (i := 85) rfl)) (by decide) (by decide)) (g := (mkF m 50 #[.val (.ref a), .unset] [(.ref br4)])) rfl (by rw [hml]; rfl) (argsL := [(.ref br4)]) (rest := []) (lenOf own_pd10 rfl) rfl (by show 2 * 0 + _ ≤ _; exact Nat.le_of_eq rfl) (hb hby own_d13_50) (fun _ _ => ⟨rfl, rfl, (by decide : 1 + 1 ≤ _), (by decide : 2 + 2 ≤ _)⟩)
  dsimp only [Pt.U, Pt.locs, Pt.cells, Pt.slots] at X5 l5 y5 z5 st5 hQ5
  subst l5 y5 z5
  obtain ⟨ql5, rfl, N5q, K5, hq5, Eq5, Fq5⟩ := hQ5
  have N5 := Fr.app N4 N5q
  refine own_st st5 ?_
  have ne5_a_ql5 : a ≠ ql5 := Nat.ne_of_lt (Nat.lt_of_lt_of_le EA_x4.lt hq5)
  have ne5_b_ql5 : b ≠ ql5 := Nat.ne_of_lt (Nat.lt_of_lt_of_le EB_x4.lt hq5)
  have ne5_br4_ql5 : br4 ≠ ql5 := Nat.ne_of_lt (Nat.lt_of_lt_of_le Er4.lt hq5)
  have ge5_ql5 : n0 ≤ ql5 := Nat.le_trans (own_old_le O0_x4) hq5
  have sz5_ql5 : h0.size ≤ ql5 := Nat.le_trans K0_x4.1 hq5
  have O0_x5 := O0_x4.keep K5 all0
  have EA_x5 := EA_x4.keep K5
  have FE_x5 := FE_x4.keep K5 nin0
  have FZ_x5 := FZ_x4.keep K5 nin0
  have FM_x5 := FM_x4.keep K5 nin0
  have EB_x5 := EB_x4.keep K5
  have VB_x5 := VB_x4.keep K5 nin0
  have K0_x5 := K0_x4.trans K5 all0
  have Er4_x5 := Er4.keep K5
  have Vr4_x5 := Vr4.keep K5 nin0
  show own_Rch p e below _ T5 (mkF m 53 #[.val (.ref a), .unset] [(.ref ql5)])
  refine own_retA rfl rfl X5 hx Bd.notSynchronized Bd.returns (hb hby own_d13_53) (by decide) (by decide) ?_
  exact ⟨_, rfl, N5, K0_x5, sz5_ql5, Eq5, Fq5⟩
def own_Q_own_cof_2 (Z : State) (a : Addr) (b : Addr) (kb : ClassId) (mr : Addr) (zz : Addr) (oo : Addr) (em : Addr) (h0 : Heap) (n0 : Nat) (v : Option Value) (h : Heap) (L : List Loc) : Prop := ∃ q : Addr, v = some (.ref q) ∧ Fr n0 L ∧ Keep h0 h [] ∧ h0.size ≤ q ∧ Exa Z h q "java/util/ImmutableCollections$List12" ∧ Fld Z h q "java/util/ImmutableCollections$List12" "e1" "Ljava/lang/Object;" (.ref oo)
set_option maxRecDepth 65536 in
set_option maxHeartbeats 40000000 in
theorem own_cof_2 (l : Launch) (Z : State) (a0 : Array Value) (hw : ∀ d ∈ tables_1, d.before a0 Z = true) (ws : List Jvm.Cond) (a : Addr) (b : Addr) (kb : ClassId) (mr : Addr) (zz : Addr) (oo : Addr) (em : Addr) (h0 : Heap) (n0 : Nat) (O0 : Old Z n0 h0) (EA : Exa Z h0 a "java/util/ArrayList") (FE : Fld Z h0 a "java/util/ArrayList" "elementData" "[Ljava/lang/Object;" (.ref b)) (FZ : Fld Z h0 a "java/util/ArrayList" "size" "I" (.int (2 : Int32))) (FM : Fld Z h0 a "java/util/AbstractList" "modCount" "I" (.int (2 : Int32))) (EB : Exa Z h0 b "[Ljava/lang/Object;") (VB : Arv Z h0 b kb (.object "java/lang/Object") (10 : Int32) [(.ref zz), (.ref oo), .null, .null, .null, .null, .null, .null, .null, .null] .null) (EZ : Exa Z Z.heap zz "java/math/BigDecimal") (EO : Exa Z Z.heap oo "java/math/BigDecimal") (MR : own_Mir Z "[Ljava/lang/Object;" mr) (SE : Sta Z Z.heap "java/util/ImmutableCollections" "EMPTY" "Ljava/lang/Object;" (.ref em)) :
    MetFree l (⟨"java/util/List", "copyOf", "(Ljava/util/Collection;)Ljava/util/List;"⟩ : MethodName) (head1 (Jvm.Cond.code (⟨"java/util/List", "copyOf", "(Ljava/util/Collection;)Ljava/util/List;"⟩ : MethodName) jdk_40_method_48_code 1 (some (.object "java/util/List")) :: ws) ({ frames := 7, cells := 2, slots := 4, locals := 89 } : Room)) (fun args_ U => args_ = #[(.ref a)] ∧ Z.Warmed39 U.vm ∧ U.heap = h0) (fun _ _ _ _ _ => True) (fun _ U o U' => ∃ v L, o = .returned v ∧ (own_Q_own_cof_2 Z a b kb mr zz oo em h0 n0) v U'.heap L ∧ FrameEnd U o U' L ({ frames := 7, cells := 2, slots := 4, locals := 89 } : Room).cells ({ frames := 7, cells := 2, slots := 4, locals := 89 } : Room).slots) := by
  refine MetFree.of_bodySF (plainFor_of_name own_pn8) hisR ?_
  intro p e s m args below meth c s₁ Bd hml0 hP hK
  obtain ⟨rfl, hZ, hh⟩ := hP
  have hx := Bd.exec
  have hby := Bd.bytes
  have hml : c.maxLocals = 1 := hml0
  have hown : s.vm.findClass "java/util/List" = some m.cls := findClass_of_methodNamed Bd.named
  have hnm := (name_of_methodNamed Bd.named Bd.method).1
  have X0 : Stand p l e ({ frames := 7, cells := 2, slots := 4, locals := 89 } : Room) s m #[(.ref a)] below meth c s₁ [] 0 0 := Stand.of_body Bd
  have e0 : s₁.heap = h0 := by rw [← hh, Bd.state]; rfl
  have N0 := Fr.nil n0
  refine own_close (s := s) (Q := (own_Q_own_cof_2 Z a b kb mr zz oo em h0 n0)) (C := (({ frames := 7, cells := 2, slots := 4, locals := 89 } : Room)).cells) (N := (({ frames := 7, cells := 2, slots := 4, locals := 89 } : Room)).slots) (own_st (fun _ kt => castTop (own_ef12 m a) kt) ?_)
  have K0 := Keep.refl h0 []
  show own_Rch p e below _ s₁ (mkF m 0 #[.val (.ref a)] [])
  refine own_st (fun _ kt => XS.aloadN X0.here hx rfl (hb hby own_d12_0) rfl rfl  kt) ?_
  show own_Rch p e below _ s₁ (mkF m 1 #[.val (.ref a)] [(.ref a)])
  obtain ⟨_, _, ⟨T1, L1, k1, n1⟩, -, X1, ⟨Lc1, hQ1, l1, y1, z1⟩, st1⟩ := Jvm.LawKit.callS X0 hx (y := (⟨"java/util/ImmutableCollections", "listCopy", "(Ljava/util/Collection;)Ljava/util/List;"⟩ : MethodName)) hown (mvT hZ (hw _ (List.mem_of_getElem? (i := 87) rfl))) (mvT hZ (hw _ (List.mem_of_getElem? (i := 88) rfl))) (mvT hZ (hw _ (List.mem_of_getElem? (i := 89) rfl))) (mvT hZ (hw _ (List.mem_of_getElem? (i := 90) rfl))) (by decide) (backOf (W := 0) (own_lcopy_2 l Z a0 hw [] a b kb mr zz oo em h0 n0 O0 EA FE FZ FM EB VB EZ EO MR SE) hZ (hw _ (List.mem_of_getElem? (i := 90) rfl)) (hw _ (List.mem_of_getElem? (i := 89) rfl)) (by decide) (by decide)) (g := (mkF m 1 #[.val (.ref a)] [(.ref a)])) rfl (by rw [hml]; rfl) (argsL := [(.ref a)]) (rest := []) (lenOf own_pd11 rfl) rfl (by show 2 * 0 + _ ≤ _; exact Nat.le_of_eq rfl) (hb hby own_d12_1) (fun _ _ => ⟨rfl, e0, (by decide : 0 + 2 ≤ _), (by decide : 0 + 4 ≤ _)⟩)
  dsimp only [Pt.U, Pt.locs, Pt.cells, Pt.slots] at X1 l1 y1 z1 st1 hQ1
  subst l1 y1 z1
  obtain ⟨ql1, rfl, N1q, K1, hq1, Eq1, Fq1⟩ := hQ1
  have N1 := Fr.app N0 N1q
  refine own_st st1 ?_
  have ne1_a_ql1 : a ≠ ql1 := Nat.ne_of_lt (Nat.lt_of_lt_of_le EA.lt hq1)
  have ne1_b_ql1 : b ≠ ql1 := Nat.ne_of_lt (Nat.lt_of_lt_of_le EB.lt hq1)
  have ge1_ql1 : n0 ≤ ql1 := Nat.le_trans (own_old_le O0) hq1
  have sz1_ql1 : h0.size ≤ ql1 := Nat.le_trans K0.1 hq1
  have O0_x1 := O0.keep K1 all0
  have EA_x1 := EA.keep K1
  have FE_x1 := FE.keep K1 nin0
  have FZ_x1 := FZ.keep K1 nin0
  have FM_x1 := FM.keep K1 nin0
  have EB_x1 := EB.keep K1
  have VB_x1 := VB.keep K1 nin0
  have K0_x1 := K0.trans K1 all0
  show own_Rch p e below _ T1 (mkF m 4 #[.val (.ref a)] [(.ref ql1)])
  refine own_retA rfl rfl X1 hx Bd.notSynchronized Bd.returns (hb hby own_d12_4) (by decide) (by decide) ?_
  exact ⟨_, rfl, N1, K0_x1, sz1_ql1, Eq1, Fq1⟩
def own_Q_own_mt5_2 (Z : State) (x : Addr) (sr : Addr) (pa : Int32) (a : Addr) (b : Addr) (kb : ClassId) (mr : Addr) (zz : Addr) (oo : Addr) (em : Addr) (h0 : Heap) (n0 : Nat) (v : Option Value) (h : Heap) (L : List Loc) : Prop := v = none ∧ Fr n0 L ∧ Keep h0 h [x] ∧ ∃ q : Addr, Exa Z h x "com/example/makewhole/makewhole/mortality/MortalityTable" ∧ Fld Z h x "com/example/makewhole/makewhole/mortality/MortalityTable" "firstAge" "I" (.int pa) ∧ Fld Z h x "com/example/makewhole/makewhole/mortality/MortalityTable" "qx" "Ljava/util/List;" (.ref q) ∧ h0.size ≤ q ∧ Exa Z h q "java/util/ImmutableCollections$List12" ∧ Fld Z h q "java/util/ImmutableCollections$List12" "e1" "Ljava/lang/Object;" (.ref oo)
set_option maxRecDepth 65536 in
set_option maxHeartbeats 40000000 in
theorem own_mt5_2 (l : Launch) (Z : State) (a0 : Array Value) (hw : ∀ d ∈ tables_1, d.before a0 Z = true) (ws : List Jvm.Cond) (x : Addr) (sr : Addr) (pa : Int32) (a : Addr) (b : Addr) (kb : ClassId) (mr : Addr) (zz : Addr) (oo : Addr) (em : Addr) (h0 : Heap) (n0 : Nat) (O0 : Old Z n0 h0) (EA : Exa Z h0 a "java/util/ArrayList") (FE : Fld Z h0 a "java/util/ArrayList" "elementData" "[Ljava/lang/Object;" (.ref b)) (FZ : Fld Z h0 a "java/util/ArrayList" "size" "I" (.int (2 : Int32))) (FM : Fld Z h0 a "java/util/AbstractList" "modCount" "I" (.int (2 : Int32))) (EB : Exa Z h0 b "[Ljava/lang/Object;") (VB : Arv Z h0 b kb (.object "java/lang/Object") (10 : Int32) [(.ref zz), (.ref oo), .null, .null, .null, .null, .null, .null, .null, .null] .null) (EZ : Exa Z Z.heap zz "java/math/BigDecimal") (EO : Exa Z Z.heap oo "java/math/BigDecimal") (MR : own_Mir Z "[Ljava/lang/Object;" mr) (SE : Sta Z Z.heap "java/util/ImmutableCollections" "EMPTY" "Ljava/lang/Object;" (.ref em)) (EX : Exa Z h0 x "com/example/makewhole/makewhole/mortality/MortalityTable") (G0 : Fld Z h0 x "com/example/makewhole/makewhole/mortality/MortalityTable" "source" "Ljava/lang/String;" .null) (G1 : Fld Z h0 x "com/example/makewhole/makewhole/mortality/MortalityTable" "firstAge" "I" (.int (0 : Int32))) (G2 : Fld Z h0 x "com/example/makewhole/makewhole/mortality/MortalityTable" "qx" "Ljava/util/List;" .null) (G3 : Fld Z h0 x "com/example/makewhole/makewhole/mortality/MortalityTable" "publishedName" "Ljava/lang/String;" .null) (G4 : Fld Z h0 x "com/example/makewhole/makewhole/mortality/MortalityTable" "publishedIdentity" "Ljava/lang/String;" .null) (gx : n0 ≤ x) (hxa : a ≠ x) (hxb : b ≠ x) :
    MetFree l (⟨"com/example/makewhole/makewhole/mortality/MortalityTable", "<init>", "(Ljava/lang/String;ILjava/util/List;Ljava/lang/String;Ljava/lang/String;)V"⟩ : MethodName) (head1 (Jvm.Cond.code (⟨"com/example/makewhole/makewhole/mortality/MortalityTable", "<init>", "(Ljava/lang/String;ILjava/util/List;Ljava/lang/String;Ljava/lang/String;)V"⟩ : MethodName) prog_36_method_2_code 6 none :: ws) ({ frames := 8, cells := 2, slots := 4, locals := 102 } : Room)) (fun args_ U => args_ = #[(.ref x), (.ref sr), (.int pa), (.ref a), .null, .null] ∧ Z.Warmed39 U.vm ∧ U.heap = h0) (fun _ _ _ _ _ => True) (fun _ U o U' => ∃ v L, o = .returned v ∧ (own_Q_own_mt5_2 Z x sr pa a b kb mr zz oo em h0 n0) v U'.heap L ∧ FrameEnd U o U' L ({ frames := 8, cells := 2, slots := 4, locals := 102 } : Room).cells ({ frames := 8, cells := 2, slots := 4, locals := 102 } : Room).slots) := by
  refine MetFree.of_bodySF (plainFor_of_name own_pn10) hisR ?_
  intro p e s m args below meth c s₁ Bd hml0 hP hK
  obtain ⟨rfl, hZ, hh⟩ := hP
  have hx := Bd.exec
  have hby := Bd.bytes
  have hml : c.maxLocals = 6 := hml0
  have hown : s.vm.findClass "com/example/makewhole/makewhole/mortality/MortalityTable" = some m.cls := findClass_of_methodNamed Bd.named
  have hnm := (name_of_methodNamed Bd.named Bd.method).1
  have X0 : Stand p l e ({ frames := 8, cells := 2, slots := 4, locals := 102 } : Room) s m #[(.ref x), (.ref sr), (.int pa), (.ref a), .null, .null] below meth c s₁ [] 0 0 := Stand.of_body Bd
  have e0 : s₁.heap = h0 := by rw [← hh, Bd.state]; rfl
  have N0 := Fr.nil n0
  refine own_close (s := s) (Q := (own_Q_own_mt5_2 Z x sr pa a b kb mr zz oo em h0 n0)) (C := (({ frames := 8, cells := 2, slots := 4, locals := 102 } : Room)).cells) (N := (({ frames := 8, cells := 2, slots := 4, locals := 102 } : Room)).slots) (own_st (fun _ kt => castTop (own_ef11n45 m x sr pa a) kt) ?_)
  have K0 := Keep.refl h0 [x]
  show own_Rch p e below _ s₁ (mkF m 0 #[.val (.ref x), .val (.ref sr), .val (.int pa), .val (.ref a), .val .null, .val .null] [])
  refine own_st (fun _ kt => XS.aloadN X0.here hx rfl (hb hby own_d11_0) rfl rfl  kt) ?_
  show own_Rch p e below _ s₁ (mkF m 1 #[.val (.ref x), .val (.ref sr), .val (.int pa), .val (.ref a), .val .null, .val .null] [(.ref x)])
  obtain ⟨T1, X1, e1, st1⟩ := initO X0 hx hZ hown (hw _ (List.mem_of_getElem? (i := 78) rfl)) (hw _ (List.mem_of_getElem? (i := 20) rfl)) (hw _ (List.mem_of_getElem? (i := 21) rfl)) e0 (g := (mkF m 1 #[.val (.ref x), .val (.ref sr), .val (.int pa), .val (.ref a), .val .null, .val .null] [(.ref x)])) rfl (by rw [hml]; rfl) rfl (hb hby own_d11_1) (by decide) (W := 0) (by show 2 * 0 + _ ≤ _; exact Nat.le_of_eq rfl) (by decide)
  refine own_st st1 ?_
  show own_Rch p e below _ T1 (mkF m 4 #[.val (.ref x), .val (.ref sr), .val (.int pa), .val (.ref a), .val .null, .val .null] [])
  refine own_st (fun _ kt => XS.aloadN X1.here hx rfl (hb hby own_d11_4) rfl rfl  kt) ?_
  show own_Rch p e below _ T1 (mkF m 5 #[.val (.ref x), .val (.ref sr), .val (.int pa), .val (.ref a), .val .null, .val .null] [(.ref x)])
  refine own_st (fun _ kt => XS.aloadN X1.here hx rfl (hb hby own_d11_5) rfl rfl  kt) ?_
  show own_Rch p e below _ T1 (mkF m 6 #[.val (.ref x), .val (.ref sr), .val (.int pa), .val (.ref a), .val .null, .val .null] [(.ref sr), (.ref x)])
  obtain ⟨T2, h2, X2, e2, W2, st2⟩ := putF X1 hx hZ hown (host := "") (Or.inl (hw _ (List.mem_of_getElem? (i := 79) rfl))) Via.refl e1 G0 EX (Or.inr ⟨(hw _ (List.mem_of_getElem? (i := 80) rfl)), rfl, hnm⟩) (hw _ (List.mem_of_getElem? (i := 62) rfl)) (ty := (.object "java/lang/String")) (by decide) rfl rfl (g := (mkF m 6 #[.val (.ref x), .val (.ref sr), .val (.int pa), .val (.ref a), .val .null, .val .null] [(.ref sr), (.ref x)])) rfl rfl (hb hby own_d11_6)
  refine own_st st2 ?_
  have Fw2 := G0.same W2
  have N2 := Fr.snoc X2 N0 gx
  have O0_x2 := O0.wr W2 gx
  have EA_x2 := EA.wr W2
  have FE_x2 := FE.other W2 (Or.inl hxa)
  have FZ_x2 := FZ.other W2 (Or.inl hxa)
  have FM_x2 := FM.other W2 (Or.inl hxa)
  have EB_x2 := EB.wr W2
  have VB_x2 := VB.other W2 hxb
  have EX_x2 := EX.wr W2
  have G1_x2 := G1.other W2 (Or.inr (slot_ne (Or.inr (hw _ (List.mem_of_getElem? (i := 82) rfl))) (Or.inr (hw _ (List.mem_of_getElem? (i := 80) rfl))) (by decide) (t := .int) (t' := (.object "java/lang/String")) (by decide) (by decide)))
  have G2_x2 := G2.other W2 (Or.inr (slot_ne (Or.inr (hw _ (List.mem_of_getElem? (i := 172) rfl))) (Or.inr (hw _ (List.mem_of_getElem? (i := 80) rfl))) (by decide) (t := (.object "java/util/List")) (t' := (.object "java/lang/String")) (by decide) (by decide)))
  have G3_x2 := G3.other W2 (Or.inr (slot_ne (Or.inr (hw _ (List.mem_of_getElem? (i := 174) rfl))) (Or.inr (hw _ (List.mem_of_getElem? (i := 80) rfl))) (by decide) (t := (.object "java/lang/String")) (t' := (.object "java/lang/String")) (by decide) (by decide)))
  have G4_x2 := G4.other W2 (Or.inr (slot_ne (Or.inr (hw _ (List.mem_of_getElem? (i := 176) rfl))) (Or.inr (hw _ (List.mem_of_getElem? (i := 80) rfl))) (by decide) (t := (.object "java/lang/String")) (t' := (.object "java/lang/String")) (by decide) (by decide)))
  have K0_x2 := K0.wr W2 (Or.inl (List.mem_of_getElem? (i := 0) rfl))
  show own_Rch p e below _ T2 (mkF m 9 #[.val (.ref x), .val (.ref sr), .val (.int pa), .val (.ref a), .val .null, .val .null] [])
  refine own_st (fun _ kt => XS.aloadN X2.here hx rfl (hb hby own_d11_9) rfl rfl  kt) ?_
  show own_Rch p e below _ T2 (mkF m 10 #[.val (.ref x), .val (.ref sr), .val (.int pa), .val (.ref a), .val .null, .val .null] [(.ref x)])
  refine own_st (fun _ kt => XS.iloadN X2.here hx rfl (hb hby own_d11_10) rfl  kt) ?_
  show own_Rch p e below _ T2 (mkF m 11 #[.val (.ref x), .val (.ref sr), .val (.int pa), .val (.ref a), .val .null, .val .null] [(.int pa), (.ref x)])
  obtain ⟨T3, h3, X3, e3, W3, st3⟩ := putF X2 hx hZ hown (host := "") (Or.inl (hw _ (List.mem_of_getElem? (i := 81) rfl))) Via.refl e2 G1_x2 EX_x2 (Or.inr ⟨(hw _ (List.mem_of_getElem? (i := 82) rfl)), rfl, hnm⟩) (hw _ (List.mem_of_getElem? (i := 62) rfl)) (ty := .int) (by decide) rfl rfl (g := (mkF m 11 #[.val (.ref x), .val (.ref sr), .val (.int pa), .val (.ref a), .val .null, .val .null] [(.int pa), (.ref x)])) rfl rfl (hb hby own_d11_11)
  refine own_st st3 ?_
  have Fw3 := G1_x2.same W3
  have N3 := Fr.snoc X3 N2 gx
  have O0_x3 := O0_x2.wr W3 gx
  have EA_x3 := EA_x2.wr W3
  have FE_x3 := FE_x2.other W3 (Or.inl hxa)
  have FZ_x3 := FZ_x2.other W3 (Or.inl hxa)
  have FM_x3 := FM_x2.other W3 (Or.inl hxa)
  have EB_x3 := EB_x2.wr W3
  have VB_x3 := VB_x2.other W3 hxb
  have EX_x3 := EX_x2.wr W3
  have Fw2_x3 := Fw2.other W3 (Or.inr (slot_ne (Or.inr (hw _ (List.mem_of_getElem? (i := 80) rfl))) (Or.inr (hw _ (List.mem_of_getElem? (i := 82) rfl))) (by decide) (t := (.object "java/lang/String")) (t' := .int) (by decide) (by decide)))
  have G2_x3 := G2_x2.other W3 (Or.inr (slot_ne (Or.inr (hw _ (List.mem_of_getElem? (i := 172) rfl))) (Or.inr (hw _ (List.mem_of_getElem? (i := 82) rfl))) (by decide) (t := (.object "java/util/List")) (t' := .int) (by decide) (by decide)))
  have G3_x3 := G3_x2.other W3 (Or.inr (slot_ne (Or.inr (hw _ (List.mem_of_getElem? (i := 174) rfl))) (Or.inr (hw _ (List.mem_of_getElem? (i := 82) rfl))) (by decide) (t := (.object "java/lang/String")) (t' := .int) (by decide) (by decide)))
  have G4_x3 := G4_x2.other W3 (Or.inr (slot_ne (Or.inr (hw _ (List.mem_of_getElem? (i := 176) rfl))) (Or.inr (hw _ (List.mem_of_getElem? (i := 82) rfl))) (by decide) (t := (.object "java/lang/String")) (t' := .int) (by decide) (by decide)))
  have K0_x3 := K0_x2.wr W3 (Or.inl (List.mem_of_getElem? (i := 0) rfl))
  show own_Rch p e below _ T3 (mkF m 14 #[.val (.ref x), .val (.ref sr), .val (.int pa), .val (.ref a), .val .null, .val .null] [])
  refine own_st (fun _ kt => XS.aloadN X3.here hx rfl (hb hby own_d11_14) rfl rfl  kt) ?_
  show own_Rch p e below _ T3 (mkF m 15 #[.val (.ref x), .val (.ref sr), .val (.int pa), .val (.ref a), .val .null, .val .null] [(.ref x)])
  refine own_st (fun _ kt => XS.aloadN X3.here hx rfl (hb hby own_d11_15) rfl rfl  kt) ?_
  show own_Rch p e below _ T3 (mkF m 16 #[.val (.ref x), .val (.ref sr), .val (.int pa), .val (.ref a), .val .null, .val .null] [(.ref a), (.ref x)])
  obtain ⟨_, _, ⟨T4, L4, k4, n4⟩, -, X4, ⟨Lc4, hQ4, l4, y4, z4⟩, st4⟩ := Jvm.LawKit.callS X3 hx (y := (⟨"java/util/List", "copyOf", "(Ljava/util/Collection;)Ljava/util/List;"⟩ : MethodName)) hown (mvT hZ (hw _ (List.mem_of_getElem? (i := 83) rfl))) (mvT hZ (hw _ (List.mem_of_getElem? (i := 84) rfl))) (mvT hZ (hw _ (List.mem_of_getElem? (i := 85) rfl))) (mvT hZ (hw _ (List.mem_of_getElem? (i := 86) rfl))) (by decide) (backOf (W := 1) (own_cof_2 l Z a0 hw [] a b kb mr zz oo em h3 n0 O0_x3 EA_x3 FE_x3 FZ_x3 FM_x3 EB_x3 VB_x3 EZ EO MR SE) hZ (hw _ (List.mem_of_getElem? (i := 86) rfl)) (hw _ (List.mem_of_getElem? (i := 85) rfl)) (by decide) (by decide)) (g := (mkF m 16 #[.val (.ref x), .val (.ref sr), .val (.int pa), .val (.ref a), .val .null, .val .null] [(.ref a), (.ref x)])) rfl (by rw [hml]; rfl) (argsL := [(.ref a)]) (rest := [(.ref x)]) (lenOf own_pd11 rfl) rfl (by show 2 * 0 + _ ≤ _; exact Nat.le_of_eq rfl) (hb hby own_d11_16) (fun _ _ => ⟨rfl, e3, (by decide : 0 + 2 ≤ _), (by decide : 0 + 4 ≤ _)⟩)
  dsimp only [Pt.U, Pt.locs, Pt.cells, Pt.slots] at X4 l4 y4 z4 st4 hQ4
  subst l4 y4 z4
  obtain ⟨ql4, rfl, N4q, K4, hq4, Eq4, Fq4⟩ := hQ4
  have N4 := Fr.app N3 N4q
  refine own_st st4 ?_
  have ne4_a_ql4 : a ≠ ql4 := Nat.ne_of_lt (Nat.lt_of_lt_of_le EA_x3.lt hq4)
  have ne4_b_ql4 : b ≠ ql4 := Nat.ne_of_lt (Nat.lt_of_lt_of_le EB_x3.lt hq4)
  have ne4_x_ql4 : x ≠ ql4 := Nat.ne_of_lt (Nat.lt_of_lt_of_le EX_x3.lt hq4)
  have ge4_ql4 : n0 ≤ ql4 := Nat.le_trans (own_old_le O0_x3) hq4
  have sz4_ql4 : h0.size ≤ ql4 := Nat.le_trans K0_x3.1 hq4
  have O0_x4 := O0_x3.keep K4 all0
  have EA_x4 := EA_x3.keep K4
  have FE_x4 := FE_x3.keep K4 nin0
  have FZ_x4 := FZ_x3.keep K4 nin0
  have FM_x4 := FM_x3.keep K4 nin0
  have EB_x4 := EB_x3.keep K4
  have VB_x4 := VB_x3.keep K4 nin0
  have EX_x4 := EX_x3.keep K4
  have Fw2_x4 := Fw2_x3.keep K4 nin0
  have Fw3_x4 := Fw3.keep K4 nin0
  have G2_x4 := G2_x3.keep K4 nin0
  have G3_x4 := G3_x3.keep K4 nin0
  have G4_x4 := G4_x3.keep K4 nin0
  have K0_x4 := K0_x3.trans K4 all0
  show own_Rch p e below _ T4 (mkF m 19 #[.val (.ref x), .val (.ref sr), .val (.int pa), .val (.ref a), .val .null, .val .null] [(.ref ql4), (.ref x)])
  obtain ⟨T5, h5, X5, e5, W5, st5⟩ := putF X4 hx hZ hown (host := "") (Or.inl (hw _ (List.mem_of_getElem? (i := 171) rfl))) Via.refl rfl G2_x4 EX_x4 (Or.inr ⟨(hw _ (List.mem_of_getElem? (i := 172) rfl)), rfl, hnm⟩) (hw _ (List.mem_of_getElem? (i := 62) rfl)) (ty := (.object "java/util/List")) (by decide) rfl rfl (g := (mkF m 19 #[.val (.ref x), .val (.ref sr), .val (.int pa), .val (.ref a), .val .null, .val .null] [(.ref ql4), (.ref x)])) rfl rfl (hb hby own_d11_19)
  refine own_st st5 ?_
  have Fw5 := G2_x4.same W5
  have N5 := Fr.snoc X5 N4 gx
  have O0_x5 := O0_x4.wr W5 gx
  have EA_x5 := EA_x4.wr W5
  have FE_x5 := FE_x4.other W5 (Or.inl hxa)
  have FZ_x5 := FZ_x4.other W5 (Or.inl hxa)
  have FM_x5 := FM_x4.other W5 (Or.inl hxa)
  have EB_x5 := EB_x4.wr W5
  have VB_x5 := VB_x4.other W5 hxb
  have EX_x5 := EX_x4.wr W5
  have Fw2_x5 := Fw2_x4.other W5 (Or.inr (slot_ne (Or.inr (hw _ (List.mem_of_getElem? (i := 80) rfl))) (Or.inr (hw _ (List.mem_of_getElem? (i := 172) rfl))) (by decide) (t := (.object "java/lang/String")) (t' := (.object "java/util/List")) (by decide) (by decide)))
  have Fw3_x5 := Fw3_x4.other W5 (Or.inr (slot_ne (Or.inr (hw _ (List.mem_of_getElem? (i := 82) rfl))) (Or.inr (hw _ (List.mem_of_getElem? (i := 172) rfl))) (by decide) (t := .int) (t' := (.object "java/util/List")) (by decide) (by decide)))
  have G3_x5 := G3_x4.other W5 (Or.inr (slot_ne (Or.inr (hw _ (List.mem_of_getElem? (i := 174) rfl))) (Or.inr (hw _ (List.mem_of_getElem? (i := 172) rfl))) (by decide) (t := (.object "java/lang/String")) (t' := (.object "java/util/List")) (by decide) (by decide)))
  have G4_x5 := G4_x4.other W5 (Or.inr (slot_ne (Or.inr (hw _ (List.mem_of_getElem? (i := 176) rfl))) (Or.inr (hw _ (List.mem_of_getElem? (i := 172) rfl))) (by decide) (t := (.object "java/lang/String")) (t' := (.object "java/util/List")) (by decide) (by decide)))
  have K0_x5 := K0_x4.wr W5 (Or.inl (List.mem_of_getElem? (i := 0) rfl))
  have Eq4_x5 := Eq4.wr W5
  have Fq4_x5 := Fq4.other W5 (Or.inl (Ne.symm ne4_x_ql4))
  show own_Rch p e below _ T5 (mkF m 22 #[.val (.ref x), .val (.ref sr), .val (.int pa), .val (.ref a), .val .null, .val .null] [])
  refine own_st (fun _ kt => XS.aloadN X5.here hx rfl (hb hby own_d11_22) rfl rfl  kt) ?_
  show own_Rch p e below _ T5 (mkF m 23 #[.val (.ref x), .val (.ref sr), .val (.int pa), .val (.ref a), .val .null, .val .null] [(.ref x)])
  refine own_st (fun _ kt => XS.aload X5.here hx rfl (hb hby own_d11_23) rfl rfl  kt) ?_
  show own_Rch p e below _ T5 (mkF m 25 #[.val (.ref x), .val (.ref sr), .val (.int pa), .val (.ref a), .val .null, .val .null] [.null, (.ref x)])
  obtain ⟨T6, h6, X6, e6, W6, st6⟩ := putF X5 hx hZ hown (host := "") (Or.inl (hw _ (List.mem_of_getElem? (i := 173) rfl))) Via.refl e5 G3_x5 EX_x5 (Or.inr ⟨(hw _ (List.mem_of_getElem? (i := 174) rfl)), rfl, hnm⟩) (hw _ (List.mem_of_getElem? (i := 62) rfl)) (ty := (.object "java/lang/String")) (by decide) rfl rfl (g := (mkF m 25 #[.val (.ref x), .val (.ref sr), .val (.int pa), .val (.ref a), .val .null, .val .null] [.null, (.ref x)])) rfl rfl (hb hby own_d11_25)
  refine own_st st6 ?_
  have Fw6 := G3_x5.same W6
  have N6 := Fr.snoc X6 N5 gx
  have O0_x6 := O0_x5.wr W6 gx
  have EA_x6 := EA_x5.wr W6
  have FE_x6 := FE_x5.other W6 (Or.inl hxa)
  have FZ_x6 := FZ_x5.other W6 (Or.inl hxa)
  have FM_x6 := FM_x5.other W6 (Or.inl hxa)
  have EB_x6 := EB_x5.wr W6
  have VB_x6 := VB_x5.other W6 hxb
  have EX_x6 := EX_x5.wr W6
  have Fw2_x6 := Fw2_x5.other W6 (Or.inr (slot_ne (Or.inr (hw _ (List.mem_of_getElem? (i := 80) rfl))) (Or.inr (hw _ (List.mem_of_getElem? (i := 174) rfl))) (by decide) (t := (.object "java/lang/String")) (t' := (.object "java/lang/String")) (by decide) (by decide)))
  have Fw3_x6 := Fw3_x5.other W6 (Or.inr (slot_ne (Or.inr (hw _ (List.mem_of_getElem? (i := 82) rfl))) (Or.inr (hw _ (List.mem_of_getElem? (i := 174) rfl))) (by decide) (t := .int) (t' := (.object "java/lang/String")) (by decide) (by decide)))
  have Fw5_x6 := Fw5.other W6 (Or.inr (slot_ne (Or.inr (hw _ (List.mem_of_getElem? (i := 172) rfl))) (Or.inr (hw _ (List.mem_of_getElem? (i := 174) rfl))) (by decide) (t := (.object "java/util/List")) (t' := (.object "java/lang/String")) (by decide) (by decide)))
  have G4_x6 := G4_x5.other W6 (Or.inr (slot_ne (Or.inr (hw _ (List.mem_of_getElem? (i := 176) rfl))) (Or.inr (hw _ (List.mem_of_getElem? (i := 174) rfl))) (by decide) (t := (.object "java/lang/String")) (t' := (.object "java/lang/String")) (by decide) (by decide)))
  have K0_x6 := K0_x5.wr W6 (Or.inl (List.mem_of_getElem? (i := 0) rfl))
  have Eq4_x6 := Eq4_x5.wr W6
  have Fq4_x6 := Fq4_x5.other W6 (Or.inl (Ne.symm ne4_x_ql4))
  show own_Rch p e below _ T6 (mkF m 28 #[.val (.ref x), .val (.ref sr), .val (.int pa), .val (.ref a), .val .null, .val .null] [])
  refine own_st (fun _ kt => XS.aloadN X6.here hx rfl (hb hby own_d11_28) rfl rfl  kt) ?_
  show own_Rch p e below _ T6 (mkF m 29 #[.val (.ref x), .val (.ref sr), .val (.int pa), .val (.ref a), .val .null, .val .null] [(.ref x)])
  refine own_st (fun _ kt => XS.aload X6.here hx rfl (hb hby own_d11_29) rfl rfl  kt) ?_
  show own_Rch p e below _ T6 (mkF m 31 #[.val (.ref x), .val (.ref sr), .val (.int pa), .val (.ref a), .val .null, .val .null] [.null, (.ref x)])
  obtain ⟨T7, h7, X7, e7, W7, st7⟩ := putF X6 hx hZ hown (host := "") (Or.inl (hw _ (List.mem_of_getElem? (i := 175) rfl))) Via.refl e6 G4_x6 EX_x6 (Or.inr ⟨(hw _ (List.mem_of_getElem? (i := 176) rfl)), rfl, hnm⟩) (hw _ (List.mem_of_getElem? (i := 62) rfl)) (ty := (.object "java/lang/String")) (by decide) rfl rfl (g := (mkF m 31 #[.val (.ref x), .val (.ref sr), .val (.int pa), .val (.ref a), .val .null, .val .null] [.null, (.ref x)])) rfl rfl (hb hby own_d11_31)
  refine own_st st7 ?_
  have Fw7 := G4_x6.same W7
  have N7 := Fr.snoc X7 N6 gx
  have O0_x7 := O0_x6.wr W7 gx
  have EA_x7 := EA_x6.wr W7
  have FE_x7 := FE_x6.other W7 (Or.inl hxa)
  have FZ_x7 := FZ_x6.other W7 (Or.inl hxa)
  have FM_x7 := FM_x6.other W7 (Or.inl hxa)
  have EB_x7 := EB_x6.wr W7
  have VB_x7 := VB_x6.other W7 hxb
  have EX_x7 := EX_x6.wr W7
  have Fw2_x7 := Fw2_x6.other W7 (Or.inr (slot_ne (Or.inr (hw _ (List.mem_of_getElem? (i := 80) rfl))) (Or.inr (hw _ (List.mem_of_getElem? (i := 176) rfl))) (by decide) (t := (.object "java/lang/String")) (t' := (.object "java/lang/String")) (by decide) (by decide)))
  have Fw3_x7 := Fw3_x6.other W7 (Or.inr (slot_ne (Or.inr (hw _ (List.mem_of_getElem? (i := 82) rfl))) (Or.inr (hw _ (List.mem_of_getElem? (i := 176) rfl))) (by decide) (t := .int) (t' := (.object "java/lang/String")) (by decide) (by decide)))
  have Fw5_x7 := Fw5_x6.other W7 (Or.inr (slot_ne (Or.inr (hw _ (List.mem_of_getElem? (i := 172) rfl))) (Or.inr (hw _ (List.mem_of_getElem? (i := 176) rfl))) (by decide) (t := (.object "java/util/List")) (t' := (.object "java/lang/String")) (by decide) (by decide)))
  have Fw6_x7 := Fw6.other W7 (Or.inr (slot_ne (Or.inr (hw _ (List.mem_of_getElem? (i := 174) rfl))) (Or.inr (hw _ (List.mem_of_getElem? (i := 176) rfl))) (by decide) (t := (.object "java/lang/String")) (t' := (.object "java/lang/String")) (by decide) (by decide)))
  have K0_x7 := K0_x6.wr W7 (Or.inl (List.mem_of_getElem? (i := 0) rfl))
  have Eq4_x7 := Eq4_x6.wr W7
  have Fq4_x7 := Fq4_x6.other W7 (Or.inl (Ne.symm ne4_x_ql4))
  show own_Rch p e below _ T7 (mkF m 34 #[.val (.ref x), .val (.ref sr), .val (.int pa), .val (.ref a), .val .null, .val .null] [])
  refine own_retV X7 hx Bd.notSynchronized Bd.returns (hb hby own_d11_34) (by decide) (by decide) ?_
  rw [e7]
  exact ⟨rfl, N7, K0_x7, _, EX_x7, Fw3_x7, Fw5_x7, sz4_ql4, Eq4_x7, Fq4_x7⟩
def own_Q_own_mt3_2 (Z : State) (x : Addr) (sr : Addr) (pa : Int32) (a : Addr) (b : Addr) (kb : ClassId) (mr : Addr) (zz : Addr) (oo : Addr) (em : Addr) (h0 : Heap) (n0 : Nat) (v : Option Value) (h : Heap) (L : List Loc) : Prop := v = none ∧ Fr n0 L ∧ Keep h0 h [x] ∧ ∃ q : Addr, Exa Z h x "com/example/makewhole/makewhole/mortality/MortalityTable" ∧ Fld Z h x "com/example/makewhole/makewhole/mortality/MortalityTable" "firstAge" "I" (.int pa) ∧ Fld Z h x "com/example/makewhole/makewhole/mortality/MortalityTable" "qx" "Ljava/util/List;" (.ref q) ∧ h0.size ≤ q ∧ Exa Z h q "java/util/ImmutableCollections$List12" ∧ Fld Z h q "java/util/ImmutableCollections$List12" "e1" "Ljava/lang/Object;" (.ref oo)
set_option maxRecDepth 65536 in
set_option maxHeartbeats 40000000 in
theorem own_mt3_2 (l : Launch) (Z : State) (a0 : Array Value) (hw : ∀ d ∈ tables_1, d.before a0 Z = true) (ws : List Jvm.Cond) (x : Addr) (sr : Addr) (pa : Int32) (a : Addr) (b : Addr) (kb : ClassId) (mr : Addr) (zz : Addr) (oo : Addr) (em : Addr) (h0 : Heap) (n0 : Nat) (O0 : Old Z n0 h0) (EA : Exa Z h0 a "java/util/ArrayList") (FE : Fld Z h0 a "java/util/ArrayList" "elementData" "[Ljava/lang/Object;" (.ref b)) (FZ : Fld Z h0 a "java/util/ArrayList" "size" "I" (.int (2 : Int32))) (FM : Fld Z h0 a "java/util/AbstractList" "modCount" "I" (.int (2 : Int32))) (EB : Exa Z h0 b "[Ljava/lang/Object;") (VB : Arv Z h0 b kb (.object "java/lang/Object") (10 : Int32) [(.ref zz), (.ref oo), .null, .null, .null, .null, .null, .null, .null, .null] .null) (EZ : Exa Z Z.heap zz "java/math/BigDecimal") (EO : Exa Z Z.heap oo "java/math/BigDecimal") (MR : own_Mir Z "[Ljava/lang/Object;" mr) (SE : Sta Z Z.heap "java/util/ImmutableCollections" "EMPTY" "Ljava/lang/Object;" (.ref em)) (EX : Exa Z h0 x "com/example/makewhole/makewhole/mortality/MortalityTable") (G0 : Fld Z h0 x "com/example/makewhole/makewhole/mortality/MortalityTable" "source" "Ljava/lang/String;" .null) (G1 : Fld Z h0 x "com/example/makewhole/makewhole/mortality/MortalityTable" "firstAge" "I" (.int (0 : Int32))) (G2 : Fld Z h0 x "com/example/makewhole/makewhole/mortality/MortalityTable" "qx" "Ljava/util/List;" .null) (G3 : Fld Z h0 x "com/example/makewhole/makewhole/mortality/MortalityTable" "publishedName" "Ljava/lang/String;" .null) (G4 : Fld Z h0 x "com/example/makewhole/makewhole/mortality/MortalityTable" "publishedIdentity" "Ljava/lang/String;" .null) (gx : n0 ≤ x) (hxa : a ≠ x) (hxb : b ≠ x) :
    MetFree l (⟨"com/example/makewhole/makewhole/mortality/MortalityTable", "<init>", "(Ljava/lang/String;ILjava/util/List;)V"⟩ : MethodName) (head1 (Jvm.Cond.code (⟨"com/example/makewhole/makewhole/mortality/MortalityTable", "<init>", "(Ljava/lang/String;ILjava/util/List;)V"⟩ : MethodName) prog_36_method_1_code 4 none :: ws) ({ frames := 9, cells := 2, slots := 4, locals := 119 } : Room)) (fun args_ U => args_ = #[(.ref x), (.ref sr), (.int pa), (.ref a)] ∧ Z.Warmed39 U.vm ∧ U.heap = h0) (fun _ _ _ _ _ => True) (fun _ U o U' => ∃ v L, o = .returned v ∧ (own_Q_own_mt3_2 Z x sr pa a b kb mr zz oo em h0 n0) v U'.heap L ∧ FrameEnd U o U' L ({ frames := 9, cells := 2, slots := 4, locals := 119 } : Room).cells ({ frames := 9, cells := 2, slots := 4, locals := 119 } : Room).slots) := by
  refine MetFree.of_bodySF (plainFor_of_name own_pn10) hisR ?_
  intro p e s m args below meth c s₁ Bd hml0 hP hK
  obtain ⟨rfl, hZ, hh⟩ := hP
  have hx := Bd.exec
  have hby := Bd.bytes
  have hml : c.maxLocals = 4 := hml0
  have hown : s.vm.findClass "com/example/makewhole/makewhole/mortality/MortalityTable" = some m.cls := findClass_of_methodNamed Bd.named
  have hnm := (name_of_methodNamed Bd.named Bd.method).1
  have X0 : Stand p l e ({ frames := 9, cells := 2, slots := 4, locals := 119 } : Room) s m #[(.ref x), (.ref sr), (.int pa), (.ref a)] below meth c s₁ [] 0 0 := Stand.of_body Bd
  have e0 : s₁.heap = h0 := by rw [← hh, Bd.state]; rfl
  have N0 := Fr.nil n0
  refine own_close (s := s) (Q := (own_Q_own_mt3_2 Z x sr pa a b kb mr zz oo em h0 n0)) (C := (({ frames := 9, cells := 2, slots := 4, locals := 119 } : Room)).cells) (N := (({ frames := 9, cells := 2, slots := 4, locals := 119 } : Room)).slots) (own_st (fun _ kt => castTop (own_ef10 m x sr pa a) kt) ?_)
  have K0 := Keep.refl h0 [x]
  show own_Rch p e below _ s₁ (mkF m 0 #[.val (.ref x), .val (.ref sr), .val (.int pa), .val (.ref a)] [])
  refine own_st (fun _ kt => XS.aloadN X0.here hx rfl (hb hby own_d10_0) rfl rfl  kt) ?_
  show own_Rch p e below _ s₁ (mkF m 1 #[.val (.ref x), .val (.ref sr), .val (.int pa), .val (.ref a)] [(.ref x)])
  refine own_st (fun _ kt => XS.aloadN X0.here hx rfl (hb hby own_d10_1) rfl rfl  kt) ?_
  show own_Rch p e below _ s₁ (mkF m 2 #[.val (.ref x), .val (.ref sr), .val (.int pa), .val (.ref a)] [(.ref sr), (.ref x)])
  refine own_st (fun _ kt => XS.iloadN X0.here hx rfl (hb hby own_d10_2) rfl  kt) ?_
  show own_Rch p e below _ s₁ (mkF m 3 #[.val (.ref x), .val (.ref sr), .val (.int pa), .val (.ref a)] [(.int pa), (.ref sr), (.ref x)])
  refine own_st (fun _ kt => XS.aloadN X0.here hx rfl (hb hby own_d10_3) rfl rfl  kt) ?_
  show own_Rch p e below _ s₁ (mkF m 4 #[.val (.ref x), .val (.ref sr), .val (.int pa), .val (.ref a)] [(.ref a), (.int pa), (.ref sr), (.ref x)])
  refine own_st (fun _ kt => XS.aconstNull X0.here hx rfl (hb hby own_d10_4) kt) ?_
  show own_Rch p e below _ s₁ (mkF m 5 #[.val (.ref x), .val (.ref sr), .val (.int pa), .val (.ref a)] [.null, (.ref a), (.int pa), (.ref sr), (.ref x)])
  refine own_st (fun _ kt => XS.aconstNull X0.here hx rfl (hb hby own_d10_5) kt) ?_
  show own_Rch p e below _ s₁ (mkF m 6 #[.val (.ref x), .val (.ref sr), .val (.int pa), .val (.ref a)] [.null, .null, (.ref a), (.int pa), (.ref sr), (.ref x)])
  obtain ⟨_, _, ⟨T1, L1, k1, n1⟩, -, X1, ⟨Lc1, hQ1, l1, y1, z1⟩, st1⟩ := X0.specialBack hx (y := (⟨"com/example/makewhole/makewhole/mortality/MortalityTable", "<init>", "(Ljava/lang/String;ILjava/util/List;Ljava/lang/String;Ljava/lang/String;)V"⟩ : MethodName)) rfl hown (mvT hZ (hw _ (List.mem_of_getElem? (i := 75) rfl))) (mvT hZ (hw _ (List.mem_of_getElem? (i := 76) rfl))) (mvT hZ (hw _ (List.mem_of_getElem? (i := 77) rfl))) (by decide) (backOf (W := 0) (own_mt5_2 l Z a0 hw [] x sr pa a b kb mr zz oo em h0 n0 O0 EA FE FZ FM EB VB EZ EO MR SE EX G0 G1 G2 G3 G4 gx hxa hxb) hZ (hw _ (List.mem_of_getElem? (i := 77) rfl)) (hw _ (List.mem_of_getElem? (i := 63) rfl)) (by decide) (by decide)) (g := (mkF m 6 #[.val (.ref x), .val (.ref sr), .val (.int pa), .val (.ref a)] [.null, .null, (.ref a), (.int pa), (.ref sr), (.ref x)])) rfl (by rw [hml]; rfl) (Steps.refl _) (a := x) (argsL := [(.ref sr), (.int pa), (.ref a), .null, .null]) (rest := []) (lenOf own_pd12 rfl) rfl (by show 2 * 0 + _ ≤ _; exact Nat.le_of_eq rfl) (hb hby own_d10_6) (fun _ _ => ⟨rfl, e0, (by decide : 0 + 2 ≤ _), (by decide : 0 + 4 ≤ _)⟩)
  dsimp only [Pt.U, Pt.locs, Pt.cells, Pt.slots] at X1 l1 y1 z1 st1 hQ1
  subst l1 y1 z1
  obtain ⟨rfl, N1q, K1, qm1, Ex1, Fa1, Fx1, hq1, Eq1, Fq1⟩ := hQ1
  have N1 := Fr.app N0 N1q
  refine own_st (fun _ kt => st1.trans kt) ?_
  have ne1_a_qm1 : a ≠ qm1 := Nat.ne_of_lt (Nat.lt_of_lt_of_le EA.lt hq1)
  have ne1_b_qm1 : b ≠ qm1 := Nat.ne_of_lt (Nat.lt_of_lt_of_le EB.lt hq1)
  have ne1_x_qm1 : x ≠ qm1 := Nat.ne_of_lt (Nat.lt_of_lt_of_le EX.lt hq1)
  have ge1_qm1 : n0 ≤ qm1 := Nat.le_trans (own_old_le O0) hq1
  have sz1_qm1 : h0.size ≤ qm1 := Nat.le_trans K0.1 hq1
  have O0_x1 := O0.keep K1 (allS gx all0)
  have EA_x1 := EA.keep K1
  have FE_x1 := FE.keep K1 (ninS hxa nin0)
  have FZ_x1 := FZ.keep K1 (ninS hxa nin0)
  have FM_x1 := FM.keep K1 (ninS hxa nin0)
  have EB_x1 := EB.keep K1
  have VB_x1 := VB.keep K1 (ninS hxb nin0)
  have EX_x1 := EX.keep K1
  have K0_x1 := K0.trans K1 (allS (Or.inl (List.mem_of_getElem? (i := 0) rfl)) all0)
  show own_Rch p e below _ T1 (mkF m 9 #[.val (.ref x), .val (.ref sr), .val (.int pa), .val (.ref a)] [])
  refine own_retV X1 hx Bd.notSynchronized Bd.returns (hb hby own_d10_9) (by decide) (by decide) ?_
  exact ⟨rfl, N1, K0_x1, _, Ex1, Fa1, Fx1, sz1_qm1, Eq1, Fq1⟩
theorem own_d29_10 : decode jdk_44_method_3_code 10 = .ok (.iconst 2, 1) := by decide +kernel
theorem own_d29_11 : decode jdk_44_method_3_code 11 = .ok (.goto 4, 3) := by decide +kernel
def own_Q_own_size_2 (Z : State) (a : Addr) (em : Addr) (oo : Addr) (h0 : Heap) (n0 : Nat) (v : Option Value) (h : Heap) (L : List Loc) : Prop := v = some (.int (2 : Int32)) ∧ Fr n0 L ∧ h = h0
set_option maxRecDepth 65536 in
set_option maxHeartbeats 40000000 in
theorem own_size_2 (l : Launch) (Z : State) (a0 : Array Value) (hw : ∀ d ∈ tables_1, d.before a0 Z = true) (ws : List Jvm.Cond) (a : Addr) (em : Addr) (oo : Addr) (h0 : Heap) (n0 : Nat) (O0 : Old Z n0 h0) (SE : Sta Z Z.heap "java/util/ImmutableCollections" "EMPTY" "Ljava/lang/Object;" (.ref em)) (EE : Exa Z Z.heap em "java/lang/Object") (EO : Exa Z Z.heap oo "java/math/BigDecimal") (F1 : Fld Z h0 a "java/util/ImmutableCollections$List12" "e1" "Ljava/lang/Object;" (.ref oo)) :
    MetFree l (⟨"java/util/ImmutableCollections$List12", "size", "()I"⟩ : MethodName) (head1 (Jvm.Cond.code (⟨"java/util/ImmutableCollections$List12", "size", "()I"⟩ : MethodName) jdk_44_method_3_code 1 (some .int) :: ws) ({ frames := 0, cells := 0, slots := 0, locals := 0 } : Room)) (fun args_ U => args_ = #[(.ref a)] ∧ Z.Warmed39 U.vm ∧ U.heap = h0) (fun _ _ _ _ _ => True) (fun _ U o U' => ∃ v L, o = .returned v ∧ (own_Q_own_size_2 Z a em oo h0 n0) v U'.heap L ∧ FrameEnd U o U' L ({ frames := 0, cells := 0, slots := 0, locals := 0 } : Room).cells ({ frames := 0, cells := 0, slots := 0, locals := 0 } : Room).slots) := by
  refine MetFree.of_bodySF (plainFor_of_name own_pn7) hisR ?_
  intro p e s m args below meth c s₁ Bd hml0 hP hK
  obtain ⟨rfl, hZ, hh⟩ := hP
  have hx := Bd.exec
  have hby := Bd.bytes
  have hml : c.maxLocals = 1 := hml0
  have hown : s.vm.findClass "java/util/ImmutableCollections$List12" = some m.cls := findClass_of_methodNamed Bd.named
  have hnm := (name_of_methodNamed Bd.named Bd.method).1
  have X0 : Stand p l e ({ frames := 0, cells := 0, slots := 0, locals := 0 } : Room) s m #[(.ref a)] below meth c s₁ [] 0 0 := Stand.of_body Bd
  have e0 : s₁.heap = h0 := by rw [← hh, Bd.state]; rfl
  have N0 := Fr.nil n0
  refine own_close (s := s) (Q := (own_Q_own_size_2 Z a em oo h0 n0)) (C := (({ frames := 0, cells := 0, slots := 0, locals := 0 } : Room)).cells) (N := (({ frames := 0, cells := 0, slots := 0, locals := 0 } : Room)).slots) (own_st (fun _ kt => castTop (own_ef29 m a) kt) ?_)
  show own_Rch p e below _ s₁ (mkF m 0 #[.val (.ref a)] [])
  refine own_st (fun _ kt => XS.aloadN X0.here hx rfl (hb hby own_d29_0) rfl rfl  kt) ?_
  show own_Rch p e below _ s₁ (mkF m 1 #[.val (.ref a)] [(.ref a)])
  obtain ⟨T1, X1, e1, st1⟩ := getF X0 hx hZ hown (host := "") (Or.inl (hw _ (List.mem_of_getElem? (i := 210) rfl))) Via.refl e0 F1 (g := (mkF m 1 #[.val (.ref a)] [(.ref a)])) rfl rfl (hb hby own_d29_1)
  refine own_st st1 ?_
  show own_Rch p e below _ T1 (mkF m 4 #[.val (.ref a)] [(.ref oo)])
  obtain ⟨T2, X2, e2, st2⟩ := getS2 X1 hx hZ hown (Or.inr (hw _ (List.mem_of_getElem? (i := 218) rfl))) Via.refl e1 (SE.ext O0.2) (g := (mkF m 4 #[.val (.ref a)] [(.ref oo)])) rfl (hb hby own_d29_4)
  refine own_st st2 ?_
  show own_Rch p e below _ T2 (mkF m 7 #[.val (.ref a)] [(.ref em), (.ref oo)])
  refine own_st (fun _ kt => Jvm.RoadKit.acmp (g := (mkF m 7 #[.val (.ref a)] [(.ref em), (.ref oo)])) X2 hx rfl rfl rfl (pc0 := 7) (pc' := 10) (same := false) rfl (hb hby own_d29_7) rfl (decide_eq_false fun q => Exa.ne EO EE (by decide) (Value.ref.inj q)) (by decide) (by decide) kt) ?_
  show own_Rch p e below _ T2 (mkF m 10 #[.val (.ref a)] [])
  refine own_st (fun _ kt => XS.iconst X2.here hx rfl (hb hby own_d29_10) kt) ?_
  show own_Rch p e below _ T2 (mkF m 11 #[.val (.ref a)] [(.int (2 : Int32))])
  refine own_st (fun _ kt => XS.goto X2.here hx rfl (pc0 := 11) (pc' := 15) rfl (hb hby own_d29_11) (by decide) (by decide) kt) ?_
  show own_Rch p e below _ T2 (mkF m 15 #[.val (.ref a)] [(.int (2 : Int32))])
  refine own_retI X2 hx Bd.notSynchronized Bd.returns (hb hby own_d29_15) (by decide) (by decide) ?_
  rw [e2]
  exact ⟨rfl, N0, rfl⟩
def own_Q_own_last_2 (Z : State) (x : Addr) (pa : Int32) (q : Addr) (em : Addr) (oo : Addr) (h0 : Heap) (n0 : Nat) (v : Option Value) (h : Heap) (L : List Loc) : Prop := v = some (.int ((pa + (2 : Int32)) - (1 : Int32))) ∧ Fr n0 L ∧ h = h0
set_option maxRecDepth 65536 in
set_option maxHeartbeats 40000000 in
theorem own_last_2 (l : Launch) (Z : State) (a0 : Array Value) (hw : ∀ d ∈ tables_1, d.before a0 Z = true) (ws : List Jvm.Cond) (x : Addr) (pa : Int32) (q : Addr) (em : Addr) (oo : Addr) (h0 : Heap) (n0 : Nat) (O0 : Old Z n0 h0) (SE : Sta Z Z.heap "java/util/ImmutableCollections" "EMPTY" "Ljava/lang/Object;" (.ref em)) (EE : Exa Z Z.heap em "java/lang/Object") (EO : Exa Z Z.heap oo "java/math/BigDecimal") (FA : Fld Z h0 x "com/example/makewhole/makewhole/mortality/MortalityTable" "firstAge" "I" (.int pa)) (FX : Fld Z h0 x "com/example/makewhole/makewhole/mortality/MortalityTable" "qx" "Ljava/util/List;" (.ref q)) (E : Exa Z h0 q "java/util/ImmutableCollections$List12") (F1 : Fld Z h0 q "java/util/ImmutableCollections$List12" "e1" "Ljava/lang/Object;" (.ref oo)) :
    MetFree l (⟨"com/example/makewhole/makewhole/mortality/MortalityTable", "getLastAge", "()I"⟩ : MethodName) (head1 (Jvm.Cond.code (⟨"com/example/makewhole/makewhole/mortality/MortalityTable", "getLastAge", "()I"⟩ : MethodName) prog_36_method_9_code 1 (some .int) :: ws) ({ frames := 1, cells := 0, slots := 0, locals := 13 } : Room)) (fun args_ U => args_ = #[(.ref x)] ∧ Z.Warmed39 U.vm ∧ U.heap = h0) (fun _ _ _ _ _ => True) (fun _ U o U' => ∃ v L, o = .returned v ∧ (own_Q_own_last_2 Z x pa q em oo h0 n0) v U'.heap L ∧ FrameEnd U o U' L ({ frames := 1, cells := 0, slots := 0, locals := 13 } : Room).cells ({ frames := 1, cells := 0, slots := 0, locals := 13 } : Room).slots) := by
  refine MetFree.of_bodySF (plainFor_of_name own_pn10) hisR ?_
  intro p e s m args below meth c s₁ Bd hml0 hP hK
  obtain ⟨rfl, hZ, hh⟩ := hP
  have hx := Bd.exec
  have hby := Bd.bytes
  have hml : c.maxLocals = 1 := hml0
  have hown : s.vm.findClass "com/example/makewhole/makewhole/mortality/MortalityTable" = some m.cls := findClass_of_methodNamed Bd.named
  have hnm := (name_of_methodNamed Bd.named Bd.method).1
  have X0 : Stand p l e ({ frames := 1, cells := 0, slots := 0, locals := 13 } : Room) s m #[(.ref x)] below meth c s₁ [] 0 0 := Stand.of_body Bd
  have e0 : s₁.heap = h0 := by rw [← hh, Bd.state]; rfl
  have N0 := Fr.nil n0
  refine own_close (s := s) (Q := (own_Q_own_last_2 Z x pa q em oo h0 n0)) (C := (({ frames := 1, cells := 0, slots := 0, locals := 13 } : Room)).cells) (N := (({ frames := 1, cells := 0, slots := 0, locals := 13 } : Room)).slots) (own_st (fun _ kt => castTop (own_ef25 m x) kt) ?_)
  show own_Rch p e below _ s₁ (mkF m 0 #[.val (.ref x)] [])
  refine own_st (fun _ kt => XS.aloadN X0.here hx rfl (hb hby own_d25_0) rfl rfl  kt) ?_
  show own_Rch p e below _ s₁ (mkF m 1 #[.val (.ref x)] [(.ref x)])
  obtain ⟨T1, X1, e1, st1⟩ := getF X0 hx hZ hown (host := "") (Or.inl (hw _ (List.mem_of_getElem? (i := 81) rfl))) Via.refl e0 FA (g := (mkF m 1 #[.val (.ref x)] [(.ref x)])) rfl rfl (hb hby own_d25_1)
  refine own_st st1 ?_
  show own_Rch p e below _ T1 (mkF m 4 #[.val (.ref x)] [(.int pa)])
  refine own_st (fun _ kt => XS.aloadN X1.here hx rfl (hb hby own_d25_4) rfl rfl  kt) ?_
  show own_Rch p e below _ T1 (mkF m 5 #[.val (.ref x)] [(.ref x), (.int pa)])
  obtain ⟨T2, X2, e2, st2⟩ := getF X1 hx hZ hown (host := "") (Or.inl (hw _ (List.mem_of_getElem? (i := 171) rfl))) Via.refl e1 FX (g := (mkF m 5 #[.val (.ref x)] [(.ref x), (.int pa)])) rfl rfl (hb hby own_d25_5)
  refine own_st st2 ?_
  show own_Rch p e below _ T2 (mkF m 8 #[.val (.ref x)] [(.ref q), (.int pa)])
  obtain ⟨cq3, kq3, q3a, q3b, q3c⟩ := isOf hZ e2 E
  obtain ⟨_, _, ⟨T3, L3, k3, n3⟩, -, X3, ⟨Lc3, hQ3, l3, y3, z3⟩, st3⟩ := X2.interfaceBack hx (xi := (⟨"java/util/List", "size", "()I"⟩ : MethodName)) (y := (⟨"java/util/ImmutableCollections$List12", "size", "()I"⟩ : MethodName)) hown (mvT hZ (hw _ (List.mem_of_getElem? (i := 182) rfl))) (mvT hZ (hw _ (List.mem_of_getElem? (i := 183) rfl))) (mvT hZ (hw _ (List.mem_of_getElem? (i := 184) rfl))) (mvT hZ (hw _ (List.mem_of_getElem? (i := 212) rfl))) (mvT hZ (hw _ (List.mem_of_getElem? (i := 213) rfl))) (mvT hZ (hw _ (List.mem_of_getElem? (i := 214) rfl))) (mvT hZ (hw _ (List.mem_of_getElem? (i := 215) rfl))) (mvT hZ (hw _ (List.mem_of_getElem? (i := 216) rfl))) (by decide) (backOf (W := 1) (own_size_2 l Z a0 hw [] q em oo h0 n0 O0 SE EE EO F1) hZ (hw _ (List.mem_of_getElem? (i := 217) rfl)) (hw _ (List.mem_of_getElem? (i := 198) rfl)) (by decide) (by decide)) q3a q3b q3c (g := (mkF m 8 #[.val (.ref x)] [(.ref q), (.int pa)])) rfl (by rw [hml]; rfl) (Steps.refl _) (argsL := []) (rest := [(.int pa)]) (lenOf own_pd13 rfl) rfl (by show 2 * 0 + _ ≤ _; exact Nat.le_of_eq rfl) (hb hby own_d25_8) (fun _ _ => ⟨rfl, e2, (by decide : 0 + 0 ≤ _), (by decide : 0 + 0 ≤ _)⟩)
  dsimp only [Pt.U, Pt.locs, Pt.cells, Pt.slots] at X3 l3 y3 z3 st3 hQ3
  subst l3 y3 z3
  obtain ⟨rfl, N3q, hh3⟩ := hQ3
  have N3 := Fr.app N0 N3q
  refine own_st (fun _ kt => st3.trans kt) ?_
  show own_Rch p e below _ T3 (mkF m 13 #[.val (.ref x)] [(.int (2 : Int32)), (.int pa)])
  refine own_st (fun _ kt => XS.iadd X3.here hx rfl (hb hby own_d25_13) rfl kt) ?_
  show own_Rch p e below _ T3 (mkF m 14 #[.val (.ref x)] [(.int (pa + (2 : Int32)))])
  refine own_st (fun _ kt => XS.iconst X3.here hx rfl (hb hby own_d25_14) kt) ?_
  show own_Rch p e below _ T3 (mkF m 15 #[.val (.ref x)] [(.int (1 : Int32)), (.int (pa + (2 : Int32)))])
  refine own_st (fun _ kt => XS.isub X3.here hx rfl (hb hby own_d25_15) rfl kt) ?_
  show own_Rch p e below _ T3 (mkF m 16 #[.val (.ref x)] [(.int ((pa + (2 : Int32)) - (1 : Int32)))])
  refine own_retI X3 hx Bd.notSynchronized Bd.returns (hb hby own_d25_16) (by decide) (by decide) ?_
  rw [hh3]
  exact ⟨rfl, N3, rfl⟩
def own_Q_own_copy3_3 (Z : State) (b : Addr) (kb : ClassId) (mr : Addr) (zz : Addr) (oo : Addr) (h0 : Heap) (n0 : Nat) (v : Option Value) (h : Heap) (L : List Loc) : Prop := ∃ (r : Addr) (kr : ClassId), v = some (.ref r) ∧ Fr n0 L ∧ Keep h0 h [] ∧ h0.size ≤ r ∧ Exa Z h r "[Ljava/lang/Object;" ∧ Arv Z h r kr (.object "java/lang/Object") (3 : Int32) [(.ref zz), (.ref zz), (.ref oo)] .null ∧ Ovr Z kr "java/lang/Object"
set_option maxRecDepth 65536 in
set_option maxHeartbeats 40000000 in
theorem own_copy3_3 (l : Launch) (Z : State) (a0 : Array Value) (hw : ∀ d ∈ tables_1, d.before a0 Z = true) (ws : List Jvm.Cond) (b : Addr) (kb : ClassId) (mr : Addr) (zz : Addr) (oo : Addr) (h0 : Heap) (n0 : Nat) (O0 : Old Z n0 h0) (EB : Exa Z h0 b "[Ljava/lang/Object;") (VB : Arv Z h0 b kb (.object "java/lang/Object") (10 : Int32) [(.ref zz), (.ref zz), (.ref oo), .null, .null, .null, .null, .null, .null, .null] .null) (EZ : Exa Z Z.heap zz "java/math/BigDecimal") (EO : Exa Z Z.heap oo "java/math/BigDecimal") (MR : own_Mir Z "[Ljava/lang/Object;" mr) :
    MetFree l (⟨"java/util/Arrays", "copyOf", "([Ljava/lang/Object;ILjava/lang/Class;)[Ljava/lang/Object;"⟩ : MethodName) (head1 (Jvm.Cond.code (⟨"java/util/Arrays", "copyOf", "([Ljava/lang/Object;ILjava/lang/Class;)[Ljava/lang/Object;"⟩ : MethodName) jdk_65_method_120_code 4 (some (.array (.object "java/lang/Object"))) :: ws) ({ frames := 1, cells := 1, slots := 3, locals := 18 } : Room)) (fun args_ U => args_ = #[(.ref b), (.int (3 : Int32)), (.ref mr)] ∧ Z.Warmed39 U.vm ∧ U.heap = h0) (fun _ _ _ _ _ => True) (fun _ U o U' => ∃ v L, o = .returned v ∧ (own_Q_own_copy3_3 Z b kb mr zz oo h0 n0) v U'.heap L ∧ FrameEnd U o U' L ({ frames := 1, cells := 1, slots := 3, locals := 18 } : Room).cells ({ frames := 1, cells := 1, slots := 3, locals := 18 } : Room).slots) := by
  refine MetFree.of_bodySF (plainFor_of_name own_pn6) hisR ?_
  intro p e s m args below meth c s₁ Bd hml0 hP hK
  obtain ⟨rfl, hZ, hh⟩ := hP
  have hx := Bd.exec
  have hby := Bd.bytes
  have hml : c.maxLocals = 4 := hml0
  have hown : s.vm.findClass "java/util/Arrays" = some m.cls := findClass_of_methodNamed Bd.named
  have hnm := (name_of_methodNamed Bd.named Bd.method).1
  have X0 : Stand p l e ({ frames := 1, cells := 1, slots := 3, locals := 18 } : Room) s m #[(.ref b), (.int (3 : Int32)), (.ref mr)] below meth c s₁ [] 0 0 := Stand.of_body Bd
  have e0 : s₁.heap = h0 := by rw [← hh, Bd.state]; rfl
  have N0 := Fr.nil n0
  refine own_close (s := s) (Q := (own_Q_own_copy3_3 Z b kb mr zz oo h0 n0)) (C := (({ frames := 1, cells := 1, slots := 3, locals := 18 } : Room)).cells) (N := (({ frames := 1, cells := 1, slots := 3, locals := 18 } : Room)).slots) (own_st (fun _ kt => castTop (own_ef17 m b (3 : Int32) mr) kt) ?_)
  have K0 := Keep.refl h0 []
  show own_Rch p e below _ s₁ (mkF m 0 #[.val (.ref b), .val (.int (3 : Int32)), .val (.ref mr), .unset] [])
  refine own_st (fun _ kt => XS.aloadN X0.here hx rfl (hb hby own_d17_0) rfl rfl  kt) ?_
  show own_Rch p e below _ s₁ (mkF m 1 #[.val (.ref b), .val (.int (3 : Int32)), .val (.ref mr), .unset] [(.ref mr)])
  obtain ⟨T1, X1, e1, st1⟩ := own_ldcm X0 hx hZ hown (hw _ (List.mem_of_getElem? (i := 127) rfl)) e0 MR (g := (mkF m 1 #[.val (.ref b), .val (.int (3 : Int32)), .val (.ref mr), .unset] [(.ref mr)])) rfl (hb hby own_d17_1)
  refine own_st st1 ?_
  show own_Rch p e below _ T1 (mkF m 3 #[.val (.ref b), .val (.int (3 : Int32)), .val (.ref mr), .unset] [(.ref mr), (.ref mr)])
  refine own_st (fun _ kt => Jvm.RoadKit.acmp (g := (mkF m 3 #[.val (.ref b), .val (.int (3 : Int32)), .val (.ref mr), .unset] [(.ref mr), (.ref mr)])) X1 hx rfl rfl rfl (pc0 := 3) (pc' := 6) (same := true) rfl (hb hby own_d17_3) rfl (decide_eq_true rfl) (by decide) (by decide) kt) ?_
  show own_Rch p e below _ T1 (mkF m 6 #[.val (.ref b), .val (.int (3 : Int32)), .val (.ref mr), .unset] [])
  refine own_st (fun _ kt => XS.iloadN X1.here hx rfl (hb hby own_d17_6) rfl  kt) ?_
  show own_Rch p e below _ T1 (mkF m 7 #[.val (.ref b), .val (.int (3 : Int32)), .val (.ref mr), .unset] [(.int (3 : Int32))])
  obtain ⟨T2, h2, k2, X2, e2, E2, A2, Ex2, Ov2, st2⟩ := newRE X1 hx hZ hown (hw _ (List.mem_of_getElem? (i := 128) rfl)) (hw _ (List.mem_of_getElem? (i := 58) rfl)) e1 (g := (mkF m 7 #[.val (.ref b), .val (.int (3 : Int32)), .val (.ref mr), .unset] [(.int (3 : Int32))])) rfl (hb hby own_d17_7) rfl (by decide) (cap := 3) (by decide) (by decide) (by decide) (by decide) (ad := "[Ljava/lang/Object;") (by decide)
  obtain ⟨b2, g2⟩ : ∃ z, z = h0.size := ⟨_, rfl⟩
  rw [← g2] at A2 Ex2 st2
  have ge2 : n0 ≤ b2 := by rw [g2]; exact own_old_le O0
  have ne2_b : b ≠ b2 := by rw [g2]; exact Nat.ne_of_lt EB.lt
  have sz2 : h0.size ≤ b2 := by rw [g2]; exact K0.1
  have O0_x2 := O0.ext E2
  have EB_x2 := EB.ext E2
  have VB_x2 := VB.ext E2
  have K0_x2 := K0.ext E2
  refine own_st st2 ?_
  have V2 := Arv.new A2 (by decide)
  have V2p : Arv Z h2 b2 k2 (.object "java/lang/Object") (3 : Int32) [.null, .null, .null] .null := V2.pad (pad_rep [] .null 3)
  show own_Rch p e below _ T2 (mkF m 10 #[.val (.ref b), .val (.int (3 : Int32)), .val (.ref mr), .unset] [(.ref b2)])
  refine own_st (fun _ kt => XS.goto X2.here hx rfl (pc0 := 10) (pc' := 24) rfl (hb hby own_d17_10) (by decide) (by decide) kt) ?_
  show own_Rch p e below _ T2 (mkF m 24 #[.val (.ref b), .val (.int (3 : Int32)), .val (.ref mr), .unset] [(.ref b2)])
  refine own_st (fun _ kt => XS.astoreN X2.here hx rfl (hb hby own_d17_24) rfl rfl (l' := #[.val (.ref b), .val (.int (3 : Int32)), .val (.ref mr), .val (.ref b2)]) rfl kt) ?_
  show own_Rch p e below _ T2 (mkF m 25 #[.val (.ref b), .val (.int (3 : Int32)), .val (.ref mr), .val (.ref b2)] [])
  refine own_st (fun _ kt => XS.aloadN X2.here hx rfl (hb hby own_d17_25) rfl rfl  kt) ?_
  show own_Rch p e below _ T2 (mkF m 26 #[.val (.ref b), .val (.int (3 : Int32)), .val (.ref mr), .val (.ref b2)] [(.ref b)])
  refine own_st (fun _ kt => XS.iconst X2.here hx rfl (hb hby own_d17_26) kt) ?_
  show own_Rch p e below _ T2 (mkF m 27 #[.val (.ref b), .val (.int (3 : Int32)), .val (.ref mr), .val (.ref b2)] [(.int (0 : Int32)), (.ref b)])
  refine own_st (fun _ kt => XS.aloadN X2.here hx rfl (hb hby own_d17_27) rfl rfl  kt) ?_
  show own_Rch p e below _ T2 (mkF m 28 #[.val (.ref b), .val (.int (3 : Int32)), .val (.ref mr), .val (.ref b2)] [(.ref b2), (.int (0 : Int32)), (.ref b)])
  refine own_st (fun _ kt => XS.iconst X2.here hx rfl (hb hby own_d17_28) kt) ?_
  show own_Rch p e below _ T2 (mkF m 29 #[.val (.ref b), .val (.int (3 : Int32)), .val (.ref mr), .val (.ref b2)] [(.int (0 : Int32)), (.ref b2), (.int (0 : Int32)), (.ref b)])
  refine own_st (fun _ kt => XS.aloadN X2.here hx rfl (hb hby own_d17_29) rfl rfl  kt) ?_
  show own_Rch p e below _ T2 (mkF m 30 #[.val (.ref b), .val (.int (3 : Int32)), .val (.ref mr), .val (.ref b2)] [(.ref b), (.int (0 : Int32)), (.ref b2), (.int (0 : Int32)), (.ref b)])
  obtain ⟨cl3, Ar3, -, S3, M3, -, -⟩ := id VB_x2
  refine own_st (X2.arraylength hx (by rw [e2]; exact Ar3.1) (State.isArrayOf_alike (hZ).alike Ar3.2.1) (g := (mkF m 30 #[.val (.ref b), .val (.int (3 : Int32)), .val (.ref mr), .val (.ref b2)] [(.ref b), (.int (0 : Int32)), (.ref b2), (.int (0 : Int32)), (.ref b)])) rfl rfl (hb hby own_d17_30)) ?_
  rw [len_of S3 M3]
  show own_Rch p e below _ T2 (mkF m 31 #[.val (.ref b), .val (.int (3 : Int32)), .val (.ref mr), .val (.ref b2)] [(.int (10 : Int32)), (.int (0 : Int32)), (.ref b2), (.int (0 : Int32)), (.ref b)])
  refine own_st (fun _ kt => XS.iloadN X2.here hx rfl (hb hby own_d17_31) rfl  kt) ?_
  show own_Rch p e below _ T2 (mkF m 32 #[.val (.ref b), .val (.int (3 : Int32)), .val (.ref mr), .val (.ref b2)] [(.int (3 : Int32)), (.int (10 : Int32)), (.int (0 : Int32)), (.ref b2), (.int (0 : Int32)), (.ref b)])
  obtain ⟨_, _, ⟨T4, L4, k4, n4⟩, -, X4, ⟨Lc4, hQ4, l4, y4, z4⟩, st4⟩ := Jvm.LawKit.callS X2 hx (y := (⟨"java/lang/Math", "min", "(II)I"⟩ : MethodName)) hown (mvT hZ (hw _ (List.mem_of_getElem? (i := 129) rfl))) (mvT hZ (hw _ (List.mem_of_getElem? (i := 130) rfl))) (mvT hZ (hw _ (List.mem_of_getElem? (i := 55) rfl))) (mvT hZ (hw _ (List.mem_of_getElem? (i := 131) rfl))) (by decide) (backOf (W := 4) (own_mi l Z a0 hw [] (10 : Int32) (3 : Int32) h2 n0 O0_x2 (by decide)) hZ (hw _ (List.mem_of_getElem? (i := 131) rfl)) (hw _ (List.mem_of_getElem? (i := 55) rfl)) (by decide) (by decide)) (g := (mkF m 32 #[.val (.ref b), .val (.int (3 : Int32)), .val (.ref mr), .val (.ref b2)] [(.int (3 : Int32)), (.int (10 : Int32)), (.int (0 : Int32)), (.ref b2), (.int (0 : Int32)), (.ref b)])) rfl (by rw [hml]; rfl) (argsL := [(.int (10 : Int32)), (.int (3 : Int32))]) (rest := [(.int (0 : Int32)), (.ref b2), (.int (0 : Int32)), (.ref b)]) (lenOf own_pd1 rfl) rfl (by show 2 * 0 + _ ≤ _; exact Nat.le_of_eq rfl) (hb hby own_d17_32) (fun _ _ => ⟨rfl, e2, (by decide : 1 + 0 ≤ _), (by decide : 3 + 0 ≤ _)⟩)
  dsimp only [Pt.U, Pt.locs, Pt.cells, Pt.slots] at X4 l4 y4 z4 st4 hQ4
  subst l4 y4 z4
  obtain ⟨rfl, N4q, hh4⟩ := hQ4
  have N4 := Fr.app N0 N4q
  refine own_st st4 ?_
  show own_Rch p e below _ T4 (mkF m 35 #[.val (.ref b), .val (.int (3 : Int32)), .val (.ref mr), .val (.ref b2)] [(.int (3 : Int32)), (.int (0 : Int32)), (.ref b2), (.int (0 : Int32)), (.ref b)])
  obtain ⟨cl5, Ar5, q5, -⟩ := id V2p
  obtain ⟨T5, h5, lo5, X5, e5, N5, K5, V5, st5⟩ := cpA X4 hx hZ hown (hw _ (List.mem_of_getElem? (i := 132) rfl)) (hw _ (List.mem_of_getElem? (i := 135) rfl)) (hw _ (List.mem_of_getElem? (i := 133) rfl)) (hw _ (List.mem_of_getElem? (i := 134) rfl)) hh4 VB_x2 V2p (us := [(.ref zz), (.ref zz), (.ref oo)]) (Or.inr ⟨rfl, rfl, ⟨Sto.ofV Ar5 q5 Ov2 (Ins.of_exa (EZ.ext O0_x2.2) (hw _ (List.mem_of_getElem? (i := 59) rfl))), ⟨Sto.ofV Ar5 q5 Ov2 (Ins.of_exa (EZ.ext O0_x2.2) (hw _ (List.mem_of_getElem? (i := 59) rfl))), ⟨Sto.ofV Ar5 q5 Ov2 (Ins.of_exa (EO.ext O0_x2.2) (hw _ (List.mem_of_getElem? (i := 59) rfl))), trivial⟩⟩⟩⟩) (sp := (0 : Int32)) (dp := (0 : Int32)) (nn := (3 : Int32)) (by decide) (by decide) (by decide) (by decide) (by decide) rfl (by decide) N4 ge2 (g := (mkF m 35 #[.val (.ref b), .val (.int (3 : Int32)), .val (.ref mr), .val (.ref b2)] [(.int (3 : Int32)), (.int (0 : Int32)), (.ref b2), (.int (0 : Int32)), (.ref b)])) rfl (by rw [hml]; rfl) rfl (hb hby own_d17_35) (by decide) (W := 0) (by show 2 * 0 + _ ≤ _; exact Nat.le_of_eq rfl) (by decide)
  have V5s : Arv Z h5 b2 k2 (.object "java/lang/Object") (3 : Int32) [(.ref zz), (.ref zz), (.ref oo)] .null := V5
  refine own_st st5 ?_
  have O0_x5 := O0_x2.keep K5 (allS ge2 all0)
  have EB_x5 := EB_x2.keep K5
  have VB_x5 := VB_x2.keep K5 (ninS ne2_b nin0)
  have K0_x5 := K0_x2.trans K5 (allS (Or.inr sz2) all0)
  have Ex2_x5 := Ex2.keep K5
  show own_Rch p e below _ T5 (mkF m 38 #[.val (.ref b), .val (.int (3 : Int32)), .val (.ref mr), .val (.ref b2)] [])
  refine own_st (fun _ kt => XS.aloadN X5.here hx rfl (hb hby own_d17_38) rfl rfl  kt) ?_
  show own_Rch p e below _ T5 (mkF m 39 #[.val (.ref b), .val (.int (3 : Int32)), .val (.ref mr), .val (.ref b2)] [(.ref b2)])
  refine own_retA rfl rfl X5 hx Bd.notSynchronized Bd.returns (hb hby own_d17_39) (by decide) (by decide) ?_
  rw [e5]
  exact ⟨_, _, rfl, N5, K0_x5, sz2, Ex2_x5, V5s, Ov2⟩
def own_Q_own_copy2_3 (Z : State) (b : Addr) (kb : ClassId) (mr : Addr) (zz : Addr) (oo : Addr) (h0 : Heap) (n0 : Nat) (v : Option Value) (h : Heap) (L : List Loc) : Prop := ∃ (r : Addr) (kr : ClassId), v = some (.ref r) ∧ Fr n0 L ∧ Keep h0 h [] ∧ h0.size ≤ r ∧ Exa Z h r "[Ljava/lang/Object;" ∧ Arv Z h r kr (.object "java/lang/Object") (3 : Int32) [(.ref zz), (.ref zz), (.ref oo)] .null ∧ Ovr Z kr "java/lang/Object"
set_option maxRecDepth 65536 in
set_option maxHeartbeats 40000000 in
theorem own_copy2_3 (l : Launch) (Z : State) (a0 : Array Value) (hw : ∀ d ∈ tables_1, d.before a0 Z = true) (ws : List Jvm.Cond) (b : Addr) (kb : ClassId) (mr : Addr) (zz : Addr) (oo : Addr) (h0 : Heap) (n0 : Nat) (O0 : Old Z n0 h0) (EB : Exa Z h0 b "[Ljava/lang/Object;") (VB : Arv Z h0 b kb (.object "java/lang/Object") (10 : Int32) [(.ref zz), (.ref zz), (.ref oo), .null, .null, .null, .null, .null, .null, .null] .null) (EZ : Exa Z Z.heap zz "java/math/BigDecimal") (EO : Exa Z Z.heap oo "java/math/BigDecimal") (MR : own_Mir Z "[Ljava/lang/Object;" mr) :
    MetFree l (⟨"java/util/Arrays", "copyOf", "([Ljava/lang/Object;I)[Ljava/lang/Object;"⟩ : MethodName) (head1 (Jvm.Cond.code (⟨"java/util/Arrays", "copyOf", "([Ljava/lang/Object;I)[Ljava/lang/Object;"⟩ : MethodName) jdk_65_method_119_code 2 (some (.array (.object "java/lang/Object"))) :: ws) ({ frames := 2, cells := 1, slots := 3, locals := 33 } : Room)) (fun args_ U => args_ = #[(.ref b), (.int (3 : Int32))] ∧ Z.Warmed39 U.vm ∧ U.heap = h0) (fun _ _ _ _ _ => True) (fun _ U o U' => ∃ v L, o = .returned v ∧ (own_Q_own_copy2_3 Z b kb mr zz oo h0 n0) v U'.heap L ∧ FrameEnd U o U' L ({ frames := 2, cells := 1, slots := 3, locals := 33 } : Room).cells ({ frames := 2, cells := 1, slots := 3, locals := 33 } : Room).slots) := by
  refine MetFree.of_bodySF (plainFor_of_name own_pn6) hisR ?_
  intro p e s m args below meth c s₁ Bd hml0 hP hK
  obtain ⟨rfl, hZ, hh⟩ := hP
  have hx := Bd.exec
  have hby := Bd.bytes
  have hml : c.maxLocals = 2 := hml0
  have hown : s.vm.findClass "java/util/Arrays" = some m.cls := findClass_of_methodNamed Bd.named
  have hnm := (name_of_methodNamed Bd.named Bd.method).1
  have X0 : Stand p l e ({ frames := 2, cells := 1, slots := 3, locals := 33 } : Room) s m #[(.ref b), (.int (3 : Int32))] below meth c s₁ [] 0 0 := Stand.of_body Bd
  have e0 : s₁.heap = h0 := by rw [← hh, Bd.state]; rfl
  have N0 := Fr.nil n0
  refine own_close (s := s) (Q := (own_Q_own_copy2_3 Z b kb mr zz oo h0 n0)) (C := (({ frames := 2, cells := 1, slots := 3, locals := 33 } : Room)).cells) (N := (({ frames := 2, cells := 1, slots := 3, locals := 33 } : Room)).slots) (own_st (fun _ kt => castTop (own_ef16 m b (3 : Int32)) kt) ?_)
  have K0 := Keep.refl h0 []
  show own_Rch p e below _ s₁ (mkF m 0 #[.val (.ref b), .val (.int (3 : Int32))] [])
  refine own_st (fun _ kt => XS.aloadN X0.here hx rfl (hb hby own_d16_0) rfl rfl  kt) ?_
  show own_Rch p e below _ s₁ (mkF m 1 #[.val (.ref b), .val (.int (3 : Int32))] [(.ref b)])
  refine own_st (fun _ kt => XS.iloadN X0.here hx rfl (hb hby own_d16_1) rfl  kt) ?_
  show own_Rch p e below _ s₁ (mkF m 2 #[.val (.ref b), .val (.int (3 : Int32))] [(.int (3 : Int32)), (.ref b)])
  refine own_st (fun _ kt => XS.aloadN X0.here hx rfl (hb hby own_d16_2) rfl rfl  kt) ?_
  show own_Rch p e below _ s₁ (mkF m 3 #[.val (.ref b), .val (.int (3 : Int32))] [(.ref b), (.int (3 : Int32)), (.ref b)])
  obtain ⟨T1, X1, e1, st1⟩ := own_gcls X0 hx hZ hown (hw _ (List.mem_of_getElem? (i := 118) rfl)) (hw _ (List.mem_of_getElem? (i := 119) rfl)) (hw _ (List.mem_of_getElem? (i := 95) rfl)) (hw _ (List.mem_of_getElem? (i := 121) rfl)) (hw _ (List.mem_of_getElem? (i := 120) rfl)) (hw _ (List.mem_of_getElem? (i := 122) rfl)) e0 EB MR (g := (mkF m 3 #[.val (.ref b), .val (.int (3 : Int32))] [(.ref b), (.int (3 : Int32)), (.ref b)])) rfl (by rw [hml]; rfl) rfl (hb hby own_d16_3) (by decide) (W := 2) (by show 2 * 0 + _ ≤ _; exact Nat.le_of_eq rfl) (by decide)
  refine own_st st1 ?_
  show own_Rch p e below _ T1 (mkF m 6 #[.val (.ref b), .val (.int (3 : Int32))] [(.ref mr), (.int (3 : Int32)), (.ref b)])
  obtain ⟨_, _, ⟨T2, L2, k2, n2⟩, -, X2, ⟨Lc2, hQ2, l2, y2, z2⟩, st2⟩ := Jvm.LawKit.callS X1 hx (y := (⟨"java/util/Arrays", "copyOf", "([Ljava/lang/Object;ILjava/lang/Class;)[Ljava/lang/Object;"⟩ : MethodName)) hown (mvT hZ (hw _ (List.mem_of_getElem? (i := 124) rfl))) (mvT hZ (hw _ (List.mem_of_getElem? (i := 125) rfl))) (mvT hZ (hw _ (List.mem_of_getElem? (i := 116) rfl))) (mvT hZ (hw _ (List.mem_of_getElem? (i := 126) rfl))) (by decide) (backOf (W := 0) (own_copy3_3 l Z a0 hw [] b kb mr zz oo h0 n0 O0 EB VB EZ EO MR) hZ (hw _ (List.mem_of_getElem? (i := 126) rfl)) (hw _ (List.mem_of_getElem? (i := 116) rfl)) (by decide) (by decide)) (g := (mkF m 6 #[.val (.ref b), .val (.int (3 : Int32))] [(.ref mr), (.int (3 : Int32)), (.ref b)])) rfl (by rw [hml]; rfl) (argsL := [(.ref b), (.int (3 : Int32)), (.ref mr)]) (rest := []) (lenOf own_pd5 rfl) rfl (by show 2 * 0 + _ ≤ _; exact Nat.le_of_eq rfl) (hb hby own_d16_6) (fun _ _ => ⟨rfl, e1, (by decide : 0 + 1 ≤ _), (by decide : 0 + 3 ≤ _)⟩)
  dsimp only [Pt.U, Pt.locs, Pt.cells, Pt.slots] at X2 l2 y2 z2 st2 hQ2
  subst l2 y2 z2
  obtain ⟨br2, kr2, rfl, N2q, K2, hb2, Er2, Vr2, Or2⟩ := hQ2
  have N2 := Fr.app N0 N2q
  refine own_st st2 ?_
  have ne2_b_br2 : b ≠ br2 := Nat.ne_of_lt (Nat.lt_of_lt_of_le EB.lt hb2)
  have ge2_br2 : n0 ≤ br2 := Nat.le_trans (own_old_le O0) hb2
  have sz2_br2 : h0.size ≤ br2 := Nat.le_trans K0.1 hb2
  have O0_x2 := O0.keep K2 all0
  have EB_x2 := EB.keep K2
  have VB_x2 := VB.keep K2 nin0
  have K0_x2 := K0.trans K2 all0
  show own_Rch p e below _ T2 (mkF m 9 #[.val (.ref b), .val (.int (3 : Int32))] [(.ref br2)])
  refine own_retA rfl rfl X2 hx Bd.notSynchronized Bd.returns (hb hby own_d16_9) (by decide) (by decide) ?_
  exact ⟨_, _, rfl, N2, K0_x2, sz2_br2, Er2, Vr2, Or2⟩
def own_Q_own_toarr_3 (Z : State) (a : Addr) (b : Addr) (kb : ClassId) (mr : Addr) (zz : Addr) (oo : Addr) (h0 : Heap) (n0 : Nat) (v : Option Value) (h : Heap) (L : List Loc) : Prop := ∃ (r : Addr) (kr : ClassId), v = some (.ref r) ∧ Fr n0 L ∧ Keep h0 h [] ∧ h0.size ≤ r ∧ Exa Z h r "[Ljava/lang/Object;" ∧ Arv Z h r kr (.object "java/lang/Object") (3 : Int32) [(.ref zz), (.ref zz), (.ref oo)] .null ∧ Ovr Z kr "java/lang/Object"
set_option maxRecDepth 65536 in
set_option maxHeartbeats 40000000 in
theorem own_toarr_3 (l : Launch) (Z : State) (a0 : Array Value) (hw : ∀ d ∈ tables_1, d.before a0 Z = true) (ws : List Jvm.Cond) (a : Addr) (b : Addr) (kb : ClassId) (mr : Addr) (zz : Addr) (oo : Addr) (h0 : Heap) (n0 : Nat) (O0 : Old Z n0 h0) (EA : Exa Z h0 a "java/util/ArrayList") (FE : Fld Z h0 a "java/util/ArrayList" "elementData" "[Ljava/lang/Object;" (.ref b)) (FZ : Fld Z h0 a "java/util/ArrayList" "size" "I" (.int (3 : Int32))) (FM : Fld Z h0 a "java/util/AbstractList" "modCount" "I" (.int (3 : Int32))) (EB : Exa Z h0 b "[Ljava/lang/Object;") (VB : Arv Z h0 b kb (.object "java/lang/Object") (10 : Int32) [(.ref zz), (.ref zz), (.ref oo), .null, .null, .null, .null, .null, .null, .null] .null) (EZ : Exa Z Z.heap zz "java/math/BigDecimal") (EO : Exa Z Z.heap oo "java/math/BigDecimal") (MR : own_Mir Z "[Ljava/lang/Object;" mr) :
    MetFree l (⟨"java/util/ArrayList", "toArray", "()[Ljava/lang/Object;"⟩ : MethodName) (head1 (Jvm.Cond.code (⟨"java/util/ArrayList", "toArray", "()[Ljava/lang/Object;"⟩ : MethodName) jdk_38_method_16_code 1 (some (.array (.object "java/lang/Object"))) :: ws) ({ frames := 3, cells := 1, slots := 3, locals := 46 } : Room)) (fun args_ U => args_ = #[(.ref a)] ∧ Z.Warmed39 U.vm ∧ U.heap = h0) (fun _ _ _ _ _ => True) (fun _ U o U' => ∃ v L, o = .returned v ∧ (own_Q_own_toarr_3 Z a b kb mr zz oo h0 n0) v U'.heap L ∧ FrameEnd U o U' L ({ frames := 3, cells := 1, slots := 3, locals := 46 } : Room).cells ({ frames := 3, cells := 1, slots := 3, locals := 46 } : Room).slots) := by
  refine MetFree.of_bodySF (plainFor_of_name own_pn4) hisR ?_
  intro p e s m args below meth c s₁ Bd hml0 hP hK
  obtain ⟨rfl, hZ, hh⟩ := hP
  have hx := Bd.exec
  have hby := Bd.bytes
  have hml : c.maxLocals = 1 := hml0
  have hown : s.vm.findClass "java/util/ArrayList" = some m.cls := findClass_of_methodNamed Bd.named
  have hnm := (name_of_methodNamed Bd.named Bd.method).1
  have X0 : Stand p l e ({ frames := 3, cells := 1, slots := 3, locals := 46 } : Room) s m #[(.ref a)] below meth c s₁ [] 0 0 := Stand.of_body Bd
  have e0 : s₁.heap = h0 := by rw [← hh, Bd.state]; rfl
  have N0 := Fr.nil n0
  refine own_close (s := s) (Q := (own_Q_own_toarr_3 Z a b kb mr zz oo h0 n0)) (C := (({ frames := 3, cells := 1, slots := 3, locals := 46 } : Room)).cells) (N := (({ frames := 3, cells := 1, slots := 3, locals := 46 } : Room)).slots) (own_st (fun _ kt => castTop (own_ef15 m a) kt) ?_)
  have K0 := Keep.refl h0 []
  show own_Rch p e below _ s₁ (mkF m 0 #[.val (.ref a)] [])
  refine own_st (fun _ kt => XS.aloadN X0.here hx rfl (hb hby own_d15_0) rfl rfl  kt) ?_
  show own_Rch p e below _ s₁ (mkF m 1 #[.val (.ref a)] [(.ref a)])
  obtain ⟨T1, X1, e1, st1⟩ := getF X0 hx hZ hown (host := "") (Or.inl (hw _ (List.mem_of_getElem? (i := 25) rfl))) Via.refl e0 FE (g := (mkF m 1 #[.val (.ref a)] [(.ref a)])) rfl rfl (hb hby own_d15_1)
  refine own_st st1 ?_
  show own_Rch p e below _ T1 (mkF m 4 #[.val (.ref a)] [(.ref b)])
  refine own_st (fun _ kt => XS.aloadN X1.here hx rfl (hb hby own_d15_4) rfl rfl  kt) ?_
  show own_Rch p e below _ T1 (mkF m 5 #[.val (.ref a)] [(.ref a), (.ref b)])
  obtain ⟨T2, X2, e2, st2⟩ := getF X1 hx hZ hown (host := "") (Or.inl (hw _ (List.mem_of_getElem? (i := 36) rfl))) Via.refl e1 FZ (g := (mkF m 5 #[.val (.ref a)] [(.ref a), (.ref b)])) rfl rfl (hb hby own_d15_5)
  refine own_st st2 ?_
  show own_Rch p e below _ T2 (mkF m 8 #[.val (.ref a)] [(.int (3 : Int32)), (.ref b)])
  obtain ⟨_, _, ⟨T3, L3, k3, n3⟩, -, X3, ⟨Lc3, hQ3, l3, y3, z3⟩, st3⟩ := Jvm.LawKit.callS X2 hx (y := (⟨"java/util/Arrays", "copyOf", "([Ljava/lang/Object;I)[Ljava/lang/Object;"⟩ : MethodName)) hown (mvT hZ (hw _ (List.mem_of_getElem? (i := 114) rfl))) (mvT hZ (hw _ (List.mem_of_getElem? (i := 115) rfl))) (mvT hZ (hw _ (List.mem_of_getElem? (i := 116) rfl))) (mvT hZ (hw _ (List.mem_of_getElem? (i := 117) rfl))) (by decide) (backOf (W := 0) (own_copy2_3 l Z a0 hw [] b kb mr zz oo h0 n0 O0 EB VB EZ EO MR) hZ (hw _ (List.mem_of_getElem? (i := 117) rfl)) (hw _ (List.mem_of_getElem? (i := 116) rfl)) (by decide) (by decide)) (g := (mkF m 8 #[.val (.ref a)] [(.int (3 : Int32)), (.ref b)])) rfl (by rw [hml]; rfl) (argsL := [(.ref b), (.int (3 : Int32))]) (rest := []) (lenOf own_pd6 rfl) rfl (by show 2 * 0 + _ ≤ _; exact Nat.le_of_eq rfl) (hb hby own_d15_8) (fun _ _ => ⟨rfl, e2, (by decide : 0 + 1 ≤ _), (by decide : 0 + 3 ≤ _)⟩)
  dsimp only [Pt.U, Pt.locs, Pt.cells, Pt.slots] at X3 l3 y3 z3 st3 hQ3
  subst l3 y3 z3
  obtain ⟨br3, kr3, rfl, N3q, K3, hb3, Er3, Vr3, Or3⟩ := hQ3
  have N3 := Fr.app N0 N3q
  refine own_st st3 ?_
  have ne3_a_br3 : a ≠ br3 := Nat.ne_of_lt (Nat.lt_of_lt_of_le EA.lt hb3)
  have ne3_b_br3 : b ≠ br3 := Nat.ne_of_lt (Nat.lt_of_lt_of_le EB.lt hb3)
  have ge3_br3 : n0 ≤ br3 := Nat.le_trans (own_old_le O0) hb3
  have sz3_br3 : h0.size ≤ br3 := Nat.le_trans K0.1 hb3
  have O0_x3 := O0.keep K3 all0
  have EA_x3 := EA.keep K3
  have FE_x3 := FE.keep K3 nin0
  have FZ_x3 := FZ.keep K3 nin0
  have FM_x3 := FM.keep K3 nin0
  have EB_x3 := EB.keep K3
  have VB_x3 := VB.keep K3 nin0
  have K0_x3 := K0.trans K3 all0
  show own_Rch p e below _ T3 (mkF m 11 #[.val (.ref a)] [(.ref br3)])
  refine own_retA rfl rfl X3 hx Bd.notSynchronized Bd.returns (hb hby own_d15_11) (by decide) (by decide) ?_
  exact ⟨_, _, rfl, N3, K0_x3, sz3_br3, Er3, Vr3, Or3⟩
theorem own_pn11 : plainName "java/util/ImmutableCollections$ListN" = true := by first | (simp [plainName, overriddenIn]; done) | decide +kernel
theorem own_ef22 (m : MethodId) (x0 : Addr) (x1 : Addr) (x2 : Int32) : entryFrame m #[(.ref x0), (.ref x1), (.int x2)] 3 = mkF m 0 #[.val (.ref x0), .val (.ref x1), .val (.int x2)] [] := by first | (simp [entryFrame, mkF, argsToLocals, Value.category]; done) | rfl
theorem own_d22_0 : decode jdk_45_method_1_code 0 = .ok (.aload_n 0, 1) := by decide +kernel
theorem own_d22_1 : decode jdk_45_method_1_code 1 = .ok (.invokespecial 1, 3) := by decide +kernel
theorem own_d22_4 : decode jdk_45_method_1_code 4 = .ok (.aload_n 0, 1) := by decide +kernel
theorem own_d22_5 : decode jdk_45_method_1_code 5 = .ok (.aload_n 1, 1) := by decide +kernel
theorem own_d22_6 : decode jdk_45_method_1_code 6 = .ok (.putfield 7, 3) := by decide +kernel
theorem own_d22_9 : decode jdk_45_method_1_code 9 = .ok (.aload_n 0, 1) := by decide +kernel
theorem own_d22_10 : decode jdk_45_method_1_code 10 = .ok (.iload_n 2, 1) := by decide +kernel
theorem own_d22_11 : decode jdk_45_method_1_code 11 = .ok (.putfield 13, 3) := by decide +kernel
theorem own_d22_14 : decode jdk_45_method_1_code 14 = .ok (.return_, 1) := by decide +kernel
def own_Q_own_lni (Z : State) (a : Addr) (x : Addr) (h0 : Heap) (n0 : Nat) (v : Option Value) (h : Heap) (L : List Loc) : Prop := v = none ∧ Fr n0 L ∧ Keep h0 h [a] ∧ Exa Z h a "java/util/ImmutableCollections$ListN" ∧ Fld Z h a "java/util/ImmutableCollections$ListN" "elements" "[Ljava/lang/Object;" (.ref x)
set_option maxRecDepth 65536 in
set_option maxHeartbeats 40000000 in
theorem own_lni (l : Launch) (Z : State) (a0 : Array Value) (hw : ∀ d ∈ tables_1, d.before a0 Z = true) (ws : List Jvm.Cond) (a : Addr) (x : Addr) (h0 : Heap) (n0 : Nat) (O0 : Old Z n0 h0) (EA : Exa Z h0 a "java/util/ImmutableCollections$ListN") (F0 : Fld Z h0 a "java/util/ImmutableCollections$ListN" "elements" "[Ljava/lang/Object;" .null) (F1 : Fld Z h0 a "java/util/ImmutableCollections$ListN" "allowNulls" "Z" (.int (0 : Int32))) (ga : n0 ≤ a) :
    MetFree l (⟨"java/util/ImmutableCollections$ListN", "<init>", "([Ljava/lang/Object;Z)V"⟩ : MethodName) (head1 (Jvm.Cond.code (⟨"java/util/ImmutableCollections$ListN", "<init>", "([Ljava/lang/Object;Z)V"⟩ : MethodName) jdk_45_method_1_code 3 none :: ws) ({ frames := 4, cells := 0, slots := 0, locals := 48 } : Room)) (fun args_ U => args_ = #[(.ref a), (.ref x), (.int (0 : Int32))] ∧ Z.Warmed39 U.vm ∧ U.heap = h0) (fun _ _ _ _ _ => True) (fun _ U o U' => ∃ v L, o = .returned v ∧ (own_Q_own_lni Z a x h0 n0) v U'.heap L ∧ FrameEnd U o U' L ({ frames := 4, cells := 0, slots := 0, locals := 48 } : Room).cells ({ frames := 4, cells := 0, slots := 0, locals := 48 } : Room).slots) := by
  refine MetFree.of_bodySF (plainFor_of_name own_pn11) hisR ?_
  intro p e s m args below meth c s₁ Bd hml0 hP hK
  obtain ⟨rfl, hZ, hh⟩ := hP
  have hx := Bd.exec
  have hby := Bd.bytes
  have hml : c.maxLocals = 3 := hml0
  have hown : s.vm.findClass "java/util/ImmutableCollections$ListN" = some m.cls := findClass_of_methodNamed Bd.named
  have hnm := (name_of_methodNamed Bd.named Bd.method).1
  have X0 : Stand p l e ({ frames := 4, cells := 0, slots := 0, locals := 48 } : Room) s m #[(.ref a), (.ref x), (.int (0 : Int32))] below meth c s₁ [] 0 0 := Stand.of_body Bd
  have e0 : s₁.heap = h0 := by rw [← hh, Bd.state]; rfl
  have N0 := Fr.nil n0
  refine own_close (s := s) (Q := (own_Q_own_lni Z a x h0 n0)) (C := (({ frames := 4, cells := 0, slots := 0, locals := 48 } : Room)).cells) (N := (({ frames := 4, cells := 0, slots := 0, locals := 48 } : Room)).slots) (own_st (fun _ kt => castTop (own_ef22 m a x (0 : Int32)) kt) ?_)
  have K0 := Keep.refl h0 [a]
  show own_Rch p e below _ s₁ (mkF m 0 #[.val (.ref a), .val (.ref x), .val (.int (0 : Int32))] [])
  refine own_st (fun _ kt => XS.aloadN X0.here hx rfl (hb hby own_d22_0) rfl rfl  kt) ?_
  show own_Rch p e below _ s₁ (mkF m 1 #[.val (.ref a), .val (.ref x), .val (.int (0 : Int32))] [(.ref a)])
  obtain ⟨_, _, ⟨T1, L1, k1, n1⟩, -, X1, ⟨Lc1, hQ1, l1, y1, z1⟩, st1⟩ := X0.specialBack hx (y := (⟨"java/util/ImmutableCollections$AbstractImmutableList", "<init>", "()V"⟩ : MethodName)) rfl hown (mvT hZ (hw _ (List.mem_of_getElem? (i := 153) rfl))) (mvT hZ (hw _ (List.mem_of_getElem? (i := 154) rfl))) (mvT hZ (hw _ (List.mem_of_getElem? (i := 158) rfl))) (by decide) (backOf (W := 0) (own_ail l Z a0 hw [] a h0 n0 O0 ) hZ (hw _ (List.mem_of_getElem? (i := 158) rfl)) (hw _ (List.mem_of_getElem? (i := 157) rfl)) (by decide) (by decide)) (g := (mkF m 1 #[.val (.ref a), .val (.ref x), .val (.int (0 : Int32))] [(.ref a)])) rfl (by rw [hml]; rfl) (Steps.refl _) (a := a) (argsL := []) (rest := []) (lenOf own_pd0 rfl) rfl (by show 2 * 0 + _ ≤ _; exact Nat.le_of_eq rfl) (hb hby own_d22_1) (fun _ _ => ⟨rfl, e0, (by decide : 0 + 0 ≤ _), (by decide : 0 + 0 ≤ _)⟩)
  dsimp only [Pt.U, Pt.locs, Pt.cells, Pt.slots] at X1 l1 y1 z1 st1 hQ1
  subst l1 y1 z1
  obtain ⟨rfl, N1q, hh1⟩ := hQ1
  have N1 := Fr.app N0 N1q
  refine own_st (fun _ kt => st1.trans kt) ?_
  show own_Rch p e below _ T1 (mkF m 4 #[.val (.ref a), .val (.ref x), .val (.int (0 : Int32))] [])
  refine own_st (fun _ kt => XS.aloadN X1.here hx rfl (hb hby own_d22_4) rfl rfl  kt) ?_
  show own_Rch p e below _ T1 (mkF m 5 #[.val (.ref a), .val (.ref x), .val (.int (0 : Int32))] [(.ref a)])
  refine own_st (fun _ kt => XS.aloadN X1.here hx rfl (hb hby own_d22_5) rfl rfl  kt) ?_
  show own_Rch p e below _ T1 (mkF m 6 #[.val (.ref a), .val (.ref x), .val (.int (0 : Int32))] [(.ref x), (.ref a)])
  obtain ⟨T2, h2, X2, e2, W2, st2⟩ := putF X1 hx hZ hown (host := "") (Or.inl (hw _ (List.mem_of_getElem? (i := 167) rfl))) Via.refl hh1 F0 EA (Or.inr ⟨(hw _ (List.mem_of_getElem? (i := 168) rfl)), rfl, hnm⟩) (hw _ (List.mem_of_getElem? (i := 147) rfl)) (ty := (.array (.object "java/lang/Object"))) (by decide) rfl rfl (g := (mkF m 6 #[.val (.ref a), .val (.ref x), .val (.int (0 : Int32))] [(.ref x), (.ref a)])) rfl rfl (hb hby own_d22_6)
  refine own_st st2 ?_
  have Fw2 := F0.same W2
  have N2 := Fr.snoc X2 N1 ga
  have O0_x2 := O0.wr W2 ga
  have EA_x2 := EA.wr W2
  have F1_x2 := F1.other W2 (Or.inr (slot_ne (Or.inr (hw _ (List.mem_of_getElem? (i := 170) rfl))) (Or.inr (hw _ (List.mem_of_getElem? (i := 168) rfl))) (by decide) (t := .boolean) (t' := (.array (.object "java/lang/Object"))) (by decide) (by decide)))
  have K0_x2 := K0.wr W2 (Or.inl (List.mem_of_getElem? (i := 0) rfl))
  show own_Rch p e below _ T2 (mkF m 9 #[.val (.ref a), .val (.ref x), .val (.int (0 : Int32))] [])
  refine own_st (fun _ kt => XS.aloadN X2.here hx rfl (hb hby own_d22_9) rfl rfl  kt) ?_
  show own_Rch p e below _ T2 (mkF m 10 #[.val (.ref a), .val (.ref x), .val (.int (0 : Int32))] [(.ref a)])
  refine own_st (fun _ kt => XS.iloadN X2.here hx rfl (hb hby own_d22_10) rfl  kt) ?_
  show own_Rch p e below _ T2 (mkF m 11 #[.val (.ref a), .val (.ref x), .val (.int (0 : Int32))] [(.int (0 : Int32)), (.ref a)])
  obtain ⟨T3, h3, X3, e3, W3, st3⟩ := putFN X2 hx hZ hown (hw _ (List.mem_of_getElem? (i := 169) rfl)) Via.refl e2 F1_x2 EA_x2 (Or.inr ⟨(hw _ (List.mem_of_getElem? (i := 170) rfl)), rfl, hnm⟩) (hw _ (List.mem_of_getElem? (i := 147) rfl)) (ty := .boolean) (v' := (.int (0 : Int32))) (by decide) rfl (by decide) (g := (mkF m 11 #[.val (.ref a), .val (.ref x), .val (.int (0 : Int32))] [(.int (0 : Int32)), (.ref a)])) rfl rfl (hb hby own_d22_11)
  refine own_st st3 ?_
  have Fw3 := F1_x2.same W3
  have N3 := Fr.snoc X3 N2 ga
  have O0_x3 := O0_x2.wr W3 ga
  have EA_x3 := EA_x2.wr W3
  have Fw2_x3 := Fw2.other W3 (Or.inr (slot_ne (Or.inr (hw _ (List.mem_of_getElem? (i := 168) rfl))) (Or.inr (hw _ (List.mem_of_getElem? (i := 170) rfl))) (by decide) (t := (.array (.object "java/lang/Object"))) (t' := .boolean) (by decide) (by decide)))
  have K0_x3 := K0_x2.wr W3 (Or.inl (List.mem_of_getElem? (i := 0) rfl))
  show own_Rch p e below _ T3 (mkF m 14 #[.val (.ref a), .val (.ref x), .val (.int (0 : Int32))] [])
  refine own_retV X3 hx Bd.notSynchronized Bd.returns (hb hby own_d22_14) (by decide) (by decide) ?_
  rw [e3]
  exact ⟨rfl, N3, K0_x3, EA_x3, Fw2_x3⟩
theorem own_ef20 (m : MethodId) (x0 : Addr) : entryFrame m #[(.ref x0)] 3 = mkF m 0 #[.val (.ref x0), .unset, .unset] [] := by first | (simp [entryFrame, mkF, argsToLocals, Value.category]; done) | rfl
theorem own_d20_0 : decode jdk_56_method_4_code 0 = .ok (.aload_n 0, 1) := by decide +kernel
theorem own_d20_1 : decode jdk_56_method_4_code 1 = .ok (.arraylength, 1) := by decide +kernel
theorem own_d20_2 : decode jdk_56_method_4_code 2 = .ok (.anewarray 2, 3) := by decide +kernel
theorem own_d20_5 : decode jdk_56_method_4_code 5 = .ok (.astore_n 1, 1) := by decide +kernel
theorem own_d20_6 : decode jdk_56_method_4_code 6 = .ok (.iconst 0, 1) := by decide +kernel
theorem own_d20_7 : decode jdk_56_method_4_code 7 = .ok (.istore_n 2, 1) := by decide +kernel
theorem own_d20_8 : decode jdk_56_method_4_code 8 = .ok (.iload_n 2, 1) := by decide +kernel
theorem own_d20_9 : decode jdk_56_method_4_code 9 = .ok (.aload_n 0, 1) := by decide +kernel
theorem own_d20_10 : decode jdk_56_method_4_code 10 = .ok (.arraylength, 1) := by decide +kernel
theorem own_d20_11 : decode jdk_56_method_4_code 11 = .ok (.if_icmp .ge 18, 3) := by decide +kernel
theorem own_d20_14 : decode jdk_56_method_4_code 14 = .ok (.aload_n 1, 1) := by decide +kernel
theorem own_d20_15 : decode jdk_56_method_4_code 15 = .ok (.iload_n 2, 1) := by decide +kernel
theorem own_d20_16 : decode jdk_56_method_4_code 16 = .ok (.aload_n 0, 1) := by decide +kernel
theorem own_d20_17 : decode jdk_56_method_4_code 17 = .ok (.iload_n 2, 1) := by decide +kernel
theorem own_d20_18 : decode jdk_56_method_4_code 18 = .ok (.aaload, 1) := by decide +kernel
theorem own_d20_19 : decode jdk_56_method_4_code 19 = .ok (.invokestatic 37, 3) := by decide +kernel
theorem own_d20_22 : decode jdk_56_method_4_code 22 = .ok (.aastore, 1) := by decide +kernel
theorem own_d20_23 : decode jdk_56_method_4_code 23 = .ok (.iinc 2 1, 3) := by decide +kernel
theorem own_d20_26 : decode jdk_56_method_4_code 26 = .ok (.goto (-18), 3) := by decide +kernel
theorem own_d20_29 : decode jdk_56_method_4_code 29 = .ok (.new 12, 3) := by decide +kernel
theorem own_d20_32 : decode jdk_56_method_4_code 32 = .ok (.dup, 1) := by decide +kernel
theorem own_d20_33 : decode jdk_56_method_4_code 33 = .ok (.aload_n 1, 1) := by decide +kernel
theorem own_d20_34 : decode jdk_56_method_4_code 34 = .ok (.iconst 0, 1) := by decide +kernel
theorem own_d20_35 : decode jdk_56_method_4_code 35 = .ok (.invokespecial 43, 3) := by decide +kernel
theorem own_pd15 : parseMethodDescriptor "([Ljava/lang/Object;Z)V" = some ⟨[(.array (.object "java/lang/Object")), .boolean], none⟩ := by decide +kernel
theorem own_d20_38 : decode jdk_56_method_4_code 38 = .ok (.areturn, 1) := by decide +kernel
def own_Q_own_lfa_3 (Z : State) (b : Addr) (kb : ClassId) (zz : Addr) (oo : Addr) (em : Addr) (h0 : Heap) (n0 : Nat) (v : Option Value) (h : Heap) (L : List Loc) : Prop := ∃ q : Addr, v = some (.ref q) ∧ Fr n0 L ∧ Keep h0 h [] ∧ h0.size ≤ q ∧ ∃ (r : Addr) (kr : ClassId), h0.size ≤ r ∧ Exa Z h q "java/util/ImmutableCollections$ListN" ∧ Fld Z h q "java/util/ImmutableCollections$ListN" "elements" "[Ljava/lang/Object;" (.ref r) ∧ Arv Z h r kr (.object "java/lang/Object") (3 : Int32) [(.ref zz), (.ref zz), (.ref oo)] .null
set_option maxRecDepth 65536 in
set_option maxHeartbeats 40000000 in
theorem own_lfa_3 (l : Launch) (Z : State) (a0 : Array Value) (hw : ∀ d ∈ tables_1, d.before a0 Z = true) (ws : List Jvm.Cond) (b : Addr) (kb : ClassId) (zz : Addr) (oo : Addr) (em : Addr) (h0 : Heap) (n0 : Nat) (O0 : Old Z n0 h0) (VB : Arv Z h0 b kb (.object "java/lang/Object") (3 : Int32) [(.ref zz), (.ref zz), (.ref oo)] .null) (EZ : Exa Z Z.heap zz "java/math/BigDecimal") (EO : Exa Z Z.heap oo "java/math/BigDecimal") (SE : Sta Z Z.heap "java/util/ImmutableCollections" "EMPTY" "Ljava/lang/Object;" (.ref em)) :
    MetFree l (⟨"java/util/ImmutableCollections", "listFromArray", "([Ljava/lang/Object;)Ljava/util/List;"⟩ : MethodName) (head1 (Jvm.Cond.code (⟨"java/util/ImmutableCollections", "listFromArray", "([Ljava/lang/Object;)Ljava/util/List;"⟩ : MethodName) jdk_56_method_4_code 3 (some (.object "java/util/List")) :: ws) ({ frames := 5, cells := 2, slots := 5, locals := 63 } : Room)) (fun args_ U => args_ = #[(.ref b)] ∧ Z.Warmed39 U.vm ∧ U.heap = h0) (fun _ _ _ _ _ => True) (fun _ U o U' => ∃ v L, o = .returned v ∧ (own_Q_own_lfa_3 Z b kb zz oo em h0 n0) v U'.heap L ∧ FrameEnd U o U' L ({ frames := 5, cells := 2, slots := 5, locals := 63 } : Room).cells ({ frames := 5, cells := 2, slots := 5, locals := 63 } : Room).slots) := by
  refine MetFree.of_bodySF (plainFor_of_name own_pn9) hisR ?_
  intro p e s m args below meth c s₁ Bd hml0 hP hK
  obtain ⟨rfl, hZ, hh⟩ := hP
  have hx := Bd.exec
  have hby := Bd.bytes
  have hml : c.maxLocals = 3 := hml0
  have hown : s.vm.findClass "java/util/ImmutableCollections" = some m.cls := findClass_of_methodNamed Bd.named
  have hnm := (name_of_methodNamed Bd.named Bd.method).1
  have X0 : Stand p l e ({ frames := 5, cells := 2, slots := 5, locals := 63 } : Room) s m #[(.ref b)] below meth c s₁ [] 0 0 := Stand.of_body Bd
  have e0 : s₁.heap = h0 := by rw [← hh, Bd.state]; rfl
  have N0 := Fr.nil n0
  refine own_close (s := s) (Q := (own_Q_own_lfa_3 Z b kb zz oo em h0 n0)) (C := (({ frames := 5, cells := 2, slots := 5, locals := 63 } : Room)).cells) (N := (({ frames := 5, cells := 2, slots := 5, locals := 63 } : Room)).slots) (own_st (fun _ kt => castTop (own_ef20 m b) kt) ?_)
  have K0 := Keep.refl h0 []
  show own_Rch p e below _ s₁ (mkF m 0 #[.val (.ref b), .unset, .unset] [])
  refine own_st (fun _ kt => XS.aloadN X0.here hx rfl (hb hby own_d20_0) rfl rfl  kt) ?_
  show own_Rch p e below _ s₁ (mkF m 1 #[.val (.ref b), .unset, .unset] [(.ref b)])
  obtain ⟨cl1, Ar1, -, S1, M1, -, -⟩ := id VB
  refine own_st (X0.arraylength hx (by rw [e0]; exact Ar1.1) (State.isArrayOf_alike (hZ).alike Ar1.2.1) (g := (mkF m 1 #[.val (.ref b), .unset, .unset] [(.ref b)])) rfl rfl (hb hby own_d20_1)) ?_
  rw [len_of S1 M1]
  show own_Rch p e below _ s₁ (mkF m 2 #[.val (.ref b), .unset, .unset] [(.int (3 : Int32))])
  obtain ⟨T2, h2, k2, X2, e2, E2, A2, Ex2, Ov2, st2⟩ := newRE X0 hx hZ hown (hw _ (List.mem_of_getElem? (i := 142) rfl)) (hw _ (List.mem_of_getElem? (i := 58) rfl)) e0 (g := (mkF m 2 #[.val (.ref b), .unset, .unset] [(.int (3 : Int32))])) rfl (hb hby own_d20_2) rfl (by decide) (cap := 3) (by decide) (by decide) (by decide) (by decide) (ad := "[Ljava/lang/Object;") (by decide)
  obtain ⟨b2, g2⟩ : ∃ z, z = h0.size := ⟨_, rfl⟩
  rw [← g2] at A2 Ex2 st2
  have ge2 : n0 ≤ b2 := by rw [g2]; exact own_old_le O0
  have ne2_b : b ≠ b2 := by rw [g2]; exact Nat.ne_of_lt VB.lt
  have sz2 : h0.size ≤ b2 := by rw [g2]; exact K0.1
  have O0_x2 := O0.ext E2
  have VB_x2 := VB.ext E2
  have K0_x2 := K0.ext E2
  refine own_st st2 ?_
  have V2 := Arv.new A2 (by decide)
  have V2p : Arv Z h2 b2 k2 (.object "java/lang/Object") (3 : Int32) [.null, .null, .null] .null := V2.pad (pad_rep [] .null 3)
  show own_Rch p e below _ T2 (mkF m 5 #[.val (.ref b), .unset, .unset] [(.ref b2)])
  refine own_st (fun _ kt => XS.astoreN X2.here hx rfl (hb hby own_d20_5) rfl rfl (l' := #[.val (.ref b), .val (.ref b2), .unset]) rfl kt) ?_
  show own_Rch p e below _ T2 (mkF m 6 #[.val (.ref b), .val (.ref b2), .unset] [])
  refine own_st (fun _ kt => XS.iconst X2.here hx rfl (hb hby own_d20_6) kt) ?_
  show own_Rch p e below _ T2 (mkF m 7 #[.val (.ref b), .val (.ref b2), .unset] [(.int (0 : Int32))])
  refine own_st (fun _ kt => XS.istoreN X2.here hx rfl (hb hby own_d20_7) rfl (l' := #[.val (.ref b), .val (.ref b2), .val (.int (0 : Int32))]) rfl kt) ?_
  show own_Rch p e below _ T2 (mkF m 8 #[.val (.ref b), .val (.ref b2), .val (.int (0 : Int32))] [])
  refine own_st (fun _ kt => XS.iloadN X2.here hx rfl (hb hby own_d20_8) rfl  kt) ?_
  show own_Rch p e below _ T2 (mkF m 9 #[.val (.ref b), .val (.ref b2), .val (.int (0 : Int32))] [(.int (0 : Int32))])
  refine own_st (fun _ kt => XS.aloadN X2.here hx rfl (hb hby own_d20_9) rfl rfl  kt) ?_
  show own_Rch p e below _ T2 (mkF m 10 #[.val (.ref b), .val (.ref b2), .val (.int (0 : Int32))] [(.ref b), (.int (0 : Int32))])
  obtain ⟨cl3, Ar3, -, S3, M3, -, -⟩ := id VB_x2
  refine own_st (X2.arraylength hx (by rw [e2]; exact Ar3.1) (State.isArrayOf_alike (hZ).alike Ar3.2.1) (g := (mkF m 10 #[.val (.ref b), .val (.ref b2), .val (.int (0 : Int32))] [(.ref b), (.int (0 : Int32))])) rfl rfl (hb hby own_d20_10)) ?_
  rw [len_of S3 M3]
  show own_Rch p e below _ T2 (mkF m 11 #[.val (.ref b), .val (.ref b2), .val (.int (0 : Int32))] [(.int (3 : Int32)), (.int (0 : Int32))])
  refine own_st (fun _ kt => XS.icmpNo X2.here hx rfl (hb hby own_d20_11) rfl (tlt ((by decide) : (0 : Int32) < (3 : Int32))).2.1 kt) ?_
  show own_Rch p e below _ T2 (mkF m 14 #[.val (.ref b), .val (.ref b2), .val (.int (0 : Int32))] [])
  refine own_st (fun _ kt => XS.aloadN X2.here hx rfl (hb hby own_d20_14) rfl rfl  kt) ?_
  show own_Rch p e below _ T2 (mkF m 15 #[.val (.ref b), .val (.ref b2), .val (.int (0 : Int32))] [(.ref b2)])
  refine own_st (fun _ kt => XS.iloadN X2.here hx rfl (hb hby own_d20_15) rfl  kt) ?_
  show own_Rch p e below _ T2 (mkF m 16 #[.val (.ref b), .val (.ref b2), .val (.int (0 : Int32))] [(.int (0 : Int32)), (.ref b2)])
  refine own_st (fun _ kt => XS.aloadN X2.here hx rfl (hb hby own_d20_16) rfl rfl  kt) ?_
  show own_Rch p e below _ T2 (mkF m 17 #[.val (.ref b), .val (.ref b2), .val (.int (0 : Int32))] [(.ref b), (.int (0 : Int32)), (.ref b2)])
  refine own_st (fun _ kt => XS.iloadN X2.here hx rfl (hb hby own_d20_17) rfl  kt) ?_
  show own_Rch p e below _ T2 (mkF m 18 #[.val (.ref b), .val (.ref b2), .val (.int (0 : Int32))] [(.int (0 : Int32)), (.ref b), (.int (0 : Int32)), (.ref b2)])
  obtain ⟨cl4, Ar4, q4, S4, M4, H4, G4⟩ := id VB_x2
  have hin4 : ¬ ((0 : Int32) < 0 ∨ cl4.slots.size ≤ ((0 : Int32)).toNatClampNeg) := inb_of S4 ⟨by decide, by decide⟩
  refine own_st (X2.aaload hx (j := (0 : Int32)) (v := (.ref zz)) (by rw [e2]; exact Ar4.1) (State.isArrayOf_alike (hZ).alike Ar4.2.1) rfl Ar4.2.2 hin4 (H4.at hin4 rfl) (g := (mkF m 18 #[.val (.ref b), .val (.ref b2), .val (.int (0 : Int32))] [(.int (0 : Int32)), (.ref b), (.int (0 : Int32)), (.ref b2)])) rfl rfl (hb hby own_d20_18)) ?_
  show own_Rch p e below _ T2 (mkF m 19 #[.val (.ref b), .val (.ref b2), .val (.int (0 : Int32))] [(.ref zz), (.int (0 : Int32)), (.ref b2)])
  obtain ⟨_, _, ⟨T5, L5, k5, n5⟩, -, X5, ⟨Lc5, hQ5, l5, y5, z5⟩, st5⟩ := Jvm.LawKit.callS X2 hx (y := (⟨"java/util/Objects", "requireNonNull", "(Ljava/lang/Object;)Ljava/lang/Object;"⟩ : MethodName)) hown (mvT hZ (hw _ (List.mem_of_getElem? (i := 143) rfl))) (mvT hZ (hw _ (List.mem_of_getElem? (i := 144) rfl))) (mvT hZ (hw _ (List.mem_of_getElem? (i := 145) rfl))) (mvT hZ (hw _ (List.mem_of_getElem? (i := 146) rfl))) (by decide) (backOf (W := 2) (own_rnn l Z a0 hw [] zz h2 n0 O0_x2 ) hZ (hw _ (List.mem_of_getElem? (i := 146) rfl)) (hw _ (List.mem_of_getElem? (i := 145) rfl)) (by decide) (by decide)) (g := (mkF m 19 #[.val (.ref b), .val (.ref b2), .val (.int (0 : Int32))] [(.ref zz), (.int (0 : Int32)), (.ref b2)])) rfl (by rw [hml]; rfl) (argsL := [(.ref zz)]) (rest := [(.int (0 : Int32)), (.ref b2)]) (lenOf own_pd7 rfl) rfl (by show 2 * 0 + _ ≤ _; exact Nat.le_of_eq rfl) (hb hby own_d20_19) (fun _ _ => ⟨rfl, e2, (by decide : 1 + 0 ≤ _), (by decide : 3 + 0 ≤ _)⟩)
  dsimp only [Pt.U, Pt.locs, Pt.cells, Pt.slots] at X5 l5 y5 z5 st5 hQ5
  subst l5 y5 z5
  obtain ⟨rfl, N5q, hh5⟩ := hQ5
  have N5 := Fr.app N0 N5q
  refine own_st st5 ?_
  show own_Rch p e below _ T5 (mkF m 22 #[.val (.ref b), .val (.ref b2), .val (.int (0 : Int32))] [(.ref zz), (.int (0 : Int32)), (.ref b2)])
  obtain ⟨cl6, Ar6, q6, S6, M6, H6, G6⟩ := id V2p
  have hin6 : ¬ ((0 : Int32) < 0 ∨ cl6.slots.size ≤ ((0 : Int32)).toNatClampNeg) := inb_of S6 ⟨by decide, by decide⟩
  obtain ⟨T6, h6, X6, e6, W6, st6⟩ := stR X5 hx hZ hh5 Ar6 (j := (0 : Int32)) hin6 rfl (Sto.ofV Ar6 q6 Ov2 (Ins.of_exa (EZ.ext O0_x2.2) (hw _ (List.mem_of_getElem? (i := 59) rfl)))) (g := (mkF m 22 #[.val (.ref b), .val (.ref b2), .val (.int (0 : Int32))] [(.ref zz), (.int (0 : Int32)), (.ref b2)])) rfl rfl (hb hby own_d20_22)
  have V6 := Arv.set Ar6 q6 S6 M6 H6 G6 rfl W6 0 rfl (Nat.le_of_ble_eq_true rfl)
  have V6s : Arv Z h6 b2 k2 (.object "java/lang/Object") (3 : Int32) [(.ref zz), .null, .null] .null := V6
  have N6 := Fr.snoc X6 N5 ge2
  refine own_st st6 ?_
  have O0_x6 := O0_x2.wr W6 ge2
  have VB_x6 := VB_x2.other W6 ne2_b
  have K0_x6 := K0_x2.wr W6 (Or.inr sz2)
  have Ex2_x6 := Ex2.wr W6
  show own_Rch p e below _ T6 (mkF m 23 #[.val (.ref b), .val (.ref b2), .val (.int (0 : Int32))] [])
  refine own_st (fun _ kt => XS.iinc X6.here hx rfl (hb hby own_d20_23) rfl (l' := #[.val (.ref b), .val (.ref b2), .val (.int (1 : Int32))]) rfl kt) ?_
  show own_Rch p e below _ T6 (mkF m 26 #[.val (.ref b), .val (.ref b2), .val (.int (1 : Int32))] [])
  refine own_st (fun _ kt => XS.goto X6.here hx rfl (pc0 := 26) (pc' := 8) rfl (hb hby own_d20_26) (by decide) (by decide) kt) ?_
  show own_Rch p e below _ T6 (mkF m 8 #[.val (.ref b), .val (.ref b2), .val (.int (1 : Int32))] [])
  refine own_st (fun _ kt => XS.iloadN X6.here hx rfl (hb hby own_d20_8) rfl  kt) ?_
  show own_Rch p e below _ T6 (mkF m 9 #[.val (.ref b), .val (.ref b2), .val (.int (1 : Int32))] [(.int (1 : Int32))])
  refine own_st (fun _ kt => XS.aloadN X6.here hx rfl (hb hby own_d20_9) rfl rfl  kt) ?_
  show own_Rch p e below _ T6 (mkF m 10 #[.val (.ref b), .val (.ref b2), .val (.int (1 : Int32))] [(.ref b), (.int (1 : Int32))])
  obtain ⟨cl7, Ar7, -, S7, M7, -, -⟩ := id VB_x6
  refine own_st (X6.arraylength hx (by rw [e6]; exact Ar7.1) (State.isArrayOf_alike (hZ).alike Ar7.2.1) (g := (mkF m 10 #[.val (.ref b), .val (.ref b2), .val (.int (1 : Int32))] [(.ref b), (.int (1 : Int32))])) rfl rfl (hb hby own_d20_10)) ?_
  rw [len_of S7 M7]
  show own_Rch p e below _ T6 (mkF m 11 #[.val (.ref b), .val (.ref b2), .val (.int (1 : Int32))] [(.int (3 : Int32)), (.int (1 : Int32))])
  refine own_st (fun _ kt => XS.icmpNo X6.here hx rfl (hb hby own_d20_11) rfl (tlt ((by decide) : (1 : Int32) < (3 : Int32))).2.1 kt) ?_
  show own_Rch p e below _ T6 (mkF m 14 #[.val (.ref b), .val (.ref b2), .val (.int (1 : Int32))] [])
  refine own_st (fun _ kt => XS.aloadN X6.here hx rfl (hb hby own_d20_14) rfl rfl  kt) ?_
  show own_Rch p e below _ T6 (mkF m 15 #[.val (.ref b), .val (.ref b2), .val (.int (1 : Int32))] [(.ref b2)])
  refine own_st (fun _ kt => XS.iloadN X6.here hx rfl (hb hby own_d20_15) rfl  kt) ?_
  show own_Rch p e below _ T6 (mkF m 16 #[.val (.ref b), .val (.ref b2), .val (.int (1 : Int32))] [(.int (1 : Int32)), (.ref b2)])
  refine own_st (fun _ kt => XS.aloadN X6.here hx rfl (hb hby own_d20_16) rfl rfl  kt) ?_
  show own_Rch p e below _ T6 (mkF m 17 #[.val (.ref b), .val (.ref b2), .val (.int (1 : Int32))] [(.ref b), (.int (1 : Int32)), (.ref b2)])
  refine own_st (fun _ kt => XS.iloadN X6.here hx rfl (hb hby own_d20_17) rfl  kt) ?_
  show own_Rch p e below _ T6 (mkF m 18 #[.val (.ref b), .val (.ref b2), .val (.int (1 : Int32))] [(.int (1 : Int32)), (.ref b), (.int (1 : Int32)), (.ref b2)])
  obtain ⟨cl8, Ar8, q8, S8, M8, H8, G8⟩ := id VB_x6
  have hin8 : ¬ ((1 : Int32) < 0 ∨ cl8.slots.size ≤ ((1 : Int32)).toNatClampNeg) := inb_of S8 ⟨by decide, by decide⟩
  refine own_st (X6.aaload hx (j := (1 : Int32)) (v := (.ref zz)) (by rw [e6]; exact Ar8.1) (State.isArrayOf_alike (hZ).alike Ar8.2.1) rfl Ar8.2.2 hin8 (H8.at hin8 rfl) (g := (mkF m 18 #[.val (.ref b), .val (.ref b2), .val (.int (1 : Int32))] [(.int (1 : Int32)), (.ref b), (.int (1 : Int32)), (.ref b2)])) rfl rfl (hb hby own_d20_18)) ?_
  show own_Rch p e below _ T6 (mkF m 19 #[.val (.ref b), .val (.ref b2), .val (.int (1 : Int32))] [(.ref zz), (.int (1 : Int32)), (.ref b2)])
  obtain ⟨_, _, ⟨T9, L9, k9, n9⟩, -, X9, ⟨Lc9, hQ9, l9, y9, z9⟩, st9⟩ := Jvm.LawKit.callS X6 hx (y := (⟨"java/util/Objects", "requireNonNull", "(Ljava/lang/Object;)Ljava/lang/Object;"⟩ : MethodName)) hown (mvT hZ (hw _ (List.mem_of_getElem? (i := 143) rfl))) (mvT hZ (hw _ (List.mem_of_getElem? (i := 144) rfl))) (mvT hZ (hw _ (List.mem_of_getElem? (i := 145) rfl))) (mvT hZ (hw _ (List.mem_of_getElem? (i := 146) rfl))) (by decide) (backOf (W := 2) (own_rnn l Z a0 hw [] zz h6 n0 O0_x6 ) hZ (hw _ (List.mem_of_getElem? (i := 146) rfl)) (hw _ (List.mem_of_getElem? (i := 145) rfl)) (by decide) (by decide)) (g := (mkF m 19 #[.val (.ref b), .val (.ref b2), .val (.int (1 : Int32))] [(.ref zz), (.int (1 : Int32)), (.ref b2)])) rfl (by rw [hml]; rfl) (argsL := [(.ref zz)]) (rest := [(.int (1 : Int32)), (.ref b2)]) (lenOf own_pd7 rfl) rfl (by show 2 * 0 + _ ≤ _; exact Nat.le_of_eq rfl) (hb hby own_d20_19) (fun _ _ => ⟨rfl, e6, (by decide : 1 + 0 ≤ _), (by decide : 3 + 0 ≤ _)⟩)
  dsimp only [Pt.U, Pt.locs, Pt.cells, Pt.slots] at X9 l9 y9 z9 st9 hQ9
  subst l9 y9 z9
  obtain ⟨rfl, N9q, hh9⟩ := hQ9
  have N9 := Fr.app N6 N9q
  refine own_st st9 ?_
  show own_Rch p e below _ T9 (mkF m 22 #[.val (.ref b), .val (.ref b2), .val (.int (1 : Int32))] [(.ref zz), (.int (1 : Int32)), (.ref b2)])
  obtain ⟨cl10, Ar10, q10, S10, M10, H10, G10⟩ := id V6s
  have hin10 : ¬ ((1 : Int32) < 0 ∨ cl10.slots.size ≤ ((1 : Int32)).toNatClampNeg) := inb_of S10 ⟨by decide, by decide⟩
  obtain ⟨T10, h10, X10, e10, W10, st10⟩ := stR X9 hx hZ hh9 Ar10 (j := (1 : Int32)) hin10 rfl (Sto.ofV Ar10 q10 Ov2 (Ins.of_exa (EZ.ext O0_x6.2) (hw _ (List.mem_of_getElem? (i := 59) rfl)))) (g := (mkF m 22 #[.val (.ref b), .val (.ref b2), .val (.int (1 : Int32))] [(.ref zz), (.int (1 : Int32)), (.ref b2)])) rfl rfl (hb hby own_d20_22)
  have V10 := Arv.set Ar10 q10 S10 M10 H10 G10 rfl W10 1 rfl (Nat.le_of_ble_eq_true rfl)
  have V10s : Arv Z h10 b2 k2 (.object "java/lang/Object") (3 : Int32) [(.ref zz), (.ref zz), .null] .null := V10
  have N10 := Fr.snoc X10 N9 ge2
  refine own_st st10 ?_
  have O0_x10 := O0_x6.wr W10 ge2
  have VB_x10 := VB_x6.other W10 ne2_b
  have K0_x10 := K0_x6.wr W10 (Or.inr sz2)
  have Ex2_x10 := Ex2_x6.wr W10
  show own_Rch p e below _ T10 (mkF m 23 #[.val (.ref b), .val (.ref b2), .val (.int (1 : Int32))] [])
  refine own_st (fun _ kt => XS.iinc X10.here hx rfl (hb hby own_d20_23) rfl (l' := #[.val (.ref b), .val (.ref b2), .val (.int (2 : Int32))]) rfl kt) ?_
  show own_Rch p e below _ T10 (mkF m 26 #[.val (.ref b), .val (.ref b2), .val (.int (2 : Int32))] [])
  refine own_st (fun _ kt => XS.goto X10.here hx rfl (pc0 := 26) (pc' := 8) rfl (hb hby own_d20_26) (by decide) (by decide) kt) ?_
  show own_Rch p e below _ T10 (mkF m 8 #[.val (.ref b), .val (.ref b2), .val (.int (2 : Int32))] [])
  refine own_st (fun _ kt => XS.iloadN X10.here hx rfl (hb hby own_d20_8) rfl  kt) ?_
  show own_Rch p e below _ T10 (mkF m 9 #[.val (.ref b), .val (.ref b2), .val (.int (2 : Int32))] [(.int (2 : Int32))])
  refine own_st (fun _ kt => XS.aloadN X10.here hx rfl (hb hby own_d20_9) rfl rfl  kt) ?_
  show own_Rch p e below _ T10 (mkF m 10 #[.val (.ref b), .val (.ref b2), .val (.int (2 : Int32))] [(.ref b), (.int (2 : Int32))])
  obtain ⟨cl11, Ar11, -, S11, M11, -, -⟩ := id VB_x10
  refine own_st (X10.arraylength hx (by rw [e10]; exact Ar11.1) (State.isArrayOf_alike (hZ).alike Ar11.2.1) (g := (mkF m 10 #[.val (.ref b), .val (.ref b2), .val (.int (2 : Int32))] [(.ref b), (.int (2 : Int32))])) rfl rfl (hb hby own_d20_10)) ?_
  rw [len_of S11 M11]
  show own_Rch p e below _ T10 (mkF m 11 #[.val (.ref b), .val (.ref b2), .val (.int (2 : Int32))] [(.int (3 : Int32)), (.int (2 : Int32))])
  refine own_st (fun _ kt => XS.icmpNo X10.here hx rfl (hb hby own_d20_11) rfl (tlt ((by decide) : (2 : Int32) < (3 : Int32))).2.1 kt) ?_
  show own_Rch p e below _ T10 (mkF m 14 #[.val (.ref b), .val (.ref b2), .val (.int (2 : Int32))] [])
  refine own_st (fun _ kt => XS.aloadN X10.here hx rfl (hb hby own_d20_14) rfl rfl  kt) ?_
  show own_Rch p e below _ T10 (mkF m 15 #[.val (.ref b), .val (.ref b2), .val (.int (2 : Int32))] [(.ref b2)])
  refine own_st (fun _ kt => XS.iloadN X10.here hx rfl (hb hby own_d20_15) rfl  kt) ?_
  show own_Rch p e below _ T10 (mkF m 16 #[.val (.ref b), .val (.ref b2), .val (.int (2 : Int32))] [(.int (2 : Int32)), (.ref b2)])
  refine own_st (fun _ kt => XS.aloadN X10.here hx rfl (hb hby own_d20_16) rfl rfl  kt) ?_
  show own_Rch p e below _ T10 (mkF m 17 #[.val (.ref b), .val (.ref b2), .val (.int (2 : Int32))] [(.ref b), (.int (2 : Int32)), (.ref b2)])
  refine own_st (fun _ kt => XS.iloadN X10.here hx rfl (hb hby own_d20_17) rfl  kt) ?_
  show own_Rch p e below _ T10 (mkF m 18 #[.val (.ref b), .val (.ref b2), .val (.int (2 : Int32))] [(.int (2 : Int32)), (.ref b), (.int (2 : Int32)), (.ref b2)])
  obtain ⟨cl12, Ar12, q12, S12, M12, H12, G12⟩ := id VB_x10
  have hin12 : ¬ ((2 : Int32) < 0 ∨ cl12.slots.size ≤ ((2 : Int32)).toNatClampNeg) := inb_of S12 ⟨by decide, by decide⟩
  refine own_st (X10.aaload hx (j := (2 : Int32)) (v := (.ref oo)) (by rw [e10]; exact Ar12.1) (State.isArrayOf_alike (hZ).alike Ar12.2.1) rfl Ar12.2.2 hin12 (H12.at hin12 rfl) (g := (mkF m 18 #[.val (.ref b), .val (.ref b2), .val (.int (2 : Int32))] [(.int (2 : Int32)), (.ref b), (.int (2 : Int32)), (.ref b2)])) rfl rfl (hb hby own_d20_18)) ?_
  show own_Rch p e below _ T10 (mkF m 19 #[.val (.ref b), .val (.ref b2), .val (.int (2 : Int32))] [(.ref oo), (.int (2 : Int32)), (.ref b2)])
  obtain ⟨_, _, ⟨T13, L13, k13, n13⟩, -, X13, ⟨Lc13, hQ13, l13, y13, z13⟩, st13⟩ := Jvm.LawKit.callS X10 hx (y := (⟨"java/util/Objects", "requireNonNull", "(Ljava/lang/Object;)Ljava/lang/Object;"⟩ : MethodName)) hown (mvT hZ (hw _ (List.mem_of_getElem? (i := 143) rfl))) (mvT hZ (hw _ (List.mem_of_getElem? (i := 144) rfl))) (mvT hZ (hw _ (List.mem_of_getElem? (i := 145) rfl))) (mvT hZ (hw _ (List.mem_of_getElem? (i := 146) rfl))) (by decide) (backOf (W := 2) (own_rnn l Z a0 hw [] oo h10 n0 O0_x10 ) hZ (hw _ (List.mem_of_getElem? (i := 146) rfl)) (hw _ (List.mem_of_getElem? (i := 145) rfl)) (by decide) (by decide)) (g := (mkF m 19 #[.val (.ref b), .val (.ref b2), .val (.int (2 : Int32))] [(.ref oo), (.int (2 : Int32)), (.ref b2)])) rfl (by rw [hml]; rfl) (argsL := [(.ref oo)]) (rest := [(.int (2 : Int32)), (.ref b2)]) (lenOf own_pd7 rfl) rfl (by show 2 * 0 + _ ≤ _; exact Nat.le_of_eq rfl) (hb hby own_d20_19) (fun _ _ => ⟨rfl, e10, (by decide : 1 + 0 ≤ _), (by decide : 3 + 0 ≤ _)⟩)
  dsimp only [Pt.U, Pt.locs, Pt.cells, Pt.slots] at X13 l13 y13 z13 st13 hQ13
  subst l13 y13 z13
  obtain ⟨rfl, N13q, hh13⟩ := hQ13
  have N13 := Fr.app N10 N13q
  refine own_st st13 ?_
  show own_Rch p e below _ T13 (mkF m 22 #[.val (.ref b), .val (.ref b2), .val (.int (2 : Int32))] [(.ref oo), (.int (2 : Int32)), (.ref b2)])
  obtain ⟨cl14, Ar14, q14, S14, M14, H14, G14⟩ := id V10s
  have hin14 : ¬ ((2 : Int32) < 0 ∨ cl14.slots.size ≤ ((2 : Int32)).toNatClampNeg) := inb_of S14 ⟨by decide, by decide⟩
  obtain ⟨T14, h14, X14, e14, W14, st14⟩ := stR X13 hx hZ hh13 Ar14 (j := (2 : Int32)) hin14 rfl (Sto.ofV Ar14 q14 Ov2 (Ins.of_exa (EO.ext O0_x10.2) (hw _ (List.mem_of_getElem? (i := 59) rfl)))) (g := (mkF m 22 #[.val (.ref b), .val (.ref b2), .val (.int (2 : Int32))] [(.ref oo), (.int (2 : Int32)), (.ref b2)])) rfl rfl (hb hby own_d20_22)
  have V14 := Arv.set Ar14 q14 S14 M14 H14 G14 rfl W14 2 rfl (Nat.le_of_ble_eq_true rfl)
  have V14s : Arv Z h14 b2 k2 (.object "java/lang/Object") (3 : Int32) [(.ref zz), (.ref zz), (.ref oo)] .null := V14
  have N14 := Fr.snoc X14 N13 ge2
  refine own_st st14 ?_
  have O0_x14 := O0_x10.wr W14 ge2
  have VB_x14 := VB_x10.other W14 ne2_b
  have K0_x14 := K0_x10.wr W14 (Or.inr sz2)
  have Ex2_x14 := Ex2_x10.wr W14
  show own_Rch p e below _ T14 (mkF m 23 #[.val (.ref b), .val (.ref b2), .val (.int (2 : Int32))] [])
  refine own_st (fun _ kt => XS.iinc X14.here hx rfl (hb hby own_d20_23) rfl (l' := #[.val (.ref b), .val (.ref b2), .val (.int (3 : Int32))]) rfl kt) ?_
  show own_Rch p e below _ T14 (mkF m 26 #[.val (.ref b), .val (.ref b2), .val (.int (3 : Int32))] [])
  refine own_st (fun _ kt => XS.goto X14.here hx rfl (pc0 := 26) (pc' := 8) rfl (hb hby own_d20_26) (by decide) (by decide) kt) ?_
  show own_Rch p e below _ T14 (mkF m 8 #[.val (.ref b), .val (.ref b2), .val (.int (3 : Int32))] [])
  refine own_st (fun _ kt => XS.iloadN X14.here hx rfl (hb hby own_d20_8) rfl  kt) ?_
  show own_Rch p e below _ T14 (mkF m 9 #[.val (.ref b), .val (.ref b2), .val (.int (3 : Int32))] [(.int (3 : Int32))])
  refine own_st (fun _ kt => XS.aloadN X14.here hx rfl (hb hby own_d20_9) rfl rfl  kt) ?_
  show own_Rch p e below _ T14 (mkF m 10 #[.val (.ref b), .val (.ref b2), .val (.int (3 : Int32))] [(.ref b), (.int (3 : Int32))])
  obtain ⟨cl15, Ar15, -, S15, M15, -, -⟩ := id VB_x14
  refine own_st (X14.arraylength hx (by rw [e14]; exact Ar15.1) (State.isArrayOf_alike (hZ).alike Ar15.2.1) (g := (mkF m 10 #[.val (.ref b), .val (.ref b2), .val (.int (3 : Int32))] [(.ref b), (.int (3 : Int32))])) rfl rfl (hb hby own_d20_10)) ?_
  rw [len_of S15 M15]
  show own_Rch p e below _ T14 (mkF m 11 #[.val (.ref b), .val (.ref b2), .val (.int (3 : Int32))] [(.int (3 : Int32)), (.int (3 : Int32))])
  refine own_st (fun _ kt => XS.icmpYes X14.here hx rfl (pc0 := 11) (pc' := 29) rfl (hb hby own_d20_11) rfl (flt ((by decide) : ¬ ((3 : Int32) < (3 : Int32)))).2.1 (by decide) (by decide) kt) ?_
  show own_Rch p e below _ T14 (mkF m 29 #[.val (.ref b), .val (.ref b2), .val (.int (3 : Int32))] [])
  obtain ⟨T16, h16, X16, e16, E16, A16, D16, U16, st16⟩ := newO X14 hx hZ hown (hw _ (List.mem_of_getElem? (i := 96) rfl)) (hw _ (List.mem_of_getElem? (i := 147) rfl)) (hw _ (List.mem_of_getElem? (i := 148) rfl)) e14 (g := (mkF m 29 #[.val (.ref b), .val (.ref b2), .val (.int (3 : Int32))] [])) rfl (hb hby own_d20_29) (by decide) (by decide)
  obtain ⟨b16, g16⟩ : ∃ z, z = h14.size := ⟨_, rfl⟩
  rw [← g16] at A16 D16 U16 st16
  have ge16 : n0 ≤ b16 := by rw [g16]; exact own_old_le O0_x14
  have ne16_b : b ≠ b16 := by rw [g16]; exact Nat.ne_of_lt VB_x14.lt
  have ne16_b2 : b2 ≠ b16 := by rw [g16]; exact Nat.ne_of_lt V14s.lt
  have sz16 : h0.size ≤ b16 := by rw [g16]; exact K0_x14.1
  have O0_x16 := O0_x14.ext E16
  have VB_x16 := VB_x14.ext E16
  have K0_x16 := K0_x14.ext E16
  have V14s_x16 := V14s.ext E16
  have Ex2_x16 := Ex2_x14.ext E16
  refine own_st st16 ?_
  have F16_elements : Fld Z h16 b16 "java/util/ImmutableCollections$ListN" "elements" "[Ljava/lang/Object;" .null := D16 (Or.inr (hw _ (List.mem_of_getElem? (i := 168) rfl))) (ty := (.array (.object "java/lang/Object"))) (by decide)
  have F16_allowNulls : Fld Z h16 b16 "java/util/ImmutableCollections$ListN" "allowNulls" "Z" (.int (0 : Int32)) := D16 (Or.inr (hw _ (List.mem_of_getElem? (i := 170) rfl))) (ty := .boolean) (by decide)
  show own_Rch p e below _ T16 (mkF m 32 #[.val (.ref b), .val (.ref b2), .val (.int (3 : Int32))] [(.ref b16)])
  refine own_st (fun _ kt => XS.dup X16.here hx rfl (hb hby own_d20_32) rfl rfl kt) ?_
  show own_Rch p e below _ T16 (mkF m 33 #[.val (.ref b), .val (.ref b2), .val (.int (3 : Int32))] [(.ref b16), (.ref b16)])
  refine own_st (fun _ kt => XS.aloadN X16.here hx rfl (hb hby own_d20_33) rfl rfl  kt) ?_
  show own_Rch p e below _ T16 (mkF m 34 #[.val (.ref b), .val (.ref b2), .val (.int (3 : Int32))] [(.ref b2), (.ref b16), (.ref b16)])
  refine own_st (fun _ kt => XS.iconst X16.here hx rfl (hb hby own_d20_34) kt) ?_
  show own_Rch p e below _ T16 (mkF m 35 #[.val (.ref b), .val (.ref b2), .val (.int (3 : Int32))] [(.int (0 : Int32)), (.ref b2), (.ref b16), (.ref b16)])
  obtain ⟨_, _, ⟨T17, L17, k17, n17⟩, -, X17, ⟨Lc17, hQ17, l17, y17, z17⟩, st17⟩ := X16.specialBackNest hx (y := (⟨"java/util/ImmutableCollections$ListN", "<init>", "([Ljava/lang/Object;Z)V"⟩ : MethodName)) rfl hown (own_mvMN hZ (hw _ (List.mem_of_getElem? (i := 149) rfl))) (mvT hZ (hw _ (List.mem_of_getElem? (i := 150) rfl))) (mvT hZ (hw _ (List.mem_of_getElem? (i := 152) rfl))) (by decide) (backOf (W := 1) (own_lni l Z a0 hw [] b16 b2 h16 n0 O0_x16 A16 F16_elements F16_allowNulls ge16) hZ (hw _ (List.mem_of_getElem? (i := 152) rfl)) (hw _ (List.mem_of_getElem? (i := 148) rfl)) (by decide) (by decide)) (g := (mkF m 35 #[.val (.ref b), .val (.ref b2), .val (.int (3 : Int32))] [(.int (0 : Int32)), (.ref b2), (.ref b16), (.ref b16)])) rfl (by rw [hml]; rfl) (Steps.refl _) (a := b16) (argsL := [(.ref b2), (.int (0 : Int32))]) (rest := [(.ref b16)]) (lenOf own_pd15 rfl) rfl (by show 2 * 0 + _ ≤ _; exact Nat.le_of_eq rfl) (hb hby own_d20_35) (fun _ _ => ⟨rfl, e16, (by decide : 2 + 0 ≤ _), (by decide : 5 + 0 ≤ _)⟩)
  dsimp only [Pt.U, Pt.locs, Pt.cells, Pt.slots] at X17 l17 y17 z17 st17 hQ17
  subst l17 y17 z17
  obtain ⟨rfl, N17q, K17, Eq17, Fq17⟩ := hQ17
  have N17 := Fr.app N14 N17q
  refine own_st (fun _ kt => st17.trans kt) ?_
  have O0_x17 := O0_x16.keep K17 (allS ge16 all0)
  have VB_x17 := VB_x16.keep K17 (ninS ne16_b nin0)
  have K0_x17 := K0_x16.trans K17 (allS (Or.inr sz16) all0)
  have V14s_x17 := V14s_x16.keep K17 (ninS ne16_b2 nin0)
  have Ex2_x17 := Ex2_x16.keep K17
  have A16_x17 := A16.keep K17
  show own_Rch p e below _ T17 (mkF m 38 #[.val (.ref b), .val (.ref b2), .val (.int (3 : Int32))] [(.ref b16)])
  refine own_retA rfl rfl X17 hx Bd.notSynchronized Bd.returns (hb hby own_d20_38) (by decide) (by decide) ?_
  exact ⟨_, rfl, N17, K0_x17, sz16, _, _, sz2, Eq17, Fq17, V14s_x17⟩
theorem own_d19_59 : decode jdk_40_method_47_code 59 = .ok (.aload_n 0, 1) := by decide +kernel
theorem own_d19_60 : decode jdk_40_method_47_code 60 = .ok (.invokestatic 109, 3) := by decide +kernel
theorem own_d19_63 : decode jdk_40_method_47_code 63 = .ok (.areturn, 1) := by decide +kernel
def own_Q_own_lof_3 (Z : State) (b : Addr) (kb : ClassId) (zz : Addr) (oo : Addr) (em : Addr) (h0 : Heap) (n0 : Nat) (v : Option Value) (h : Heap) (L : List Loc) : Prop := ∃ q : Addr, v = some (.ref q) ∧ Fr n0 L ∧ Keep h0 h [] ∧ h0.size ≤ q ∧ ∃ (r : Addr) (kr : ClassId), h0.size ≤ r ∧ Exa Z h q "java/util/ImmutableCollections$ListN" ∧ Fld Z h q "java/util/ImmutableCollections$ListN" "elements" "[Ljava/lang/Object;" (.ref r) ∧ Arv Z h r kr (.object "java/lang/Object") (3 : Int32) [(.ref zz), (.ref zz), (.ref oo)] .null
set_option maxRecDepth 65536 in
set_option maxHeartbeats 40000000 in
theorem own_lof_3 (l : Launch) (Z : State) (a0 : Array Value) (hw : ∀ d ∈ tables_1, d.before a0 Z = true) (ws : List Jvm.Cond) (b : Addr) (kb : ClassId) (zz : Addr) (oo : Addr) (em : Addr) (h0 : Heap) (n0 : Nat) (O0 : Old Z n0 h0) (VB : Arv Z h0 b kb (.object "java/lang/Object") (3 : Int32) [(.ref zz), (.ref zz), (.ref oo)] .null) (EZ : Exa Z Z.heap zz "java/math/BigDecimal") (EO : Exa Z Z.heap oo "java/math/BigDecimal") (SE : Sta Z Z.heap "java/util/ImmutableCollections" "EMPTY" "Ljava/lang/Object;" (.ref em)) :
    MetFree l (⟨"java/util/List", "of", "([Ljava/lang/Object;)Ljava/util/List;"⟩ : MethodName) (head1 (Jvm.Cond.code (⟨"java/util/List", "of", "([Ljava/lang/Object;)Ljava/util/List;"⟩ : MethodName) jdk_40_method_47_code 2 (some (.object "java/util/List")) :: ws) ({ frames := 6, cells := 2, slots := 5, locals := 77 } : Room)) (fun args_ U => args_ = #[(.ref b)] ∧ Z.Warmed39 U.vm ∧ U.heap = h0) (fun _ _ _ _ _ => True) (fun _ U o U' => ∃ v L, o = .returned v ∧ (own_Q_own_lof_3 Z b kb zz oo em h0 n0) v U'.heap L ∧ FrameEnd U o U' L ({ frames := 6, cells := 2, slots := 5, locals := 77 } : Room).cells ({ frames := 6, cells := 2, slots := 5, locals := 77 } : Room).slots) := by
  refine MetFree.of_bodySF (plainFor_of_name own_pn8) hisR ?_
  intro p e s m args below meth c s₁ Bd hml0 hP hK
  obtain ⟨rfl, hZ, hh⟩ := hP
  have hx := Bd.exec
  have hby := Bd.bytes
  have hml : c.maxLocals = 2 := hml0
  have hown : s.vm.findClass "java/util/List" = some m.cls := findClass_of_methodNamed Bd.named
  have hnm := (name_of_methodNamed Bd.named Bd.method).1
  have X0 : Stand p l e ({ frames := 6, cells := 2, slots := 5, locals := 77 } : Room) s m #[(.ref b)] below meth c s₁ [] 0 0 := Stand.of_body Bd
  have e0 : s₁.heap = h0 := by rw [← hh, Bd.state]; rfl
  have N0 := Fr.nil n0
  refine own_close (s := s) (Q := (own_Q_own_lof_3 Z b kb zz oo em h0 n0)) (C := (({ frames := 6, cells := 2, slots := 5, locals := 77 } : Room)).cells) (N := (({ frames := 6, cells := 2, slots := 5, locals := 77 } : Room)).slots) (own_st (fun _ kt => castTop (own_ef19 m b) kt) ?_)
  have K0 := Keep.refl h0 []
  show own_Rch p e below _ s₁ (mkF m 0 #[.val (.ref b), .unset] [])
  refine own_st (fun _ kt => XS.aloadN X0.here hx rfl (hb hby own_d19_0) rfl rfl  kt) ?_
  show own_Rch p e below _ s₁ (mkF m 1 #[.val (.ref b), .unset] [(.ref b)])
  obtain ⟨cl1, Ar1, -, S1, M1, -, -⟩ := id VB
  refine own_st (X0.arraylength hx (by rw [e0]; exact Ar1.1) (State.isArrayOf_alike (hZ).alike Ar1.2.1) (g := (mkF m 1 #[.val (.ref b), .unset] [(.ref b)])) rfl rfl (hb hby own_d19_1)) ?_
  rw [len_of S1 M1]
  show own_Rch p e below _ s₁ (mkF m 2 #[.val (.ref b), .unset] [(.int (3 : Int32))])
  refine own_st (fun _ kt => XS.tswOut X0.here hx rfl (pc0 := 2) (pc' := 59) rfl (hb hby own_d19_2) rfl (by decide) (by decide) (by decide) kt) ?_
  show own_Rch p e below _ s₁ (mkF m 59 #[.val (.ref b), .unset] [])
  refine own_st (fun _ kt => XS.aloadN X0.here hx rfl (hb hby own_d19_59) rfl rfl  kt) ?_
  show own_Rch p e below _ s₁ (mkF m 60 #[.val (.ref b), .unset] [(.ref b)])
  obtain ⟨_, _, ⟨T2, L2, k2, n2⟩, -, X2, ⟨Lc2, hQ2, l2, y2, z2⟩, st2⟩ := Jvm.LawKit.callS X0 hx (y := (⟨"java/util/ImmutableCollections", "listFromArray", "([Ljava/lang/Object;)Ljava/util/List;"⟩ : MethodName)) hown (mvT hZ (hw _ (List.mem_of_getElem? (i := 139) rfl))) (mvT hZ (hw _ (List.mem_of_getElem? (i := 140) rfl))) (mvT hZ (hw _ (List.mem_of_getElem? (i := 89) rfl))) (mvT hZ (hw _ (List.mem_of_getElem? (i := 141) rfl))) (by decide) (backOf (W := 0) (own_lfa_3 l Z a0 hw [] b kb zz oo em h0 n0 O0 VB EZ EO SE) hZ (hw _ (List.mem_of_getElem? (i := 141) rfl)) (hw _ (List.mem_of_getElem? (i := 89) rfl)) (by decide) (by decide)) (g := (mkF m 60 #[.val (.ref b), .unset] [(.ref b)])) rfl (by rw [hml]; rfl) (argsL := [(.ref b)]) (rest := []) (lenOf own_pd10 rfl) rfl (by show 2 * 0 + _ ≤ _; exact Nat.le_of_eq rfl) (hb hby own_d19_60) (fun _ _ => ⟨rfl, e0, (by decide : 0 + 2 ≤ _), (by decide : 0 + 5 ≤ _)⟩)
  dsimp only [Pt.U, Pt.locs, Pt.cells, Pt.slots] at X2 l2 y2 z2 st2 hQ2
  subst l2 y2 z2
  obtain ⟨ql2, rfl, N2q, K2, hq2, rq2, kq2, hr2, Eq2, Fq2, Vq2⟩ := hQ2
  have N2 := Fr.app N0 N2q
  refine own_st st2 ?_
  have ne2_b_ql2 : b ≠ ql2 := Nat.ne_of_lt (Nat.lt_of_lt_of_le VB.lt hq2)
  have ge2_ql2 : n0 ≤ ql2 := Nat.le_trans (own_old_le O0) hq2
  have sz2_ql2 : h0.size ≤ ql2 := Nat.le_trans K0.1 hq2
  have ne2_b_rq2 : b ≠ rq2 := Nat.ne_of_lt (Nat.lt_of_lt_of_le VB.lt hr2)
  have ge2_rq2 : n0 ≤ rq2 := Nat.le_trans (own_old_le O0) hr2
  have sz2_rq2 : h0.size ≤ rq2 := Nat.le_trans K0.1 hr2
  have O0_x2 := O0.keep K2 all0
  have VB_x2 := VB.keep K2 nin0
  have K0_x2 := K0.trans K2 all0
  show own_Rch p e below _ T2 (mkF m 63 #[.val (.ref b), .unset] [(.ref ql2)])
  refine own_retA rfl rfl X2 hx Bd.notSynchronized Bd.returns (hb hby own_d19_63) (by decide) (by decide) ?_
  exact ⟨_, rfl, N2, K0_x2, sz2_ql2, _, _, sz2_rq2, Eq2, Fq2, Vq2⟩
def own_Q_own_lcopy_3 (Z : State) (a : Addr) (b : Addr) (kb : ClassId) (mr : Addr) (zz : Addr) (oo : Addr) (em : Addr) (h0 : Heap) (n0 : Nat) (v : Option Value) (h : Heap) (L : List Loc) : Prop := ∃ q : Addr, v = some (.ref q) ∧ Fr n0 L ∧ Keep h0 h [] ∧ h0.size ≤ q ∧ ∃ (r : Addr) (kr : ClassId), h0.size ≤ r ∧ Exa Z h q "java/util/ImmutableCollections$ListN" ∧ Fld Z h q "java/util/ImmutableCollections$ListN" "elements" "[Ljava/lang/Object;" (.ref r) ∧ Arv Z h r kr (.object "java/lang/Object") (3 : Int32) [(.ref zz), (.ref zz), (.ref oo)] .null
set_option maxRecDepth 65536 in
set_option maxHeartbeats 40000000 in
theorem own_lcopy_3 (l : Launch) (Z : State) (a0 : Array Value) (hw : ∀ d ∈ tables_1, d.before a0 Z = true) (ws : List Jvm.Cond) (a : Addr) (b : Addr) (kb : ClassId) (mr : Addr) (zz : Addr) (oo : Addr) (em : Addr) (h0 : Heap) (n0 : Nat) (O0 : Old Z n0 h0) (EA : Exa Z h0 a "java/util/ArrayList") (FE : Fld Z h0 a "java/util/ArrayList" "elementData" "[Ljava/lang/Object;" (.ref b)) (FZ : Fld Z h0 a "java/util/ArrayList" "size" "I" (.int (3 : Int32))) (FM : Fld Z h0 a "java/util/AbstractList" "modCount" "I" (.int (3 : Int32))) (EB : Exa Z h0 b "[Ljava/lang/Object;") (VB : Arv Z h0 b kb (.object "java/lang/Object") (10 : Int32) [(.ref zz), (.ref zz), (.ref oo), .null, .null, .null, .null, .null, .null, .null] .null) (EZ : Exa Z Z.heap zz "java/math/BigDecimal") (EO : Exa Z Z.heap oo "java/math/BigDecimal") (MR : own_Mir Z "[Ljava/lang/Object;" mr) (SE : Sta Z Z.heap "java/util/ImmutableCollections" "EMPTY" "Ljava/lang/Object;" (.ref em)) :
    MetFree l (⟨"java/util/ImmutableCollections", "listCopy", "(Ljava/util/Collection;)Ljava/util/List;"⟩ : MethodName) (head1 (Jvm.Cond.code (⟨"java/util/ImmutableCollections", "listCopy", "(Ljava/util/Collection;)Ljava/util/List;"⟩ : MethodName) jdk_56_method_3_code 2 (some (.object "java/util/List")) :: ws) ({ frames := 7, cells := 3, slots := 8, locals := 90 } : Room)) (fun args_ U => args_ = #[(.ref a)] ∧ Z.Warmed39 U.vm ∧ U.heap = h0) (fun _ _ _ _ _ => True) (fun _ U o U' => ∃ v L, o = .returned v ∧ (own_Q_own_lcopy_3 Z a b kb mr zz oo em h0 n0) v U'.heap L ∧ FrameEnd U o U' L ({ frames := 7, cells := 3, slots := 8, locals := 90 } : Room).cells ({ frames := 7, cells := 3, slots := 8, locals := 90 } : Room).slots) := by
  refine MetFree.of_bodySF (plainFor_of_name own_pn9) hisR ?_
  intro p e s m args below meth c s₁ Bd hml0 hP hK
  obtain ⟨rfl, hZ, hh⟩ := hP
  have hx := Bd.exec
  have hby := Bd.bytes
  have hml : c.maxLocals = 2 := hml0
  have hown : s.vm.findClass "java/util/ImmutableCollections" = some m.cls := findClass_of_methodNamed Bd.named
  have hnm := (name_of_methodNamed Bd.named Bd.method).1
  have X0 : Stand p l e ({ frames := 7, cells := 3, slots := 8, locals := 90 } : Room) s m #[(.ref a)] below meth c s₁ [] 0 0 := Stand.of_body Bd
  have e0 : s₁.heap = h0 := by rw [← hh, Bd.state]; rfl
  have N0 := Fr.nil n0
  refine own_close (s := s) (Q := (own_Q_own_lcopy_3 Z a b kb mr zz oo em h0 n0)) (C := (({ frames := 7, cells := 3, slots := 8, locals := 90 } : Room)).cells) (N := (({ frames := 7, cells := 3, slots := 8, locals := 90 } : Room)).slots) (own_st (fun _ kt => castTop (own_ef13 m a) kt) ?_)
  have K0 := Keep.refl h0 []
  show own_Rch p e below _ s₁ (mkF m 0 #[.val (.ref a), .unset] [])
  refine own_st (fun _ kt => XS.aloadN X0.here hx rfl (hb hby own_d13_0) rfl rfl  kt) ?_
  show own_Rch p e below _ s₁ (mkF m 1 #[.val (.ref a), .unset] [(.ref a)])
  obtain ⟨T1, X1, e1, st1⟩ := instNo X0 hx hZ hown (hw _ (List.mem_of_getElem? (i := 91) rfl)) e0 EA (own_nsno (hw _ (List.mem_of_getElem? (i := 92) rfl)) (hw _ (List.mem_of_getElem? (i := 197) rfl)) (NS.step (hw _ (List.mem_of_getElem? (i := 92) rfl)) (NS.step (hw _ (List.mem_of_getElem? (i := 93) rfl)) (NS.step (hw _ (List.mem_of_getElem? (i := 94) rfl)) (own_nsroot (hw _ (List.mem_of_getElem? (i := 95) rfl)) (hw _ (List.mem_of_getElem? (i := 197) rfl)) (by decide)) (by decide)) (by decide)) (by decide)) (by decide)) (g := (mkF m 1 #[.val (.ref a), .unset] [(.ref a)])) rfl rfl (hb hby own_d13_1)
  refine own_st st1 ?_
  show own_Rch p e below _ T1 (mkF m 4 #[.val (.ref a), .unset] [(.int (0 : Int32))])
  refine own_st (fun _ kt => XS.ifNo X1.here hx rfl (hb hby own_d13_4) rfl ((if0 _ _).trans (teq (rfl : (0 : Int32) = (0 : Int32))).2) kt) ?_
  show own_Rch p e below _ T1 (mkF m 7 #[.val (.ref a), .unset] [])
  refine own_st (fun _ kt => XS.aloadN X1.here hx rfl (hb hby own_d13_7) rfl rfl  kt) ?_
  show own_Rch p e below _ T1 (mkF m 8 #[.val (.ref a), .unset] [(.ref a)])
  obtain ⟨T2, X2, e2, st2⟩ := instNo X1 hx hZ hown (hw _ (List.mem_of_getElem? (i := 96) rfl)) e1 EA (own_nsno (hw _ (List.mem_of_getElem? (i := 92) rfl)) (hw _ (List.mem_of_getElem? (i := 147) rfl)) (NS.step (hw _ (List.mem_of_getElem? (i := 92) rfl)) (NS.step (hw _ (List.mem_of_getElem? (i := 93) rfl)) (NS.step (hw _ (List.mem_of_getElem? (i := 94) rfl)) (own_nsroot (hw _ (List.mem_of_getElem? (i := 95) rfl)) (hw _ (List.mem_of_getElem? (i := 147) rfl)) (by decide)) (by decide)) (by decide)) (by decide)) (by decide)) (g := (mkF m 8 #[.val (.ref a), .unset] [(.ref a)])) rfl rfl (hb hby own_d13_8)
  refine own_st st2 ?_
  show own_Rch p e below _ T2 (mkF m 11 #[.val (.ref a), .unset] [(.int (0 : Int32))])
  refine own_st (fun _ kt => XS.ifYes X2.here hx rfl (pc0 := 11) (pc' := 31) rfl (hb hby own_d13_11) rfl ((if0 _ _).trans (teq (rfl : (0 : Int32) = (0 : Int32))).1) (by decide) (by decide) kt) ?_
  show own_Rch p e below _ T2 (mkF m 31 #[.val (.ref a), .unset] [])
  refine own_st (fun _ kt => XS.aloadN X2.here hx rfl (hb hby own_d13_31) rfl rfl  kt) ?_
  show own_Rch p e below _ T2 (mkF m 32 #[.val (.ref a), .unset] [(.ref a)])
  obtain ⟨cq3, kq3, q3a, q3b, q3c⟩ := isOf hZ e2 EA
  obtain ⟨_, _, ⟨T3, L3, k3, n3⟩, -, X3, ⟨Lc3, hQ3, l3, y3, z3⟩, st3⟩ := X2.interfaceBack hx (xi := (⟨"java/util/Collection", "isEmpty", "()Z"⟩ : MethodName)) (y := (⟨"java/util/ArrayList", "isEmpty", "()Z"⟩ : MethodName)) hown (mvT hZ (hw _ (List.mem_of_getElem? (i := 97) rfl))) (mvT hZ (hw _ (List.mem_of_getElem? (i := 98) rfl))) (mvT hZ (hw _ (List.mem_of_getElem? (i := 99) rfl))) (mvT hZ (hw _ (List.mem_of_getElem? (i := 100) rfl))) (mvT hZ (hw _ (List.mem_of_getElem? (i := 101) rfl))) (mvT hZ (hw _ (List.mem_of_getElem? (i := 102) rfl))) (mvT hZ (hw _ (List.mem_of_getElem? (i := 103) rfl))) (mvT hZ (hw _ (List.mem_of_getElem? (i := 104) rfl))) (by decide) (backOf (W := 0) (own_isempty l Z a0 hw [] a (3 : Int32) h0 n0 O0 FZ (by decide)) hZ (hw _ (List.mem_of_getElem? (i := 105) rfl)) (hw _ (List.mem_of_getElem? (i := 3) rfl)) (by decide) (by decide)) q3a q3b q3c (g := (mkF m 32 #[.val (.ref a), .unset] [(.ref a)])) rfl (by rw [hml]; rfl) (Steps.refl _) (argsL := []) (rest := []) (lenOf own_pd9 rfl) rfl (by show 2 * 0 + _ ≤ _; exact Nat.le_of_eq rfl) (hb hby own_d13_32) (fun _ _ => ⟨rfl, e2, (by decide : 0 + 0 ≤ _), (by decide : 0 + 0 ≤ _)⟩)
  dsimp only [Pt.U, Pt.locs, Pt.cells, Pt.slots] at X3 l3 y3 z3 st3 hQ3
  subst l3 y3 z3
  obtain ⟨rfl, N3q, hh3⟩ := hQ3
  have N3 := Fr.app N0 N3q
  refine own_st (fun _ kt => st3.trans kt) ?_
  show own_Rch p e below _ T3 (mkF m 37 #[.val (.ref a), .unset] [(.int (0 : Int32))])
  refine own_st (fun _ kt => XS.ifYes X3.here hx rfl (pc0 := 37) (pc' := 44) rfl (hb hby own_d13_37) rfl ((if0 _ _).trans (teq (rfl : (0 : Int32) = (0 : Int32))).1) (by decide) (by decide) kt) ?_
  show own_Rch p e below _ T3 (mkF m 44 #[.val (.ref a), .unset] [])
  refine own_st (fun _ kt => XS.aloadN X3.here hx rfl (hb hby own_d13_44) rfl rfl  kt) ?_
  show own_Rch p e below _ T3 (mkF m 45 #[.val (.ref a), .unset] [(.ref a)])
  obtain ⟨cq4, kq4, q4a, q4b, q4c⟩ := isOf hZ hh3 EA
  obtain ⟨_, _, ⟨T4, L4, k4, n4⟩, -, X4, ⟨Lc4, hQ4, l4, y4, z4⟩, st4⟩ := X3.interfaceBack hx (xi := (⟨"java/util/Collection", "toArray", "()[Ljava/lang/Object;"⟩ : MethodName)) (y := (⟨"java/util/ArrayList", "toArray", "()[Ljava/lang/Object;"⟩ : MethodName)) hown (mvT hZ (hw _ (List.mem_of_getElem? (i := 106) rfl))) (mvT hZ (hw _ (List.mem_of_getElem? (i := 107) rfl))) (mvT hZ (hw _ (List.mem_of_getElem? (i := 108) rfl))) (mvT hZ (hw _ (List.mem_of_getElem? (i := 109) rfl))) (mvT hZ (hw _ (List.mem_of_getElem? (i := 110) rfl))) (mvT hZ (hw _ (List.mem_of_getElem? (i := 111) rfl))) (mvT hZ (hw _ (List.mem_of_getElem? (i := 112) rfl))) (mvT hZ (hw _ (List.mem_of_getElem? (i := 104) rfl))) (by decide) (backOf (W := 0) (own_toarr_3 l Z a0 hw [] a b kb mr zz oo h0 n0 O0 EA FE FZ FM EB VB EZ EO MR) hZ (hw _ (List.mem_of_getElem? (i := 113) rfl)) (hw _ (List.mem_of_getElem? (i := 3) rfl)) (by decide) (by decide)) q4a q4b q4c (g := (mkF m 45 #[.val (.ref a), .unset] [(.ref a)])) rfl (by rw [hml]; rfl) (Steps.refl _) (argsL := []) (rest := []) (lenOf own_pd3 rfl) rfl (by show 2 * 0 + _ ≤ _; exact Nat.le_of_eq rfl) (hb hby own_d13_45) (fun _ _ => ⟨rfl, hh3, (by decide : 0 + 1 ≤ _), (by decide : 0 + 3 ≤ _)⟩)
  dsimp only [Pt.U, Pt.locs, Pt.cells, Pt.slots] at X4 l4 y4 z4 st4 hQ4
  subst l4 y4 z4
  obtain ⟨br4, kr4, rfl, N4q, K4, hb4, Er4, Vr4, Or4⟩ := hQ4
  have N4 := Fr.app N3 N4q
  refine own_st (fun _ kt => st4.trans kt) ?_
  have ne4_a_br4 : a ≠ br4 := Nat.ne_of_lt (Nat.lt_of_lt_of_le EA.lt hb4)
  have ne4_b_br4 : b ≠ br4 := Nat.ne_of_lt (Nat.lt_of_lt_of_le EB.lt hb4)
  have ge4_br4 : n0 ≤ br4 := Nat.le_trans (own_old_le O0) hb4
  have sz4_br4 : h0.size ≤ br4 := Nat.le_trans K0.1 hb4
  have O0_x4 := O0.keep K4 all0
  have EA_x4 := EA.keep K4
  have FE_x4 := FE.keep K4 nin0
  have FZ_x4 := FZ.keep K4 nin0
  have FM_x4 := FM.keep K4 nin0
  have EB_x4 := EB.keep K4
  have VB_x4 := VB.keep K4 nin0
  have K0_x4 := K0.trans K4 all0
  show own_Rch p e below _ T4 (mkF m 50 #[.val (.ref a), .unset] [(.ref br4)])
  obtain ⟨_, _, ⟨T5, L5, k5, n5⟩, -, X5, ⟨Lc5, hQ5, l5, y5, z5⟩, st5⟩ := Jvm.LawKit.callS X4 hx (y := (⟨"java/util/List", "of", "([Ljava/lang/Object;)Ljava/util/List;"⟩ : MethodName)) hown (mvT hZ (hw _ (List.mem_of_getElem? (i := 136) rfl))) (mvT hZ (hw _ (List.mem_of_getElem? (i := 137) rfl))) (mvT hZ (hw _ (List.mem_of_getElem? (i := 85) rfl))) (mvT hZ (hw _ (List.mem_of_getElem? (i := 138) rfl))) (by decide) (backOf (W := 0) (own_lof_3 l Z a0 hw [] br4 kr4 zz oo em T4.heap n0 O0_x4 Vr4 EZ EO SE) hZ (hw _ (List.mem_of_getElem? (i := 138) rfl)) (hw _ (List.mem_of_getElem? (i := 85) rfl)) (by decide) (by decide)) (g := (mkF m 50 #[.val (.ref a), .unset] [(.ref br4)])) rfl (by rw [hml]; rfl) (argsL := [(.ref br4)]) (rest := []) (lenOf own_pd10 rfl) rfl (by show 2 * 0 + _ ≤ _; exact Nat.le_of_eq rfl) (hb hby own_d13_50) (fun _ _ => ⟨rfl, rfl, (by decide : 1 + 2 ≤ _), (by decide : 3 + 5 ≤ _)⟩)
  dsimp only [Pt.U, Pt.locs, Pt.cells, Pt.slots] at X5 l5 y5 z5 st5 hQ5
  subst l5 y5 z5
  obtain ⟨ql5, rfl, N5q, K5, hq5, rq5, kq5, hr5, Eq5, Fq5, Vq5⟩ := hQ5
  have N5 := Fr.app N4 N5q
  refine own_st st5 ?_
  have ne5_a_ql5 : a ≠ ql5 := Nat.ne_of_lt (Nat.lt_of_lt_of_le EA_x4.lt hq5)
  have ne5_b_ql5 : b ≠ ql5 := Nat.ne_of_lt (Nat.lt_of_lt_of_le EB_x4.lt hq5)
  have ne5_br4_ql5 : br4 ≠ ql5 := Nat.ne_of_lt (Nat.lt_of_lt_of_le Er4.lt hq5)
  have ge5_ql5 : n0 ≤ ql5 := Nat.le_trans (own_old_le O0_x4) hq5
  have sz5_ql5 : h0.size ≤ ql5 := Nat.le_trans K0_x4.1 hq5
  have ne5_a_rq5 : a ≠ rq5 := Nat.ne_of_lt (Nat.lt_of_lt_of_le EA_x4.lt hr5)
  have ne5_b_rq5 : b ≠ rq5 := Nat.ne_of_lt (Nat.lt_of_lt_of_le EB_x4.lt hr5)
  have ne5_br4_rq5 : br4 ≠ rq5 := Nat.ne_of_lt (Nat.lt_of_lt_of_le Er4.lt hr5)
  have ge5_rq5 : n0 ≤ rq5 := Nat.le_trans (own_old_le O0_x4) hr5
  have sz5_rq5 : h0.size ≤ rq5 := Nat.le_trans K0_x4.1 hr5
  have O0_x5 := O0_x4.keep K5 all0
  have EA_x5 := EA_x4.keep K5
  have FE_x5 := FE_x4.keep K5 nin0
  have FZ_x5 := FZ_x4.keep K5 nin0
  have FM_x5 := FM_x4.keep K5 nin0
  have EB_x5 := EB_x4.keep K5
  have VB_x5 := VB_x4.keep K5 nin0
  have K0_x5 := K0_x4.trans K5 all0
  have Er4_x5 := Er4.keep K5
  have Vr4_x5 := Vr4.keep K5 nin0
  show own_Rch p e below _ T5 (mkF m 53 #[.val (.ref a), .unset] [(.ref ql5)])
  refine own_retA rfl rfl X5 hx Bd.notSynchronized Bd.returns (hb hby own_d13_53) (by decide) (by decide) ?_
  exact ⟨_, rfl, N5, K0_x5, sz5_ql5, _, _, sz5_rq5, Eq5, Fq5, Vq5⟩
def own_Q_own_cof_3 (Z : State) (a : Addr) (b : Addr) (kb : ClassId) (mr : Addr) (zz : Addr) (oo : Addr) (em : Addr) (h0 : Heap) (n0 : Nat) (v : Option Value) (h : Heap) (L : List Loc) : Prop := ∃ q : Addr, v = some (.ref q) ∧ Fr n0 L ∧ Keep h0 h [] ∧ h0.size ≤ q ∧ ∃ (r : Addr) (kr : ClassId), h0.size ≤ r ∧ Exa Z h q "java/util/ImmutableCollections$ListN" ∧ Fld Z h q "java/util/ImmutableCollections$ListN" "elements" "[Ljava/lang/Object;" (.ref r) ∧ Arv Z h r kr (.object "java/lang/Object") (3 : Int32) [(.ref zz), (.ref zz), (.ref oo)] .null
set_option maxRecDepth 65536 in
set_option maxHeartbeats 40000000 in
theorem own_cof_3 (l : Launch) (Z : State) (a0 : Array Value) (hw : ∀ d ∈ tables_1, d.before a0 Z = true) (ws : List Jvm.Cond) (a : Addr) (b : Addr) (kb : ClassId) (mr : Addr) (zz : Addr) (oo : Addr) (em : Addr) (h0 : Heap) (n0 : Nat) (O0 : Old Z n0 h0) (EA : Exa Z h0 a "java/util/ArrayList") (FE : Fld Z h0 a "java/util/ArrayList" "elementData" "[Ljava/lang/Object;" (.ref b)) (FZ : Fld Z h0 a "java/util/ArrayList" "size" "I" (.int (3 : Int32))) (FM : Fld Z h0 a "java/util/AbstractList" "modCount" "I" (.int (3 : Int32))) (EB : Exa Z h0 b "[Ljava/lang/Object;") (VB : Arv Z h0 b kb (.object "java/lang/Object") (10 : Int32) [(.ref zz), (.ref zz), (.ref oo), .null, .null, .null, .null, .null, .null, .null] .null) (EZ : Exa Z Z.heap zz "java/math/BigDecimal") (EO : Exa Z Z.heap oo "java/math/BigDecimal") (MR : own_Mir Z "[Ljava/lang/Object;" mr) (SE : Sta Z Z.heap "java/util/ImmutableCollections" "EMPTY" "Ljava/lang/Object;" (.ref em)) :
    MetFree l (⟨"java/util/List", "copyOf", "(Ljava/util/Collection;)Ljava/util/List;"⟩ : MethodName) (head1 (Jvm.Cond.code (⟨"java/util/List", "copyOf", "(Ljava/util/Collection;)Ljava/util/List;"⟩ : MethodName) jdk_40_method_48_code 1 (some (.object "java/util/List")) :: ws) ({ frames := 8, cells := 3, slots := 8, locals := 103 } : Room)) (fun args_ U => args_ = #[(.ref a)] ∧ Z.Warmed39 U.vm ∧ U.heap = h0) (fun _ _ _ _ _ => True) (fun _ U o U' => ∃ v L, o = .returned v ∧ (own_Q_own_cof_3 Z a b kb mr zz oo em h0 n0) v U'.heap L ∧ FrameEnd U o U' L ({ frames := 8, cells := 3, slots := 8, locals := 103 } : Room).cells ({ frames := 8, cells := 3, slots := 8, locals := 103 } : Room).slots) := by
  refine MetFree.of_bodySF (plainFor_of_name own_pn8) hisR ?_
  intro p e s m args below meth c s₁ Bd hml0 hP hK
  obtain ⟨rfl, hZ, hh⟩ := hP
  have hx := Bd.exec
  have hby := Bd.bytes
  have hml : c.maxLocals = 1 := hml0
  have hown : s.vm.findClass "java/util/List" = some m.cls := findClass_of_methodNamed Bd.named
  have hnm := (name_of_methodNamed Bd.named Bd.method).1
  have X0 : Stand p l e ({ frames := 8, cells := 3, slots := 8, locals := 103 } : Room) s m #[(.ref a)] below meth c s₁ [] 0 0 := Stand.of_body Bd
  have e0 : s₁.heap = h0 := by rw [← hh, Bd.state]; rfl
  have N0 := Fr.nil n0
  refine own_close (s := s) (Q := (own_Q_own_cof_3 Z a b kb mr zz oo em h0 n0)) (C := (({ frames := 8, cells := 3, slots := 8, locals := 103 } : Room)).cells) (N := (({ frames := 8, cells := 3, slots := 8, locals := 103 } : Room)).slots) (own_st (fun _ kt => castTop (own_ef12 m a) kt) ?_)
  have K0 := Keep.refl h0 []
  show own_Rch p e below _ s₁ (mkF m 0 #[.val (.ref a)] [])
  refine own_st (fun _ kt => XS.aloadN X0.here hx rfl (hb hby own_d12_0) rfl rfl  kt) ?_
  show own_Rch p e below _ s₁ (mkF m 1 #[.val (.ref a)] [(.ref a)])
  obtain ⟨_, _, ⟨T1, L1, k1, n1⟩, -, X1, ⟨Lc1, hQ1, l1, y1, z1⟩, st1⟩ := Jvm.LawKit.callS X0 hx (y := (⟨"java/util/ImmutableCollections", "listCopy", "(Ljava/util/Collection;)Ljava/util/List;"⟩ : MethodName)) hown (mvT hZ (hw _ (List.mem_of_getElem? (i := 87) rfl))) (mvT hZ (hw _ (List.mem_of_getElem? (i := 88) rfl))) (mvT hZ (hw _ (List.mem_of_getElem? (i := 89) rfl))) (mvT hZ (hw _ (List.mem_of_getElem? (i := 90) rfl))) (by decide) (backOf (W := 0) (own_lcopy_3 l Z a0 hw [] a b kb mr zz oo em h0 n0 O0 EA FE FZ FM EB VB EZ EO MR SE) hZ (hw _ (List.mem_of_getElem? (i := 90) rfl)) (hw _ (List.mem_of_getElem? (i := 89) rfl)) (by decide) (by decide)) (g := (mkF m 1 #[.val (.ref a)] [(.ref a)])) rfl (by rw [hml]; rfl) (argsL := [(.ref a)]) (rest := []) (lenOf own_pd11 rfl) rfl (by show 2 * 0 + _ ≤ _; exact Nat.le_of_eq rfl) (hb hby own_d12_1) (fun _ _ => ⟨rfl, e0, (by decide : 0 + 3 ≤ _), (by decide : 0 + 8 ≤ _)⟩)
  dsimp only [Pt.U, Pt.locs, Pt.cells, Pt.slots] at X1 l1 y1 z1 st1 hQ1
  subst l1 y1 z1
  obtain ⟨ql1, rfl, N1q, K1, hq1, rq1, kq1, hr1, Eq1, Fq1, Vq1⟩ := hQ1
  have N1 := Fr.app N0 N1q
  refine own_st st1 ?_
  have ne1_a_ql1 : a ≠ ql1 := Nat.ne_of_lt (Nat.lt_of_lt_of_le EA.lt hq1)
  have ne1_b_ql1 : b ≠ ql1 := Nat.ne_of_lt (Nat.lt_of_lt_of_le EB.lt hq1)
  have ge1_ql1 : n0 ≤ ql1 := Nat.le_trans (own_old_le O0) hq1
  have sz1_ql1 : h0.size ≤ ql1 := Nat.le_trans K0.1 hq1
  have ne1_a_rq1 : a ≠ rq1 := Nat.ne_of_lt (Nat.lt_of_lt_of_le EA.lt hr1)
  have ne1_b_rq1 : b ≠ rq1 := Nat.ne_of_lt (Nat.lt_of_lt_of_le EB.lt hr1)
  have ge1_rq1 : n0 ≤ rq1 := Nat.le_trans (own_old_le O0) hr1
  have sz1_rq1 : h0.size ≤ rq1 := Nat.le_trans K0.1 hr1
  have O0_x1 := O0.keep K1 all0
  have EA_x1 := EA.keep K1
  have FE_x1 := FE.keep K1 nin0
  have FZ_x1 := FZ.keep K1 nin0
  have FM_x1 := FM.keep K1 nin0
  have EB_x1 := EB.keep K1
  have VB_x1 := VB.keep K1 nin0
  have K0_x1 := K0.trans K1 all0
  show own_Rch p e below _ T1 (mkF m 4 #[.val (.ref a)] [(.ref ql1)])
  refine own_retA rfl rfl X1 hx Bd.notSynchronized Bd.returns (hb hby own_d12_4) (by decide) (by decide) ?_
  exact ⟨_, rfl, N1, K0_x1, sz1_ql1, _, _, sz1_rq1, Eq1, Fq1, Vq1⟩
def own_Q_own_mt5_3 (Z : State) (x : Addr) (sr : Addr) (pa : Int32) (a : Addr) (b : Addr) (kb : ClassId) (mr : Addr) (zz : Addr) (oo : Addr) (em : Addr) (h0 : Heap) (n0 : Nat) (v : Option Value) (h : Heap) (L : List Loc) : Prop := v = none ∧ Fr n0 L ∧ Keep h0 h [x] ∧ ∃ q : Addr, Exa Z h x "com/example/makewhole/makewhole/mortality/MortalityTable" ∧ Fld Z h x "com/example/makewhole/makewhole/mortality/MortalityTable" "firstAge" "I" (.int pa) ∧ Fld Z h x "com/example/makewhole/makewhole/mortality/MortalityTable" "qx" "Ljava/util/List;" (.ref q) ∧ h0.size ≤ q ∧ ∃ (r : Addr) (kr : ClassId), h0.size ≤ r ∧ Exa Z h q "java/util/ImmutableCollections$ListN" ∧ Fld Z h q "java/util/ImmutableCollections$ListN" "elements" "[Ljava/lang/Object;" (.ref r) ∧ Arv Z h r kr (.object "java/lang/Object") (3 : Int32) [(.ref zz), (.ref zz), (.ref oo)] .null
set_option maxRecDepth 65536 in
set_option maxHeartbeats 40000000 in
theorem own_mt5_3 (l : Launch) (Z : State) (a0 : Array Value) (hw : ∀ d ∈ tables_1, d.before a0 Z = true) (ws : List Jvm.Cond) (x : Addr) (sr : Addr) (pa : Int32) (a : Addr) (b : Addr) (kb : ClassId) (mr : Addr) (zz : Addr) (oo : Addr) (em : Addr) (h0 : Heap) (n0 : Nat) (O0 : Old Z n0 h0) (EA : Exa Z h0 a "java/util/ArrayList") (FE : Fld Z h0 a "java/util/ArrayList" "elementData" "[Ljava/lang/Object;" (.ref b)) (FZ : Fld Z h0 a "java/util/ArrayList" "size" "I" (.int (3 : Int32))) (FM : Fld Z h0 a "java/util/AbstractList" "modCount" "I" (.int (3 : Int32))) (EB : Exa Z h0 b "[Ljava/lang/Object;") (VB : Arv Z h0 b kb (.object "java/lang/Object") (10 : Int32) [(.ref zz), (.ref zz), (.ref oo), .null, .null, .null, .null, .null, .null, .null] .null) (EZ : Exa Z Z.heap zz "java/math/BigDecimal") (EO : Exa Z Z.heap oo "java/math/BigDecimal") (MR : own_Mir Z "[Ljava/lang/Object;" mr) (SE : Sta Z Z.heap "java/util/ImmutableCollections" "EMPTY" "Ljava/lang/Object;" (.ref em)) (EX : Exa Z h0 x "com/example/makewhole/makewhole/mortality/MortalityTable") (G0 : Fld Z h0 x "com/example/makewhole/makewhole/mortality/MortalityTable" "source" "Ljava/lang/String;" .null) (G1 : Fld Z h0 x "com/example/makewhole/makewhole/mortality/MortalityTable" "firstAge" "I" (.int (0 : Int32))) (G2 : Fld Z h0 x "com/example/makewhole/makewhole/mortality/MortalityTable" "qx" "Ljava/util/List;" .null) (G3 : Fld Z h0 x "com/example/makewhole/makewhole/mortality/MortalityTable" "publishedName" "Ljava/lang/String;" .null) (G4 : Fld Z h0 x "com/example/makewhole/makewhole/mortality/MortalityTable" "publishedIdentity" "Ljava/lang/String;" .null) (gx : n0 ≤ x) (hxa : a ≠ x) (hxb : b ≠ x) :
    MetFree l (⟨"com/example/makewhole/makewhole/mortality/MortalityTable", "<init>", "(Ljava/lang/String;ILjava/util/List;Ljava/lang/String;Ljava/lang/String;)V"⟩ : MethodName) (head1 (Jvm.Cond.code (⟨"com/example/makewhole/makewhole/mortality/MortalityTable", "<init>", "(Ljava/lang/String;ILjava/util/List;Ljava/lang/String;Ljava/lang/String;)V"⟩ : MethodName) prog_36_method_2_code 6 none :: ws) ({ frames := 9, cells := 3, slots := 8, locals := 116 } : Room)) (fun args_ U => args_ = #[(.ref x), (.ref sr), (.int pa), (.ref a), .null, .null] ∧ Z.Warmed39 U.vm ∧ U.heap = h0) (fun _ _ _ _ _ => True) (fun _ U o U' => ∃ v L, o = .returned v ∧ (own_Q_own_mt5_3 Z x sr pa a b kb mr zz oo em h0 n0) v U'.heap L ∧ FrameEnd U o U' L ({ frames := 9, cells := 3, slots := 8, locals := 116 } : Room).cells ({ frames := 9, cells := 3, slots := 8, locals := 116 } : Room).slots) := by
  refine MetFree.of_bodySF (plainFor_of_name own_pn10) hisR ?_
  intro p e s m args below meth c s₁ Bd hml0 hP hK
  obtain ⟨rfl, hZ, hh⟩ := hP
  have hx := Bd.exec
  have hby := Bd.bytes
  have hml : c.maxLocals = 6 := hml0
  have hown : s.vm.findClass "com/example/makewhole/makewhole/mortality/MortalityTable" = some m.cls := findClass_of_methodNamed Bd.named
  have hnm := (name_of_methodNamed Bd.named Bd.method).1
  have X0 : Stand p l e ({ frames := 9, cells := 3, slots := 8, locals := 116 } : Room) s m #[(.ref x), (.ref sr), (.int pa), (.ref a), .null, .null] below meth c s₁ [] 0 0 := Stand.of_body Bd
  have e0 : s₁.heap = h0 := by rw [← hh, Bd.state]; rfl
  have N0 := Fr.nil n0
  refine own_close (s := s) (Q := (own_Q_own_mt5_3 Z x sr pa a b kb mr zz oo em h0 n0)) (C := (({ frames := 9, cells := 3, slots := 8, locals := 116 } : Room)).cells) (N := (({ frames := 9, cells := 3, slots := 8, locals := 116 } : Room)).slots) (own_st (fun _ kt => castTop (own_ef11n45 m x sr pa a) kt) ?_)
  have K0 := Keep.refl h0 [x]
  show own_Rch p e below _ s₁ (mkF m 0 #[.val (.ref x), .val (.ref sr), .val (.int pa), .val (.ref a), .val .null, .val .null] [])
  refine own_st (fun _ kt => XS.aloadN X0.here hx rfl (hb hby own_d11_0) rfl rfl  kt) ?_
  show own_Rch p e below _ s₁ (mkF m 1 #[.val (.ref x), .val (.ref sr), .val (.int pa), .val (.ref a), .val .null, .val .null] [(.ref x)])
  obtain ⟨T1, X1, e1, st1⟩ := initO X0 hx hZ hown (hw _ (List.mem_of_getElem? (i := 78) rfl)) (hw _ (List.mem_of_getElem? (i := 20) rfl)) (hw _ (List.mem_of_getElem? (i := 21) rfl)) e0 (g := (mkF m 1 #[.val (.ref x), .val (.ref sr), .val (.int pa), .val (.ref a), .val .null, .val .null] [(.ref x)])) rfl (by rw [hml]; rfl) rfl (hb hby own_d11_1) (by decide) (W := 0) (by show 2 * 0 + _ ≤ _; exact Nat.le_of_eq rfl) (by decide)
  refine own_st st1 ?_
  show own_Rch p e below _ T1 (mkF m 4 #[.val (.ref x), .val (.ref sr), .val (.int pa), .val (.ref a), .val .null, .val .null] [])
  refine own_st (fun _ kt => XS.aloadN X1.here hx rfl (hb hby own_d11_4) rfl rfl  kt) ?_
  show own_Rch p e below _ T1 (mkF m 5 #[.val (.ref x), .val (.ref sr), .val (.int pa), .val (.ref a), .val .null, .val .null] [(.ref x)])
  refine own_st (fun _ kt => XS.aloadN X1.here hx rfl (hb hby own_d11_5) rfl rfl  kt) ?_
  show own_Rch p e below _ T1 (mkF m 6 #[.val (.ref x), .val (.ref sr), .val (.int pa), .val (.ref a), .val .null, .val .null] [(.ref sr), (.ref x)])
  obtain ⟨T2, h2, X2, e2, W2, st2⟩ := putF X1 hx hZ hown (host := "") (Or.inl (hw _ (List.mem_of_getElem? (i := 79) rfl))) Via.refl e1 G0 EX (Or.inr ⟨(hw _ (List.mem_of_getElem? (i := 80) rfl)), rfl, hnm⟩) (hw _ (List.mem_of_getElem? (i := 62) rfl)) (ty := (.object "java/lang/String")) (by decide) rfl rfl (g := (mkF m 6 #[.val (.ref x), .val (.ref sr), .val (.int pa), .val (.ref a), .val .null, .val .null] [(.ref sr), (.ref x)])) rfl rfl (hb hby own_d11_6)
  refine own_st st2 ?_
  have Fw2 := G0.same W2
  have N2 := Fr.snoc X2 N0 gx
  have O0_x2 := O0.wr W2 gx
  have EA_x2 := EA.wr W2
  have FE_x2 := FE.other W2 (Or.inl hxa)
  have FZ_x2 := FZ.other W2 (Or.inl hxa)
  have FM_x2 := FM.other W2 (Or.inl hxa)
  have EB_x2 := EB.wr W2
  have VB_x2 := VB.other W2 hxb
  have EX_x2 := EX.wr W2
  have G1_x2 := G1.other W2 (Or.inr (slot_ne (Or.inr (hw _ (List.mem_of_getElem? (i := 82) rfl))) (Or.inr (hw _ (List.mem_of_getElem? (i := 80) rfl))) (by decide) (t := .int) (t' := (.object "java/lang/String")) (by decide) (by decide)))
  have G2_x2 := G2.other W2 (Or.inr (slot_ne (Or.inr (hw _ (List.mem_of_getElem? (i := 172) rfl))) (Or.inr (hw _ (List.mem_of_getElem? (i := 80) rfl))) (by decide) (t := (.object "java/util/List")) (t' := (.object "java/lang/String")) (by decide) (by decide)))
  have G3_x2 := G3.other W2 (Or.inr (slot_ne (Or.inr (hw _ (List.mem_of_getElem? (i := 174) rfl))) (Or.inr (hw _ (List.mem_of_getElem? (i := 80) rfl))) (by decide) (t := (.object "java/lang/String")) (t' := (.object "java/lang/String")) (by decide) (by decide)))
  have G4_x2 := G4.other W2 (Or.inr (slot_ne (Or.inr (hw _ (List.mem_of_getElem? (i := 176) rfl))) (Or.inr (hw _ (List.mem_of_getElem? (i := 80) rfl))) (by decide) (t := (.object "java/lang/String")) (t' := (.object "java/lang/String")) (by decide) (by decide)))
  have K0_x2 := K0.wr W2 (Or.inl (List.mem_of_getElem? (i := 0) rfl))
  show own_Rch p e below _ T2 (mkF m 9 #[.val (.ref x), .val (.ref sr), .val (.int pa), .val (.ref a), .val .null, .val .null] [])
  refine own_st (fun _ kt => XS.aloadN X2.here hx rfl (hb hby own_d11_9) rfl rfl  kt) ?_
  show own_Rch p e below _ T2 (mkF m 10 #[.val (.ref x), .val (.ref sr), .val (.int pa), .val (.ref a), .val .null, .val .null] [(.ref x)])
  refine own_st (fun _ kt => XS.iloadN X2.here hx rfl (hb hby own_d11_10) rfl  kt) ?_
  show own_Rch p e below _ T2 (mkF m 11 #[.val (.ref x), .val (.ref sr), .val (.int pa), .val (.ref a), .val .null, .val .null] [(.int pa), (.ref x)])
  obtain ⟨T3, h3, X3, e3, W3, st3⟩ := putF X2 hx hZ hown (host := "") (Or.inl (hw _ (List.mem_of_getElem? (i := 81) rfl))) Via.refl e2 G1_x2 EX_x2 (Or.inr ⟨(hw _ (List.mem_of_getElem? (i := 82) rfl)), rfl, hnm⟩) (hw _ (List.mem_of_getElem? (i := 62) rfl)) (ty := .int) (by decide) rfl rfl (g := (mkF m 11 #[.val (.ref x), .val (.ref sr), .val (.int pa), .val (.ref a), .val .null, .val .null] [(.int pa), (.ref x)])) rfl rfl (hb hby own_d11_11)
  refine own_st st3 ?_
  have Fw3 := G1_x2.same W3
  have N3 := Fr.snoc X3 N2 gx
  have O0_x3 := O0_x2.wr W3 gx
  have EA_x3 := EA_x2.wr W3
  have FE_x3 := FE_x2.other W3 (Or.inl hxa)
  have FZ_x3 := FZ_x2.other W3 (Or.inl hxa)
  have FM_x3 := FM_x2.other W3 (Or.inl hxa)
  have EB_x3 := EB_x2.wr W3
  have VB_x3 := VB_x2.other W3 hxb
  have EX_x3 := EX_x2.wr W3
  have Fw2_x3 := Fw2.other W3 (Or.inr (slot_ne (Or.inr (hw _ (List.mem_of_getElem? (i := 80) rfl))) (Or.inr (hw _ (List.mem_of_getElem? (i := 82) rfl))) (by decide) (t := (.object "java/lang/String")) (t' := .int) (by decide) (by decide)))
  have G2_x3 := G2_x2.other W3 (Or.inr (slot_ne (Or.inr (hw _ (List.mem_of_getElem? (i := 172) rfl))) (Or.inr (hw _ (List.mem_of_getElem? (i := 82) rfl))) (by decide) (t := (.object "java/util/List")) (t' := .int) (by decide) (by decide)))
  have G3_x3 := G3_x2.other W3 (Or.inr (slot_ne (Or.inr (hw _ (List.mem_of_getElem? (i := 174) rfl))) (Or.inr (hw _ (List.mem_of_getElem? (i := 82) rfl))) (by decide) (t := (.object "java/lang/String")) (t' := .int) (by decide) (by decide)))
  have G4_x3 := G4_x2.other W3 (Or.inr (slot_ne (Or.inr (hw _ (List.mem_of_getElem? (i := 176) rfl))) (Or.inr (hw _ (List.mem_of_getElem? (i := 82) rfl))) (by decide) (t := (.object "java/lang/String")) (t' := .int) (by decide) (by decide)))
  have K0_x3 := K0_x2.wr W3 (Or.inl (List.mem_of_getElem? (i := 0) rfl))
  show own_Rch p e below _ T3 (mkF m 14 #[.val (.ref x), .val (.ref sr), .val (.int pa), .val (.ref a), .val .null, .val .null] [])
  refine own_st (fun _ kt => XS.aloadN X3.here hx rfl (hb hby own_d11_14) rfl rfl  kt) ?_
  show own_Rch p e below _ T3 (mkF m 15 #[.val (.ref x), .val (.ref sr), .val (.int pa), .val (.ref a), .val .null, .val .null] [(.ref x)])
  refine own_st (fun _ kt => XS.aloadN X3.here hx rfl (hb hby own_d11_15) rfl rfl  kt) ?_
  show own_Rch p e below _ T3 (mkF m 16 #[.val (.ref x), .val (.ref sr), .val (.int pa), .val (.ref a), .val .null, .val .null] [(.ref a), (.ref x)])
  obtain ⟨_, _, ⟨T4, L4, k4, n4⟩, -, X4, ⟨Lc4, hQ4, l4, y4, z4⟩, st4⟩ := Jvm.LawKit.callS X3 hx (y := (⟨"java/util/List", "copyOf", "(Ljava/util/Collection;)Ljava/util/List;"⟩ : MethodName)) hown (mvT hZ (hw _ (List.mem_of_getElem? (i := 83) rfl))) (mvT hZ (hw _ (List.mem_of_getElem? (i := 84) rfl))) (mvT hZ (hw _ (List.mem_of_getElem? (i := 85) rfl))) (mvT hZ (hw _ (List.mem_of_getElem? (i := 86) rfl))) (by decide) (backOf (W := 1) (own_cof_3 l Z a0 hw [] a b kb mr zz oo em h3 n0 O0_x3 EA_x3 FE_x3 FZ_x3 FM_x3 EB_x3 VB_x3 EZ EO MR SE) hZ (hw _ (List.mem_of_getElem? (i := 86) rfl)) (hw _ (List.mem_of_getElem? (i := 85) rfl)) (by decide) (by decide)) (g := (mkF m 16 #[.val (.ref x), .val (.ref sr), .val (.int pa), .val (.ref a), .val .null, .val .null] [(.ref a), (.ref x)])) rfl (by rw [hml]; rfl) (argsL := [(.ref a)]) (rest := [(.ref x)]) (lenOf own_pd11 rfl) rfl (by show 2 * 0 + _ ≤ _; exact Nat.le_of_eq rfl) (hb hby own_d11_16) (fun _ _ => ⟨rfl, e3, (by decide : 0 + 3 ≤ _), (by decide : 0 + 8 ≤ _)⟩)
  dsimp only [Pt.U, Pt.locs, Pt.cells, Pt.slots] at X4 l4 y4 z4 st4 hQ4
  subst l4 y4 z4
  obtain ⟨ql4, rfl, N4q, K4, hq4, rq4, kq4, hr4, Eq4, Fq4, Vq4⟩ := hQ4
  have N4 := Fr.app N3 N4q
  refine own_st st4 ?_
  have ne4_a_ql4 : a ≠ ql4 := Nat.ne_of_lt (Nat.lt_of_lt_of_le EA_x3.lt hq4)
  have ne4_b_ql4 : b ≠ ql4 := Nat.ne_of_lt (Nat.lt_of_lt_of_le EB_x3.lt hq4)
  have ne4_x_ql4 : x ≠ ql4 := Nat.ne_of_lt (Nat.lt_of_lt_of_le EX_x3.lt hq4)
  have ge4_ql4 : n0 ≤ ql4 := Nat.le_trans (own_old_le O0_x3) hq4
  have sz4_ql4 : h0.size ≤ ql4 := Nat.le_trans K0_x3.1 hq4
  have ne4_a_rq4 : a ≠ rq4 := Nat.ne_of_lt (Nat.lt_of_lt_of_le EA_x3.lt hr4)
  have ne4_b_rq4 : b ≠ rq4 := Nat.ne_of_lt (Nat.lt_of_lt_of_le EB_x3.lt hr4)
  have ne4_x_rq4 : x ≠ rq4 := Nat.ne_of_lt (Nat.lt_of_lt_of_le EX_x3.lt hr4)
  have ge4_rq4 : n0 ≤ rq4 := Nat.le_trans (own_old_le O0_x3) hr4
  have sz4_rq4 : h0.size ≤ rq4 := Nat.le_trans K0_x3.1 hr4
  have O0_x4 := O0_x3.keep K4 all0
  have EA_x4 := EA_x3.keep K4
  have FE_x4 := FE_x3.keep K4 nin0
  have FZ_x4 := FZ_x3.keep K4 nin0
  have FM_x4 := FM_x3.keep K4 nin0
  have EB_x4 := EB_x3.keep K4
  have VB_x4 := VB_x3.keep K4 nin0
  have EX_x4 := EX_x3.keep K4
  have Fw2_x4 := Fw2_x3.keep K4 nin0
  have Fw3_x4 := Fw3.keep K4 nin0
  have G2_x4 := G2_x3.keep K4 nin0
  have G3_x4 := G3_x3.keep K4 nin0
  have G4_x4 := G4_x3.keep K4 nin0
  have K0_x4 := K0_x3.trans K4 all0
  show own_Rch p e below _ T4 (mkF m 19 #[.val (.ref x), .val (.ref sr), .val (.int pa), .val (.ref a), .val .null, .val .null] [(.ref ql4), (.ref x)])
  obtain ⟨T5, h5, X5, e5, W5, st5⟩ := putF X4 hx hZ hown (host := "") (Or.inl (hw _ (List.mem_of_getElem? (i := 171) rfl))) Via.refl rfl G2_x4 EX_x4 (Or.inr ⟨(hw _ (List.mem_of_getElem? (i := 172) rfl)), rfl, hnm⟩) (hw _ (List.mem_of_getElem? (i := 62) rfl)) (ty := (.object "java/util/List")) (by decide) rfl rfl (g := (mkF m 19 #[.val (.ref x), .val (.ref sr), .val (.int pa), .val (.ref a), .val .null, .val .null] [(.ref ql4), (.ref x)])) rfl rfl (hb hby own_d11_19)
  refine own_st st5 ?_
  have Fw5 := G2_x4.same W5
  have N5 := Fr.snoc X5 N4 gx
  have O0_x5 := O0_x4.wr W5 gx
  have EA_x5 := EA_x4.wr W5
  have FE_x5 := FE_x4.other W5 (Or.inl hxa)
  have FZ_x5 := FZ_x4.other W5 (Or.inl hxa)
  have FM_x5 := FM_x4.other W5 (Or.inl hxa)
  have EB_x5 := EB_x4.wr W5
  have VB_x5 := VB_x4.other W5 hxb
  have EX_x5 := EX_x4.wr W5
  have Fw2_x5 := Fw2_x4.other W5 (Or.inr (slot_ne (Or.inr (hw _ (List.mem_of_getElem? (i := 80) rfl))) (Or.inr (hw _ (List.mem_of_getElem? (i := 172) rfl))) (by decide) (t := (.object "java/lang/String")) (t' := (.object "java/util/List")) (by decide) (by decide)))
  have Fw3_x5 := Fw3_x4.other W5 (Or.inr (slot_ne (Or.inr (hw _ (List.mem_of_getElem? (i := 82) rfl))) (Or.inr (hw _ (List.mem_of_getElem? (i := 172) rfl))) (by decide) (t := .int) (t' := (.object "java/util/List")) (by decide) (by decide)))
  have G3_x5 := G3_x4.other W5 (Or.inr (slot_ne (Or.inr (hw _ (List.mem_of_getElem? (i := 174) rfl))) (Or.inr (hw _ (List.mem_of_getElem? (i := 172) rfl))) (by decide) (t := (.object "java/lang/String")) (t' := (.object "java/util/List")) (by decide) (by decide)))
  have G4_x5 := G4_x4.other W5 (Or.inr (slot_ne (Or.inr (hw _ (List.mem_of_getElem? (i := 176) rfl))) (Or.inr (hw _ (List.mem_of_getElem? (i := 172) rfl))) (by decide) (t := (.object "java/lang/String")) (t' := (.object "java/util/List")) (by decide) (by decide)))
  have K0_x5 := K0_x4.wr W5 (Or.inl (List.mem_of_getElem? (i := 0) rfl))
  have Eq4_x5 := Eq4.wr W5
  have Fq4_x5 := Fq4.other W5 (Or.inl (Ne.symm ne4_x_ql4))
  have Vq4_x5 := Vq4.other W5 (Ne.symm ne4_x_rq4)
  show own_Rch p e below _ T5 (mkF m 22 #[.val (.ref x), .val (.ref sr), .val (.int pa), .val (.ref a), .val .null, .val .null] [])
  refine own_st (fun _ kt => XS.aloadN X5.here hx rfl (hb hby own_d11_22) rfl rfl  kt) ?_
  show own_Rch p e below _ T5 (mkF m 23 #[.val (.ref x), .val (.ref sr), .val (.int pa), .val (.ref a), .val .null, .val .null] [(.ref x)])
  refine own_st (fun _ kt => XS.aload X5.here hx rfl (hb hby own_d11_23) rfl rfl  kt) ?_
  show own_Rch p e below _ T5 (mkF m 25 #[.val (.ref x), .val (.ref sr), .val (.int pa), .val (.ref a), .val .null, .val .null] [.null, (.ref x)])
  obtain ⟨T6, h6, X6, e6, W6, st6⟩ := putF X5 hx hZ hown (host := "") (Or.inl (hw _ (List.mem_of_getElem? (i := 173) rfl))) Via.refl e5 G3_x5 EX_x5 (Or.inr ⟨(hw _ (List.mem_of_getElem? (i := 174) rfl)), rfl, hnm⟩) (hw _ (List.mem_of_getElem? (i := 62) rfl)) (ty := (.object "java/lang/String")) (by decide) rfl rfl (g := (mkF m 25 #[.val (.ref x), .val (.ref sr), .val (.int pa), .val (.ref a), .val .null, .val .null] [.null, (.ref x)])) rfl rfl (hb hby own_d11_25)
  refine own_st st6 ?_
  have Fw6 := G3_x5.same W6
  have N6 := Fr.snoc X6 N5 gx
  have O0_x6 := O0_x5.wr W6 gx
  have EA_x6 := EA_x5.wr W6
  have FE_x6 := FE_x5.other W6 (Or.inl hxa)
  have FZ_x6 := FZ_x5.other W6 (Or.inl hxa)
  have FM_x6 := FM_x5.other W6 (Or.inl hxa)
  have EB_x6 := EB_x5.wr W6
  have VB_x6 := VB_x5.other W6 hxb
  have EX_x6 := EX_x5.wr W6
  have Fw2_x6 := Fw2_x5.other W6 (Or.inr (slot_ne (Or.inr (hw _ (List.mem_of_getElem? (i := 80) rfl))) (Or.inr (hw _ (List.mem_of_getElem? (i := 174) rfl))) (by decide) (t := (.object "java/lang/String")) (t' := (.object "java/lang/String")) (by decide) (by decide)))
  have Fw3_x6 := Fw3_x5.other W6 (Or.inr (slot_ne (Or.inr (hw _ (List.mem_of_getElem? (i := 82) rfl))) (Or.inr (hw _ (List.mem_of_getElem? (i := 174) rfl))) (by decide) (t := .int) (t' := (.object "java/lang/String")) (by decide) (by decide)))
  have Fw5_x6 := Fw5.other W6 (Or.inr (slot_ne (Or.inr (hw _ (List.mem_of_getElem? (i := 172) rfl))) (Or.inr (hw _ (List.mem_of_getElem? (i := 174) rfl))) (by decide) (t := (.object "java/util/List")) (t' := (.object "java/lang/String")) (by decide) (by decide)))
  have G4_x6 := G4_x5.other W6 (Or.inr (slot_ne (Or.inr (hw _ (List.mem_of_getElem? (i := 176) rfl))) (Or.inr (hw _ (List.mem_of_getElem? (i := 174) rfl))) (by decide) (t := (.object "java/lang/String")) (t' := (.object "java/lang/String")) (by decide) (by decide)))
  have K0_x6 := K0_x5.wr W6 (Or.inl (List.mem_of_getElem? (i := 0) rfl))
  have Eq4_x6 := Eq4_x5.wr W6
  have Fq4_x6 := Fq4_x5.other W6 (Or.inl (Ne.symm ne4_x_ql4))
  have Vq4_x6 := Vq4_x5.other W6 (Ne.symm ne4_x_rq4)
  show own_Rch p e below _ T6 (mkF m 28 #[.val (.ref x), .val (.ref sr), .val (.int pa), .val (.ref a), .val .null, .val .null] [])
  refine own_st (fun _ kt => XS.aloadN X6.here hx rfl (hb hby own_d11_28) rfl rfl  kt) ?_
  show own_Rch p e below _ T6 (mkF m 29 #[.val (.ref x), .val (.ref sr), .val (.int pa), .val (.ref a), .val .null, .val .null] [(.ref x)])
  refine own_st (fun _ kt => XS.aload X6.here hx rfl (hb hby own_d11_29) rfl rfl  kt) ?_
  show own_Rch p e below _ T6 (mkF m 31 #[.val (.ref x), .val (.ref sr), .val (.int pa), .val (.ref a), .val .null, .val .null] [.null, (.ref x)])
  obtain ⟨T7, h7, X7, e7, W7, st7⟩ := putF X6 hx hZ hown (host := "") (Or.inl (hw _ (List.mem_of_getElem? (i := 175) rfl))) Via.refl e6 G4_x6 EX_x6 (Or.inr ⟨(hw _ (List.mem_of_getElem? (i := 176) rfl)), rfl, hnm⟩) (hw _ (List.mem_of_getElem? (i := 62) rfl)) (ty := (.object "java/lang/String")) (by decide) rfl rfl (g := (mkF m 31 #[.val (.ref x), .val (.ref sr), .val (.int pa), .val (.ref a), .val .null, .val .null] [.null, (.ref x)])) rfl rfl (hb hby own_d11_31)
  refine own_st st7 ?_
  have Fw7 := G4_x6.same W7
  have N7 := Fr.snoc X7 N6 gx
  have O0_x7 := O0_x6.wr W7 gx
  have EA_x7 := EA_x6.wr W7
  have FE_x7 := FE_x6.other W7 (Or.inl hxa)
  have FZ_x7 := FZ_x6.other W7 (Or.inl hxa)
  have FM_x7 := FM_x6.other W7 (Or.inl hxa)
  have EB_x7 := EB_x6.wr W7
  have VB_x7 := VB_x6.other W7 hxb
  have EX_x7 := EX_x6.wr W7
  have Fw2_x7 := Fw2_x6.other W7 (Or.inr (slot_ne (Or.inr (hw _ (List.mem_of_getElem? (i := 80) rfl))) (Or.inr (hw _ (List.mem_of_getElem? (i := 176) rfl))) (by decide) (t := (.object "java/lang/String")) (t' := (.object "java/lang/String")) (by decide) (by decide)))
  have Fw3_x7 := Fw3_x6.other W7 (Or.inr (slot_ne (Or.inr (hw _ (List.mem_of_getElem? (i := 82) rfl))) (Or.inr (hw _ (List.mem_of_getElem? (i := 176) rfl))) (by decide) (t := .int) (t' := (.object "java/lang/String")) (by decide) (by decide)))
  have Fw5_x7 := Fw5_x6.other W7 (Or.inr (slot_ne (Or.inr (hw _ (List.mem_of_getElem? (i := 172) rfl))) (Or.inr (hw _ (List.mem_of_getElem? (i := 176) rfl))) (by decide) (t := (.object "java/util/List")) (t' := (.object "java/lang/String")) (by decide) (by decide)))
  have Fw6_x7 := Fw6.other W7 (Or.inr (slot_ne (Or.inr (hw _ (List.mem_of_getElem? (i := 174) rfl))) (Or.inr (hw _ (List.mem_of_getElem? (i := 176) rfl))) (by decide) (t := (.object "java/lang/String")) (t' := (.object "java/lang/String")) (by decide) (by decide)))
  have K0_x7 := K0_x6.wr W7 (Or.inl (List.mem_of_getElem? (i := 0) rfl))
  have Eq4_x7 := Eq4_x6.wr W7
  have Fq4_x7 := Fq4_x6.other W7 (Or.inl (Ne.symm ne4_x_ql4))
  have Vq4_x7 := Vq4_x6.other W7 (Ne.symm ne4_x_rq4)
  show own_Rch p e below _ T7 (mkF m 34 #[.val (.ref x), .val (.ref sr), .val (.int pa), .val (.ref a), .val .null, .val .null] [])
  refine own_retV X7 hx Bd.notSynchronized Bd.returns (hb hby own_d11_34) (by decide) (by decide) ?_
  rw [e7]
  exact ⟨rfl, N7, K0_x7, _, EX_x7, Fw3_x7, Fw5_x7, sz4_ql4, _, _, sz4_rq4, Eq4_x7, Fq4_x7, Vq4_x7⟩
def own_Q_own_mt3_3 (Z : State) (x : Addr) (sr : Addr) (pa : Int32) (a : Addr) (b : Addr) (kb : ClassId) (mr : Addr) (zz : Addr) (oo : Addr) (em : Addr) (h0 : Heap) (n0 : Nat) (v : Option Value) (h : Heap) (L : List Loc) : Prop := v = none ∧ Fr n0 L ∧ Keep h0 h [x] ∧ ∃ q : Addr, Exa Z h x "com/example/makewhole/makewhole/mortality/MortalityTable" ∧ Fld Z h x "com/example/makewhole/makewhole/mortality/MortalityTable" "firstAge" "I" (.int pa) ∧ Fld Z h x "com/example/makewhole/makewhole/mortality/MortalityTable" "qx" "Ljava/util/List;" (.ref q) ∧ h0.size ≤ q ∧ ∃ (r : Addr) (kr : ClassId), h0.size ≤ r ∧ Exa Z h q "java/util/ImmutableCollections$ListN" ∧ Fld Z h q "java/util/ImmutableCollections$ListN" "elements" "[Ljava/lang/Object;" (.ref r) ∧ Arv Z h r kr (.object "java/lang/Object") (3 : Int32) [(.ref zz), (.ref zz), (.ref oo)] .null
set_option maxRecDepth 65536 in
set_option maxHeartbeats 40000000 in
theorem own_mt3_3 (l : Launch) (Z : State) (a0 : Array Value) (hw : ∀ d ∈ tables_1, d.before a0 Z = true) (ws : List Jvm.Cond) (x : Addr) (sr : Addr) (pa : Int32) (a : Addr) (b : Addr) (kb : ClassId) (mr : Addr) (zz : Addr) (oo : Addr) (em : Addr) (h0 : Heap) (n0 : Nat) (O0 : Old Z n0 h0) (EA : Exa Z h0 a "java/util/ArrayList") (FE : Fld Z h0 a "java/util/ArrayList" "elementData" "[Ljava/lang/Object;" (.ref b)) (FZ : Fld Z h0 a "java/util/ArrayList" "size" "I" (.int (3 : Int32))) (FM : Fld Z h0 a "java/util/AbstractList" "modCount" "I" (.int (3 : Int32))) (EB : Exa Z h0 b "[Ljava/lang/Object;") (VB : Arv Z h0 b kb (.object "java/lang/Object") (10 : Int32) [(.ref zz), (.ref zz), (.ref oo), .null, .null, .null, .null, .null, .null, .null] .null) (EZ : Exa Z Z.heap zz "java/math/BigDecimal") (EO : Exa Z Z.heap oo "java/math/BigDecimal") (MR : own_Mir Z "[Ljava/lang/Object;" mr) (SE : Sta Z Z.heap "java/util/ImmutableCollections" "EMPTY" "Ljava/lang/Object;" (.ref em)) (EX : Exa Z h0 x "com/example/makewhole/makewhole/mortality/MortalityTable") (G0 : Fld Z h0 x "com/example/makewhole/makewhole/mortality/MortalityTable" "source" "Ljava/lang/String;" .null) (G1 : Fld Z h0 x "com/example/makewhole/makewhole/mortality/MortalityTable" "firstAge" "I" (.int (0 : Int32))) (G2 : Fld Z h0 x "com/example/makewhole/makewhole/mortality/MortalityTable" "qx" "Ljava/util/List;" .null) (G3 : Fld Z h0 x "com/example/makewhole/makewhole/mortality/MortalityTable" "publishedName" "Ljava/lang/String;" .null) (G4 : Fld Z h0 x "com/example/makewhole/makewhole/mortality/MortalityTable" "publishedIdentity" "Ljava/lang/String;" .null) (gx : n0 ≤ x) (hxa : a ≠ x) (hxb : b ≠ x) :
    MetFree l (⟨"com/example/makewhole/makewhole/mortality/MortalityTable", "<init>", "(Ljava/lang/String;ILjava/util/List;)V"⟩ : MethodName) (head1 (Jvm.Cond.code (⟨"com/example/makewhole/makewhole/mortality/MortalityTable", "<init>", "(Ljava/lang/String;ILjava/util/List;)V"⟩ : MethodName) prog_36_method_1_code 4 none :: ws) ({ frames := 10, cells := 3, slots := 8, locals := 133 } : Room)) (fun args_ U => args_ = #[(.ref x), (.ref sr), (.int pa), (.ref a)] ∧ Z.Warmed39 U.vm ∧ U.heap = h0) (fun _ _ _ _ _ => True) (fun _ U o U' => ∃ v L, o = .returned v ∧ (own_Q_own_mt3_3 Z x sr pa a b kb mr zz oo em h0 n0) v U'.heap L ∧ FrameEnd U o U' L ({ frames := 10, cells := 3, slots := 8, locals := 133 } : Room).cells ({ frames := 10, cells := 3, slots := 8, locals := 133 } : Room).slots) := by
  refine MetFree.of_bodySF (plainFor_of_name own_pn10) hisR ?_
  intro p e s m args below meth c s₁ Bd hml0 hP hK
  obtain ⟨rfl, hZ, hh⟩ := hP
  have hx := Bd.exec
  have hby := Bd.bytes
  have hml : c.maxLocals = 4 := hml0
  have hown : s.vm.findClass "com/example/makewhole/makewhole/mortality/MortalityTable" = some m.cls := findClass_of_methodNamed Bd.named
  have hnm := (name_of_methodNamed Bd.named Bd.method).1
  have X0 : Stand p l e ({ frames := 10, cells := 3, slots := 8, locals := 133 } : Room) s m #[(.ref x), (.ref sr), (.int pa), (.ref a)] below meth c s₁ [] 0 0 := Stand.of_body Bd
  have e0 : s₁.heap = h0 := by rw [← hh, Bd.state]; rfl
  have N0 := Fr.nil n0
  refine own_close (s := s) (Q := (own_Q_own_mt3_3 Z x sr pa a b kb mr zz oo em h0 n0)) (C := (({ frames := 10, cells := 3, slots := 8, locals := 133 } : Room)).cells) (N := (({ frames := 10, cells := 3, slots := 8, locals := 133 } : Room)).slots) (own_st (fun _ kt => castTop (own_ef10 m x sr pa a) kt) ?_)
  have K0 := Keep.refl h0 [x]
  show own_Rch p e below _ s₁ (mkF m 0 #[.val (.ref x), .val (.ref sr), .val (.int pa), .val (.ref a)] [])
  refine own_st (fun _ kt => XS.aloadN X0.here hx rfl (hb hby own_d10_0) rfl rfl  kt) ?_
  show own_Rch p e below _ s₁ (mkF m 1 #[.val (.ref x), .val (.ref sr), .val (.int pa), .val (.ref a)] [(.ref x)])
  refine own_st (fun _ kt => XS.aloadN X0.here hx rfl (hb hby own_d10_1) rfl rfl  kt) ?_
  show own_Rch p e below _ s₁ (mkF m 2 #[.val (.ref x), .val (.ref sr), .val (.int pa), .val (.ref a)] [(.ref sr), (.ref x)])
  refine own_st (fun _ kt => XS.iloadN X0.here hx rfl (hb hby own_d10_2) rfl  kt) ?_
  show own_Rch p e below _ s₁ (mkF m 3 #[.val (.ref x), .val (.ref sr), .val (.int pa), .val (.ref a)] [(.int pa), (.ref sr), (.ref x)])
  refine own_st (fun _ kt => XS.aloadN X0.here hx rfl (hb hby own_d10_3) rfl rfl  kt) ?_
  show own_Rch p e below _ s₁ (mkF m 4 #[.val (.ref x), .val (.ref sr), .val (.int pa), .val (.ref a)] [(.ref a), (.int pa), (.ref sr), (.ref x)])
  refine own_st (fun _ kt => XS.aconstNull X0.here hx rfl (hb hby own_d10_4) kt) ?_
  show own_Rch p e below _ s₁ (mkF m 5 #[.val (.ref x), .val (.ref sr), .val (.int pa), .val (.ref a)] [.null, (.ref a), (.int pa), (.ref sr), (.ref x)])
  refine own_st (fun _ kt => XS.aconstNull X0.here hx rfl (hb hby own_d10_5) kt) ?_
  show own_Rch p e below _ s₁ (mkF m 6 #[.val (.ref x), .val (.ref sr), .val (.int pa), .val (.ref a)] [.null, .null, (.ref a), (.int pa), (.ref sr), (.ref x)])
  obtain ⟨_, _, ⟨T1, L1, k1, n1⟩, -, X1, ⟨Lc1, hQ1, l1, y1, z1⟩, st1⟩ := X0.specialBack hx (y := (⟨"com/example/makewhole/makewhole/mortality/MortalityTable", "<init>", "(Ljava/lang/String;ILjava/util/List;Ljava/lang/String;Ljava/lang/String;)V"⟩ : MethodName)) rfl hown (mvT hZ (hw _ (List.mem_of_getElem? (i := 75) rfl))) (mvT hZ (hw _ (List.mem_of_getElem? (i := 76) rfl))) (mvT hZ (hw _ (List.mem_of_getElem? (i := 77) rfl))) (by decide) (backOf (W := 0) (own_mt5_3 l Z a0 hw [] x sr pa a b kb mr zz oo em h0 n0 O0 EA FE FZ FM EB VB EZ EO MR SE EX G0 G1 G2 G3 G4 gx hxa hxb) hZ (hw _ (List.mem_of_getElem? (i := 77) rfl)) (hw _ (List.mem_of_getElem? (i := 63) rfl)) (by decide) (by decide)) (g := (mkF m 6 #[.val (.ref x), .val (.ref sr), .val (.int pa), .val (.ref a)] [.null, .null, (.ref a), (.int pa), (.ref sr), (.ref x)])) rfl (by rw [hml]; rfl) (Steps.refl _) (a := x) (argsL := [(.ref sr), (.int pa), (.ref a), .null, .null]) (rest := []) (lenOf own_pd12 rfl) rfl (by show 2 * 0 + _ ≤ _; exact Nat.le_of_eq rfl) (hb hby own_d10_6) (fun _ _ => ⟨rfl, e0, (by decide : 0 + 3 ≤ _), (by decide : 0 + 8 ≤ _)⟩)
  dsimp only [Pt.U, Pt.locs, Pt.cells, Pt.slots] at X1 l1 y1 z1 st1 hQ1
  subst l1 y1 z1
  obtain ⟨rfl, N1q, K1, qm1, Ex1, Fa1, Fx1, hq1, rq1, kq1, hr1, Eq1, Fq1, Vq1⟩ := hQ1
  have N1 := Fr.app N0 N1q
  refine own_st (fun _ kt => st1.trans kt) ?_
  have ne1_a_qm1 : a ≠ qm1 := Nat.ne_of_lt (Nat.lt_of_lt_of_le EA.lt hq1)
  have ne1_b_qm1 : b ≠ qm1 := Nat.ne_of_lt (Nat.lt_of_lt_of_le EB.lt hq1)
  have ne1_x_qm1 : x ≠ qm1 := Nat.ne_of_lt (Nat.lt_of_lt_of_le EX.lt hq1)
  have ge1_qm1 : n0 ≤ qm1 := Nat.le_trans (own_old_le O0) hq1
  have sz1_qm1 : h0.size ≤ qm1 := Nat.le_trans K0.1 hq1
  have ne1_a_rq1 : a ≠ rq1 := Nat.ne_of_lt (Nat.lt_of_lt_of_le EA.lt hr1)
  have ne1_b_rq1 : b ≠ rq1 := Nat.ne_of_lt (Nat.lt_of_lt_of_le EB.lt hr1)
  have ne1_x_rq1 : x ≠ rq1 := Nat.ne_of_lt (Nat.lt_of_lt_of_le EX.lt hr1)
  have ge1_rq1 : n0 ≤ rq1 := Nat.le_trans (own_old_le O0) hr1
  have sz1_rq1 : h0.size ≤ rq1 := Nat.le_trans K0.1 hr1
  have O0_x1 := O0.keep K1 (allS gx all0)
  have EA_x1 := EA.keep K1
  have FE_x1 := FE.keep K1 (ninS hxa nin0)
  have FZ_x1 := FZ.keep K1 (ninS hxa nin0)
  have FM_x1 := FM.keep K1 (ninS hxa nin0)
  have EB_x1 := EB.keep K1
  have VB_x1 := VB.keep K1 (ninS hxb nin0)
  have EX_x1 := EX.keep K1
  have K0_x1 := K0.trans K1 (allS (Or.inl (List.mem_of_getElem? (i := 0) rfl)) all0)
  show own_Rch p e below _ T1 (mkF m 9 #[.val (.ref x), .val (.ref sr), .val (.int pa), .val (.ref a)] [])
  refine own_retV X1 hx Bd.notSynchronized Bd.returns (hb hby own_d10_9) (by decide) (by decide) ?_
  exact ⟨rfl, N1, K0_x1, _, Ex1, Fa1, Fx1, sz1_qm1, _, _, sz1_rq1, Eq1, Fq1, Vq1⟩
theorem own_ef26 (m : MethodId) (x0 : Addr) : entryFrame m #[(.ref x0)] 1 = mkF m 0 #[.val (.ref x0)] [] := by first | (simp [entryFrame, mkF, argsToLocals, Value.category]; done) | rfl
theorem own_d26_0 : decode jdk_45_method_3_code 0 = .ok (.aload_n 0, 1) := by decide +kernel
theorem own_d26_1 : decode jdk_45_method_3_code 1 = .ok (.getfield 7, 3) := by decide +kernel
theorem own_d26_4 : decode jdk_45_method_3_code 4 = .ok (.arraylength, 1) := by decide +kernel
theorem own_d26_5 : decode jdk_45_method_3_code 5 = .ok (.ireturn, 1) := by decide +kernel
def own_Q_own_size_3 (Z : State) (a : Addr) (r : Addr) (kr : ClassId) (zz : Addr) (oo : Addr) (h0 : Heap) (n0 : Nat) (v : Option Value) (h : Heap) (L : List Loc) : Prop := v = some (.int (3 : Int32)) ∧ Fr n0 L ∧ h = h0
set_option maxRecDepth 65536 in
set_option maxHeartbeats 40000000 in
theorem own_size_3 (l : Launch) (Z : State) (a0 : Array Value) (hw : ∀ d ∈ tables_1, d.before a0 Z = true) (ws : List Jvm.Cond) (a : Addr) (r : Addr) (kr : ClassId) (zz : Addr) (oo : Addr) (h0 : Heap) (n0 : Nat) (O0 : Old Z n0 h0) (F1 : Fld Z h0 a "java/util/ImmutableCollections$ListN" "elements" "[Ljava/lang/Object;" (.ref r)) (VR : Arv Z h0 r kr (.object "java/lang/Object") (3 : Int32) [(.ref zz), (.ref zz), (.ref oo)] .null) :
    MetFree l (⟨"java/util/ImmutableCollections$ListN", "size", "()I"⟩ : MethodName) (head1 (Jvm.Cond.code (⟨"java/util/ImmutableCollections$ListN", "size", "()I"⟩ : MethodName) jdk_45_method_3_code 1 (some .int) :: ws) ({ frames := 0, cells := 0, slots := 0, locals := 0 } : Room)) (fun args_ U => args_ = #[(.ref a)] ∧ Z.Warmed39 U.vm ∧ U.heap = h0) (fun _ _ _ _ _ => True) (fun _ U o U' => ∃ v L, o = .returned v ∧ (own_Q_own_size_3 Z a r kr zz oo h0 n0) v U'.heap L ∧ FrameEnd U o U' L ({ frames := 0, cells := 0, slots := 0, locals := 0 } : Room).cells ({ frames := 0, cells := 0, slots := 0, locals := 0 } : Room).slots) := by
  refine MetFree.of_bodySF (plainFor_of_name own_pn11) hisR ?_
  intro p e s m args below meth c s₁ Bd hml0 hP hK
  obtain ⟨rfl, hZ, hh⟩ := hP
  have hx := Bd.exec
  have hby := Bd.bytes
  have hml : c.maxLocals = 1 := hml0
  have hown : s.vm.findClass "java/util/ImmutableCollections$ListN" = some m.cls := findClass_of_methodNamed Bd.named
  have hnm := (name_of_methodNamed Bd.named Bd.method).1
  have X0 : Stand p l e ({ frames := 0, cells := 0, slots := 0, locals := 0 } : Room) s m #[(.ref a)] below meth c s₁ [] 0 0 := Stand.of_body Bd
  have e0 : s₁.heap = h0 := by rw [← hh, Bd.state]; rfl
  have N0 := Fr.nil n0
  refine own_close (s := s) (Q := (own_Q_own_size_3 Z a r kr zz oo h0 n0)) (C := (({ frames := 0, cells := 0, slots := 0, locals := 0 } : Room)).cells) (N := (({ frames := 0, cells := 0, slots := 0, locals := 0 } : Room)).slots) (own_st (fun _ kt => castTop (own_ef26 m a) kt) ?_)
  show own_Rch p e below _ s₁ (mkF m 0 #[.val (.ref a)] [])
  refine own_st (fun _ kt => XS.aloadN X0.here hx rfl (hb hby own_d26_0) rfl rfl  kt) ?_
  show own_Rch p e below _ s₁ (mkF m 1 #[.val (.ref a)] [(.ref a)])
  obtain ⟨T1, X1, e1, st1⟩ := getF X0 hx hZ hown (host := "") (Or.inl (hw _ (List.mem_of_getElem? (i := 167) rfl))) Via.refl e0 F1 (g := (mkF m 1 #[.val (.ref a)] [(.ref a)])) rfl rfl (hb hby own_d26_1)
  refine own_st st1 ?_
  show own_Rch p e below _ T1 (mkF m 4 #[.val (.ref a)] [(.ref r)])
  obtain ⟨cl2, Ar2, -, S2, M2, -, -⟩ := id VR
  refine own_st (X1.arraylength hx (by rw [e1]; exact Ar2.1) (State.isArrayOf_alike (hZ).alike Ar2.2.1) (g := (mkF m 4 #[.val (.ref a)] [(.ref r)])) rfl rfl (hb hby own_d26_4)) ?_
  rw [len_of S2 M2]
  show own_Rch p e below _ T1 (mkF m 5 #[.val (.ref a)] [(.int (3 : Int32))])
  refine own_retI X1 hx Bd.notSynchronized Bd.returns (hb hby own_d26_5) (by decide) (by decide) ?_
  rw [e1]
  exact ⟨rfl, N0, rfl⟩
def own_Q_own_last_3 (Z : State) (x : Addr) (pa : Int32) (q : Addr) (r : Addr) (kr : ClassId) (zz : Addr) (oo : Addr) (h0 : Heap) (n0 : Nat) (v : Option Value) (h : Heap) (L : List Loc) : Prop := v = some (.int ((pa + (3 : Int32)) - (1 : Int32))) ∧ Fr n0 L ∧ h = h0
set_option maxRecDepth 65536 in
set_option maxHeartbeats 40000000 in
theorem own_last_3 (l : Launch) (Z : State) (a0 : Array Value) (hw : ∀ d ∈ tables_1, d.before a0 Z = true) (ws : List Jvm.Cond) (x : Addr) (pa : Int32) (q : Addr) (r : Addr) (kr : ClassId) (zz : Addr) (oo : Addr) (h0 : Heap) (n0 : Nat) (O0 : Old Z n0 h0) (FA : Fld Z h0 x "com/example/makewhole/makewhole/mortality/MortalityTable" "firstAge" "I" (.int pa)) (FX : Fld Z h0 x "com/example/makewhole/makewhole/mortality/MortalityTable" "qx" "Ljava/util/List;" (.ref q)) (E : Exa Z h0 q "java/util/ImmutableCollections$ListN") (F1 : Fld Z h0 q "java/util/ImmutableCollections$ListN" "elements" "[Ljava/lang/Object;" (.ref r)) (VR : Arv Z h0 r kr (.object "java/lang/Object") (3 : Int32) [(.ref zz), (.ref zz), (.ref oo)] .null) :
    MetFree l (⟨"com/example/makewhole/makewhole/mortality/MortalityTable", "getLastAge", "()I"⟩ : MethodName) (head1 (Jvm.Cond.code (⟨"com/example/makewhole/makewhole/mortality/MortalityTable", "getLastAge", "()I"⟩ : MethodName) prog_36_method_9_code 1 (some .int) :: ws) ({ frames := 1, cells := 0, slots := 0, locals := 13 } : Room)) (fun args_ U => args_ = #[(.ref x)] ∧ Z.Warmed39 U.vm ∧ U.heap = h0) (fun _ _ _ _ _ => True) (fun _ U o U' => ∃ v L, o = .returned v ∧ (own_Q_own_last_3 Z x pa q r kr zz oo h0 n0) v U'.heap L ∧ FrameEnd U o U' L ({ frames := 1, cells := 0, slots := 0, locals := 13 } : Room).cells ({ frames := 1, cells := 0, slots := 0, locals := 13 } : Room).slots) := by
  refine MetFree.of_bodySF (plainFor_of_name own_pn10) hisR ?_
  intro p e s m args below meth c s₁ Bd hml0 hP hK
  obtain ⟨rfl, hZ, hh⟩ := hP
  have hx := Bd.exec
  have hby := Bd.bytes
  have hml : c.maxLocals = 1 := hml0
  have hown : s.vm.findClass "com/example/makewhole/makewhole/mortality/MortalityTable" = some m.cls := findClass_of_methodNamed Bd.named
  have hnm := (name_of_methodNamed Bd.named Bd.method).1
  have X0 : Stand p l e ({ frames := 1, cells := 0, slots := 0, locals := 13 } : Room) s m #[(.ref x)] below meth c s₁ [] 0 0 := Stand.of_body Bd
  have e0 : s₁.heap = h0 := by rw [← hh, Bd.state]; rfl
  have N0 := Fr.nil n0
  refine own_close (s := s) (Q := (own_Q_own_last_3 Z x pa q r kr zz oo h0 n0)) (C := (({ frames := 1, cells := 0, slots := 0, locals := 13 } : Room)).cells) (N := (({ frames := 1, cells := 0, slots := 0, locals := 13 } : Room)).slots) (own_st (fun _ kt => castTop (own_ef25 m x) kt) ?_)
  show own_Rch p e below _ s₁ (mkF m 0 #[.val (.ref x)] [])
  refine own_st (fun _ kt => XS.aloadN X0.here hx rfl (hb hby own_d25_0) rfl rfl  kt) ?_
  show own_Rch p e below _ s₁ (mkF m 1 #[.val (.ref x)] [(.ref x)])
  obtain ⟨T1, X1, e1, st1⟩ := getF X0 hx hZ hown (host := "") (Or.inl (hw _ (List.mem_of_getElem? (i := 81) rfl))) Via.refl e0 FA (g := (mkF m 1 #[.val (.ref x)] [(.ref x)])) rfl rfl (hb hby own_d25_1)
  refine own_st st1 ?_
  show own_Rch p e below _ T1 (mkF m 4 #[.val (.ref x)] [(.int pa)])
  refine own_st (fun _ kt => XS.aloadN X1.here hx rfl (hb hby own_d25_4) rfl rfl  kt) ?_
  show own_Rch p e below _ T1 (mkF m 5 #[.val (.ref x)] [(.ref x), (.int pa)])
  obtain ⟨T2, X2, e2, st2⟩ := getF X1 hx hZ hown (host := "") (Or.inl (hw _ (List.mem_of_getElem? (i := 171) rfl))) Via.refl e1 FX (g := (mkF m 5 #[.val (.ref x)] [(.ref x), (.int pa)])) rfl rfl (hb hby own_d25_5)
  refine own_st st2 ?_
  show own_Rch p e below _ T2 (mkF m 8 #[.val (.ref x)] [(.ref q), (.int pa)])
  obtain ⟨cq3, kq3, q3a, q3b, q3c⟩ := isOf hZ e2 E
  obtain ⟨_, _, ⟨T3, L3, k3, n3⟩, -, X3, ⟨Lc3, hQ3, l3, y3, z3⟩, st3⟩ := X2.interfaceBack hx (xi := (⟨"java/util/List", "size", "()I"⟩ : MethodName)) (y := (⟨"java/util/ImmutableCollections$ListN", "size", "()I"⟩ : MethodName)) hown (mvT hZ (hw _ (List.mem_of_getElem? (i := 182) rfl))) (mvT hZ (hw _ (List.mem_of_getElem? (i := 183) rfl))) (mvT hZ (hw _ (List.mem_of_getElem? (i := 184) rfl))) (mvT hZ (hw _ (List.mem_of_getElem? (i := 185) rfl))) (mvT hZ (hw _ (List.mem_of_getElem? (i := 186) rfl))) (mvT hZ (hw _ (List.mem_of_getElem? (i := 187) rfl))) (mvT hZ (hw _ (List.mem_of_getElem? (i := 188) rfl))) (mvT hZ (hw _ (List.mem_of_getElem? (i := 189) rfl))) (by decide) (backOf (W := 1) (own_size_3 l Z a0 hw [] q r kr zz oo h0 n0 O0 F1 VR) hZ (hw _ (List.mem_of_getElem? (i := 190) rfl)) (hw _ (List.mem_of_getElem? (i := 148) rfl)) (by decide) (by decide)) q3a q3b q3c (g := (mkF m 8 #[.val (.ref x)] [(.ref q), (.int pa)])) rfl (by rw [hml]; rfl) (Steps.refl _) (argsL := []) (rest := [(.int pa)]) (lenOf own_pd13 rfl) rfl (by show 2 * 0 + _ ≤ _; exact Nat.le_of_eq rfl) (hb hby own_d25_8) (fun _ _ => ⟨rfl, e2, (by decide : 0 + 0 ≤ _), (by decide : 0 + 0 ≤ _)⟩)
  dsimp only [Pt.U, Pt.locs, Pt.cells, Pt.slots] at X3 l3 y3 z3 st3 hQ3
  subst l3 y3 z3
  obtain ⟨rfl, N3q, hh3⟩ := hQ3
  have N3 := Fr.app N0 N3q
  refine own_st (fun _ kt => st3.trans kt) ?_
  show own_Rch p e below _ T3 (mkF m 13 #[.val (.ref x)] [(.int (3 : Int32)), (.int pa)])
  refine own_st (fun _ kt => XS.iadd X3.here hx rfl (hb hby own_d25_13) rfl kt) ?_
  show own_Rch p e below _ T3 (mkF m 14 #[.val (.ref x)] [(.int (pa + (3 : Int32)))])
  refine own_st (fun _ kt => XS.iconst X3.here hx rfl (hb hby own_d25_14) kt) ?_
  show own_Rch p e below _ T3 (mkF m 15 #[.val (.ref x)] [(.int (1 : Int32)), (.int (pa + (3 : Int32)))])
  refine own_st (fun _ kt => XS.isub X3.here hx rfl (hb hby own_d25_15) rfl kt) ?_
  show own_Rch p e below _ T3 (mkF m 16 #[.val (.ref x)] [(.int ((pa + (3 : Int32)) - (1 : Int32)))])
  refine own_retI X3 hx Bd.notSynchronized Bd.returns (hb hby own_d25_16) (by decide) (by decide) ?_
  rw [hh3]
  exact ⟨rfl, N3, rfl⟩
def own_Q_own_copy3_4 (Z : State) (b : Addr) (kb : ClassId) (mr : Addr) (zz : Addr) (oo : Addr) (h0 : Heap) (n0 : Nat) (v : Option Value) (h : Heap) (L : List Loc) : Prop := ∃ (r : Addr) (kr : ClassId), v = some (.ref r) ∧ Fr n0 L ∧ Keep h0 h [] ∧ h0.size ≤ r ∧ Exa Z h r "[Ljava/lang/Object;" ∧ Arv Z h r kr (.object "java/lang/Object") (4 : Int32) [(.ref zz), (.ref zz), (.ref zz), (.ref oo)] .null ∧ Ovr Z kr "java/lang/Object"
set_option maxRecDepth 65536 in
set_option maxHeartbeats 40000000 in
theorem own_copy3_4 (l : Launch) (Z : State) (a0 : Array Value) (hw : ∀ d ∈ tables_1, d.before a0 Z = true) (ws : List Jvm.Cond) (b : Addr) (kb : ClassId) (mr : Addr) (zz : Addr) (oo : Addr) (h0 : Heap) (n0 : Nat) (O0 : Old Z n0 h0) (EB : Exa Z h0 b "[Ljava/lang/Object;") (VB : Arv Z h0 b kb (.object "java/lang/Object") (10 : Int32) [(.ref zz), (.ref zz), (.ref zz), (.ref oo), .null, .null, .null, .null, .null, .null] .null) (EZ : Exa Z Z.heap zz "java/math/BigDecimal") (EO : Exa Z Z.heap oo "java/math/BigDecimal") (MR : own_Mir Z "[Ljava/lang/Object;" mr) :
    MetFree l (⟨"java/util/Arrays", "copyOf", "([Ljava/lang/Object;ILjava/lang/Class;)[Ljava/lang/Object;"⟩ : MethodName) (head1 (Jvm.Cond.code (⟨"java/util/Arrays", "copyOf", "([Ljava/lang/Object;ILjava/lang/Class;)[Ljava/lang/Object;"⟩ : MethodName) jdk_65_method_120_code 4 (some (.array (.object "java/lang/Object"))) :: ws) ({ frames := 1, cells := 1, slots := 4, locals := 18 } : Room)) (fun args_ U => args_ = #[(.ref b), (.int (4 : Int32)), (.ref mr)] ∧ Z.Warmed39 U.vm ∧ U.heap = h0) (fun _ _ _ _ _ => True) (fun _ U o U' => ∃ v L, o = .returned v ∧ (own_Q_own_copy3_4 Z b kb mr zz oo h0 n0) v U'.heap L ∧ FrameEnd U o U' L ({ frames := 1, cells := 1, slots := 4, locals := 18 } : Room).cells ({ frames := 1, cells := 1, slots := 4, locals := 18 } : Room).slots) := by
  refine MetFree.of_bodySF (plainFor_of_name own_pn6) hisR ?_
  intro p e s m args below meth c s₁ Bd hml0 hP hK
  obtain ⟨rfl, hZ, hh⟩ := hP
  have hx := Bd.exec
  have hby := Bd.bytes
  have hml : c.maxLocals = 4 := hml0
  have hown : s.vm.findClass "java/util/Arrays" = some m.cls := findClass_of_methodNamed Bd.named
  have hnm := (name_of_methodNamed Bd.named Bd.method).1
  have X0 : Stand p l e ({ frames := 1, cells := 1, slots := 4, locals := 18 } : Room) s m #[(.ref b), (.int (4 : Int32)), (.ref mr)] below meth c s₁ [] 0 0 := Stand.of_body Bd
  have e0 : s₁.heap = h0 := by rw [← hh, Bd.state]; rfl
  have N0 := Fr.nil n0
  refine own_close (s := s) (Q := (own_Q_own_copy3_4 Z b kb mr zz oo h0 n0)) (C := (({ frames := 1, cells := 1, slots := 4, locals := 18 } : Room)).cells) (N := (({ frames := 1, cells := 1, slots := 4, locals := 18 } : Room)).slots) (own_st (fun _ kt => castTop (own_ef17 m b (4 : Int32) mr) kt) ?_)
  have K0 := Keep.refl h0 []
  show own_Rch p e below _ s₁ (mkF m 0 #[.val (.ref b), .val (.int (4 : Int32)), .val (.ref mr), .unset] [])
  refine own_st (fun _ kt => XS.aloadN X0.here hx rfl (hb hby own_d17_0) rfl rfl  kt) ?_
  show own_Rch p e below _ s₁ (mkF m 1 #[.val (.ref b), .val (.int (4 : Int32)), .val (.ref mr), .unset] [(.ref mr)])
  obtain ⟨T1, X1, e1, st1⟩ := own_ldcm X0 hx hZ hown (hw _ (List.mem_of_getElem? (i := 127) rfl)) e0 MR (g := (mkF m 1 #[.val (.ref b), .val (.int (4 : Int32)), .val (.ref mr), .unset] [(.ref mr)])) rfl (hb hby own_d17_1)
  refine own_st st1 ?_
  show own_Rch p e below _ T1 (mkF m 3 #[.val (.ref b), .val (.int (4 : Int32)), .val (.ref mr), .unset] [(.ref mr), (.ref mr)])
  refine own_st (fun _ kt => Jvm.RoadKit.acmp (g := (mkF m 3 #[.val (.ref b), .val (.int (4 : Int32)), .val (.ref mr), .unset] [(.ref mr), (.ref mr)])) X1 hx rfl rfl rfl (pc0 := 3) (pc' := 6) (same := true) rfl (hb hby own_d17_3) rfl (decide_eq_true rfl) (by decide) (by decide) kt) ?_
  show own_Rch p e below _ T1 (mkF m 6 #[.val (.ref b), .val (.int (4 : Int32)), .val (.ref mr), .unset] [])
  refine own_st (fun _ kt => XS.iloadN X1.here hx rfl (hb hby own_d17_6) rfl  kt) ?_
  show own_Rch p e below _ T1 (mkF m 7 #[.val (.ref b), .val (.int (4 : Int32)), .val (.ref mr), .unset] [(.int (4 : Int32))])
  obtain ⟨T2, h2, k2, X2, e2, E2, A2, Ex2, Ov2, st2⟩ := newRE X1 hx hZ hown (hw _ (List.mem_of_getElem? (i := 128) rfl)) (hw _ (List.mem_of_getElem? (i := 58) rfl)) e1 (g := (mkF m 7 #[.val (.ref b), .val (.int (4 : Int32)), .val (.ref mr), .unset] [(.int (4 : Int32))])) rfl (hb hby own_d17_7) rfl (by decide) (cap := 4) (by decide) (by decide) (by decide) (by decide) (ad := "[Ljava/lang/Object;") (by decide)
  obtain ⟨b2, g2⟩ : ∃ z, z = h0.size := ⟨_, rfl⟩
  rw [← g2] at A2 Ex2 st2
  have ge2 : n0 ≤ b2 := by rw [g2]; exact own_old_le O0
  have ne2_b : b ≠ b2 := by rw [g2]; exact Nat.ne_of_lt EB.lt
  have sz2 : h0.size ≤ b2 := by rw [g2]; exact K0.1
  have O0_x2 := O0.ext E2
  have EB_x2 := EB.ext E2
  have VB_x2 := VB.ext E2
  have K0_x2 := K0.ext E2
  refine own_st st2 ?_
  have V2 := Arv.new A2 (by decide)
  have V2p : Arv Z h2 b2 k2 (.object "java/lang/Object") (4 : Int32) [.null, .null, .null, .null] .null := V2.pad (pad_rep [] .null 4)
  show own_Rch p e below _ T2 (mkF m 10 #[.val (.ref b), .val (.int (4 : Int32)), .val (.ref mr), .unset] [(.ref b2)])
  refine own_st (fun _ kt => XS.goto X2.here hx rfl (pc0 := 10) (pc' := 24) rfl (hb hby own_d17_10) (by decide) (by decide) kt) ?_
  show own_Rch p e below _ T2 (mkF m 24 #[.val (.ref b), .val (.int (4 : Int32)), .val (.ref mr), .unset] [(.ref b2)])
  refine own_st (fun _ kt => XS.astoreN X2.here hx rfl (hb hby own_d17_24) rfl rfl (l' := #[.val (.ref b), .val (.int (4 : Int32)), .val (.ref mr), .val (.ref b2)]) rfl kt) ?_
  show own_Rch p e below _ T2 (mkF m 25 #[.val (.ref b), .val (.int (4 : Int32)), .val (.ref mr), .val (.ref b2)] [])
  refine own_st (fun _ kt => XS.aloadN X2.here hx rfl (hb hby own_d17_25) rfl rfl  kt) ?_
  show own_Rch p e below _ T2 (mkF m 26 #[.val (.ref b), .val (.int (4 : Int32)), .val (.ref mr), .val (.ref b2)] [(.ref b)])
  refine own_st (fun _ kt => XS.iconst X2.here hx rfl (hb hby own_d17_26) kt) ?_
  show own_Rch p e below _ T2 (mkF m 27 #[.val (.ref b), .val (.int (4 : Int32)), .val (.ref mr), .val (.ref b2)] [(.int (0 : Int32)), (.ref b)])
  refine own_st (fun _ kt => XS.aloadN X2.here hx rfl (hb hby own_d17_27) rfl rfl  kt) ?_
  show own_Rch p e below _ T2 (mkF m 28 #[.val (.ref b), .val (.int (4 : Int32)), .val (.ref mr), .val (.ref b2)] [(.ref b2), (.int (0 : Int32)), (.ref b)])
  refine own_st (fun _ kt => XS.iconst X2.here hx rfl (hb hby own_d17_28) kt) ?_
  show own_Rch p e below _ T2 (mkF m 29 #[.val (.ref b), .val (.int (4 : Int32)), .val (.ref mr), .val (.ref b2)] [(.int (0 : Int32)), (.ref b2), (.int (0 : Int32)), (.ref b)])
  refine own_st (fun _ kt => XS.aloadN X2.here hx rfl (hb hby own_d17_29) rfl rfl  kt) ?_
  show own_Rch p e below _ T2 (mkF m 30 #[.val (.ref b), .val (.int (4 : Int32)), .val (.ref mr), .val (.ref b2)] [(.ref b), (.int (0 : Int32)), (.ref b2), (.int (0 : Int32)), (.ref b)])
  obtain ⟨cl3, Ar3, -, S3, M3, -, -⟩ := id VB_x2
  refine own_st (X2.arraylength hx (by rw [e2]; exact Ar3.1) (State.isArrayOf_alike (hZ).alike Ar3.2.1) (g := (mkF m 30 #[.val (.ref b), .val (.int (4 : Int32)), .val (.ref mr), .val (.ref b2)] [(.ref b), (.int (0 : Int32)), (.ref b2), (.int (0 : Int32)), (.ref b)])) rfl rfl (hb hby own_d17_30)) ?_
  rw [len_of S3 M3]
  show own_Rch p e below _ T2 (mkF m 31 #[.val (.ref b), .val (.int (4 : Int32)), .val (.ref mr), .val (.ref b2)] [(.int (10 : Int32)), (.int (0 : Int32)), (.ref b2), (.int (0 : Int32)), (.ref b)])
  refine own_st (fun _ kt => XS.iloadN X2.here hx rfl (hb hby own_d17_31) rfl  kt) ?_
  show own_Rch p e below _ T2 (mkF m 32 #[.val (.ref b), .val (.int (4 : Int32)), .val (.ref mr), .val (.ref b2)] [(.int (4 : Int32)), (.int (10 : Int32)), (.int (0 : Int32)), (.ref b2), (.int (0 : Int32)), (.ref b)])
  obtain ⟨_, _, ⟨T4, L4, k4, n4⟩, -, X4, ⟨Lc4, hQ4, l4, y4, z4⟩, st4⟩ := Jvm.LawKit.callS X2 hx (y := (⟨"java/lang/Math", "min", "(II)I"⟩ : MethodName)) hown (mvT hZ (hw _ (List.mem_of_getElem? (i := 129) rfl))) (mvT hZ (hw _ (List.mem_of_getElem? (i := 130) rfl))) (mvT hZ (hw _ (List.mem_of_getElem? (i := 55) rfl))) (mvT hZ (hw _ (List.mem_of_getElem? (i := 131) rfl))) (by decide) (backOf (W := 4) (own_mi l Z a0 hw [] (10 : Int32) (4 : Int32) h2 n0 O0_x2 (by decide)) hZ (hw _ (List.mem_of_getElem? (i := 131) rfl)) (hw _ (List.mem_of_getElem? (i := 55) rfl)) (by decide) (by decide)) (g := (mkF m 32 #[.val (.ref b), .val (.int (4 : Int32)), .val (.ref mr), .val (.ref b2)] [(.int (4 : Int32)), (.int (10 : Int32)), (.int (0 : Int32)), (.ref b2), (.int (0 : Int32)), (.ref b)])) rfl (by rw [hml]; rfl) (argsL := [(.int (10 : Int32)), (.int (4 : Int32))]) (rest := [(.int (0 : Int32)), (.ref b2), (.int (0 : Int32)), (.ref b)]) (lenOf own_pd1 rfl) rfl (by show 2 * 0 + _ ≤ _; exact Nat.le_of_eq rfl) (hb hby own_d17_32) (fun _ _ => ⟨rfl, e2, (by decide : 1 + 0 ≤ _), (by decide : 4 + 0 ≤ _)⟩)
  dsimp only [Pt.U, Pt.locs, Pt.cells, Pt.slots] at X4 l4 y4 z4 st4 hQ4
  subst l4 y4 z4
  obtain ⟨rfl, N4q, hh4⟩ := hQ4
  have N4 := Fr.app N0 N4q
  refine own_st st4 ?_
  show own_Rch p e below _ T4 (mkF m 35 #[.val (.ref b), .val (.int (4 : Int32)), .val (.ref mr), .val (.ref b2)] [(.int (4 : Int32)), (.int (0 : Int32)), (.ref b2), (.int (0 : Int32)), (.ref b)])
  obtain ⟨cl5, Ar5, q5, -⟩ := id V2p
  obtain ⟨T5, h5, lo5, X5, e5, N5, K5, V5, st5⟩ := cpA X4 hx hZ hown (hw _ (List.mem_of_getElem? (i := 132) rfl)) (hw _ (List.mem_of_getElem? (i := 135) rfl)) (hw _ (List.mem_of_getElem? (i := 133) rfl)) (hw _ (List.mem_of_getElem? (i := 134) rfl)) hh4 VB_x2 V2p (us := [(.ref zz), (.ref zz), (.ref zz), (.ref oo)]) (Or.inr ⟨rfl, rfl, ⟨Sto.ofV Ar5 q5 Ov2 (Ins.of_exa (EZ.ext O0_x2.2) (hw _ (List.mem_of_getElem? (i := 59) rfl))), ⟨Sto.ofV Ar5 q5 Ov2 (Ins.of_exa (EZ.ext O0_x2.2) (hw _ (List.mem_of_getElem? (i := 59) rfl))), ⟨Sto.ofV Ar5 q5 Ov2 (Ins.of_exa (EZ.ext O0_x2.2) (hw _ (List.mem_of_getElem? (i := 59) rfl))), ⟨Sto.ofV Ar5 q5 Ov2 (Ins.of_exa (EO.ext O0_x2.2) (hw _ (List.mem_of_getElem? (i := 59) rfl))), trivial⟩⟩⟩⟩⟩) (sp := (0 : Int32)) (dp := (0 : Int32)) (nn := (4 : Int32)) (by decide) (by decide) (by decide) (by decide) (by decide) rfl (by decide) N4 ge2 (g := (mkF m 35 #[.val (.ref b), .val (.int (4 : Int32)), .val (.ref mr), .val (.ref b2)] [(.int (4 : Int32)), (.int (0 : Int32)), (.ref b2), (.int (0 : Int32)), (.ref b)])) rfl (by rw [hml]; rfl) rfl (hb hby own_d17_35) (by decide) (W := 0) (by show 2 * 0 + _ ≤ _; exact Nat.le_of_eq rfl) (by decide)
  have V5s : Arv Z h5 b2 k2 (.object "java/lang/Object") (4 : Int32) [(.ref zz), (.ref zz), (.ref zz), (.ref oo)] .null := V5
  refine own_st st5 ?_
  have O0_x5 := O0_x2.keep K5 (allS ge2 all0)
  have EB_x5 := EB_x2.keep K5
  have VB_x5 := VB_x2.keep K5 (ninS ne2_b nin0)
  have K0_x5 := K0_x2.trans K5 (allS (Or.inr sz2) all0)
  have Ex2_x5 := Ex2.keep K5
  show own_Rch p e below _ T5 (mkF m 38 #[.val (.ref b), .val (.int (4 : Int32)), .val (.ref mr), .val (.ref b2)] [])
  refine own_st (fun _ kt => XS.aloadN X5.here hx rfl (hb hby own_d17_38) rfl rfl  kt) ?_
  show own_Rch p e below _ T5 (mkF m 39 #[.val (.ref b), .val (.int (4 : Int32)), .val (.ref mr), .val (.ref b2)] [(.ref b2)])
  refine own_retA rfl rfl X5 hx Bd.notSynchronized Bd.returns (hb hby own_d17_39) (by decide) (by decide) ?_
  rw [e5]
  exact ⟨_, _, rfl, N5, K0_x5, sz2, Ex2_x5, V5s, Ov2⟩
def own_Q_own_copy2_4 (Z : State) (b : Addr) (kb : ClassId) (mr : Addr) (zz : Addr) (oo : Addr) (h0 : Heap) (n0 : Nat) (v : Option Value) (h : Heap) (L : List Loc) : Prop := ∃ (r : Addr) (kr : ClassId), v = some (.ref r) ∧ Fr n0 L ∧ Keep h0 h [] ∧ h0.size ≤ r ∧ Exa Z h r "[Ljava/lang/Object;" ∧ Arv Z h r kr (.object "java/lang/Object") (4 : Int32) [(.ref zz), (.ref zz), (.ref zz), (.ref oo)] .null ∧ Ovr Z kr "java/lang/Object"
set_option maxRecDepth 65536 in
set_option maxHeartbeats 40000000 in
theorem own_copy2_4 (l : Launch) (Z : State) (a0 : Array Value) (hw : ∀ d ∈ tables_1, d.before a0 Z = true) (ws : List Jvm.Cond) (b : Addr) (kb : ClassId) (mr : Addr) (zz : Addr) (oo : Addr) (h0 : Heap) (n0 : Nat) (O0 : Old Z n0 h0) (EB : Exa Z h0 b "[Ljava/lang/Object;") (VB : Arv Z h0 b kb (.object "java/lang/Object") (10 : Int32) [(.ref zz), (.ref zz), (.ref zz), (.ref oo), .null, .null, .null, .null, .null, .null] .null) (EZ : Exa Z Z.heap zz "java/math/BigDecimal") (EO : Exa Z Z.heap oo "java/math/BigDecimal") (MR : own_Mir Z "[Ljava/lang/Object;" mr) :
    MetFree l (⟨"java/util/Arrays", "copyOf", "([Ljava/lang/Object;I)[Ljava/lang/Object;"⟩ : MethodName) (head1 (Jvm.Cond.code (⟨"java/util/Arrays", "copyOf", "([Ljava/lang/Object;I)[Ljava/lang/Object;"⟩ : MethodName) jdk_65_method_119_code 2 (some (.array (.object "java/lang/Object"))) :: ws) ({ frames := 2, cells := 1, slots := 4, locals := 33 } : Room)) (fun args_ U => args_ = #[(.ref b), (.int (4 : Int32))] ∧ Z.Warmed39 U.vm ∧ U.heap = h0) (fun _ _ _ _ _ => True) (fun _ U o U' => ∃ v L, o = .returned v ∧ (own_Q_own_copy2_4 Z b kb mr zz oo h0 n0) v U'.heap L ∧ FrameEnd U o U' L ({ frames := 2, cells := 1, slots := 4, locals := 33 } : Room).cells ({ frames := 2, cells := 1, slots := 4, locals := 33 } : Room).slots) := by
  refine MetFree.of_bodySF (plainFor_of_name own_pn6) hisR ?_
  intro p e s m args below meth c s₁ Bd hml0 hP hK
  obtain ⟨rfl, hZ, hh⟩ := hP
  have hx := Bd.exec
  have hby := Bd.bytes
  have hml : c.maxLocals = 2 := hml0
  have hown : s.vm.findClass "java/util/Arrays" = some m.cls := findClass_of_methodNamed Bd.named
  have hnm := (name_of_methodNamed Bd.named Bd.method).1
  have X0 : Stand p l e ({ frames := 2, cells := 1, slots := 4, locals := 33 } : Room) s m #[(.ref b), (.int (4 : Int32))] below meth c s₁ [] 0 0 := Stand.of_body Bd
  have e0 : s₁.heap = h0 := by rw [← hh, Bd.state]; rfl
  have N0 := Fr.nil n0
  refine own_close (s := s) (Q := (own_Q_own_copy2_4 Z b kb mr zz oo h0 n0)) (C := (({ frames := 2, cells := 1, slots := 4, locals := 33 } : Room)).cells) (N := (({ frames := 2, cells := 1, slots := 4, locals := 33 } : Room)).slots) (own_st (fun _ kt => castTop (own_ef16 m b (4 : Int32)) kt) ?_)
  have K0 := Keep.refl h0 []
  show own_Rch p e below _ s₁ (mkF m 0 #[.val (.ref b), .val (.int (4 : Int32))] [])
  refine own_st (fun _ kt => XS.aloadN X0.here hx rfl (hb hby own_d16_0) rfl rfl  kt) ?_
  show own_Rch p e below _ s₁ (mkF m 1 #[.val (.ref b), .val (.int (4 : Int32))] [(.ref b)])
  refine own_st (fun _ kt => XS.iloadN X0.here hx rfl (hb hby own_d16_1) rfl  kt) ?_
  show own_Rch p e below _ s₁ (mkF m 2 #[.val (.ref b), .val (.int (4 : Int32))] [(.int (4 : Int32)), (.ref b)])
  refine own_st (fun _ kt => XS.aloadN X0.here hx rfl (hb hby own_d16_2) rfl rfl  kt) ?_
  show own_Rch p e below _ s₁ (mkF m 3 #[.val (.ref b), .val (.int (4 : Int32))] [(.ref b), (.int (4 : Int32)), (.ref b)])
  obtain ⟨T1, X1, e1, st1⟩ := own_gcls X0 hx hZ hown (hw _ (List.mem_of_getElem? (i := 118) rfl)) (hw _ (List.mem_of_getElem? (i := 119) rfl)) (hw _ (List.mem_of_getElem? (i := 95) rfl)) (hw _ (List.mem_of_getElem? (i := 121) rfl)) (hw _ (List.mem_of_getElem? (i := 120) rfl)) (hw _ (List.mem_of_getElem? (i := 122) rfl)) e0 EB MR (g := (mkF m 3 #[.val (.ref b), .val (.int (4 : Int32))] [(.ref b), (.int (4 : Int32)), (.ref b)])) rfl (by rw [hml]; rfl) rfl (hb hby own_d16_3) (by decide) (W := 2) (by show 2 * 0 + _ ≤ _; exact Nat.le_of_eq rfl) (by decide)
  refine own_st st1 ?_
  show own_Rch p e below _ T1 (mkF m 6 #[.val (.ref b), .val (.int (4 : Int32))] [(.ref mr), (.int (4 : Int32)), (.ref b)])
  obtain ⟨_, _, ⟨T2, L2, k2, n2⟩, -, X2, ⟨Lc2, hQ2, l2, y2, z2⟩, st2⟩ := Jvm.LawKit.callS X1 hx (y := (⟨"java/util/Arrays", "copyOf", "([Ljava/lang/Object;ILjava/lang/Class;)[Ljava/lang/Object;"⟩ : MethodName)) hown (mvT hZ (hw _ (List.mem_of_getElem? (i := 124) rfl))) (mvT hZ (hw _ (List.mem_of_getElem? (i := 125) rfl))) (mvT hZ (hw _ (List.mem_of_getElem? (i := 116) rfl))) (mvT hZ (hw _ (List.mem_of_getElem? (i := 126) rfl))) (by decide) (backOf (W := 0) (own_copy3_4 l Z a0 hw [] b kb mr zz oo h0 n0 O0 EB VB EZ EO MR) hZ (hw _ (List.mem_of_getElem? (i := 126) rfl)) (hw _ (List.mem_of_getElem? (i := 116) rfl)) (by decide) (by decide)) (g := (mkF m 6 #[.val (.ref b), .val (.int (4 : Int32))] [(.ref mr), (.int (4 : Int32)), (.ref b)])) rfl (by rw [hml]; rfl) (argsL := [(.ref b), (.int (4 : Int32)), (.ref mr)]) (rest := []) (lenOf own_pd5 rfl) rfl (by show 2 * 0 + _ ≤ _; exact Nat.le_of_eq rfl) (hb hby own_d16_6) (fun _ _ => ⟨rfl, e1, (by decide : 0 + 1 ≤ _), (by decide : 0 + 4 ≤ _)⟩)
  dsimp only [Pt.U, Pt.locs, Pt.cells, Pt.slots] at X2 l2 y2 z2 st2 hQ2
  subst l2 y2 z2
  obtain ⟨br2, kr2, rfl, N2q, K2, hb2, Er2, Vr2, Or2⟩ := hQ2
  have N2 := Fr.app N0 N2q
  refine own_st st2 ?_
  have ne2_b_br2 : b ≠ br2 := Nat.ne_of_lt (Nat.lt_of_lt_of_le EB.lt hb2)
  have ge2_br2 : n0 ≤ br2 := Nat.le_trans (own_old_le O0) hb2
  have sz2_br2 : h0.size ≤ br2 := Nat.le_trans K0.1 hb2
  have O0_x2 := O0.keep K2 all0
  have EB_x2 := EB.keep K2
  have VB_x2 := VB.keep K2 nin0
  have K0_x2 := K0.trans K2 all0
  show own_Rch p e below _ T2 (mkF m 9 #[.val (.ref b), .val (.int (4 : Int32))] [(.ref br2)])
  refine own_retA rfl rfl X2 hx Bd.notSynchronized Bd.returns (hb hby own_d16_9) (by decide) (by decide) ?_
  exact ⟨_, _, rfl, N2, K0_x2, sz2_br2, Er2, Vr2, Or2⟩
def own_Q_own_toarr_4 (Z : State) (a : Addr) (b : Addr) (kb : ClassId) (mr : Addr) (zz : Addr) (oo : Addr) (h0 : Heap) (n0 : Nat) (v : Option Value) (h : Heap) (L : List Loc) : Prop := ∃ (r : Addr) (kr : ClassId), v = some (.ref r) ∧ Fr n0 L ∧ Keep h0 h [] ∧ h0.size ≤ r ∧ Exa Z h r "[Ljava/lang/Object;" ∧ Arv Z h r kr (.object "java/lang/Object") (4 : Int32) [(.ref zz), (.ref zz), (.ref zz), (.ref oo)] .null ∧ Ovr Z kr "java/lang/Object"
set_option maxRecDepth 65536 in
set_option maxHeartbeats 40000000 in
theorem own_toarr_4 (l : Launch) (Z : State) (a0 : Array Value) (hw : ∀ d ∈ tables_1, d.before a0 Z = true) (ws : List Jvm.Cond) (a : Addr) (b : Addr) (kb : ClassId) (mr : Addr) (zz : Addr) (oo : Addr) (h0 : Heap) (n0 : Nat) (O0 : Old Z n0 h0) (EA : Exa Z h0 a "java/util/ArrayList") (FE : Fld Z h0 a "java/util/ArrayList" "elementData" "[Ljava/lang/Object;" (.ref b)) (FZ : Fld Z h0 a "java/util/ArrayList" "size" "I" (.int (4 : Int32))) (FM : Fld Z h0 a "java/util/AbstractList" "modCount" "I" (.int (4 : Int32))) (EB : Exa Z h0 b "[Ljava/lang/Object;") (VB : Arv Z h0 b kb (.object "java/lang/Object") (10 : Int32) [(.ref zz), (.ref zz), (.ref zz), (.ref oo), .null, .null, .null, .null, .null, .null] .null) (EZ : Exa Z Z.heap zz "java/math/BigDecimal") (EO : Exa Z Z.heap oo "java/math/BigDecimal") (MR : own_Mir Z "[Ljava/lang/Object;" mr) :
    MetFree l (⟨"java/util/ArrayList", "toArray", "()[Ljava/lang/Object;"⟩ : MethodName) (head1 (Jvm.Cond.code (⟨"java/util/ArrayList", "toArray", "()[Ljava/lang/Object;"⟩ : MethodName) jdk_38_method_16_code 1 (some (.array (.object "java/lang/Object"))) :: ws) ({ frames := 3, cells := 1, slots := 4, locals := 46 } : Room)) (fun args_ U => args_ = #[(.ref a)] ∧ Z.Warmed39 U.vm ∧ U.heap = h0) (fun _ _ _ _ _ => True) (fun _ U o U' => ∃ v L, o = .returned v ∧ (own_Q_own_toarr_4 Z a b kb mr zz oo h0 n0) v U'.heap L ∧ FrameEnd U o U' L ({ frames := 3, cells := 1, slots := 4, locals := 46 } : Room).cells ({ frames := 3, cells := 1, slots := 4, locals := 46 } : Room).slots) := by
  refine MetFree.of_bodySF (plainFor_of_name own_pn4) hisR ?_
  intro p e s m args below meth c s₁ Bd hml0 hP hK
  obtain ⟨rfl, hZ, hh⟩ := hP
  have hx := Bd.exec
  have hby := Bd.bytes
  have hml : c.maxLocals = 1 := hml0
  have hown : s.vm.findClass "java/util/ArrayList" = some m.cls := findClass_of_methodNamed Bd.named
  have hnm := (name_of_methodNamed Bd.named Bd.method).1
  have X0 : Stand p l e ({ frames := 3, cells := 1, slots := 4, locals := 46 } : Room) s m #[(.ref a)] below meth c s₁ [] 0 0 := Stand.of_body Bd
  have e0 : s₁.heap = h0 := by rw [← hh, Bd.state]; rfl
  have N0 := Fr.nil n0
  refine own_close (s := s) (Q := (own_Q_own_toarr_4 Z a b kb mr zz oo h0 n0)) (C := (({ frames := 3, cells := 1, slots := 4, locals := 46 } : Room)).cells) (N := (({ frames := 3, cells := 1, slots := 4, locals := 46 } : Room)).slots) (own_st (fun _ kt => castTop (own_ef15 m a) kt) ?_)
  have K0 := Keep.refl h0 []
  show own_Rch p e below _ s₁ (mkF m 0 #[.val (.ref a)] [])
  refine own_st (fun _ kt => XS.aloadN X0.here hx rfl (hb hby own_d15_0) rfl rfl  kt) ?_
  show own_Rch p e below _ s₁ (mkF m 1 #[.val (.ref a)] [(.ref a)])
  obtain ⟨T1, X1, e1, st1⟩ := getF X0 hx hZ hown (host := "") (Or.inl (hw _ (List.mem_of_getElem? (i := 25) rfl))) Via.refl e0 FE (g := (mkF m 1 #[.val (.ref a)] [(.ref a)])) rfl rfl (hb hby own_d15_1)
  refine own_st st1 ?_
  show own_Rch p e below _ T1 (mkF m 4 #[.val (.ref a)] [(.ref b)])
  refine own_st (fun _ kt => XS.aloadN X1.here hx rfl (hb hby own_d15_4) rfl rfl  kt) ?_
  show own_Rch p e below _ T1 (mkF m 5 #[.val (.ref a)] [(.ref a), (.ref b)])
  obtain ⟨T2, X2, e2, st2⟩ := getF X1 hx hZ hown (host := "") (Or.inl (hw _ (List.mem_of_getElem? (i := 36) rfl))) Via.refl e1 FZ (g := (mkF m 5 #[.val (.ref a)] [(.ref a), (.ref b)])) rfl rfl (hb hby own_d15_5)
  refine own_st st2 ?_
  show own_Rch p e below _ T2 (mkF m 8 #[.val (.ref a)] [(.int (4 : Int32)), (.ref b)])
  obtain ⟨_, _, ⟨T3, L3, k3, n3⟩, -, X3, ⟨Lc3, hQ3, l3, y3, z3⟩, st3⟩ := Jvm.LawKit.callS X2 hx (y := (⟨"java/util/Arrays", "copyOf", "([Ljava/lang/Object;I)[Ljava/lang/Object;"⟩ : MethodName)) hown (mvT hZ (hw _ (List.mem_of_getElem? (i := 114) rfl))) (mvT hZ (hw _ (List.mem_of_getElem? (i := 115) rfl))) (mvT hZ (hw _ (List.mem_of_getElem? (i := 116) rfl))) (mvT hZ (hw _ (List.mem_of_getElem? (i := 117) rfl))) (by decide) (backOf (W := 0) (own_copy2_4 l Z a0 hw [] b kb mr zz oo h0 n0 O0 EB VB EZ EO MR) hZ (hw _ (List.mem_of_getElem? (i := 117) rfl)) (hw _ (List.mem_of_getElem? (i := 116) rfl)) (by decide) (by decide)) (g := (mkF m 8 #[.val (.ref a)] [(.int (4 : Int32)), (.ref b)])) rfl (by rw [hml]; rfl) (argsL := [(.ref b), (.int (4 : Int32))]) (rest := []) (lenOf own_pd6 rfl) rfl (by show 2 * 0 + _ ≤ _; exact Nat.le_of_eq rfl) (hb hby own_d15_8) (fun _ _ => ⟨rfl, e2, (by decide : 0 + 1 ≤ _), (by decide : 0 + 4 ≤ _)⟩)
  dsimp only [Pt.U, Pt.locs, Pt.cells, Pt.slots] at X3 l3 y3 z3 st3 hQ3
  subst l3 y3 z3
  obtain ⟨br3, kr3, rfl, N3q, K3, hb3, Er3, Vr3, Or3⟩ := hQ3
  have N3 := Fr.app N0 N3q
  refine own_st st3 ?_
  have ne3_a_br3 : a ≠ br3 := Nat.ne_of_lt (Nat.lt_of_lt_of_le EA.lt hb3)
  have ne3_b_br3 : b ≠ br3 := Nat.ne_of_lt (Nat.lt_of_lt_of_le EB.lt hb3)
  have ge3_br3 : n0 ≤ br3 := Nat.le_trans (own_old_le O0) hb3
  have sz3_br3 : h0.size ≤ br3 := Nat.le_trans K0.1 hb3
  have O0_x3 := O0.keep K3 all0
  have EA_x3 := EA.keep K3
  have FE_x3 := FE.keep K3 nin0
  have FZ_x3 := FZ.keep K3 nin0
  have FM_x3 := FM.keep K3 nin0
  have EB_x3 := EB.keep K3
  have VB_x3 := VB.keep K3 nin0
  have K0_x3 := K0.trans K3 all0
  show own_Rch p e below _ T3 (mkF m 11 #[.val (.ref a)] [(.ref br3)])
  refine own_retA rfl rfl X3 hx Bd.notSynchronized Bd.returns (hb hby own_d15_11) (by decide) (by decide) ?_
  exact ⟨_, _, rfl, N3, K0_x3, sz3_br3, Er3, Vr3, Or3⟩
def own_Q_own_lfa_4 (Z : State) (b : Addr) (kb : ClassId) (zz : Addr) (oo : Addr) (em : Addr) (h0 : Heap) (n0 : Nat) (v : Option Value) (h : Heap) (L : List Loc) : Prop := ∃ q : Addr, v = some (.ref q) ∧ Fr n0 L ∧ Keep h0 h [] ∧ h0.size ≤ q ∧ ∃ (r : Addr) (kr : ClassId), h0.size ≤ r ∧ Exa Z h q "java/util/ImmutableCollections$ListN" ∧ Fld Z h q "java/util/ImmutableCollections$ListN" "elements" "[Ljava/lang/Object;" (.ref r) ∧ Arv Z h r kr (.object "java/lang/Object") (4 : Int32) [(.ref zz), (.ref zz), (.ref zz), (.ref oo)] .null
set_option maxRecDepth 65536 in
set_option maxHeartbeats 40000000 in
theorem own_lfa_4 (l : Launch) (Z : State) (a0 : Array Value) (hw : ∀ d ∈ tables_1, d.before a0 Z = true) (ws : List Jvm.Cond) (b : Addr) (kb : ClassId) (zz : Addr) (oo : Addr) (em : Addr) (h0 : Heap) (n0 : Nat) (O0 : Old Z n0 h0) (VB : Arv Z h0 b kb (.object "java/lang/Object") (4 : Int32) [(.ref zz), (.ref zz), (.ref zz), (.ref oo)] .null) (EZ : Exa Z Z.heap zz "java/math/BigDecimal") (EO : Exa Z Z.heap oo "java/math/BigDecimal") (SE : Sta Z Z.heap "java/util/ImmutableCollections" "EMPTY" "Ljava/lang/Object;" (.ref em)) :
    MetFree l (⟨"java/util/ImmutableCollections", "listFromArray", "([Ljava/lang/Object;)Ljava/util/List;"⟩ : MethodName) (head1 (Jvm.Cond.code (⟨"java/util/ImmutableCollections", "listFromArray", "([Ljava/lang/Object;)Ljava/util/List;"⟩ : MethodName) jdk_56_method_4_code 3 (some (.object "java/util/List")) :: ws) ({ frames := 5, cells := 2, slots := 6, locals := 63 } : Room)) (fun args_ U => args_ = #[(.ref b)] ∧ Z.Warmed39 U.vm ∧ U.heap = h0) (fun _ _ _ _ _ => True) (fun _ U o U' => ∃ v L, o = .returned v ∧ (own_Q_own_lfa_4 Z b kb zz oo em h0 n0) v U'.heap L ∧ FrameEnd U o U' L ({ frames := 5, cells := 2, slots := 6, locals := 63 } : Room).cells ({ frames := 5, cells := 2, slots := 6, locals := 63 } : Room).slots) := by
  refine MetFree.of_bodySF (plainFor_of_name own_pn9) hisR ?_
  intro p e s m args below meth c s₁ Bd hml0 hP hK
  obtain ⟨rfl, hZ, hh⟩ := hP
  have hx := Bd.exec
  have hby := Bd.bytes
  have hml : c.maxLocals = 3 := hml0
  have hown : s.vm.findClass "java/util/ImmutableCollections" = some m.cls := findClass_of_methodNamed Bd.named
  have hnm := (name_of_methodNamed Bd.named Bd.method).1
  have X0 : Stand p l e ({ frames := 5, cells := 2, slots := 6, locals := 63 } : Room) s m #[(.ref b)] below meth c s₁ [] 0 0 := Stand.of_body Bd
  have e0 : s₁.heap = h0 := by rw [← hh, Bd.state]; rfl
  have N0 := Fr.nil n0
  refine own_close (s := s) (Q := (own_Q_own_lfa_4 Z b kb zz oo em h0 n0)) (C := (({ frames := 5, cells := 2, slots := 6, locals := 63 } : Room)).cells) (N := (({ frames := 5, cells := 2, slots := 6, locals := 63 } : Room)).slots) (own_st (fun _ kt => castTop (own_ef20 m b) kt) ?_)
  have K0 := Keep.refl h0 []
  show own_Rch p e below _ s₁ (mkF m 0 #[.val (.ref b), .unset, .unset] [])
  refine own_st (fun _ kt => XS.aloadN X0.here hx rfl (hb hby own_d20_0) rfl rfl  kt) ?_
  show own_Rch p e below _ s₁ (mkF m 1 #[.val (.ref b), .unset, .unset] [(.ref b)])
  obtain ⟨cl1, Ar1, -, S1, M1, -, -⟩ := id VB
  refine own_st (X0.arraylength hx (by rw [e0]; exact Ar1.1) (State.isArrayOf_alike (hZ).alike Ar1.2.1) (g := (mkF m 1 #[.val (.ref b), .unset, .unset] [(.ref b)])) rfl rfl (hb hby own_d20_1)) ?_
  rw [len_of S1 M1]
  show own_Rch p e below _ s₁ (mkF m 2 #[.val (.ref b), .unset, .unset] [(.int (4 : Int32))])
  obtain ⟨T2, h2, k2, X2, e2, E2, A2, Ex2, Ov2, st2⟩ := newRE X0 hx hZ hown (hw _ (List.mem_of_getElem? (i := 142) rfl)) (hw _ (List.mem_of_getElem? (i := 58) rfl)) e0 (g := (mkF m 2 #[.val (.ref b), .unset, .unset] [(.int (4 : Int32))])) rfl (hb hby own_d20_2) rfl (by decide) (cap := 4) (by decide) (by decide) (by decide) (by decide) (ad := "[Ljava/lang/Object;") (by decide)
  obtain ⟨b2, g2⟩ : ∃ z, z = h0.size := ⟨_, rfl⟩
  rw [← g2] at A2 Ex2 st2
  have ge2 : n0 ≤ b2 := by rw [g2]; exact own_old_le O0
  have ne2_b : b ≠ b2 := by rw [g2]; exact Nat.ne_of_lt VB.lt
  have sz2 : h0.size ≤ b2 := by rw [g2]; exact K0.1
  have O0_x2 := O0.ext E2
  have VB_x2 := VB.ext E2
  have K0_x2 := K0.ext E2
  refine own_st st2 ?_
  have V2 := Arv.new A2 (by decide)
  have V2p : Arv Z h2 b2 k2 (.object "java/lang/Object") (4 : Int32) [.null, .null, .null, .null] .null := V2.pad (pad_rep [] .null 4)
  show own_Rch p e below _ T2 (mkF m 5 #[.val (.ref b), .unset, .unset] [(.ref b2)])
  refine own_st (fun _ kt => XS.astoreN X2.here hx rfl (hb hby own_d20_5) rfl rfl (l' := #[.val (.ref b), .val (.ref b2), .unset]) rfl kt) ?_
  show own_Rch p e below _ T2 (mkF m 6 #[.val (.ref b), .val (.ref b2), .unset] [])
  refine own_st (fun _ kt => XS.iconst X2.here hx rfl (hb hby own_d20_6) kt) ?_
  show own_Rch p e below _ T2 (mkF m 7 #[.val (.ref b), .val (.ref b2), .unset] [(.int (0 : Int32))])
  refine own_st (fun _ kt => XS.istoreN X2.here hx rfl (hb hby own_d20_7) rfl (l' := #[.val (.ref b), .val (.ref b2), .val (.int (0 : Int32))]) rfl kt) ?_
  show own_Rch p e below _ T2 (mkF m 8 #[.val (.ref b), .val (.ref b2), .val (.int (0 : Int32))] [])
  refine own_st (fun _ kt => XS.iloadN X2.here hx rfl (hb hby own_d20_8) rfl  kt) ?_
  show own_Rch p e below _ T2 (mkF m 9 #[.val (.ref b), .val (.ref b2), .val (.int (0 : Int32))] [(.int (0 : Int32))])
  refine own_st (fun _ kt => XS.aloadN X2.here hx rfl (hb hby own_d20_9) rfl rfl  kt) ?_
  show own_Rch p e below _ T2 (mkF m 10 #[.val (.ref b), .val (.ref b2), .val (.int (0 : Int32))] [(.ref b), (.int (0 : Int32))])
  obtain ⟨cl3, Ar3, -, S3, M3, -, -⟩ := id VB_x2
  refine own_st (X2.arraylength hx (by rw [e2]; exact Ar3.1) (State.isArrayOf_alike (hZ).alike Ar3.2.1) (g := (mkF m 10 #[.val (.ref b), .val (.ref b2), .val (.int (0 : Int32))] [(.ref b), (.int (0 : Int32))])) rfl rfl (hb hby own_d20_10)) ?_
  rw [len_of S3 M3]
  show own_Rch p e below _ T2 (mkF m 11 #[.val (.ref b), .val (.ref b2), .val (.int (0 : Int32))] [(.int (4 : Int32)), (.int (0 : Int32))])
  refine own_st (fun _ kt => XS.icmpNo X2.here hx rfl (hb hby own_d20_11) rfl (tlt ((by decide) : (0 : Int32) < (4 : Int32))).2.1 kt) ?_
  show own_Rch p e below _ T2 (mkF m 14 #[.val (.ref b), .val (.ref b2), .val (.int (0 : Int32))] [])
  refine own_st (fun _ kt => XS.aloadN X2.here hx rfl (hb hby own_d20_14) rfl rfl  kt) ?_
  show own_Rch p e below _ T2 (mkF m 15 #[.val (.ref b), .val (.ref b2), .val (.int (0 : Int32))] [(.ref b2)])
  refine own_st (fun _ kt => XS.iloadN X2.here hx rfl (hb hby own_d20_15) rfl  kt) ?_
  show own_Rch p e below _ T2 (mkF m 16 #[.val (.ref b), .val (.ref b2), .val (.int (0 : Int32))] [(.int (0 : Int32)), (.ref b2)])
  refine own_st (fun _ kt => XS.aloadN X2.here hx rfl (hb hby own_d20_16) rfl rfl  kt) ?_
  show own_Rch p e below _ T2 (mkF m 17 #[.val (.ref b), .val (.ref b2), .val (.int (0 : Int32))] [(.ref b), (.int (0 : Int32)), (.ref b2)])
  refine own_st (fun _ kt => XS.iloadN X2.here hx rfl (hb hby own_d20_17) rfl  kt) ?_
  show own_Rch p e below _ T2 (mkF m 18 #[.val (.ref b), .val (.ref b2), .val (.int (0 : Int32))] [(.int (0 : Int32)), (.ref b), (.int (0 : Int32)), (.ref b2)])
  obtain ⟨cl4, Ar4, q4, S4, M4, H4, G4⟩ := id VB_x2
  have hin4 : ¬ ((0 : Int32) < 0 ∨ cl4.slots.size ≤ ((0 : Int32)).toNatClampNeg) := inb_of S4 ⟨by decide, by decide⟩
  refine own_st (X2.aaload hx (j := (0 : Int32)) (v := (.ref zz)) (by rw [e2]; exact Ar4.1) (State.isArrayOf_alike (hZ).alike Ar4.2.1) rfl Ar4.2.2 hin4 (H4.at hin4 rfl) (g := (mkF m 18 #[.val (.ref b), .val (.ref b2), .val (.int (0 : Int32))] [(.int (0 : Int32)), (.ref b), (.int (0 : Int32)), (.ref b2)])) rfl rfl (hb hby own_d20_18)) ?_
  show own_Rch p e below _ T2 (mkF m 19 #[.val (.ref b), .val (.ref b2), .val (.int (0 : Int32))] [(.ref zz), (.int (0 : Int32)), (.ref b2)])
  obtain ⟨_, _, ⟨T5, L5, k5, n5⟩, -, X5, ⟨Lc5, hQ5, l5, y5, z5⟩, st5⟩ := Jvm.LawKit.callS X2 hx (y := (⟨"java/util/Objects", "requireNonNull", "(Ljava/lang/Object;)Ljava/lang/Object;"⟩ : MethodName)) hown (mvT hZ (hw _ (List.mem_of_getElem? (i := 143) rfl))) (mvT hZ (hw _ (List.mem_of_getElem? (i := 144) rfl))) (mvT hZ (hw _ (List.mem_of_getElem? (i := 145) rfl))) (mvT hZ (hw _ (List.mem_of_getElem? (i := 146) rfl))) (by decide) (backOf (W := 2) (own_rnn l Z a0 hw [] zz h2 n0 O0_x2 ) hZ (hw _ (List.mem_of_getElem? (i := 146) rfl)) (hw _ (List.mem_of_getElem? (i := 145) rfl)) (by decide) (by decide)) (g := (mkF m 19 #[.val (.ref b), .val (.ref b2), .val (.int (0 : Int32))] [(.ref zz), (.int (0 : Int32)), (.ref b2)])) rfl (by rw [hml]; rfl) (argsL := [(.ref zz)]) (rest := [(.int (0 : Int32)), (.ref b2)]) (lenOf own_pd7 rfl) rfl (by show 2 * 0 + _ ≤ _; exact Nat.le_of_eq rfl) (hb hby own_d20_19) (fun _ _ => ⟨rfl, e2, (by decide : 1 + 0 ≤ _), (by decide : 4 + 0 ≤ _)⟩)
  dsimp only [Pt.U, Pt.locs, Pt.cells, Pt.slots] at X5 l5 y5 z5 st5 hQ5
  subst l5 y5 z5
  obtain ⟨rfl, N5q, hh5⟩ := hQ5
  have N5 := Fr.app N0 N5q
  refine own_st st5 ?_
  show own_Rch p e below _ T5 (mkF m 22 #[.val (.ref b), .val (.ref b2), .val (.int (0 : Int32))] [(.ref zz), (.int (0 : Int32)), (.ref b2)])
  obtain ⟨cl6, Ar6, q6, S6, M6, H6, G6⟩ := id V2p
  have hin6 : ¬ ((0 : Int32) < 0 ∨ cl6.slots.size ≤ ((0 : Int32)).toNatClampNeg) := inb_of S6 ⟨by decide, by decide⟩
  obtain ⟨T6, h6, X6, e6, W6, st6⟩ := stR X5 hx hZ hh5 Ar6 (j := (0 : Int32)) hin6 rfl (Sto.ofV Ar6 q6 Ov2 (Ins.of_exa (EZ.ext O0_x2.2) (hw _ (List.mem_of_getElem? (i := 59) rfl)))) (g := (mkF m 22 #[.val (.ref b), .val (.ref b2), .val (.int (0 : Int32))] [(.ref zz), (.int (0 : Int32)), (.ref b2)])) rfl rfl (hb hby own_d20_22)
  have V6 := Arv.set Ar6 q6 S6 M6 H6 G6 rfl W6 0 rfl (Nat.le_of_ble_eq_true rfl)
  have V6s : Arv Z h6 b2 k2 (.object "java/lang/Object") (4 : Int32) [(.ref zz), .null, .null, .null] .null := V6
  have N6 := Fr.snoc X6 N5 ge2
  refine own_st st6 ?_
  have O0_x6 := O0_x2.wr W6 ge2
  have VB_x6 := VB_x2.other W6 ne2_b
  have K0_x6 := K0_x2.wr W6 (Or.inr sz2)
  have Ex2_x6 := Ex2.wr W6
  show own_Rch p e below _ T6 (mkF m 23 #[.val (.ref b), .val (.ref b2), .val (.int (0 : Int32))] [])
  refine own_st (fun _ kt => XS.iinc X6.here hx rfl (hb hby own_d20_23) rfl (l' := #[.val (.ref b), .val (.ref b2), .val (.int (1 : Int32))]) rfl kt) ?_
  show own_Rch p e below _ T6 (mkF m 26 #[.val (.ref b), .val (.ref b2), .val (.int (1 : Int32))] [])
  refine own_st (fun _ kt => XS.goto X6.here hx rfl (pc0 := 26) (pc' := 8) rfl (hb hby own_d20_26) (by decide) (by decide) kt) ?_
  show own_Rch p e below _ T6 (mkF m 8 #[.val (.ref b), .val (.ref b2), .val (.int (1 : Int32))] [])
  refine own_st (fun _ kt => XS.iloadN X6.here hx rfl (hb hby own_d20_8) rfl  kt) ?_
  show own_Rch p e below _ T6 (mkF m 9 #[.val (.ref b), .val (.ref b2), .val (.int (1 : Int32))] [(.int (1 : Int32))])
  refine own_st (fun _ kt => XS.aloadN X6.here hx rfl (hb hby own_d20_9) rfl rfl  kt) ?_
  show own_Rch p e below _ T6 (mkF m 10 #[.val (.ref b), .val (.ref b2), .val (.int (1 : Int32))] [(.ref b), (.int (1 : Int32))])
  obtain ⟨cl7, Ar7, -, S7, M7, -, -⟩ := id VB_x6
  refine own_st (X6.arraylength hx (by rw [e6]; exact Ar7.1) (State.isArrayOf_alike (hZ).alike Ar7.2.1) (g := (mkF m 10 #[.val (.ref b), .val (.ref b2), .val (.int (1 : Int32))] [(.ref b), (.int (1 : Int32))])) rfl rfl (hb hby own_d20_10)) ?_
  rw [len_of S7 M7]
  show own_Rch p e below _ T6 (mkF m 11 #[.val (.ref b), .val (.ref b2), .val (.int (1 : Int32))] [(.int (4 : Int32)), (.int (1 : Int32))])
  refine own_st (fun _ kt => XS.icmpNo X6.here hx rfl (hb hby own_d20_11) rfl (tlt ((by decide) : (1 : Int32) < (4 : Int32))).2.1 kt) ?_
  show own_Rch p e below _ T6 (mkF m 14 #[.val (.ref b), .val (.ref b2), .val (.int (1 : Int32))] [])
  refine own_st (fun _ kt => XS.aloadN X6.here hx rfl (hb hby own_d20_14) rfl rfl  kt) ?_
  show own_Rch p e below _ T6 (mkF m 15 #[.val (.ref b), .val (.ref b2), .val (.int (1 : Int32))] [(.ref b2)])
  refine own_st (fun _ kt => XS.iloadN X6.here hx rfl (hb hby own_d20_15) rfl  kt) ?_
  show own_Rch p e below _ T6 (mkF m 16 #[.val (.ref b), .val (.ref b2), .val (.int (1 : Int32))] [(.int (1 : Int32)), (.ref b2)])
  refine own_st (fun _ kt => XS.aloadN X6.here hx rfl (hb hby own_d20_16) rfl rfl  kt) ?_
  show own_Rch p e below _ T6 (mkF m 17 #[.val (.ref b), .val (.ref b2), .val (.int (1 : Int32))] [(.ref b), (.int (1 : Int32)), (.ref b2)])
  refine own_st (fun _ kt => XS.iloadN X6.here hx rfl (hb hby own_d20_17) rfl  kt) ?_
  show own_Rch p e below _ T6 (mkF m 18 #[.val (.ref b), .val (.ref b2), .val (.int (1 : Int32))] [(.int (1 : Int32)), (.ref b), (.int (1 : Int32)), (.ref b2)])
  obtain ⟨cl8, Ar8, q8, S8, M8, H8, G8⟩ := id VB_x6
  have hin8 : ¬ ((1 : Int32) < 0 ∨ cl8.slots.size ≤ ((1 : Int32)).toNatClampNeg) := inb_of S8 ⟨by decide, by decide⟩
  refine own_st (X6.aaload hx (j := (1 : Int32)) (v := (.ref zz)) (by rw [e6]; exact Ar8.1) (State.isArrayOf_alike (hZ).alike Ar8.2.1) rfl Ar8.2.2 hin8 (H8.at hin8 rfl) (g := (mkF m 18 #[.val (.ref b), .val (.ref b2), .val (.int (1 : Int32))] [(.int (1 : Int32)), (.ref b), (.int (1 : Int32)), (.ref b2)])) rfl rfl (hb hby own_d20_18)) ?_
  show own_Rch p e below _ T6 (mkF m 19 #[.val (.ref b), .val (.ref b2), .val (.int (1 : Int32))] [(.ref zz), (.int (1 : Int32)), (.ref b2)])
  obtain ⟨_, _, ⟨T9, L9, k9, n9⟩, -, X9, ⟨Lc9, hQ9, l9, y9, z9⟩, st9⟩ := Jvm.LawKit.callS X6 hx (y := (⟨"java/util/Objects", "requireNonNull", "(Ljava/lang/Object;)Ljava/lang/Object;"⟩ : MethodName)) hown (mvT hZ (hw _ (List.mem_of_getElem? (i := 143) rfl))) (mvT hZ (hw _ (List.mem_of_getElem? (i := 144) rfl))) (mvT hZ (hw _ (List.mem_of_getElem? (i := 145) rfl))) (mvT hZ (hw _ (List.mem_of_getElem? (i := 146) rfl))) (by decide) (backOf (W := 2) (own_rnn l Z a0 hw [] zz h6 n0 O0_x6 ) hZ (hw _ (List.mem_of_getElem? (i := 146) rfl)) (hw _ (List.mem_of_getElem? (i := 145) rfl)) (by decide) (by decide)) (g := (mkF m 19 #[.val (.ref b), .val (.ref b2), .val (.int (1 : Int32))] [(.ref zz), (.int (1 : Int32)), (.ref b2)])) rfl (by rw [hml]; rfl) (argsL := [(.ref zz)]) (rest := [(.int (1 : Int32)), (.ref b2)]) (lenOf own_pd7 rfl) rfl (by show 2 * 0 + _ ≤ _; exact Nat.le_of_eq rfl) (hb hby own_d20_19) (fun _ _ => ⟨rfl, e6, (by decide : 1 + 0 ≤ _), (by decide : 4 + 0 ≤ _)⟩)
  dsimp only [Pt.U, Pt.locs, Pt.cells, Pt.slots] at X9 l9 y9 z9 st9 hQ9
  subst l9 y9 z9
  obtain ⟨rfl, N9q, hh9⟩ := hQ9
  have N9 := Fr.app N6 N9q
  refine own_st st9 ?_
  show own_Rch p e below _ T9 (mkF m 22 #[.val (.ref b), .val (.ref b2), .val (.int (1 : Int32))] [(.ref zz), (.int (1 : Int32)), (.ref b2)])
  obtain ⟨cl10, Ar10, q10, S10, M10, H10, G10⟩ := id V6s
  have hin10 : ¬ ((1 : Int32) < 0 ∨ cl10.slots.size ≤ ((1 : Int32)).toNatClampNeg) := inb_of S10 ⟨by decide, by decide⟩
  obtain ⟨T10, h10, X10, e10, W10, st10⟩ := stR X9 hx hZ hh9 Ar10 (j := (1 : Int32)) hin10 rfl (Sto.ofV Ar10 q10 Ov2 (Ins.of_exa (EZ.ext O0_x6.2) (hw _ (List.mem_of_getElem? (i := 59) rfl)))) (g := (mkF m 22 #[.val (.ref b), .val (.ref b2), .val (.int (1 : Int32))] [(.ref zz), (.int (1 : Int32)), (.ref b2)])) rfl rfl (hb hby own_d20_22)
  have V10 := Arv.set Ar10 q10 S10 M10 H10 G10 rfl W10 1 rfl (Nat.le_of_ble_eq_true rfl)
  have V10s : Arv Z h10 b2 k2 (.object "java/lang/Object") (4 : Int32) [(.ref zz), (.ref zz), .null, .null] .null := V10
  have N10 := Fr.snoc X10 N9 ge2
  refine own_st st10 ?_
  have O0_x10 := O0_x6.wr W10 ge2
  have VB_x10 := VB_x6.other W10 ne2_b
  have K0_x10 := K0_x6.wr W10 (Or.inr sz2)
  have Ex2_x10 := Ex2_x6.wr W10
  show own_Rch p e below _ T10 (mkF m 23 #[.val (.ref b), .val (.ref b2), .val (.int (1 : Int32))] [])
  refine own_st (fun _ kt => XS.iinc X10.here hx rfl (hb hby own_d20_23) rfl (l' := #[.val (.ref b), .val (.ref b2), .val (.int (2 : Int32))]) rfl kt) ?_
  show own_Rch p e below _ T10 (mkF m 26 #[.val (.ref b), .val (.ref b2), .val (.int (2 : Int32))] [])
  refine own_st (fun _ kt => XS.goto X10.here hx rfl (pc0 := 26) (pc' := 8) rfl (hb hby own_d20_26) (by decide) (by decide) kt) ?_
  show own_Rch p e below _ T10 (mkF m 8 #[.val (.ref b), .val (.ref b2), .val (.int (2 : Int32))] [])
  refine own_st (fun _ kt => XS.iloadN X10.here hx rfl (hb hby own_d20_8) rfl  kt) ?_
  show own_Rch p e below _ T10 (mkF m 9 #[.val (.ref b), .val (.ref b2), .val (.int (2 : Int32))] [(.int (2 : Int32))])
  refine own_st (fun _ kt => XS.aloadN X10.here hx rfl (hb hby own_d20_9) rfl rfl  kt) ?_
  show own_Rch p e below _ T10 (mkF m 10 #[.val (.ref b), .val (.ref b2), .val (.int (2 : Int32))] [(.ref b), (.int (2 : Int32))])
  obtain ⟨cl11, Ar11, -, S11, M11, -, -⟩ := id VB_x10
  refine own_st (X10.arraylength hx (by rw [e10]; exact Ar11.1) (State.isArrayOf_alike (hZ).alike Ar11.2.1) (g := (mkF m 10 #[.val (.ref b), .val (.ref b2), .val (.int (2 : Int32))] [(.ref b), (.int (2 : Int32))])) rfl rfl (hb hby own_d20_10)) ?_
  rw [len_of S11 M11]
  show own_Rch p e below _ T10 (mkF m 11 #[.val (.ref b), .val (.ref b2), .val (.int (2 : Int32))] [(.int (4 : Int32)), (.int (2 : Int32))])
  refine own_st (fun _ kt => XS.icmpNo X10.here hx rfl (hb hby own_d20_11) rfl (tlt ((by decide) : (2 : Int32) < (4 : Int32))).2.1 kt) ?_
  show own_Rch p e below _ T10 (mkF m 14 #[.val (.ref b), .val (.ref b2), .val (.int (2 : Int32))] [])
  refine own_st (fun _ kt => XS.aloadN X10.here hx rfl (hb hby own_d20_14) rfl rfl  kt) ?_
  show own_Rch p e below _ T10 (mkF m 15 #[.val (.ref b), .val (.ref b2), .val (.int (2 : Int32))] [(.ref b2)])
  refine own_st (fun _ kt => XS.iloadN X10.here hx rfl (hb hby own_d20_15) rfl  kt) ?_
  show own_Rch p e below _ T10 (mkF m 16 #[.val (.ref b), .val (.ref b2), .val (.int (2 : Int32))] [(.int (2 : Int32)), (.ref b2)])
  refine own_st (fun _ kt => XS.aloadN X10.here hx rfl (hb hby own_d20_16) rfl rfl  kt) ?_
  show own_Rch p e below _ T10 (mkF m 17 #[.val (.ref b), .val (.ref b2), .val (.int (2 : Int32))] [(.ref b), (.int (2 : Int32)), (.ref b2)])
  refine own_st (fun _ kt => XS.iloadN X10.here hx rfl (hb hby own_d20_17) rfl  kt) ?_
  show own_Rch p e below _ T10 (mkF m 18 #[.val (.ref b), .val (.ref b2), .val (.int (2 : Int32))] [(.int (2 : Int32)), (.ref b), (.int (2 : Int32)), (.ref b2)])
  obtain ⟨cl12, Ar12, q12, S12, M12, H12, G12⟩ := id VB_x10
  have hin12 : ¬ ((2 : Int32) < 0 ∨ cl12.slots.size ≤ ((2 : Int32)).toNatClampNeg) := inb_of S12 ⟨by decide, by decide⟩
  refine own_st (X10.aaload hx (j := (2 : Int32)) (v := (.ref zz)) (by rw [e10]; exact Ar12.1) (State.isArrayOf_alike (hZ).alike Ar12.2.1) rfl Ar12.2.2 hin12 (H12.at hin12 rfl) (g := (mkF m 18 #[.val (.ref b), .val (.ref b2), .val (.int (2 : Int32))] [(.int (2 : Int32)), (.ref b), (.int (2 : Int32)), (.ref b2)])) rfl rfl (hb hby own_d20_18)) ?_
  show own_Rch p e below _ T10 (mkF m 19 #[.val (.ref b), .val (.ref b2), .val (.int (2 : Int32))] [(.ref zz), (.int (2 : Int32)), (.ref b2)])
  obtain ⟨_, _, ⟨T13, L13, k13, n13⟩, -, X13, ⟨Lc13, hQ13, l13, y13, z13⟩, st13⟩ := Jvm.LawKit.callS X10 hx (y := (⟨"java/util/Objects", "requireNonNull", "(Ljava/lang/Object;)Ljava/lang/Object;"⟩ : MethodName)) hown (mvT hZ (hw _ (List.mem_of_getElem? (i := 143) rfl))) (mvT hZ (hw _ (List.mem_of_getElem? (i := 144) rfl))) (mvT hZ (hw _ (List.mem_of_getElem? (i := 145) rfl))) (mvT hZ (hw _ (List.mem_of_getElem? (i := 146) rfl))) (by decide) (backOf (W := 2) (own_rnn l Z a0 hw [] zz h10 n0 O0_x10 ) hZ (hw _ (List.mem_of_getElem? (i := 146) rfl)) (hw _ (List.mem_of_getElem? (i := 145) rfl)) (by decide) (by decide)) (g := (mkF m 19 #[.val (.ref b), .val (.ref b2), .val (.int (2 : Int32))] [(.ref zz), (.int (2 : Int32)), (.ref b2)])) rfl (by rw [hml]; rfl) (argsL := [(.ref zz)]) (rest := [(.int (2 : Int32)), (.ref b2)]) (lenOf own_pd7 rfl) rfl (by show 2 * 0 + _ ≤ _; exact Nat.le_of_eq rfl) (hb hby own_d20_19) (fun _ _ => ⟨rfl, e10, (by decide : 1 + 0 ≤ _), (by decide : 4 + 0 ≤ _)⟩)
  dsimp only [Pt.U, Pt.locs, Pt.cells, Pt.slots] at X13 l13 y13 z13 st13 hQ13
  subst l13 y13 z13
  obtain ⟨rfl, N13q, hh13⟩ := hQ13
  have N13 := Fr.app N10 N13q
  refine own_st st13 ?_
  show own_Rch p e below _ T13 (mkF m 22 #[.val (.ref b), .val (.ref b2), .val (.int (2 : Int32))] [(.ref zz), (.int (2 : Int32)), (.ref b2)])
  obtain ⟨cl14, Ar14, q14, S14, M14, H14, G14⟩ := id V10s
  have hin14 : ¬ ((2 : Int32) < 0 ∨ cl14.slots.size ≤ ((2 : Int32)).toNatClampNeg) := inb_of S14 ⟨by decide, by decide⟩
  obtain ⟨T14, h14, X14, e14, W14, st14⟩ := stR X13 hx hZ hh13 Ar14 (j := (2 : Int32)) hin14 rfl (Sto.ofV Ar14 q14 Ov2 (Ins.of_exa (EZ.ext O0_x10.2) (hw _ (List.mem_of_getElem? (i := 59) rfl)))) (g := (mkF m 22 #[.val (.ref b), .val (.ref b2), .val (.int (2 : Int32))] [(.ref zz), (.int (2 : Int32)), (.ref b2)])) rfl rfl (hb hby own_d20_22)
  have V14 := Arv.set Ar14 q14 S14 M14 H14 G14 rfl W14 2 rfl (Nat.le_of_ble_eq_true rfl)
  have V14s : Arv Z h14 b2 k2 (.object "java/lang/Object") (4 : Int32) [(.ref zz), (.ref zz), (.ref zz), .null] .null := V14
  have N14 := Fr.snoc X14 N13 ge2
  refine own_st st14 ?_
  have O0_x14 := O0_x10.wr W14 ge2
  have VB_x14 := VB_x10.other W14 ne2_b
  have K0_x14 := K0_x10.wr W14 (Or.inr sz2)
  have Ex2_x14 := Ex2_x10.wr W14
  show own_Rch p e below _ T14 (mkF m 23 #[.val (.ref b), .val (.ref b2), .val (.int (2 : Int32))] [])
  refine own_st (fun _ kt => XS.iinc X14.here hx rfl (hb hby own_d20_23) rfl (l' := #[.val (.ref b), .val (.ref b2), .val (.int (3 : Int32))]) rfl kt) ?_
  show own_Rch p e below _ T14 (mkF m 26 #[.val (.ref b), .val (.ref b2), .val (.int (3 : Int32))] [])
  refine own_st (fun _ kt => XS.goto X14.here hx rfl (pc0 := 26) (pc' := 8) rfl (hb hby own_d20_26) (by decide) (by decide) kt) ?_
  show own_Rch p e below _ T14 (mkF m 8 #[.val (.ref b), .val (.ref b2), .val (.int (3 : Int32))] [])
  refine own_st (fun _ kt => XS.iloadN X14.here hx rfl (hb hby own_d20_8) rfl  kt) ?_
  show own_Rch p e below _ T14 (mkF m 9 #[.val (.ref b), .val (.ref b2), .val (.int (3 : Int32))] [(.int (3 : Int32))])
  refine own_st (fun _ kt => XS.aloadN X14.here hx rfl (hb hby own_d20_9) rfl rfl  kt) ?_
  show own_Rch p e below _ T14 (mkF m 10 #[.val (.ref b), .val (.ref b2), .val (.int (3 : Int32))] [(.ref b), (.int (3 : Int32))])
  obtain ⟨cl15, Ar15, -, S15, M15, -, -⟩ := id VB_x14
  refine own_st (X14.arraylength hx (by rw [e14]; exact Ar15.1) (State.isArrayOf_alike (hZ).alike Ar15.2.1) (g := (mkF m 10 #[.val (.ref b), .val (.ref b2), .val (.int (3 : Int32))] [(.ref b), (.int (3 : Int32))])) rfl rfl (hb hby own_d20_10)) ?_
  rw [len_of S15 M15]
  show own_Rch p e below _ T14 (mkF m 11 #[.val (.ref b), .val (.ref b2), .val (.int (3 : Int32))] [(.int (4 : Int32)), (.int (3 : Int32))])
  refine own_st (fun _ kt => XS.icmpNo X14.here hx rfl (hb hby own_d20_11) rfl (tlt ((by decide) : (3 : Int32) < (4 : Int32))).2.1 kt) ?_
  show own_Rch p e below _ T14 (mkF m 14 #[.val (.ref b), .val (.ref b2), .val (.int (3 : Int32))] [])
  refine own_st (fun _ kt => XS.aloadN X14.here hx rfl (hb hby own_d20_14) rfl rfl  kt) ?_
  show own_Rch p e below _ T14 (mkF m 15 #[.val (.ref b), .val (.ref b2), .val (.int (3 : Int32))] [(.ref b2)])
  refine own_st (fun _ kt => XS.iloadN X14.here hx rfl (hb hby own_d20_15) rfl  kt) ?_
  show own_Rch p e below _ T14 (mkF m 16 #[.val (.ref b), .val (.ref b2), .val (.int (3 : Int32))] [(.int (3 : Int32)), (.ref b2)])
  refine own_st (fun _ kt => XS.aloadN X14.here hx rfl (hb hby own_d20_16) rfl rfl  kt) ?_
  show own_Rch p e below _ T14 (mkF m 17 #[.val (.ref b), .val (.ref b2), .val (.int (3 : Int32))] [(.ref b), (.int (3 : Int32)), (.ref b2)])
  refine own_st (fun _ kt => XS.iloadN X14.here hx rfl (hb hby own_d20_17) rfl  kt) ?_
  show own_Rch p e below _ T14 (mkF m 18 #[.val (.ref b), .val (.ref b2), .val (.int (3 : Int32))] [(.int (3 : Int32)), (.ref b), (.int (3 : Int32)), (.ref b2)])
  obtain ⟨cl16, Ar16, q16, S16, M16, H16, G16⟩ := id VB_x14
  have hin16 : ¬ ((3 : Int32) < 0 ∨ cl16.slots.size ≤ ((3 : Int32)).toNatClampNeg) := inb_of S16 ⟨by decide, by decide⟩
  refine own_st (X14.aaload hx (j := (3 : Int32)) (v := (.ref oo)) (by rw [e14]; exact Ar16.1) (State.isArrayOf_alike (hZ).alike Ar16.2.1) rfl Ar16.2.2 hin16 (H16.at hin16 rfl) (g := (mkF m 18 #[.val (.ref b), .val (.ref b2), .val (.int (3 : Int32))] [(.int (3 : Int32)), (.ref b), (.int (3 : Int32)), (.ref b2)])) rfl rfl (hb hby own_d20_18)) ?_
  show own_Rch p e below _ T14 (mkF m 19 #[.val (.ref b), .val (.ref b2), .val (.int (3 : Int32))] [(.ref oo), (.int (3 : Int32)), (.ref b2)])
  obtain ⟨_, _, ⟨T17, L17, k17, n17⟩, -, X17, ⟨Lc17, hQ17, l17, y17, z17⟩, st17⟩ := Jvm.LawKit.callS X14 hx (y := (⟨"java/util/Objects", "requireNonNull", "(Ljava/lang/Object;)Ljava/lang/Object;"⟩ : MethodName)) hown (mvT hZ (hw _ (List.mem_of_getElem? (i := 143) rfl))) (mvT hZ (hw _ (List.mem_of_getElem? (i := 144) rfl))) (mvT hZ (hw _ (List.mem_of_getElem? (i := 145) rfl))) (mvT hZ (hw _ (List.mem_of_getElem? (i := 146) rfl))) (by decide) (backOf (W := 2) (own_rnn l Z a0 hw [] oo h14 n0 O0_x14 ) hZ (hw _ (List.mem_of_getElem? (i := 146) rfl)) (hw _ (List.mem_of_getElem? (i := 145) rfl)) (by decide) (by decide)) (g := (mkF m 19 #[.val (.ref b), .val (.ref b2), .val (.int (3 : Int32))] [(.ref oo), (.int (3 : Int32)), (.ref b2)])) rfl (by rw [hml]; rfl) (argsL := [(.ref oo)]) (rest := [(.int (3 : Int32)), (.ref b2)]) (lenOf own_pd7 rfl) rfl (by show 2 * 0 + _ ≤ _; exact Nat.le_of_eq rfl) (hb hby own_d20_19) (fun _ _ => ⟨rfl, e14, (by decide : 1 + 0 ≤ _), (by decide : 4 + 0 ≤ _)⟩)
  dsimp only [Pt.U, Pt.locs, Pt.cells, Pt.slots] at X17 l17 y17 z17 st17 hQ17
  subst l17 y17 z17
  obtain ⟨rfl, N17q, hh17⟩ := hQ17
  have N17 := Fr.app N14 N17q
  refine own_st st17 ?_
  show own_Rch p e below _ T17 (mkF m 22 #[.val (.ref b), .val (.ref b2), .val (.int (3 : Int32))] [(.ref oo), (.int (3 : Int32)), (.ref b2)])
  obtain ⟨cl18, Ar18, q18, S18, M18, H18, G18⟩ := id V14s
  have hin18 : ¬ ((3 : Int32) < 0 ∨ cl18.slots.size ≤ ((3 : Int32)).toNatClampNeg) := inb_of S18 ⟨by decide, by decide⟩
  obtain ⟨T18, h18, X18, e18, W18, st18⟩ := stR X17 hx hZ hh17 Ar18 (j := (3 : Int32)) hin18 rfl (Sto.ofV Ar18 q18 Ov2 (Ins.of_exa (EO.ext O0_x14.2) (hw _ (List.mem_of_getElem? (i := 59) rfl)))) (g := (mkF m 22 #[.val (.ref b), .val (.ref b2), .val (.int (3 : Int32))] [(.ref oo), (.int (3 : Int32)), (.ref b2)])) rfl rfl (hb hby own_d20_22)
  have V18 := Arv.set Ar18 q18 S18 M18 H18 G18 rfl W18 3 rfl (Nat.le_of_ble_eq_true rfl)
  have V18s : Arv Z h18 b2 k2 (.object "java/lang/Object") (4 : Int32) [(.ref zz), (.ref zz), (.ref zz), (.ref oo)] .null := V18
  have N18 := Fr.snoc X18 N17 ge2
  refine own_st st18 ?_
  have O0_x18 := O0_x14.wr W18 ge2
  have VB_x18 := VB_x14.other W18 ne2_b
  have K0_x18 := K0_x14.wr W18 (Or.inr sz2)
  have Ex2_x18 := Ex2_x14.wr W18
  show own_Rch p e below _ T18 (mkF m 23 #[.val (.ref b), .val (.ref b2), .val (.int (3 : Int32))] [])
  refine own_st (fun _ kt => XS.iinc X18.here hx rfl (hb hby own_d20_23) rfl (l' := #[.val (.ref b), .val (.ref b2), .val (.int (4 : Int32))]) rfl kt) ?_
  show own_Rch p e below _ T18 (mkF m 26 #[.val (.ref b), .val (.ref b2), .val (.int (4 : Int32))] [])
  refine own_st (fun _ kt => XS.goto X18.here hx rfl (pc0 := 26) (pc' := 8) rfl (hb hby own_d20_26) (by decide) (by decide) kt) ?_
  show own_Rch p e below _ T18 (mkF m 8 #[.val (.ref b), .val (.ref b2), .val (.int (4 : Int32))] [])
  refine own_st (fun _ kt => XS.iloadN X18.here hx rfl (hb hby own_d20_8) rfl  kt) ?_
  show own_Rch p e below _ T18 (mkF m 9 #[.val (.ref b), .val (.ref b2), .val (.int (4 : Int32))] [(.int (4 : Int32))])
  refine own_st (fun _ kt => XS.aloadN X18.here hx rfl (hb hby own_d20_9) rfl rfl  kt) ?_
  show own_Rch p e below _ T18 (mkF m 10 #[.val (.ref b), .val (.ref b2), .val (.int (4 : Int32))] [(.ref b), (.int (4 : Int32))])
  obtain ⟨cl19, Ar19, -, S19, M19, -, -⟩ := id VB_x18
  refine own_st (X18.arraylength hx (by rw [e18]; exact Ar19.1) (State.isArrayOf_alike (hZ).alike Ar19.2.1) (g := (mkF m 10 #[.val (.ref b), .val (.ref b2), .val (.int (4 : Int32))] [(.ref b), (.int (4 : Int32))])) rfl rfl (hb hby own_d20_10)) ?_
  rw [len_of S19 M19]
  show own_Rch p e below _ T18 (mkF m 11 #[.val (.ref b), .val (.ref b2), .val (.int (4 : Int32))] [(.int (4 : Int32)), (.int (4 : Int32))])
  refine own_st (fun _ kt => XS.icmpYes X18.here hx rfl (pc0 := 11) (pc' := 29) rfl (hb hby own_d20_11) rfl (flt ((by decide) : ¬ ((4 : Int32) < (4 : Int32)))).2.1 (by decide) (by decide) kt) ?_
  show own_Rch p e below _ T18 (mkF m 29 #[.val (.ref b), .val (.ref b2), .val (.int (4 : Int32))] [])
  obtain ⟨T20, h20, X20, e20, E20, A20, D20, U20, st20⟩ := newO X18 hx hZ hown (hw _ (List.mem_of_getElem? (i := 96) rfl)) (hw _ (List.mem_of_getElem? (i := 147) rfl)) (hw _ (List.mem_of_getElem? (i := 148) rfl)) e18 (g := (mkF m 29 #[.val (.ref b), .val (.ref b2), .val (.int (4 : Int32))] [])) rfl (hb hby own_d20_29) (by decide) (by decide)
  obtain ⟨b20, g20⟩ : ∃ z, z = h18.size := ⟨_, rfl⟩
  rw [← g20] at A20 D20 U20 st20
  have ge20 : n0 ≤ b20 := by rw [g20]; exact own_old_le O0_x18
  have ne20_b : b ≠ b20 := by rw [g20]; exact Nat.ne_of_lt VB_x18.lt
  have ne20_b2 : b2 ≠ b20 := by rw [g20]; exact Nat.ne_of_lt V18s.lt
  have sz20 : h0.size ≤ b20 := by rw [g20]; exact K0_x18.1
  have O0_x20 := O0_x18.ext E20
  have VB_x20 := VB_x18.ext E20
  have K0_x20 := K0_x18.ext E20
  have V18s_x20 := V18s.ext E20
  have Ex2_x20 := Ex2_x18.ext E20
  refine own_st st20 ?_
  have F20_elements : Fld Z h20 b20 "java/util/ImmutableCollections$ListN" "elements" "[Ljava/lang/Object;" .null := D20 (Or.inr (hw _ (List.mem_of_getElem? (i := 168) rfl))) (ty := (.array (.object "java/lang/Object"))) (by decide)
  have F20_allowNulls : Fld Z h20 b20 "java/util/ImmutableCollections$ListN" "allowNulls" "Z" (.int (0 : Int32)) := D20 (Or.inr (hw _ (List.mem_of_getElem? (i := 170) rfl))) (ty := .boolean) (by decide)
  show own_Rch p e below _ T20 (mkF m 32 #[.val (.ref b), .val (.ref b2), .val (.int (4 : Int32))] [(.ref b20)])
  refine own_st (fun _ kt => XS.dup X20.here hx rfl (hb hby own_d20_32) rfl rfl kt) ?_
  show own_Rch p e below _ T20 (mkF m 33 #[.val (.ref b), .val (.ref b2), .val (.int (4 : Int32))] [(.ref b20), (.ref b20)])
  refine own_st (fun _ kt => XS.aloadN X20.here hx rfl (hb hby own_d20_33) rfl rfl  kt) ?_
  show own_Rch p e below _ T20 (mkF m 34 #[.val (.ref b), .val (.ref b2), .val (.int (4 : Int32))] [(.ref b2), (.ref b20), (.ref b20)])
  refine own_st (fun _ kt => XS.iconst X20.here hx rfl (hb hby own_d20_34) kt) ?_
  show own_Rch p e below _ T20 (mkF m 35 #[.val (.ref b), .val (.ref b2), .val (.int (4 : Int32))] [(.int (0 : Int32)), (.ref b2), (.ref b20), (.ref b20)])
  obtain ⟨_, _, ⟨T21, L21, k21, n21⟩, -, X21, ⟨Lc21, hQ21, l21, y21, z21⟩, st21⟩ := X20.specialBackNest hx (y := (⟨"java/util/ImmutableCollections$ListN", "<init>", "([Ljava/lang/Object;Z)V"⟩ : MethodName)) rfl hown (own_mvMN hZ (hw _ (List.mem_of_getElem? (i := 149) rfl))) (mvT hZ (hw _ (List.mem_of_getElem? (i := 150) rfl))) (mvT hZ (hw _ (List.mem_of_getElem? (i := 152) rfl))) (by decide) (backOf (W := 1) (own_lni l Z a0 hw [] b20 b2 h20 n0 O0_x20 A20 F20_elements F20_allowNulls ge20) hZ (hw _ (List.mem_of_getElem? (i := 152) rfl)) (hw _ (List.mem_of_getElem? (i := 148) rfl)) (by decide) (by decide)) (g := (mkF m 35 #[.val (.ref b), .val (.ref b2), .val (.int (4 : Int32))] [(.int (0 : Int32)), (.ref b2), (.ref b20), (.ref b20)])) rfl (by rw [hml]; rfl) (Steps.refl _) (a := b20) (argsL := [(.ref b2), (.int (0 : Int32))]) (rest := [(.ref b20)]) (lenOf own_pd15 rfl) rfl (by show 2 * 0 + _ ≤ _; exact Nat.le_of_eq rfl) (hb hby own_d20_35) (fun _ _ => ⟨rfl, e20, (by decide : 2 + 0 ≤ _), (by decide : 6 + 0 ≤ _)⟩)
  dsimp only [Pt.U, Pt.locs, Pt.cells, Pt.slots] at X21 l21 y21 z21 st21 hQ21
  subst l21 y21 z21
  obtain ⟨rfl, N21q, K21, Eq21, Fq21⟩ := hQ21
  have N21 := Fr.app N18 N21q
  refine own_st (fun _ kt => st21.trans kt) ?_
  have O0_x21 := O0_x20.keep K21 (allS ge20 all0)
  have VB_x21 := VB_x20.keep K21 (ninS ne20_b nin0)
  have K0_x21 := K0_x20.trans K21 (allS (Or.inr sz20) all0)
  have V18s_x21 := V18s_x20.keep K21 (ninS ne20_b2 nin0)
  have Ex2_x21 := Ex2_x20.keep K21
  have A20_x21 := A20.keep K21
  show own_Rch p e below _ T21 (mkF m 38 #[.val (.ref b), .val (.ref b2), .val (.int (4 : Int32))] [(.ref b20)])
  refine own_retA rfl rfl X21 hx Bd.notSynchronized Bd.returns (hb hby own_d20_38) (by decide) (by decide) ?_
  exact ⟨_, rfl, N21, K0_x21, sz20, _, _, sz2, Eq21, Fq21, V18s_x21⟩
def own_Q_own_lof_4 (Z : State) (b : Addr) (kb : ClassId) (zz : Addr) (oo : Addr) (em : Addr) (h0 : Heap) (n0 : Nat) (v : Option Value) (h : Heap) (L : List Loc) : Prop := ∃ q : Addr, v = some (.ref q) ∧ Fr n0 L ∧ Keep h0 h [] ∧ h0.size ≤ q ∧ ∃ (r : Addr) (kr : ClassId), h0.size ≤ r ∧ Exa Z h q "java/util/ImmutableCollections$ListN" ∧ Fld Z h q "java/util/ImmutableCollections$ListN" "elements" "[Ljava/lang/Object;" (.ref r) ∧ Arv Z h r kr (.object "java/lang/Object") (4 : Int32) [(.ref zz), (.ref zz), (.ref zz), (.ref oo)] .null
set_option maxRecDepth 65536 in
set_option maxHeartbeats 40000000 in
theorem own_lof_4 (l : Launch) (Z : State) (a0 : Array Value) (hw : ∀ d ∈ tables_1, d.before a0 Z = true) (ws : List Jvm.Cond) (b : Addr) (kb : ClassId) (zz : Addr) (oo : Addr) (em : Addr) (h0 : Heap) (n0 : Nat) (O0 : Old Z n0 h0) (VB : Arv Z h0 b kb (.object "java/lang/Object") (4 : Int32) [(.ref zz), (.ref zz), (.ref zz), (.ref oo)] .null) (EZ : Exa Z Z.heap zz "java/math/BigDecimal") (EO : Exa Z Z.heap oo "java/math/BigDecimal") (SE : Sta Z Z.heap "java/util/ImmutableCollections" "EMPTY" "Ljava/lang/Object;" (.ref em)) :
    MetFree l (⟨"java/util/List", "of", "([Ljava/lang/Object;)Ljava/util/List;"⟩ : MethodName) (head1 (Jvm.Cond.code (⟨"java/util/List", "of", "([Ljava/lang/Object;)Ljava/util/List;"⟩ : MethodName) jdk_40_method_47_code 2 (some (.object "java/util/List")) :: ws) ({ frames := 6, cells := 2, slots := 6, locals := 77 } : Room)) (fun args_ U => args_ = #[(.ref b)] ∧ Z.Warmed39 U.vm ∧ U.heap = h0) (fun _ _ _ _ _ => True) (fun _ U o U' => ∃ v L, o = .returned v ∧ (own_Q_own_lof_4 Z b kb zz oo em h0 n0) v U'.heap L ∧ FrameEnd U o U' L ({ frames := 6, cells := 2, slots := 6, locals := 77 } : Room).cells ({ frames := 6, cells := 2, slots := 6, locals := 77 } : Room).slots) := by
  refine MetFree.of_bodySF (plainFor_of_name own_pn8) hisR ?_
  intro p e s m args below meth c s₁ Bd hml0 hP hK
  obtain ⟨rfl, hZ, hh⟩ := hP
  have hx := Bd.exec
  have hby := Bd.bytes
  have hml : c.maxLocals = 2 := hml0
  have hown : s.vm.findClass "java/util/List" = some m.cls := findClass_of_methodNamed Bd.named
  have hnm := (name_of_methodNamed Bd.named Bd.method).1
  have X0 : Stand p l e ({ frames := 6, cells := 2, slots := 6, locals := 77 } : Room) s m #[(.ref b)] below meth c s₁ [] 0 0 := Stand.of_body Bd
  have e0 : s₁.heap = h0 := by rw [← hh, Bd.state]; rfl
  have N0 := Fr.nil n0
  refine own_close (s := s) (Q := (own_Q_own_lof_4 Z b kb zz oo em h0 n0)) (C := (({ frames := 6, cells := 2, slots := 6, locals := 77 } : Room)).cells) (N := (({ frames := 6, cells := 2, slots := 6, locals := 77 } : Room)).slots) (own_st (fun _ kt => castTop (own_ef19 m b) kt) ?_)
  have K0 := Keep.refl h0 []
  show own_Rch p e below _ s₁ (mkF m 0 #[.val (.ref b), .unset] [])
  refine own_st (fun _ kt => XS.aloadN X0.here hx rfl (hb hby own_d19_0) rfl rfl  kt) ?_
  show own_Rch p e below _ s₁ (mkF m 1 #[.val (.ref b), .unset] [(.ref b)])
  obtain ⟨cl1, Ar1, -, S1, M1, -, -⟩ := id VB
  refine own_st (X0.arraylength hx (by rw [e0]; exact Ar1.1) (State.isArrayOf_alike (hZ).alike Ar1.2.1) (g := (mkF m 1 #[.val (.ref b), .unset] [(.ref b)])) rfl rfl (hb hby own_d19_1)) ?_
  rw [len_of S1 M1]
  show own_Rch p e below _ s₁ (mkF m 2 #[.val (.ref b), .unset] [(.int (4 : Int32))])
  refine own_st (fun _ kt => XS.tswOut X0.here hx rfl (pc0 := 2) (pc' := 59) rfl (hb hby own_d19_2) rfl (by decide) (by decide) (by decide) kt) ?_
  show own_Rch p e below _ s₁ (mkF m 59 #[.val (.ref b), .unset] [])
  refine own_st (fun _ kt => XS.aloadN X0.here hx rfl (hb hby own_d19_59) rfl rfl  kt) ?_
  show own_Rch p e below _ s₁ (mkF m 60 #[.val (.ref b), .unset] [(.ref b)])
  obtain ⟨_, _, ⟨T2, L2, k2, n2⟩, -, X2, ⟨Lc2, hQ2, l2, y2, z2⟩, st2⟩ := Jvm.LawKit.callS X0 hx (y := (⟨"java/util/ImmutableCollections", "listFromArray", "([Ljava/lang/Object;)Ljava/util/List;"⟩ : MethodName)) hown (mvT hZ (hw _ (List.mem_of_getElem? (i := 139) rfl))) (mvT hZ (hw _ (List.mem_of_getElem? (i := 140) rfl))) (mvT hZ (hw _ (List.mem_of_getElem? (i := 89) rfl))) (mvT hZ (hw _ (List.mem_of_getElem? (i := 141) rfl))) (by decide) (backOf (W := 0) (own_lfa_4 l Z a0 hw [] b kb zz oo em h0 n0 O0 VB EZ EO SE) hZ (hw _ (List.mem_of_getElem? (i := 141) rfl)) (hw _ (List.mem_of_getElem? (i := 89) rfl)) (by decide) (by decide)) (g := (mkF m 60 #[.val (.ref b), .unset] [(.ref b)])) rfl (by rw [hml]; rfl) (argsL := [(.ref b)]) (rest := []) (lenOf own_pd10 rfl) rfl (by show 2 * 0 + _ ≤ _; exact Nat.le_of_eq rfl) (hb hby own_d19_60) (fun _ _ => ⟨rfl, e0, (by decide : 0 + 2 ≤ _), (by decide : 0 + 6 ≤ _)⟩)
  dsimp only [Pt.U, Pt.locs, Pt.cells, Pt.slots] at X2 l2 y2 z2 st2 hQ2
  subst l2 y2 z2
  obtain ⟨ql2, rfl, N2q, K2, hq2, rq2, kq2, hr2, Eq2, Fq2, Vq2⟩ := hQ2
  have N2 := Fr.app N0 N2q
  refine own_st st2 ?_
  have ne2_b_ql2 : b ≠ ql2 := Nat.ne_of_lt (Nat.lt_of_lt_of_le VB.lt hq2)
  have ge2_ql2 : n0 ≤ ql2 := Nat.le_trans (own_old_le O0) hq2
  have sz2_ql2 : h0.size ≤ ql2 := Nat.le_trans K0.1 hq2
  have ne2_b_rq2 : b ≠ rq2 := Nat.ne_of_lt (Nat.lt_of_lt_of_le VB.lt hr2)
  have ge2_rq2 : n0 ≤ rq2 := Nat.le_trans (own_old_le O0) hr2
  have sz2_rq2 : h0.size ≤ rq2 := Nat.le_trans K0.1 hr2
  have O0_x2 := O0.keep K2 all0
  have VB_x2 := VB.keep K2 nin0
  have K0_x2 := K0.trans K2 all0
  show own_Rch p e below _ T2 (mkF m 63 #[.val (.ref b), .unset] [(.ref ql2)])
  refine own_retA rfl rfl X2 hx Bd.notSynchronized Bd.returns (hb hby own_d19_63) (by decide) (by decide) ?_
  exact ⟨_, rfl, N2, K0_x2, sz2_ql2, _, _, sz2_rq2, Eq2, Fq2, Vq2⟩
def own_Q_own_lcopy_4 (Z : State) (a : Addr) (b : Addr) (kb : ClassId) (mr : Addr) (zz : Addr) (oo : Addr) (em : Addr) (h0 : Heap) (n0 : Nat) (v : Option Value) (h : Heap) (L : List Loc) : Prop := ∃ q : Addr, v = some (.ref q) ∧ Fr n0 L ∧ Keep h0 h [] ∧ h0.size ≤ q ∧ ∃ (r : Addr) (kr : ClassId), h0.size ≤ r ∧ Exa Z h q "java/util/ImmutableCollections$ListN" ∧ Fld Z h q "java/util/ImmutableCollections$ListN" "elements" "[Ljava/lang/Object;" (.ref r) ∧ Arv Z h r kr (.object "java/lang/Object") (4 : Int32) [(.ref zz), (.ref zz), (.ref zz), (.ref oo)] .null
set_option maxRecDepth 65536 in
set_option maxHeartbeats 40000000 in
theorem own_lcopy_4 (l : Launch) (Z : State) (a0 : Array Value) (hw : ∀ d ∈ tables_1, d.before a0 Z = true) (ws : List Jvm.Cond) (a : Addr) (b : Addr) (kb : ClassId) (mr : Addr) (zz : Addr) (oo : Addr) (em : Addr) (h0 : Heap) (n0 : Nat) (O0 : Old Z n0 h0) (EA : Exa Z h0 a "java/util/ArrayList") (FE : Fld Z h0 a "java/util/ArrayList" "elementData" "[Ljava/lang/Object;" (.ref b)) (FZ : Fld Z h0 a "java/util/ArrayList" "size" "I" (.int (4 : Int32))) (FM : Fld Z h0 a "java/util/AbstractList" "modCount" "I" (.int (4 : Int32))) (EB : Exa Z h0 b "[Ljava/lang/Object;") (VB : Arv Z h0 b kb (.object "java/lang/Object") (10 : Int32) [(.ref zz), (.ref zz), (.ref zz), (.ref oo), .null, .null, .null, .null, .null, .null] .null) (EZ : Exa Z Z.heap zz "java/math/BigDecimal") (EO : Exa Z Z.heap oo "java/math/BigDecimal") (MR : own_Mir Z "[Ljava/lang/Object;" mr) (SE : Sta Z Z.heap "java/util/ImmutableCollections" "EMPTY" "Ljava/lang/Object;" (.ref em)) :
    MetFree l (⟨"java/util/ImmutableCollections", "listCopy", "(Ljava/util/Collection;)Ljava/util/List;"⟩ : MethodName) (head1 (Jvm.Cond.code (⟨"java/util/ImmutableCollections", "listCopy", "(Ljava/util/Collection;)Ljava/util/List;"⟩ : MethodName) jdk_56_method_3_code 2 (some (.object "java/util/List")) :: ws) ({ frames := 7, cells := 3, slots := 10, locals := 90 } : Room)) (fun args_ U => args_ = #[(.ref a)] ∧ Z.Warmed39 U.vm ∧ U.heap = h0) (fun _ _ _ _ _ => True) (fun _ U o U' => ∃ v L, o = .returned v ∧ (own_Q_own_lcopy_4 Z a b kb mr zz oo em h0 n0) v U'.heap L ∧ FrameEnd U o U' L ({ frames := 7, cells := 3, slots := 10, locals := 90 } : Room).cells ({ frames := 7, cells := 3, slots := 10, locals := 90 } : Room).slots) := by
  refine MetFree.of_bodySF (plainFor_of_name own_pn9) hisR ?_
  intro p e s m args below meth c s₁ Bd hml0 hP hK
  obtain ⟨rfl, hZ, hh⟩ := hP
  have hx := Bd.exec
  have hby := Bd.bytes
  have hml : c.maxLocals = 2 := hml0
  have hown : s.vm.findClass "java/util/ImmutableCollections" = some m.cls := findClass_of_methodNamed Bd.named
  have hnm := (name_of_methodNamed Bd.named Bd.method).1
  have X0 : Stand p l e ({ frames := 7, cells := 3, slots := 10, locals := 90 } : Room) s m #[(.ref a)] below meth c s₁ [] 0 0 := Stand.of_body Bd
  have e0 : s₁.heap = h0 := by rw [← hh, Bd.state]; rfl
  have N0 := Fr.nil n0
  refine own_close (s := s) (Q := (own_Q_own_lcopy_4 Z a b kb mr zz oo em h0 n0)) (C := (({ frames := 7, cells := 3, slots := 10, locals := 90 } : Room)).cells) (N := (({ frames := 7, cells := 3, slots := 10, locals := 90 } : Room)).slots) (own_st (fun _ kt => castTop (own_ef13 m a) kt) ?_)
  have K0 := Keep.refl h0 []
  show own_Rch p e below _ s₁ (mkF m 0 #[.val (.ref a), .unset] [])
  refine own_st (fun _ kt => XS.aloadN X0.here hx rfl (hb hby own_d13_0) rfl rfl  kt) ?_
  show own_Rch p e below _ s₁ (mkF m 1 #[.val (.ref a), .unset] [(.ref a)])
  obtain ⟨T1, X1, e1, st1⟩ := instNo X0 hx hZ hown (hw _ (List.mem_of_getElem? (i := 91) rfl)) e0 EA (own_nsno (hw _ (List.mem_of_getElem? (i := 92) rfl)) (hw _ (List.mem_of_getElem? (i := 197) rfl)) (NS.step (hw _ (List.mem_of_getElem? (i := 92) rfl)) (NS.step (hw _ (List.mem_of_getElem? (i := 93) rfl)) (NS.step (hw _ (List.mem_of_getElem? (i := 94) rfl)) (own_nsroot (hw _ (List.mem_of_getElem? (i := 95) rfl)) (hw _ (List.mem_of_getElem? (i := 197) rfl)) (by decide)) (by decide)) (by decide)) (by decide)) (by decide)) (g := (mkF m 1 #[.val (.ref a), .unset] [(.ref a)])) rfl rfl (hb hby own_d13_1)
  refine own_st st1 ?_
  show own_Rch p e below _ T1 (mkF m 4 #[.val (.ref a), .unset] [(.int (0 : Int32))])
  refine own_st (fun _ kt => XS.ifNo X1.here hx rfl (hb hby own_d13_4) rfl ((if0 _ _).trans (teq (rfl : (0 : Int32) = (0 : Int32))).2) kt) ?_
  show own_Rch p e below _ T1 (mkF m 7 #[.val (.ref a), .unset] [])
  refine own_st (fun _ kt => XS.aloadN X1.here hx rfl (hb hby own_d13_7) rfl rfl  kt) ?_
  show own_Rch p e below _ T1 (mkF m 8 #[.val (.ref a), .unset] [(.ref a)])
  obtain ⟨T2, X2, e2, st2⟩ := instNo X1 hx hZ hown (hw _ (List.mem_of_getElem? (i := 96) rfl)) e1 EA (own_nsno (hw _ (List.mem_of_getElem? (i := 92) rfl)) (hw _ (List.mem_of_getElem? (i := 147) rfl)) (NS.step (hw _ (List.mem_of_getElem? (i := 92) rfl)) (NS.step (hw _ (List.mem_of_getElem? (i := 93) rfl)) (NS.step (hw _ (List.mem_of_getElem? (i := 94) rfl)) (own_nsroot (hw _ (List.mem_of_getElem? (i := 95) rfl)) (hw _ (List.mem_of_getElem? (i := 147) rfl)) (by decide)) (by decide)) (by decide)) (by decide)) (by decide)) (g := (mkF m 8 #[.val (.ref a), .unset] [(.ref a)])) rfl rfl (hb hby own_d13_8)
  refine own_st st2 ?_
  show own_Rch p e below _ T2 (mkF m 11 #[.val (.ref a), .unset] [(.int (0 : Int32))])
  refine own_st (fun _ kt => XS.ifYes X2.here hx rfl (pc0 := 11) (pc' := 31) rfl (hb hby own_d13_11) rfl ((if0 _ _).trans (teq (rfl : (0 : Int32) = (0 : Int32))).1) (by decide) (by decide) kt) ?_
  show own_Rch p e below _ T2 (mkF m 31 #[.val (.ref a), .unset] [])
  refine own_st (fun _ kt => XS.aloadN X2.here hx rfl (hb hby own_d13_31) rfl rfl  kt) ?_
  show own_Rch p e below _ T2 (mkF m 32 #[.val (.ref a), .unset] [(.ref a)])
  obtain ⟨cq3, kq3, q3a, q3b, q3c⟩ := isOf hZ e2 EA
  obtain ⟨_, _, ⟨T3, L3, k3, n3⟩, -, X3, ⟨Lc3, hQ3, l3, y3, z3⟩, st3⟩ := X2.interfaceBack hx (xi := (⟨"java/util/Collection", "isEmpty", "()Z"⟩ : MethodName)) (y := (⟨"java/util/ArrayList", "isEmpty", "()Z"⟩ : MethodName)) hown (mvT hZ (hw _ (List.mem_of_getElem? (i := 97) rfl))) (mvT hZ (hw _ (List.mem_of_getElem? (i := 98) rfl))) (mvT hZ (hw _ (List.mem_of_getElem? (i := 99) rfl))) (mvT hZ (hw _ (List.mem_of_getElem? (i := 100) rfl))) (mvT hZ (hw _ (List.mem_of_getElem? (i := 101) rfl))) (mvT hZ (hw _ (List.mem_of_getElem? (i := 102) rfl))) (mvT hZ (hw _ (List.mem_of_getElem? (i := 103) rfl))) (mvT hZ (hw _ (List.mem_of_getElem? (i := 104) rfl))) (by decide) (backOf (W := 0) (own_isempty l Z a0 hw [] a (4 : Int32) h0 n0 O0 FZ (by decide)) hZ (hw _ (List.mem_of_getElem? (i := 105) rfl)) (hw _ (List.mem_of_getElem? (i := 3) rfl)) (by decide) (by decide)) q3a q3b q3c (g := (mkF m 32 #[.val (.ref a), .unset] [(.ref a)])) rfl (by rw [hml]; rfl) (Steps.refl _) (argsL := []) (rest := []) (lenOf own_pd9 rfl) rfl (by show 2 * 0 + _ ≤ _; exact Nat.le_of_eq rfl) (hb hby own_d13_32) (fun _ _ => ⟨rfl, e2, (by decide : 0 + 0 ≤ _), (by decide : 0 + 0 ≤ _)⟩)
  dsimp only [Pt.U, Pt.locs, Pt.cells, Pt.slots] at X3 l3 y3 z3 st3 hQ3
  subst l3 y3 z3
  obtain ⟨rfl, N3q, hh3⟩ := hQ3
  have N3 := Fr.app N0 N3q
  refine own_st (fun _ kt => st3.trans kt) ?_
  show own_Rch p e below _ T3 (mkF m 37 #[.val (.ref a), .unset] [(.int (0 : Int32))])
  refine own_st (fun _ kt => XS.ifYes X3.here hx rfl (pc0 := 37) (pc' := 44) rfl (hb hby own_d13_37) rfl ((if0 _ _).trans (teq (rfl : (0 : Int32) = (0 : Int32))).1) (by decide) (by decide) kt) ?_
  show own_Rch p e below _ T3 (mkF m 44 #[.val (.ref a), .unset] [])
  refine own_st (fun _ kt => XS.aloadN X3.here hx rfl (hb hby own_d13_44) rfl rfl  kt) ?_
  show own_Rch p e below _ T3 (mkF m 45 #[.val (.ref a), .unset] [(.ref a)])
  obtain ⟨cq4, kq4, q4a, q4b, q4c⟩ := isOf hZ hh3 EA
  obtain ⟨_, _, ⟨T4, L4, k4, n4⟩, -, X4, ⟨Lc4, hQ4, l4, y4, z4⟩, st4⟩ := X3.interfaceBack hx (xi := (⟨"java/util/Collection", "toArray", "()[Ljava/lang/Object;"⟩ : MethodName)) (y := (⟨"java/util/ArrayList", "toArray", "()[Ljava/lang/Object;"⟩ : MethodName)) hown (mvT hZ (hw _ (List.mem_of_getElem? (i := 106) rfl))) (mvT hZ (hw _ (List.mem_of_getElem? (i := 107) rfl))) (mvT hZ (hw _ (List.mem_of_getElem? (i := 108) rfl))) (mvT hZ (hw _ (List.mem_of_getElem? (i := 109) rfl))) (mvT hZ (hw _ (List.mem_of_getElem? (i := 110) rfl))) (mvT hZ (hw _ (List.mem_of_getElem? (i := 111) rfl))) (mvT hZ (hw _ (List.mem_of_getElem? (i := 112) rfl))) (mvT hZ (hw _ (List.mem_of_getElem? (i := 104) rfl))) (by decide) (backOf (W := 0) (own_toarr_4 l Z a0 hw [] a b kb mr zz oo h0 n0 O0 EA FE FZ FM EB VB EZ EO MR) hZ (hw _ (List.mem_of_getElem? (i := 113) rfl)) (hw _ (List.mem_of_getElem? (i := 3) rfl)) (by decide) (by decide)) q4a q4b q4c (g := (mkF m 45 #[.val (.ref a), .unset] [(.ref a)])) rfl (by rw [hml]; rfl) (Steps.refl _) (argsL := []) (rest := []) (lenOf own_pd3 rfl) rfl (by show 2 * 0 + _ ≤ _; exact Nat.le_of_eq rfl) (hb hby own_d13_45) (fun _ _ => ⟨rfl, hh3, (by decide : 0 + 1 ≤ _), (by decide : 0 + 4 ≤ _)⟩)
  dsimp only [Pt.U, Pt.locs, Pt.cells, Pt.slots] at X4 l4 y4 z4 st4 hQ4
  subst l4 y4 z4
  obtain ⟨br4, kr4, rfl, N4q, K4, hb4, Er4, Vr4, Or4⟩ := hQ4
  have N4 := Fr.app N3 N4q
  refine own_st (fun _ kt => st4.trans kt) ?_
  have ne4_a_br4 : a ≠ br4 := Nat.ne_of_lt (Nat.lt_of_lt_of_le EA.lt hb4)
  have ne4_b_br4 : b ≠ br4 := Nat.ne_of_lt (Nat.lt_of_lt_of_le EB.lt hb4)
  have ge4_br4 : n0 ≤ br4 := Nat.le_trans (own_old_le O0) hb4
  have sz4_br4 : h0.size ≤ br4 := Nat.le_trans K0.1 hb4
  have O0_x4 := O0.keep K4 all0
  have EA_x4 := EA.keep K4
  have FE_x4 := FE.keep K4 nin0
  have FZ_x4 := FZ.keep K4 nin0
  have FM_x4 := FM.keep K4 nin0
  have EB_x4 := EB.keep K4
  have VB_x4 := VB.keep K4 nin0
  have K0_x4 := K0.trans K4 all0
  show own_Rch p e below _ T4 (mkF m 50 #[.val (.ref a), .unset] [(.ref br4)])
  obtain ⟨_, _, ⟨T5, L5, k5, n5⟩, -, X5, ⟨Lc5, hQ5, l5, y5, z5⟩, st5⟩ := Jvm.LawKit.callS X4 hx (y := (⟨"java/util/List", "of", "([Ljava/lang/Object;)Ljava/util/List;"⟩ : MethodName)) hown (mvT hZ (hw _ (List.mem_of_getElem? (i := 136) rfl))) (mvT hZ (hw _ (List.mem_of_getElem? (i := 137) rfl))) (mvT hZ (hw _ (List.mem_of_getElem? (i := 85) rfl))) (mvT hZ (hw _ (List.mem_of_getElem? (i := 138) rfl))) (by decide) (backOf (W := 0) (own_lof_4 l Z a0 hw [] br4 kr4 zz oo em T4.heap n0 O0_x4 Vr4 EZ EO SE) hZ (hw _ (List.mem_of_getElem? (i := 138) rfl)) (hw _ (List.mem_of_getElem? (i := 85) rfl)) (by decide) (by decide)) (g := (mkF m 50 #[.val (.ref a), .unset] [(.ref br4)])) rfl (by rw [hml]; rfl) (argsL := [(.ref br4)]) (rest := []) (lenOf own_pd10 rfl) rfl (by show 2 * 0 + _ ≤ _; exact Nat.le_of_eq rfl) (hb hby own_d13_50) (fun _ _ => ⟨rfl, rfl, (by decide : 1 + 2 ≤ _), (by decide : 4 + 6 ≤ _)⟩)
  dsimp only [Pt.U, Pt.locs, Pt.cells, Pt.slots] at X5 l5 y5 z5 st5 hQ5
  subst l5 y5 z5
  obtain ⟨ql5, rfl, N5q, K5, hq5, rq5, kq5, hr5, Eq5, Fq5, Vq5⟩ := hQ5
  have N5 := Fr.app N4 N5q
  refine own_st st5 ?_
  have ne5_a_ql5 : a ≠ ql5 := Nat.ne_of_lt (Nat.lt_of_lt_of_le EA_x4.lt hq5)
  have ne5_b_ql5 : b ≠ ql5 := Nat.ne_of_lt (Nat.lt_of_lt_of_le EB_x4.lt hq5)
  have ne5_br4_ql5 : br4 ≠ ql5 := Nat.ne_of_lt (Nat.lt_of_lt_of_le Er4.lt hq5)
  have ge5_ql5 : n0 ≤ ql5 := Nat.le_trans (own_old_le O0_x4) hq5
  have sz5_ql5 : h0.size ≤ ql5 := Nat.le_trans K0_x4.1 hq5
  have ne5_a_rq5 : a ≠ rq5 := Nat.ne_of_lt (Nat.lt_of_lt_of_le EA_x4.lt hr5)
  have ne5_b_rq5 : b ≠ rq5 := Nat.ne_of_lt (Nat.lt_of_lt_of_le EB_x4.lt hr5)
  have ne5_br4_rq5 : br4 ≠ rq5 := Nat.ne_of_lt (Nat.lt_of_lt_of_le Er4.lt hr5)
  have ge5_rq5 : n0 ≤ rq5 := Nat.le_trans (own_old_le O0_x4) hr5
  have sz5_rq5 : h0.size ≤ rq5 := Nat.le_trans K0_x4.1 hr5
  have O0_x5 := O0_x4.keep K5 all0
  have EA_x5 := EA_x4.keep K5
  have FE_x5 := FE_x4.keep K5 nin0
  have FZ_x5 := FZ_x4.keep K5 nin0
  have FM_x5 := FM_x4.keep K5 nin0
  have EB_x5 := EB_x4.keep K5
  have VB_x5 := VB_x4.keep K5 nin0
  have K0_x5 := K0_x4.trans K5 all0
  have Er4_x5 := Er4.keep K5
  have Vr4_x5 := Vr4.keep K5 nin0
  show own_Rch p e below _ T5 (mkF m 53 #[.val (.ref a), .unset] [(.ref ql5)])
  refine own_retA rfl rfl X5 hx Bd.notSynchronized Bd.returns (hb hby own_d13_53) (by decide) (by decide) ?_
  exact ⟨_, rfl, N5, K0_x5, sz5_ql5, _, _, sz5_rq5, Eq5, Fq5, Vq5⟩
def own_Q_own_cof_4 (Z : State) (a : Addr) (b : Addr) (kb : ClassId) (mr : Addr) (zz : Addr) (oo : Addr) (em : Addr) (h0 : Heap) (n0 : Nat) (v : Option Value) (h : Heap) (L : List Loc) : Prop := ∃ q : Addr, v = some (.ref q) ∧ Fr n0 L ∧ Keep h0 h [] ∧ h0.size ≤ q ∧ ∃ (r : Addr) (kr : ClassId), h0.size ≤ r ∧ Exa Z h q "java/util/ImmutableCollections$ListN" ∧ Fld Z h q "java/util/ImmutableCollections$ListN" "elements" "[Ljava/lang/Object;" (.ref r) ∧ Arv Z h r kr (.object "java/lang/Object") (4 : Int32) [(.ref zz), (.ref zz), (.ref zz), (.ref oo)] .null
set_option maxRecDepth 65536 in
set_option maxHeartbeats 40000000 in
theorem own_cof_4 (l : Launch) (Z : State) (a0 : Array Value) (hw : ∀ d ∈ tables_1, d.before a0 Z = true) (ws : List Jvm.Cond) (a : Addr) (b : Addr) (kb : ClassId) (mr : Addr) (zz : Addr) (oo : Addr) (em : Addr) (h0 : Heap) (n0 : Nat) (O0 : Old Z n0 h0) (EA : Exa Z h0 a "java/util/ArrayList") (FE : Fld Z h0 a "java/util/ArrayList" "elementData" "[Ljava/lang/Object;" (.ref b)) (FZ : Fld Z h0 a "java/util/ArrayList" "size" "I" (.int (4 : Int32))) (FM : Fld Z h0 a "java/util/AbstractList" "modCount" "I" (.int (4 : Int32))) (EB : Exa Z h0 b "[Ljava/lang/Object;") (VB : Arv Z h0 b kb (.object "java/lang/Object") (10 : Int32) [(.ref zz), (.ref zz), (.ref zz), (.ref oo), .null, .null, .null, .null, .null, .null] .null) (EZ : Exa Z Z.heap zz "java/math/BigDecimal") (EO : Exa Z Z.heap oo "java/math/BigDecimal") (MR : own_Mir Z "[Ljava/lang/Object;" mr) (SE : Sta Z Z.heap "java/util/ImmutableCollections" "EMPTY" "Ljava/lang/Object;" (.ref em)) :
    MetFree l (⟨"java/util/List", "copyOf", "(Ljava/util/Collection;)Ljava/util/List;"⟩ : MethodName) (head1 (Jvm.Cond.code (⟨"java/util/List", "copyOf", "(Ljava/util/Collection;)Ljava/util/List;"⟩ : MethodName) jdk_40_method_48_code 1 (some (.object "java/util/List")) :: ws) ({ frames := 8, cells := 3, slots := 10, locals := 103 } : Room)) (fun args_ U => args_ = #[(.ref a)] ∧ Z.Warmed39 U.vm ∧ U.heap = h0) (fun _ _ _ _ _ => True) (fun _ U o U' => ∃ v L, o = .returned v ∧ (own_Q_own_cof_4 Z a b kb mr zz oo em h0 n0) v U'.heap L ∧ FrameEnd U o U' L ({ frames := 8, cells := 3, slots := 10, locals := 103 } : Room).cells ({ frames := 8, cells := 3, slots := 10, locals := 103 } : Room).slots) := by
  refine MetFree.of_bodySF (plainFor_of_name own_pn8) hisR ?_
  intro p e s m args below meth c s₁ Bd hml0 hP hK
  obtain ⟨rfl, hZ, hh⟩ := hP
  have hx := Bd.exec
  have hby := Bd.bytes
  have hml : c.maxLocals = 1 := hml0
  have hown : s.vm.findClass "java/util/List" = some m.cls := findClass_of_methodNamed Bd.named
  have hnm := (name_of_methodNamed Bd.named Bd.method).1
  have X0 : Stand p l e ({ frames := 8, cells := 3, slots := 10, locals := 103 } : Room) s m #[(.ref a)] below meth c s₁ [] 0 0 := Stand.of_body Bd
  have e0 : s₁.heap = h0 := by rw [← hh, Bd.state]; rfl
  have N0 := Fr.nil n0
  refine own_close (s := s) (Q := (own_Q_own_cof_4 Z a b kb mr zz oo em h0 n0)) (C := (({ frames := 8, cells := 3, slots := 10, locals := 103 } : Room)).cells) (N := (({ frames := 8, cells := 3, slots := 10, locals := 103 } : Room)).slots) (own_st (fun _ kt => castTop (own_ef12 m a) kt) ?_)
  have K0 := Keep.refl h0 []
  show own_Rch p e below _ s₁ (mkF m 0 #[.val (.ref a)] [])
  refine own_st (fun _ kt => XS.aloadN X0.here hx rfl (hb hby own_d12_0) rfl rfl  kt) ?_
  show own_Rch p e below _ s₁ (mkF m 1 #[.val (.ref a)] [(.ref a)])
  obtain ⟨_, _, ⟨T1, L1, k1, n1⟩, -, X1, ⟨Lc1, hQ1, l1, y1, z1⟩, st1⟩ := Jvm.LawKit.callS X0 hx (y := (⟨"java/util/ImmutableCollections", "listCopy", "(Ljava/util/Collection;)Ljava/util/List;"⟩ : MethodName)) hown (mvT hZ (hw _ (List.mem_of_getElem? (i := 87) rfl))) (mvT hZ (hw _ (List.mem_of_getElem? (i := 88) rfl))) (mvT hZ (hw _ (List.mem_of_getElem? (i := 89) rfl))) (mvT hZ (hw _ (List.mem_of_getElem? (i := 90) rfl))) (by decide) (backOf (W := 0) (own_lcopy_4 l Z a0 hw [] a b kb mr zz oo em h0 n0 O0 EA FE FZ FM EB VB EZ EO MR SE) hZ (hw _ (List.mem_of_getElem? (i := 90) rfl)) (hw _ (List.mem_of_getElem? (i := 89) rfl)) (by decide) (by decide)) (g := (mkF m 1 #[.val (.ref a)] [(.ref a)])) rfl (by rw [hml]; rfl) (argsL := [(.ref a)]) (rest := []) (lenOf own_pd11 rfl) rfl (by show 2 * 0 + _ ≤ _; exact Nat.le_of_eq rfl) (hb hby own_d12_1) (fun _ _ => ⟨rfl, e0, (by decide : 0 + 3 ≤ _), (by decide : 0 + 10 ≤ _)⟩)
  dsimp only [Pt.U, Pt.locs, Pt.cells, Pt.slots] at X1 l1 y1 z1 st1 hQ1
  subst l1 y1 z1
  obtain ⟨ql1, rfl, N1q, K1, hq1, rq1, kq1, hr1, Eq1, Fq1, Vq1⟩ := hQ1
  have N1 := Fr.app N0 N1q
  refine own_st st1 ?_
  have ne1_a_ql1 : a ≠ ql1 := Nat.ne_of_lt (Nat.lt_of_lt_of_le EA.lt hq1)
  have ne1_b_ql1 : b ≠ ql1 := Nat.ne_of_lt (Nat.lt_of_lt_of_le EB.lt hq1)
  have ge1_ql1 : n0 ≤ ql1 := Nat.le_trans (own_old_le O0) hq1
  have sz1_ql1 : h0.size ≤ ql1 := Nat.le_trans K0.1 hq1
  have ne1_a_rq1 : a ≠ rq1 := Nat.ne_of_lt (Nat.lt_of_lt_of_le EA.lt hr1)
  have ne1_b_rq1 : b ≠ rq1 := Nat.ne_of_lt (Nat.lt_of_lt_of_le EB.lt hr1)
  have ge1_rq1 : n0 ≤ rq1 := Nat.le_trans (own_old_le O0) hr1
  have sz1_rq1 : h0.size ≤ rq1 := Nat.le_trans K0.1 hr1
  have O0_x1 := O0.keep K1 all0
  have EA_x1 := EA.keep K1
  have FE_x1 := FE.keep K1 nin0
  have FZ_x1 := FZ.keep K1 nin0
  have FM_x1 := FM.keep K1 nin0
  have EB_x1 := EB.keep K1
  have VB_x1 := VB.keep K1 nin0
  have K0_x1 := K0.trans K1 all0
  show own_Rch p e below _ T1 (mkF m 4 #[.val (.ref a)] [(.ref ql1)])
  refine own_retA rfl rfl X1 hx Bd.notSynchronized Bd.returns (hb hby own_d12_4) (by decide) (by decide) ?_
  exact ⟨_, rfl, N1, K0_x1, sz1_ql1, _, _, sz1_rq1, Eq1, Fq1, Vq1⟩
def own_Q_own_mt5_4 (Z : State) (x : Addr) (sr : Addr) (pa : Int32) (a : Addr) (b : Addr) (kb : ClassId) (mr : Addr) (zz : Addr) (oo : Addr) (em : Addr) (h0 : Heap) (n0 : Nat) (v : Option Value) (h : Heap) (L : List Loc) : Prop := v = none ∧ Fr n0 L ∧ Keep h0 h [x] ∧ ∃ q : Addr, Exa Z h x "com/example/makewhole/makewhole/mortality/MortalityTable" ∧ Fld Z h x "com/example/makewhole/makewhole/mortality/MortalityTable" "firstAge" "I" (.int pa) ∧ Fld Z h x "com/example/makewhole/makewhole/mortality/MortalityTable" "qx" "Ljava/util/List;" (.ref q) ∧ h0.size ≤ q ∧ ∃ (r : Addr) (kr : ClassId), h0.size ≤ r ∧ Exa Z h q "java/util/ImmutableCollections$ListN" ∧ Fld Z h q "java/util/ImmutableCollections$ListN" "elements" "[Ljava/lang/Object;" (.ref r) ∧ Arv Z h r kr (.object "java/lang/Object") (4 : Int32) [(.ref zz), (.ref zz), (.ref zz), (.ref oo)] .null
set_option maxRecDepth 65536 in
set_option maxHeartbeats 40000000 in
theorem own_mt5_4 (l : Launch) (Z : State) (a0 : Array Value) (hw : ∀ d ∈ tables_1, d.before a0 Z = true) (ws : List Jvm.Cond) (x : Addr) (sr : Addr) (pa : Int32) (a : Addr) (b : Addr) (kb : ClassId) (mr : Addr) (zz : Addr) (oo : Addr) (em : Addr) (h0 : Heap) (n0 : Nat) (O0 : Old Z n0 h0) (EA : Exa Z h0 a "java/util/ArrayList") (FE : Fld Z h0 a "java/util/ArrayList" "elementData" "[Ljava/lang/Object;" (.ref b)) (FZ : Fld Z h0 a "java/util/ArrayList" "size" "I" (.int (4 : Int32))) (FM : Fld Z h0 a "java/util/AbstractList" "modCount" "I" (.int (4 : Int32))) (EB : Exa Z h0 b "[Ljava/lang/Object;") (VB : Arv Z h0 b kb (.object "java/lang/Object") (10 : Int32) [(.ref zz), (.ref zz), (.ref zz), (.ref oo), .null, .null, .null, .null, .null, .null] .null) (EZ : Exa Z Z.heap zz "java/math/BigDecimal") (EO : Exa Z Z.heap oo "java/math/BigDecimal") (MR : own_Mir Z "[Ljava/lang/Object;" mr) (SE : Sta Z Z.heap "java/util/ImmutableCollections" "EMPTY" "Ljava/lang/Object;" (.ref em)) (EX : Exa Z h0 x "com/example/makewhole/makewhole/mortality/MortalityTable") (G0 : Fld Z h0 x "com/example/makewhole/makewhole/mortality/MortalityTable" "source" "Ljava/lang/String;" .null) (G1 : Fld Z h0 x "com/example/makewhole/makewhole/mortality/MortalityTable" "firstAge" "I" (.int (0 : Int32))) (G2 : Fld Z h0 x "com/example/makewhole/makewhole/mortality/MortalityTable" "qx" "Ljava/util/List;" .null) (G3 : Fld Z h0 x "com/example/makewhole/makewhole/mortality/MortalityTable" "publishedName" "Ljava/lang/String;" .null) (G4 : Fld Z h0 x "com/example/makewhole/makewhole/mortality/MortalityTable" "publishedIdentity" "Ljava/lang/String;" .null) (gx : n0 ≤ x) (hxa : a ≠ x) (hxb : b ≠ x) :
    MetFree l (⟨"com/example/makewhole/makewhole/mortality/MortalityTable", "<init>", "(Ljava/lang/String;ILjava/util/List;Ljava/lang/String;Ljava/lang/String;)V"⟩ : MethodName) (head1 (Jvm.Cond.code (⟨"com/example/makewhole/makewhole/mortality/MortalityTable", "<init>", "(Ljava/lang/String;ILjava/util/List;Ljava/lang/String;Ljava/lang/String;)V"⟩ : MethodName) prog_36_method_2_code 6 none :: ws) ({ frames := 9, cells := 3, slots := 10, locals := 116 } : Room)) (fun args_ U => args_ = #[(.ref x), (.ref sr), (.int pa), (.ref a), .null, .null] ∧ Z.Warmed39 U.vm ∧ U.heap = h0) (fun _ _ _ _ _ => True) (fun _ U o U' => ∃ v L, o = .returned v ∧ (own_Q_own_mt5_4 Z x sr pa a b kb mr zz oo em h0 n0) v U'.heap L ∧ FrameEnd U o U' L ({ frames := 9, cells := 3, slots := 10, locals := 116 } : Room).cells ({ frames := 9, cells := 3, slots := 10, locals := 116 } : Room).slots) := by
  refine MetFree.of_bodySF (plainFor_of_name own_pn10) hisR ?_
  intro p e s m args below meth c s₁ Bd hml0 hP hK
  obtain ⟨rfl, hZ, hh⟩ := hP
  have hx := Bd.exec
  have hby := Bd.bytes
  have hml : c.maxLocals = 6 := hml0
  have hown : s.vm.findClass "com/example/makewhole/makewhole/mortality/MortalityTable" = some m.cls := findClass_of_methodNamed Bd.named
  have hnm := (name_of_methodNamed Bd.named Bd.method).1
  have X0 : Stand p l e ({ frames := 9, cells := 3, slots := 10, locals := 116 } : Room) s m #[(.ref x), (.ref sr), (.int pa), (.ref a), .null, .null] below meth c s₁ [] 0 0 := Stand.of_body Bd
  have e0 : s₁.heap = h0 := by rw [← hh, Bd.state]; rfl
  have N0 := Fr.nil n0
  refine own_close (s := s) (Q := (own_Q_own_mt5_4 Z x sr pa a b kb mr zz oo em h0 n0)) (C := (({ frames := 9, cells := 3, slots := 10, locals := 116 } : Room)).cells) (N := (({ frames := 9, cells := 3, slots := 10, locals := 116 } : Room)).slots) (own_st (fun _ kt => castTop (own_ef11n45 m x sr pa a) kt) ?_)
  have K0 := Keep.refl h0 [x]
  show own_Rch p e below _ s₁ (mkF m 0 #[.val (.ref x), .val (.ref sr), .val (.int pa), .val (.ref a), .val .null, .val .null] [])
  refine own_st (fun _ kt => XS.aloadN X0.here hx rfl (hb hby own_d11_0) rfl rfl  kt) ?_
  show own_Rch p e below _ s₁ (mkF m 1 #[.val (.ref x), .val (.ref sr), .val (.int pa), .val (.ref a), .val .null, .val .null] [(.ref x)])
  obtain ⟨T1, X1, e1, st1⟩ := initO X0 hx hZ hown (hw _ (List.mem_of_getElem? (i := 78) rfl)) (hw _ (List.mem_of_getElem? (i := 20) rfl)) (hw _ (List.mem_of_getElem? (i := 21) rfl)) e0 (g := (mkF m 1 #[.val (.ref x), .val (.ref sr), .val (.int pa), .val (.ref a), .val .null, .val .null] [(.ref x)])) rfl (by rw [hml]; rfl) rfl (hb hby own_d11_1) (by decide) (W := 0) (by show 2 * 0 + _ ≤ _; exact Nat.le_of_eq rfl) (by decide)
  refine own_st st1 ?_
  show own_Rch p e below _ T1 (mkF m 4 #[.val (.ref x), .val (.ref sr), .val (.int pa), .val (.ref a), .val .null, .val .null] [])
  refine own_st (fun _ kt => XS.aloadN X1.here hx rfl (hb hby own_d11_4) rfl rfl  kt) ?_
  show own_Rch p e below _ T1 (mkF m 5 #[.val (.ref x), .val (.ref sr), .val (.int pa), .val (.ref a), .val .null, .val .null] [(.ref x)])
  refine own_st (fun _ kt => XS.aloadN X1.here hx rfl (hb hby own_d11_5) rfl rfl  kt) ?_
  show own_Rch p e below _ T1 (mkF m 6 #[.val (.ref x), .val (.ref sr), .val (.int pa), .val (.ref a), .val .null, .val .null] [(.ref sr), (.ref x)])
  obtain ⟨T2, h2, X2, e2, W2, st2⟩ := putF X1 hx hZ hown (host := "") (Or.inl (hw _ (List.mem_of_getElem? (i := 79) rfl))) Via.refl e1 G0 EX (Or.inr ⟨(hw _ (List.mem_of_getElem? (i := 80) rfl)), rfl, hnm⟩) (hw _ (List.mem_of_getElem? (i := 62) rfl)) (ty := (.object "java/lang/String")) (by decide) rfl rfl (g := (mkF m 6 #[.val (.ref x), .val (.ref sr), .val (.int pa), .val (.ref a), .val .null, .val .null] [(.ref sr), (.ref x)])) rfl rfl (hb hby own_d11_6)
  refine own_st st2 ?_
  have Fw2 := G0.same W2
  have N2 := Fr.snoc X2 N0 gx
  have O0_x2 := O0.wr W2 gx
  have EA_x2 := EA.wr W2
  have FE_x2 := FE.other W2 (Or.inl hxa)
  have FZ_x2 := FZ.other W2 (Or.inl hxa)
  have FM_x2 := FM.other W2 (Or.inl hxa)
  have EB_x2 := EB.wr W2
  have VB_x2 := VB.other W2 hxb
  have EX_x2 := EX.wr W2
  have G1_x2 := G1.other W2 (Or.inr (slot_ne (Or.inr (hw _ (List.mem_of_getElem? (i := 82) rfl))) (Or.inr (hw _ (List.mem_of_getElem? (i := 80) rfl))) (by decide) (t := .int) (t' := (.object "java/lang/String")) (by decide) (by decide)))
  have G2_x2 := G2.other W2 (Or.inr (slot_ne (Or.inr (hw _ (List.mem_of_getElem? (i := 172) rfl))) (Or.inr (hw _ (List.mem_of_getElem? (i := 80) rfl))) (by decide) (t := (.object "java/util/List")) (t' := (.object "java/lang/String")) (by decide) (by decide)))
  have G3_x2 := G3.other W2 (Or.inr (slot_ne (Or.inr (hw _ (List.mem_of_getElem? (i := 174) rfl))) (Or.inr (hw _ (List.mem_of_getElem? (i := 80) rfl))) (by decide) (t := (.object "java/lang/String")) (t' := (.object "java/lang/String")) (by decide) (by decide)))
  have G4_x2 := G4.other W2 (Or.inr (slot_ne (Or.inr (hw _ (List.mem_of_getElem? (i := 176) rfl))) (Or.inr (hw _ (List.mem_of_getElem? (i := 80) rfl))) (by decide) (t := (.object "java/lang/String")) (t' := (.object "java/lang/String")) (by decide) (by decide)))
  have K0_x2 := K0.wr W2 (Or.inl (List.mem_of_getElem? (i := 0) rfl))
  show own_Rch p e below _ T2 (mkF m 9 #[.val (.ref x), .val (.ref sr), .val (.int pa), .val (.ref a), .val .null, .val .null] [])
  refine own_st (fun _ kt => XS.aloadN X2.here hx rfl (hb hby own_d11_9) rfl rfl  kt) ?_
  show own_Rch p e below _ T2 (mkF m 10 #[.val (.ref x), .val (.ref sr), .val (.int pa), .val (.ref a), .val .null, .val .null] [(.ref x)])
  refine own_st (fun _ kt => XS.iloadN X2.here hx rfl (hb hby own_d11_10) rfl  kt) ?_
  show own_Rch p e below _ T2 (mkF m 11 #[.val (.ref x), .val (.ref sr), .val (.int pa), .val (.ref a), .val .null, .val .null] [(.int pa), (.ref x)])
  obtain ⟨T3, h3, X3, e3, W3, st3⟩ := putF X2 hx hZ hown (host := "") (Or.inl (hw _ (List.mem_of_getElem? (i := 81) rfl))) Via.refl e2 G1_x2 EX_x2 (Or.inr ⟨(hw _ (List.mem_of_getElem? (i := 82) rfl)), rfl, hnm⟩) (hw _ (List.mem_of_getElem? (i := 62) rfl)) (ty := .int) (by decide) rfl rfl (g := (mkF m 11 #[.val (.ref x), .val (.ref sr), .val (.int pa), .val (.ref a), .val .null, .val .null] [(.int pa), (.ref x)])) rfl rfl (hb hby own_d11_11)
  refine own_st st3 ?_
  have Fw3 := G1_x2.same W3
  have N3 := Fr.snoc X3 N2 gx
  have O0_x3 := O0_x2.wr W3 gx
  have EA_x3 := EA_x2.wr W3
  have FE_x3 := FE_x2.other W3 (Or.inl hxa)
  have FZ_x3 := FZ_x2.other W3 (Or.inl hxa)
  have FM_x3 := FM_x2.other W3 (Or.inl hxa)
  have EB_x3 := EB_x2.wr W3
  have VB_x3 := VB_x2.other W3 hxb
  have EX_x3 := EX_x2.wr W3
  have Fw2_x3 := Fw2.other W3 (Or.inr (slot_ne (Or.inr (hw _ (List.mem_of_getElem? (i := 80) rfl))) (Or.inr (hw _ (List.mem_of_getElem? (i := 82) rfl))) (by decide) (t := (.object "java/lang/String")) (t' := .int) (by decide) (by decide)))
  have G2_x3 := G2_x2.other W3 (Or.inr (slot_ne (Or.inr (hw _ (List.mem_of_getElem? (i := 172) rfl))) (Or.inr (hw _ (List.mem_of_getElem? (i := 82) rfl))) (by decide) (t := (.object "java/util/List")) (t' := .int) (by decide) (by decide)))
  have G3_x3 := G3_x2.other W3 (Or.inr (slot_ne (Or.inr (hw _ (List.mem_of_getElem? (i := 174) rfl))) (Or.inr (hw _ (List.mem_of_getElem? (i := 82) rfl))) (by decide) (t := (.object "java/lang/String")) (t' := .int) (by decide) (by decide)))
  have G4_x3 := G4_x2.other W3 (Or.inr (slot_ne (Or.inr (hw _ (List.mem_of_getElem? (i := 176) rfl))) (Or.inr (hw _ (List.mem_of_getElem? (i := 82) rfl))) (by decide) (t := (.object "java/lang/String")) (t' := .int) (by decide) (by decide)))
  have K0_x3 := K0_x2.wr W3 (Or.inl (List.mem_of_getElem? (i := 0) rfl))
  show own_Rch p e below _ T3 (mkF m 14 #[.val (.ref x), .val (.ref sr), .val (.int pa), .val (.ref a), .val .null, .val .null] [])
  refine own_st (fun _ kt => XS.aloadN X3.here hx rfl (hb hby own_d11_14) rfl rfl  kt) ?_
  show own_Rch p e below _ T3 (mkF m 15 #[.val (.ref x), .val (.ref sr), .val (.int pa), .val (.ref a), .val .null, .val .null] [(.ref x)])
  refine own_st (fun _ kt => XS.aloadN X3.here hx rfl (hb hby own_d11_15) rfl rfl  kt) ?_
  show own_Rch p e below _ T3 (mkF m 16 #[.val (.ref x), .val (.ref sr), .val (.int pa), .val (.ref a), .val .null, .val .null] [(.ref a), (.ref x)])
  obtain ⟨_, _, ⟨T4, L4, k4, n4⟩, -, X4, ⟨Lc4, hQ4, l4, y4, z4⟩, st4⟩ := Jvm.LawKit.callS X3 hx (y := (⟨"java/util/List", "copyOf", "(Ljava/util/Collection;)Ljava/util/List;"⟩ : MethodName)) hown (mvT hZ (hw _ (List.mem_of_getElem? (i := 83) rfl))) (mvT hZ (hw _ (List.mem_of_getElem? (i := 84) rfl))) (mvT hZ (hw _ (List.mem_of_getElem? (i := 85) rfl))) (mvT hZ (hw _ (List.mem_of_getElem? (i := 86) rfl))) (by decide) (backOf (W := 1) (own_cof_4 l Z a0 hw [] a b kb mr zz oo em h3 n0 O0_x3 EA_x3 FE_x3 FZ_x3 FM_x3 EB_x3 VB_x3 EZ EO MR SE) hZ (hw _ (List.mem_of_getElem? (i := 86) rfl)) (hw _ (List.mem_of_getElem? (i := 85) rfl)) (by decide) (by decide)) (g := (mkF m 16 #[.val (.ref x), .val (.ref sr), .val (.int pa), .val (.ref a), .val .null, .val .null] [(.ref a), (.ref x)])) rfl (by rw [hml]; rfl) (argsL := [(.ref a)]) (rest := [(.ref x)]) (lenOf own_pd11 rfl) rfl (by show 2 * 0 + _ ≤ _; exact Nat.le_of_eq rfl) (hb hby own_d11_16) (fun _ _ => ⟨rfl, e3, (by decide : 0 + 3 ≤ _), (by decide : 0 + 10 ≤ _)⟩)
  dsimp only [Pt.U, Pt.locs, Pt.cells, Pt.slots] at X4 l4 y4 z4 st4 hQ4
  subst l4 y4 z4
  obtain ⟨ql4, rfl, N4q, K4, hq4, rq4, kq4, hr4, Eq4, Fq4, Vq4⟩ := hQ4
  have N4 := Fr.app N3 N4q
  refine own_st st4 ?_
  have ne4_a_ql4 : a ≠ ql4 := Nat.ne_of_lt (Nat.lt_of_lt_of_le EA_x3.lt hq4)
  have ne4_b_ql4 : b ≠ ql4 := Nat.ne_of_lt (Nat.lt_of_lt_of_le EB_x3.lt hq4)
  have ne4_x_ql4 : x ≠ ql4 := Nat.ne_of_lt (Nat.lt_of_lt_of_le EX_x3.lt hq4)
  have ge4_ql4 : n0 ≤ ql4 := Nat.le_trans (own_old_le O0_x3) hq4
  have sz4_ql4 : h0.size ≤ ql4 := Nat.le_trans K0_x3.1 hq4
  have ne4_a_rq4 : a ≠ rq4 := Nat.ne_of_lt (Nat.lt_of_lt_of_le EA_x3.lt hr4)
  have ne4_b_rq4 : b ≠ rq4 := Nat.ne_of_lt (Nat.lt_of_lt_of_le EB_x3.lt hr4)
  have ne4_x_rq4 : x ≠ rq4 := Nat.ne_of_lt (Nat.lt_of_lt_of_le EX_x3.lt hr4)
  have ge4_rq4 : n0 ≤ rq4 := Nat.le_trans (own_old_le O0_x3) hr4
  have sz4_rq4 : h0.size ≤ rq4 := Nat.le_trans K0_x3.1 hr4
  have O0_x4 := O0_x3.keep K4 all0
  have EA_x4 := EA_x3.keep K4
  have FE_x4 := FE_x3.keep K4 nin0
  have FZ_x4 := FZ_x3.keep K4 nin0
  have FM_x4 := FM_x3.keep K4 nin0
  have EB_x4 := EB_x3.keep K4
  have VB_x4 := VB_x3.keep K4 nin0
  have EX_x4 := EX_x3.keep K4
  have Fw2_x4 := Fw2_x3.keep K4 nin0
  have Fw3_x4 := Fw3.keep K4 nin0
  have G2_x4 := G2_x3.keep K4 nin0
  have G3_x4 := G3_x3.keep K4 nin0
  have G4_x4 := G4_x3.keep K4 nin0
  have K0_x4 := K0_x3.trans K4 all0
  show own_Rch p e below _ T4 (mkF m 19 #[.val (.ref x), .val (.ref sr), .val (.int pa), .val (.ref a), .val .null, .val .null] [(.ref ql4), (.ref x)])
  obtain ⟨T5, h5, X5, e5, W5, st5⟩ := putF X4 hx hZ hown (host := "") (Or.inl (hw _ (List.mem_of_getElem? (i := 171) rfl))) Via.refl rfl G2_x4 EX_x4 (Or.inr ⟨(hw _ (List.mem_of_getElem? (i := 172) rfl)), rfl, hnm⟩) (hw _ (List.mem_of_getElem? (i := 62) rfl)) (ty := (.object "java/util/List")) (by decide) rfl rfl (g := (mkF m 19 #[.val (.ref x), .val (.ref sr), .val (.int pa), .val (.ref a), .val .null, .val .null] [(.ref ql4), (.ref x)])) rfl rfl (hb hby own_d11_19)
  refine own_st st5 ?_
  have Fw5 := G2_x4.same W5
  have N5 := Fr.snoc X5 N4 gx
  have O0_x5 := O0_x4.wr W5 gx
  have EA_x5 := EA_x4.wr W5
  have FE_x5 := FE_x4.other W5 (Or.inl hxa)
  have FZ_x5 := FZ_x4.other W5 (Or.inl hxa)
  have FM_x5 := FM_x4.other W5 (Or.inl hxa)
  have EB_x5 := EB_x4.wr W5
  have VB_x5 := VB_x4.other W5 hxb
  have EX_x5 := EX_x4.wr W5
  have Fw2_x5 := Fw2_x4.other W5 (Or.inr (slot_ne (Or.inr (hw _ (List.mem_of_getElem? (i := 80) rfl))) (Or.inr (hw _ (List.mem_of_getElem? (i := 172) rfl))) (by decide) (t := (.object "java/lang/String")) (t' := (.object "java/util/List")) (by decide) (by decide)))
  have Fw3_x5 := Fw3_x4.other W5 (Or.inr (slot_ne (Or.inr (hw _ (List.mem_of_getElem? (i := 82) rfl))) (Or.inr (hw _ (List.mem_of_getElem? (i := 172) rfl))) (by decide) (t := .int) (t' := (.object "java/util/List")) (by decide) (by decide)))
  have G3_x5 := G3_x4.other W5 (Or.inr (slot_ne (Or.inr (hw _ (List.mem_of_getElem? (i := 174) rfl))) (Or.inr (hw _ (List.mem_of_getElem? (i := 172) rfl))) (by decide) (t := (.object "java/lang/String")) (t' := (.object "java/util/List")) (by decide) (by decide)))
  have G4_x5 := G4_x4.other W5 (Or.inr (slot_ne (Or.inr (hw _ (List.mem_of_getElem? (i := 176) rfl))) (Or.inr (hw _ (List.mem_of_getElem? (i := 172) rfl))) (by decide) (t := (.object "java/lang/String")) (t' := (.object "java/util/List")) (by decide) (by decide)))
  have K0_x5 := K0_x4.wr W5 (Or.inl (List.mem_of_getElem? (i := 0) rfl))
  have Eq4_x5 := Eq4.wr W5
  have Fq4_x5 := Fq4.other W5 (Or.inl (Ne.symm ne4_x_ql4))
  have Vq4_x5 := Vq4.other W5 (Ne.symm ne4_x_rq4)
  show own_Rch p e below _ T5 (mkF m 22 #[.val (.ref x), .val (.ref sr), .val (.int pa), .val (.ref a), .val .null, .val .null] [])
  refine own_st (fun _ kt => XS.aloadN X5.here hx rfl (hb hby own_d11_22) rfl rfl  kt) ?_
  show own_Rch p e below _ T5 (mkF m 23 #[.val (.ref x), .val (.ref sr), .val (.int pa), .val (.ref a), .val .null, .val .null] [(.ref x)])
  refine own_st (fun _ kt => XS.aload X5.here hx rfl (hb hby own_d11_23) rfl rfl  kt) ?_
  show own_Rch p e below _ T5 (mkF m 25 #[.val (.ref x), .val (.ref sr), .val (.int pa), .val (.ref a), .val .null, .val .null] [.null, (.ref x)])
  obtain ⟨T6, h6, X6, e6, W6, st6⟩ := putF X5 hx hZ hown (host := "") (Or.inl (hw _ (List.mem_of_getElem? (i := 173) rfl))) Via.refl e5 G3_x5 EX_x5 (Or.inr ⟨(hw _ (List.mem_of_getElem? (i := 174) rfl)), rfl, hnm⟩) (hw _ (List.mem_of_getElem? (i := 62) rfl)) (ty := (.object "java/lang/String")) (by decide) rfl rfl (g := (mkF m 25 #[.val (.ref x), .val (.ref sr), .val (.int pa), .val (.ref a), .val .null, .val .null] [.null, (.ref x)])) rfl rfl (hb hby own_d11_25)
  refine own_st st6 ?_
  have Fw6 := G3_x5.same W6
  have N6 := Fr.snoc X6 N5 gx
  have O0_x6 := O0_x5.wr W6 gx
  have EA_x6 := EA_x5.wr W6
  have FE_x6 := FE_x5.other W6 (Or.inl hxa)
  have FZ_x6 := FZ_x5.other W6 (Or.inl hxa)
  have FM_x6 := FM_x5.other W6 (Or.inl hxa)
  have EB_x6 := EB_x5.wr W6
  have VB_x6 := VB_x5.other W6 hxb
  have EX_x6 := EX_x5.wr W6
  have Fw2_x6 := Fw2_x5.other W6 (Or.inr (slot_ne (Or.inr (hw _ (List.mem_of_getElem? (i := 80) rfl))) (Or.inr (hw _ (List.mem_of_getElem? (i := 174) rfl))) (by decide) (t := (.object "java/lang/String")) (t' := (.object "java/lang/String")) (by decide) (by decide)))
  have Fw3_x6 := Fw3_x5.other W6 (Or.inr (slot_ne (Or.inr (hw _ (List.mem_of_getElem? (i := 82) rfl))) (Or.inr (hw _ (List.mem_of_getElem? (i := 174) rfl))) (by decide) (t := .int) (t' := (.object "java/lang/String")) (by decide) (by decide)))
  have Fw5_x6 := Fw5.other W6 (Or.inr (slot_ne (Or.inr (hw _ (List.mem_of_getElem? (i := 172) rfl))) (Or.inr (hw _ (List.mem_of_getElem? (i := 174) rfl))) (by decide) (t := (.object "java/util/List")) (t' := (.object "java/lang/String")) (by decide) (by decide)))
  have G4_x6 := G4_x5.other W6 (Or.inr (slot_ne (Or.inr (hw _ (List.mem_of_getElem? (i := 176) rfl))) (Or.inr (hw _ (List.mem_of_getElem? (i := 174) rfl))) (by decide) (t := (.object "java/lang/String")) (t' := (.object "java/lang/String")) (by decide) (by decide)))
  have K0_x6 := K0_x5.wr W6 (Or.inl (List.mem_of_getElem? (i := 0) rfl))
  have Eq4_x6 := Eq4_x5.wr W6
  have Fq4_x6 := Fq4_x5.other W6 (Or.inl (Ne.symm ne4_x_ql4))
  have Vq4_x6 := Vq4_x5.other W6 (Ne.symm ne4_x_rq4)
  show own_Rch p e below _ T6 (mkF m 28 #[.val (.ref x), .val (.ref sr), .val (.int pa), .val (.ref a), .val .null, .val .null] [])
  refine own_st (fun _ kt => XS.aloadN X6.here hx rfl (hb hby own_d11_28) rfl rfl  kt) ?_
  show own_Rch p e below _ T6 (mkF m 29 #[.val (.ref x), .val (.ref sr), .val (.int pa), .val (.ref a), .val .null, .val .null] [(.ref x)])
  refine own_st (fun _ kt => XS.aload X6.here hx rfl (hb hby own_d11_29) rfl rfl  kt) ?_
  show own_Rch p e below _ T6 (mkF m 31 #[.val (.ref x), .val (.ref sr), .val (.int pa), .val (.ref a), .val .null, .val .null] [.null, (.ref x)])
  obtain ⟨T7, h7, X7, e7, W7, st7⟩ := putF X6 hx hZ hown (host := "") (Or.inl (hw _ (List.mem_of_getElem? (i := 175) rfl))) Via.refl e6 G4_x6 EX_x6 (Or.inr ⟨(hw _ (List.mem_of_getElem? (i := 176) rfl)), rfl, hnm⟩) (hw _ (List.mem_of_getElem? (i := 62) rfl)) (ty := (.object "java/lang/String")) (by decide) rfl rfl (g := (mkF m 31 #[.val (.ref x), .val (.ref sr), .val (.int pa), .val (.ref a), .val .null, .val .null] [.null, (.ref x)])) rfl rfl (hb hby own_d11_31)
  refine own_st st7 ?_
  have Fw7 := G4_x6.same W7
  have N7 := Fr.snoc X7 N6 gx
  have O0_x7 := O0_x6.wr W7 gx
  have EA_x7 := EA_x6.wr W7
  have FE_x7 := FE_x6.other W7 (Or.inl hxa)
  have FZ_x7 := FZ_x6.other W7 (Or.inl hxa)
  have FM_x7 := FM_x6.other W7 (Or.inl hxa)
  have EB_x7 := EB_x6.wr W7
  have VB_x7 := VB_x6.other W7 hxb
  have EX_x7 := EX_x6.wr W7
  have Fw2_x7 := Fw2_x6.other W7 (Or.inr (slot_ne (Or.inr (hw _ (List.mem_of_getElem? (i := 80) rfl))) (Or.inr (hw _ (List.mem_of_getElem? (i := 176) rfl))) (by decide) (t := (.object "java/lang/String")) (t' := (.object "java/lang/String")) (by decide) (by decide)))
  have Fw3_x7 := Fw3_x6.other W7 (Or.inr (slot_ne (Or.inr (hw _ (List.mem_of_getElem? (i := 82) rfl))) (Or.inr (hw _ (List.mem_of_getElem? (i := 176) rfl))) (by decide) (t := .int) (t' := (.object "java/lang/String")) (by decide) (by decide)))
  have Fw5_x7 := Fw5_x6.other W7 (Or.inr (slot_ne (Or.inr (hw _ (List.mem_of_getElem? (i := 172) rfl))) (Or.inr (hw _ (List.mem_of_getElem? (i := 176) rfl))) (by decide) (t := (.object "java/util/List")) (t' := (.object "java/lang/String")) (by decide) (by decide)))
  have Fw6_x7 := Fw6.other W7 (Or.inr (slot_ne (Or.inr (hw _ (List.mem_of_getElem? (i := 174) rfl))) (Or.inr (hw _ (List.mem_of_getElem? (i := 176) rfl))) (by decide) (t := (.object "java/lang/String")) (t' := (.object "java/lang/String")) (by decide) (by decide)))
  have K0_x7 := K0_x6.wr W7 (Or.inl (List.mem_of_getElem? (i := 0) rfl))
  have Eq4_x7 := Eq4_x6.wr W7
  have Fq4_x7 := Fq4_x6.other W7 (Or.inl (Ne.symm ne4_x_ql4))
  have Vq4_x7 := Vq4_x6.other W7 (Ne.symm ne4_x_rq4)
  show own_Rch p e below _ T7 (mkF m 34 #[.val (.ref x), .val (.ref sr), .val (.int pa), .val (.ref a), .val .null, .val .null] [])
  refine own_retV X7 hx Bd.notSynchronized Bd.returns (hb hby own_d11_34) (by decide) (by decide) ?_
  rw [e7]
  exact ⟨rfl, N7, K0_x7, _, EX_x7, Fw3_x7, Fw5_x7, sz4_ql4, _, _, sz4_rq4, Eq4_x7, Fq4_x7, Vq4_x7⟩
def own_Q_own_mt3_4 (Z : State) (x : Addr) (sr : Addr) (pa : Int32) (a : Addr) (b : Addr) (kb : ClassId) (mr : Addr) (zz : Addr) (oo : Addr) (em : Addr) (h0 : Heap) (n0 : Nat) (v : Option Value) (h : Heap) (L : List Loc) : Prop := v = none ∧ Fr n0 L ∧ Keep h0 h [x] ∧ ∃ q : Addr, Exa Z h x "com/example/makewhole/makewhole/mortality/MortalityTable" ∧ Fld Z h x "com/example/makewhole/makewhole/mortality/MortalityTable" "firstAge" "I" (.int pa) ∧ Fld Z h x "com/example/makewhole/makewhole/mortality/MortalityTable" "qx" "Ljava/util/List;" (.ref q) ∧ h0.size ≤ q ∧ ∃ (r : Addr) (kr : ClassId), h0.size ≤ r ∧ Exa Z h q "java/util/ImmutableCollections$ListN" ∧ Fld Z h q "java/util/ImmutableCollections$ListN" "elements" "[Ljava/lang/Object;" (.ref r) ∧ Arv Z h r kr (.object "java/lang/Object") (4 : Int32) [(.ref zz), (.ref zz), (.ref zz), (.ref oo)] .null
set_option maxRecDepth 65536 in
set_option maxHeartbeats 40000000 in
theorem own_mt3_4 (l : Launch) (Z : State) (a0 : Array Value) (hw : ∀ d ∈ tables_1, d.before a0 Z = true) (ws : List Jvm.Cond) (x : Addr) (sr : Addr) (pa : Int32) (a : Addr) (b : Addr) (kb : ClassId) (mr : Addr) (zz : Addr) (oo : Addr) (em : Addr) (h0 : Heap) (n0 : Nat) (O0 : Old Z n0 h0) (EA : Exa Z h0 a "java/util/ArrayList") (FE : Fld Z h0 a "java/util/ArrayList" "elementData" "[Ljava/lang/Object;" (.ref b)) (FZ : Fld Z h0 a "java/util/ArrayList" "size" "I" (.int (4 : Int32))) (FM : Fld Z h0 a "java/util/AbstractList" "modCount" "I" (.int (4 : Int32))) (EB : Exa Z h0 b "[Ljava/lang/Object;") (VB : Arv Z h0 b kb (.object "java/lang/Object") (10 : Int32) [(.ref zz), (.ref zz), (.ref zz), (.ref oo), .null, .null, .null, .null, .null, .null] .null) (EZ : Exa Z Z.heap zz "java/math/BigDecimal") (EO : Exa Z Z.heap oo "java/math/BigDecimal") (MR : own_Mir Z "[Ljava/lang/Object;" mr) (SE : Sta Z Z.heap "java/util/ImmutableCollections" "EMPTY" "Ljava/lang/Object;" (.ref em)) (EX : Exa Z h0 x "com/example/makewhole/makewhole/mortality/MortalityTable") (G0 : Fld Z h0 x "com/example/makewhole/makewhole/mortality/MortalityTable" "source" "Ljava/lang/String;" .null) (G1 : Fld Z h0 x "com/example/makewhole/makewhole/mortality/MortalityTable" "firstAge" "I" (.int (0 : Int32))) (G2 : Fld Z h0 x "com/example/makewhole/makewhole/mortality/MortalityTable" "qx" "Ljava/util/List;" .null) (G3 : Fld Z h0 x "com/example/makewhole/makewhole/mortality/MortalityTable" "publishedName" "Ljava/lang/String;" .null) (G4 : Fld Z h0 x "com/example/makewhole/makewhole/mortality/MortalityTable" "publishedIdentity" "Ljava/lang/String;" .null) (gx : n0 ≤ x) (hxa : a ≠ x) (hxb : b ≠ x) :
    MetFree l (⟨"com/example/makewhole/makewhole/mortality/MortalityTable", "<init>", "(Ljava/lang/String;ILjava/util/List;)V"⟩ : MethodName) (head1 (Jvm.Cond.code (⟨"com/example/makewhole/makewhole/mortality/MortalityTable", "<init>", "(Ljava/lang/String;ILjava/util/List;)V"⟩ : MethodName) prog_36_method_1_code 4 none :: ws) ({ frames := 10, cells := 3, slots := 10, locals := 133 } : Room)) (fun args_ U => args_ = #[(.ref x), (.ref sr), (.int pa), (.ref a)] ∧ Z.Warmed39 U.vm ∧ U.heap = h0) (fun _ _ _ _ _ => True) (fun _ U o U' => ∃ v L, o = .returned v ∧ (own_Q_own_mt3_4 Z x sr pa a b kb mr zz oo em h0 n0) v U'.heap L ∧ FrameEnd U o U' L ({ frames := 10, cells := 3, slots := 10, locals := 133 } : Room).cells ({ frames := 10, cells := 3, slots := 10, locals := 133 } : Room).slots) := by
  refine MetFree.of_bodySF (plainFor_of_name own_pn10) hisR ?_
  intro p e s m args below meth c s₁ Bd hml0 hP hK
  obtain ⟨rfl, hZ, hh⟩ := hP
  have hx := Bd.exec
  have hby := Bd.bytes
  have hml : c.maxLocals = 4 := hml0
  have hown : s.vm.findClass "com/example/makewhole/makewhole/mortality/MortalityTable" = some m.cls := findClass_of_methodNamed Bd.named
  have hnm := (name_of_methodNamed Bd.named Bd.method).1
  have X0 : Stand p l e ({ frames := 10, cells := 3, slots := 10, locals := 133 } : Room) s m #[(.ref x), (.ref sr), (.int pa), (.ref a)] below meth c s₁ [] 0 0 := Stand.of_body Bd
  have e0 : s₁.heap = h0 := by rw [← hh, Bd.state]; rfl
  have N0 := Fr.nil n0
  refine own_close (s := s) (Q := (own_Q_own_mt3_4 Z x sr pa a b kb mr zz oo em h0 n0)) (C := (({ frames := 10, cells := 3, slots := 10, locals := 133 } : Room)).cells) (N := (({ frames := 10, cells := 3, slots := 10, locals := 133 } : Room)).slots) (own_st (fun _ kt => castTop (own_ef10 m x sr pa a) kt) ?_)
  have K0 := Keep.refl h0 [x]
  show own_Rch p e below _ s₁ (mkF m 0 #[.val (.ref x), .val (.ref sr), .val (.int pa), .val (.ref a)] [])
  refine own_st (fun _ kt => XS.aloadN X0.here hx rfl (hb hby own_d10_0) rfl rfl  kt) ?_
  show own_Rch p e below _ s₁ (mkF m 1 #[.val (.ref x), .val (.ref sr), .val (.int pa), .val (.ref a)] [(.ref x)])
  refine own_st (fun _ kt => XS.aloadN X0.here hx rfl (hb hby own_d10_1) rfl rfl  kt) ?_
  show own_Rch p e below _ s₁ (mkF m 2 #[.val (.ref x), .val (.ref sr), .val (.int pa), .val (.ref a)] [(.ref sr), (.ref x)])
  refine own_st (fun _ kt => XS.iloadN X0.here hx rfl (hb hby own_d10_2) rfl  kt) ?_
  show own_Rch p e below _ s₁ (mkF m 3 #[.val (.ref x), .val (.ref sr), .val (.int pa), .val (.ref a)] [(.int pa), (.ref sr), (.ref x)])
  refine own_st (fun _ kt => XS.aloadN X0.here hx rfl (hb hby own_d10_3) rfl rfl  kt) ?_
  show own_Rch p e below _ s₁ (mkF m 4 #[.val (.ref x), .val (.ref sr), .val (.int pa), .val (.ref a)] [(.ref a), (.int pa), (.ref sr), (.ref x)])
  refine own_st (fun _ kt => XS.aconstNull X0.here hx rfl (hb hby own_d10_4) kt) ?_
  show own_Rch p e below _ s₁ (mkF m 5 #[.val (.ref x), .val (.ref sr), .val (.int pa), .val (.ref a)] [.null, (.ref a), (.int pa), (.ref sr), (.ref x)])
  refine own_st (fun _ kt => XS.aconstNull X0.here hx rfl (hb hby own_d10_5) kt) ?_
  show own_Rch p e below _ s₁ (mkF m 6 #[.val (.ref x), .val (.ref sr), .val (.int pa), .val (.ref a)] [.null, .null, (.ref a), (.int pa), (.ref sr), (.ref x)])
  obtain ⟨_, _, ⟨T1, L1, k1, n1⟩, -, X1, ⟨Lc1, hQ1, l1, y1, z1⟩, st1⟩ := X0.specialBack hx (y := (⟨"com/example/makewhole/makewhole/mortality/MortalityTable", "<init>", "(Ljava/lang/String;ILjava/util/List;Ljava/lang/String;Ljava/lang/String;)V"⟩ : MethodName)) rfl hown (mvT hZ (hw _ (List.mem_of_getElem? (i := 75) rfl))) (mvT hZ (hw _ (List.mem_of_getElem? (i := 76) rfl))) (mvT hZ (hw _ (List.mem_of_getElem? (i := 77) rfl))) (by decide) (backOf (W := 0) (own_mt5_4 l Z a0 hw [] x sr pa a b kb mr zz oo em h0 n0 O0 EA FE FZ FM EB VB EZ EO MR SE EX G0 G1 G2 G3 G4 gx hxa hxb) hZ (hw _ (List.mem_of_getElem? (i := 77) rfl)) (hw _ (List.mem_of_getElem? (i := 63) rfl)) (by decide) (by decide)) (g := (mkF m 6 #[.val (.ref x), .val (.ref sr), .val (.int pa), .val (.ref a)] [.null, .null, (.ref a), (.int pa), (.ref sr), (.ref x)])) rfl (by rw [hml]; rfl) (Steps.refl _) (a := x) (argsL := [(.ref sr), (.int pa), (.ref a), .null, .null]) (rest := []) (lenOf own_pd12 rfl) rfl (by show 2 * 0 + _ ≤ _; exact Nat.le_of_eq rfl) (hb hby own_d10_6) (fun _ _ => ⟨rfl, e0, (by decide : 0 + 3 ≤ _), (by decide : 0 + 10 ≤ _)⟩)
  dsimp only [Pt.U, Pt.locs, Pt.cells, Pt.slots] at X1 l1 y1 z1 st1 hQ1
  subst l1 y1 z1
  obtain ⟨rfl, N1q, K1, qm1, Ex1, Fa1, Fx1, hq1, rq1, kq1, hr1, Eq1, Fq1, Vq1⟩ := hQ1
  have N1 := Fr.app N0 N1q
  refine own_st (fun _ kt => st1.trans kt) ?_
  have ne1_a_qm1 : a ≠ qm1 := Nat.ne_of_lt (Nat.lt_of_lt_of_le EA.lt hq1)
  have ne1_b_qm1 : b ≠ qm1 := Nat.ne_of_lt (Nat.lt_of_lt_of_le EB.lt hq1)
  have ne1_x_qm1 : x ≠ qm1 := Nat.ne_of_lt (Nat.lt_of_lt_of_le EX.lt hq1)
  have ge1_qm1 : n0 ≤ qm1 := Nat.le_trans (own_old_le O0) hq1
  have sz1_qm1 : h0.size ≤ qm1 := Nat.le_trans K0.1 hq1
  have ne1_a_rq1 : a ≠ rq1 := Nat.ne_of_lt (Nat.lt_of_lt_of_le EA.lt hr1)
  have ne1_b_rq1 : b ≠ rq1 := Nat.ne_of_lt (Nat.lt_of_lt_of_le EB.lt hr1)
  have ne1_x_rq1 : x ≠ rq1 := Nat.ne_of_lt (Nat.lt_of_lt_of_le EX.lt hr1)
  have ge1_rq1 : n0 ≤ rq1 := Nat.le_trans (own_old_le O0) hr1
  have sz1_rq1 : h0.size ≤ rq1 := Nat.le_trans K0.1 hr1
  have O0_x1 := O0.keep K1 (allS gx all0)
  have EA_x1 := EA.keep K1
  have FE_x1 := FE.keep K1 (ninS hxa nin0)
  have FZ_x1 := FZ.keep K1 (ninS hxa nin0)
  have FM_x1 := FM.keep K1 (ninS hxa nin0)
  have EB_x1 := EB.keep K1
  have VB_x1 := VB.keep K1 (ninS hxb nin0)
  have EX_x1 := EX.keep K1
  have K0_x1 := K0.trans K1 (allS (Or.inl (List.mem_of_getElem? (i := 0) rfl)) all0)
  show own_Rch p e below _ T1 (mkF m 9 #[.val (.ref x), .val (.ref sr), .val (.int pa), .val (.ref a)] [])
  refine own_retV X1 hx Bd.notSynchronized Bd.returns (hb hby own_d10_9) (by decide) (by decide) ?_
  exact ⟨rfl, N1, K0_x1, _, Ex1, Fa1, Fx1, sz1_qm1, _, _, sz1_rq1, Eq1, Fq1, Vq1⟩
def own_Q_own_size_4 (Z : State) (a : Addr) (r : Addr) (kr : ClassId) (zz : Addr) (oo : Addr) (h0 : Heap) (n0 : Nat) (v : Option Value) (h : Heap) (L : List Loc) : Prop := v = some (.int (4 : Int32)) ∧ Fr n0 L ∧ h = h0
set_option maxRecDepth 65536 in
set_option maxHeartbeats 40000000 in
theorem own_size_4 (l : Launch) (Z : State) (a0 : Array Value) (hw : ∀ d ∈ tables_1, d.before a0 Z = true) (ws : List Jvm.Cond) (a : Addr) (r : Addr) (kr : ClassId) (zz : Addr) (oo : Addr) (h0 : Heap) (n0 : Nat) (O0 : Old Z n0 h0) (F1 : Fld Z h0 a "java/util/ImmutableCollections$ListN" "elements" "[Ljava/lang/Object;" (.ref r)) (VR : Arv Z h0 r kr (.object "java/lang/Object") (4 : Int32) [(.ref zz), (.ref zz), (.ref zz), (.ref oo)] .null) :
    MetFree l (⟨"java/util/ImmutableCollections$ListN", "size", "()I"⟩ : MethodName) (head1 (Jvm.Cond.code (⟨"java/util/ImmutableCollections$ListN", "size", "()I"⟩ : MethodName) jdk_45_method_3_code 1 (some .int) :: ws) ({ frames := 0, cells := 0, slots := 0, locals := 0 } : Room)) (fun args_ U => args_ = #[(.ref a)] ∧ Z.Warmed39 U.vm ∧ U.heap = h0) (fun _ _ _ _ _ => True) (fun _ U o U' => ∃ v L, o = .returned v ∧ (own_Q_own_size_4 Z a r kr zz oo h0 n0) v U'.heap L ∧ FrameEnd U o U' L ({ frames := 0, cells := 0, slots := 0, locals := 0 } : Room).cells ({ frames := 0, cells := 0, slots := 0, locals := 0 } : Room).slots) := by
  refine MetFree.of_bodySF (plainFor_of_name own_pn11) hisR ?_
  intro p e s m args below meth c s₁ Bd hml0 hP hK
  obtain ⟨rfl, hZ, hh⟩ := hP
  have hx := Bd.exec
  have hby := Bd.bytes
  have hml : c.maxLocals = 1 := hml0
  have hown : s.vm.findClass "java/util/ImmutableCollections$ListN" = some m.cls := findClass_of_methodNamed Bd.named
  have hnm := (name_of_methodNamed Bd.named Bd.method).1
  have X0 : Stand p l e ({ frames := 0, cells := 0, slots := 0, locals := 0 } : Room) s m #[(.ref a)] below meth c s₁ [] 0 0 := Stand.of_body Bd
  have e0 : s₁.heap = h0 := by rw [← hh, Bd.state]; rfl
  have N0 := Fr.nil n0
  refine own_close (s := s) (Q := (own_Q_own_size_4 Z a r kr zz oo h0 n0)) (C := (({ frames := 0, cells := 0, slots := 0, locals := 0 } : Room)).cells) (N := (({ frames := 0, cells := 0, slots := 0, locals := 0 } : Room)).slots) (own_st (fun _ kt => castTop (own_ef26 m a) kt) ?_)
  show own_Rch p e below _ s₁ (mkF m 0 #[.val (.ref a)] [])
  refine own_st (fun _ kt => XS.aloadN X0.here hx rfl (hb hby own_d26_0) rfl rfl  kt) ?_
  show own_Rch p e below _ s₁ (mkF m 1 #[.val (.ref a)] [(.ref a)])
  obtain ⟨T1, X1, e1, st1⟩ := getF X0 hx hZ hown (host := "") (Or.inl (hw _ (List.mem_of_getElem? (i := 167) rfl))) Via.refl e0 F1 (g := (mkF m 1 #[.val (.ref a)] [(.ref a)])) rfl rfl (hb hby own_d26_1)
  refine own_st st1 ?_
  show own_Rch p e below _ T1 (mkF m 4 #[.val (.ref a)] [(.ref r)])
  obtain ⟨cl2, Ar2, -, S2, M2, -, -⟩ := id VR
  refine own_st (X1.arraylength hx (by rw [e1]; exact Ar2.1) (State.isArrayOf_alike (hZ).alike Ar2.2.1) (g := (mkF m 4 #[.val (.ref a)] [(.ref r)])) rfl rfl (hb hby own_d26_4)) ?_
  rw [len_of S2 M2]
  show own_Rch p e below _ T1 (mkF m 5 #[.val (.ref a)] [(.int (4 : Int32))])
  refine own_retI X1 hx Bd.notSynchronized Bd.returns (hb hby own_d26_5) (by decide) (by decide) ?_
  rw [e1]
  exact ⟨rfl, N0, rfl⟩
def own_Q_own_last_4 (Z : State) (x : Addr) (pa : Int32) (q : Addr) (r : Addr) (kr : ClassId) (zz : Addr) (oo : Addr) (h0 : Heap) (n0 : Nat) (v : Option Value) (h : Heap) (L : List Loc) : Prop := v = some (.int ((pa + (4 : Int32)) - (1 : Int32))) ∧ Fr n0 L ∧ h = h0
set_option maxRecDepth 65536 in
set_option maxHeartbeats 40000000 in
theorem own_last_4 (l : Launch) (Z : State) (a0 : Array Value) (hw : ∀ d ∈ tables_1, d.before a0 Z = true) (ws : List Jvm.Cond) (x : Addr) (pa : Int32) (q : Addr) (r : Addr) (kr : ClassId) (zz : Addr) (oo : Addr) (h0 : Heap) (n0 : Nat) (O0 : Old Z n0 h0) (FA : Fld Z h0 x "com/example/makewhole/makewhole/mortality/MortalityTable" "firstAge" "I" (.int pa)) (FX : Fld Z h0 x "com/example/makewhole/makewhole/mortality/MortalityTable" "qx" "Ljava/util/List;" (.ref q)) (E : Exa Z h0 q "java/util/ImmutableCollections$ListN") (F1 : Fld Z h0 q "java/util/ImmutableCollections$ListN" "elements" "[Ljava/lang/Object;" (.ref r)) (VR : Arv Z h0 r kr (.object "java/lang/Object") (4 : Int32) [(.ref zz), (.ref zz), (.ref zz), (.ref oo)] .null) :
    MetFree l (⟨"com/example/makewhole/makewhole/mortality/MortalityTable", "getLastAge", "()I"⟩ : MethodName) (head1 (Jvm.Cond.code (⟨"com/example/makewhole/makewhole/mortality/MortalityTable", "getLastAge", "()I"⟩ : MethodName) prog_36_method_9_code 1 (some .int) :: ws) ({ frames := 1, cells := 0, slots := 0, locals := 13 } : Room)) (fun args_ U => args_ = #[(.ref x)] ∧ Z.Warmed39 U.vm ∧ U.heap = h0) (fun _ _ _ _ _ => True) (fun _ U o U' => ∃ v L, o = .returned v ∧ (own_Q_own_last_4 Z x pa q r kr zz oo h0 n0) v U'.heap L ∧ FrameEnd U o U' L ({ frames := 1, cells := 0, slots := 0, locals := 13 } : Room).cells ({ frames := 1, cells := 0, slots := 0, locals := 13 } : Room).slots) := by
  refine MetFree.of_bodySF (plainFor_of_name own_pn10) hisR ?_
  intro p e s m args below meth c s₁ Bd hml0 hP hK
  obtain ⟨rfl, hZ, hh⟩ := hP
  have hx := Bd.exec
  have hby := Bd.bytes
  have hml : c.maxLocals = 1 := hml0
  have hown : s.vm.findClass "com/example/makewhole/makewhole/mortality/MortalityTable" = some m.cls := findClass_of_methodNamed Bd.named
  have hnm := (name_of_methodNamed Bd.named Bd.method).1
  have X0 : Stand p l e ({ frames := 1, cells := 0, slots := 0, locals := 13 } : Room) s m #[(.ref x)] below meth c s₁ [] 0 0 := Stand.of_body Bd
  have e0 : s₁.heap = h0 := by rw [← hh, Bd.state]; rfl
  have N0 := Fr.nil n0
  refine own_close (s := s) (Q := (own_Q_own_last_4 Z x pa q r kr zz oo h0 n0)) (C := (({ frames := 1, cells := 0, slots := 0, locals := 13 } : Room)).cells) (N := (({ frames := 1, cells := 0, slots := 0, locals := 13 } : Room)).slots) (own_st (fun _ kt => castTop (own_ef25 m x) kt) ?_)
  show own_Rch p e below _ s₁ (mkF m 0 #[.val (.ref x)] [])
  refine own_st (fun _ kt => XS.aloadN X0.here hx rfl (hb hby own_d25_0) rfl rfl  kt) ?_
  show own_Rch p e below _ s₁ (mkF m 1 #[.val (.ref x)] [(.ref x)])
  obtain ⟨T1, X1, e1, st1⟩ := getF X0 hx hZ hown (host := "") (Or.inl (hw _ (List.mem_of_getElem? (i := 81) rfl))) Via.refl e0 FA (g := (mkF m 1 #[.val (.ref x)] [(.ref x)])) rfl rfl (hb hby own_d25_1)
  refine own_st st1 ?_
  show own_Rch p e below _ T1 (mkF m 4 #[.val (.ref x)] [(.int pa)])
  refine own_st (fun _ kt => XS.aloadN X1.here hx rfl (hb hby own_d25_4) rfl rfl  kt) ?_
  show own_Rch p e below _ T1 (mkF m 5 #[.val (.ref x)] [(.ref x), (.int pa)])
  obtain ⟨T2, X2, e2, st2⟩ := getF X1 hx hZ hown (host := "") (Or.inl (hw _ (List.mem_of_getElem? (i := 171) rfl))) Via.refl e1 FX (g := (mkF m 5 #[.val (.ref x)] [(.ref x), (.int pa)])) rfl rfl (hb hby own_d25_5)
  refine own_st st2 ?_
  show own_Rch p e below _ T2 (mkF m 8 #[.val (.ref x)] [(.ref q), (.int pa)])
  obtain ⟨cq3, kq3, q3a, q3b, q3c⟩ := isOf hZ e2 E
  obtain ⟨_, _, ⟨T3, L3, k3, n3⟩, -, X3, ⟨Lc3, hQ3, l3, y3, z3⟩, st3⟩ := X2.interfaceBack hx (xi := (⟨"java/util/List", "size", "()I"⟩ : MethodName)) (y := (⟨"java/util/ImmutableCollections$ListN", "size", "()I"⟩ : MethodName)) hown (mvT hZ (hw _ (List.mem_of_getElem? (i := 182) rfl))) (mvT hZ (hw _ (List.mem_of_getElem? (i := 183) rfl))) (mvT hZ (hw _ (List.mem_of_getElem? (i := 184) rfl))) (mvT hZ (hw _ (List.mem_of_getElem? (i := 185) rfl))) (mvT hZ (hw _ (List.mem_of_getElem? (i := 186) rfl))) (mvT hZ (hw _ (List.mem_of_getElem? (i := 187) rfl))) (mvT hZ (hw _ (List.mem_of_getElem? (i := 188) rfl))) (mvT hZ (hw _ (List.mem_of_getElem? (i := 189) rfl))) (by decide) (backOf (W := 1) (own_size_4 l Z a0 hw [] q r kr zz oo h0 n0 O0 F1 VR) hZ (hw _ (List.mem_of_getElem? (i := 190) rfl)) (hw _ (List.mem_of_getElem? (i := 148) rfl)) (by decide) (by decide)) q3a q3b q3c (g := (mkF m 8 #[.val (.ref x)] [(.ref q), (.int pa)])) rfl (by rw [hml]; rfl) (Steps.refl _) (argsL := []) (rest := [(.int pa)]) (lenOf own_pd13 rfl) rfl (by show 2 * 0 + _ ≤ _; exact Nat.le_of_eq rfl) (hb hby own_d25_8) (fun _ _ => ⟨rfl, e2, (by decide : 0 + 0 ≤ _), (by decide : 0 + 0 ≤ _)⟩)
  dsimp only [Pt.U, Pt.locs, Pt.cells, Pt.slots] at X3 l3 y3 z3 st3 hQ3
  subst l3 y3 z3
  obtain ⟨rfl, N3q, hh3⟩ := hQ3
  have N3 := Fr.app N0 N3q
  refine own_st (fun _ kt => st3.trans kt) ?_
  show own_Rch p e below _ T3 (mkF m 13 #[.val (.ref x)] [(.int (4 : Int32)), (.int pa)])
  refine own_st (fun _ kt => XS.iadd X3.here hx rfl (hb hby own_d25_13) rfl kt) ?_
  show own_Rch p e below _ T3 (mkF m 14 #[.val (.ref x)] [(.int (pa + (4 : Int32)))])
  refine own_st (fun _ kt => XS.iconst X3.here hx rfl (hb hby own_d25_14) kt) ?_
  show own_Rch p e below _ T3 (mkF m 15 #[.val (.ref x)] [(.int (1 : Int32)), (.int (pa + (4 : Int32)))])
  refine own_st (fun _ kt => XS.isub X3.here hx rfl (hb hby own_d25_15) rfl kt) ?_
  show own_Rch p e below _ T3 (mkF m 16 #[.val (.ref x)] [(.int ((pa + (4 : Int32)) - (1 : Int32)))])
  refine own_retI X3 hx Bd.notSynchronized Bd.returns (hb hby own_d25_16) (by decide) (by decide) ?_
  rw [hh3]
  exact ⟨rfl, N3, rfl⟩
theorem own_ef27 (m : MethodId) (x0 : Addr) : entryFrame m #[(.ref x0)] 1 = mkF m 0 #[.val (.ref x0)] [] := by first | (simp [entryFrame, mkF, argsToLocals, Value.category]; done) | rfl
theorem own_d27_0 : decode prog_36_method_8_code 0 = .ok (.aload_n 0, 1) := by decide +kernel
theorem own_d27_1 : decode prog_36_method_8_code 1 = .ok (.getfield 16, 3) := by decide +kernel
theorem own_d27_4 : decode prog_36_method_8_code 4 = .ok (.ireturn, 1) := by decide +kernel
def own_Q_own_first (Z : State) (x : Addr) (pa : Int32) (h0 : Heap) (n0 : Nat) (v : Option Value) (h : Heap) (L : List Loc) : Prop := v = some (.int pa) ∧ Fr n0 L ∧ h = h0
set_option maxRecDepth 65536 in
set_option maxHeartbeats 40000000 in
theorem own_first (l : Launch) (Z : State) (a0 : Array Value) (hw : ∀ d ∈ tables_1, d.before a0 Z = true) (ws : List Jvm.Cond) (x : Addr) (pa : Int32) (h0 : Heap) (n0 : Nat) (O0 : Old Z n0 h0) (FA : Fld Z h0 x "com/example/makewhole/makewhole/mortality/MortalityTable" "firstAge" "I" (.int pa)) :
    MetFree l (⟨"com/example/makewhole/makewhole/mortality/MortalityTable", "getFirstAge", "()I"⟩ : MethodName) (head1 (Jvm.Cond.code (⟨"com/example/makewhole/makewhole/mortality/MortalityTable", "getFirstAge", "()I"⟩ : MethodName) prog_36_method_8_code 1 (some .int) :: ws) ({ frames := 0, cells := 0, slots := 0, locals := 0 } : Room)) (fun args_ U => args_ = #[(.ref x)] ∧ Z.Warmed39 U.vm ∧ U.heap = h0) (fun _ _ _ _ _ => True) (fun _ U o U' => ∃ v L, o = .returned v ∧ (own_Q_own_first Z x pa h0 n0) v U'.heap L ∧ FrameEnd U o U' L ({ frames := 0, cells := 0, slots := 0, locals := 0 } : Room).cells ({ frames := 0, cells := 0, slots := 0, locals := 0 } : Room).slots) := by
  refine MetFree.of_bodySF (plainFor_of_name own_pn10) hisR ?_
  intro p e s m args below meth c s₁ Bd hml0 hP hK
  obtain ⟨rfl, hZ, hh⟩ := hP
  have hx := Bd.exec
  have hby := Bd.bytes
  have hml : c.maxLocals = 1 := hml0
  have hown : s.vm.findClass "com/example/makewhole/makewhole/mortality/MortalityTable" = some m.cls := findClass_of_methodNamed Bd.named
  have hnm := (name_of_methodNamed Bd.named Bd.method).1
  have X0 : Stand p l e ({ frames := 0, cells := 0, slots := 0, locals := 0 } : Room) s m #[(.ref x)] below meth c s₁ [] 0 0 := Stand.of_body Bd
  have e0 : s₁.heap = h0 := by rw [← hh, Bd.state]; rfl
  have N0 := Fr.nil n0
  refine own_close (s := s) (Q := (own_Q_own_first Z x pa h0 n0)) (C := (({ frames := 0, cells := 0, slots := 0, locals := 0 } : Room)).cells) (N := (({ frames := 0, cells := 0, slots := 0, locals := 0 } : Room)).slots) (own_st (fun _ kt => castTop (own_ef27 m x) kt) ?_)
  show own_Rch p e below _ s₁ (mkF m 0 #[.val (.ref x)] [])
  refine own_st (fun _ kt => XS.aloadN X0.here hx rfl (hb hby own_d27_0) rfl rfl  kt) ?_
  show own_Rch p e below _ s₁ (mkF m 1 #[.val (.ref x)] [(.ref x)])
  obtain ⟨T1, X1, e1, st1⟩ := getF X0 hx hZ hown (host := "") (Or.inl (hw _ (List.mem_of_getElem? (i := 81) rfl))) Via.refl e0 FA (g := (mkF m 1 #[.val (.ref x)] [(.ref x)])) rfl rfl (hb hby own_d27_1)
  refine own_st st1 ?_
  show own_Rch p e below _ T1 (mkF m 4 #[.val (.ref x)] [(.int pa)])
  refine own_retI X1 hx Bd.notSynchronized Bd.returns (hb hby own_d27_4) (by decide) (by decide) ?_
  rw [e1]
  exact ⟨rfl, N0, rfl⟩
theorem own_wS {Z : State} {a0 : Array Value} (hw : ∀ d ∈ tables_1, d.before a0 Z = true) : ∀ a ∈ Bundle.stringAtoms, a.before a0 Z = true := by
  intro a ha
  simp only [Bundle.stringAtoms, List.mem_cons, List.not_mem_nil, or_false] at ha
  rcases ha with rfl | rfl | rfl | rfl | rfl | rfl | rfl
  · exact (hw _ (List.mem_of_getElem? (i := 65) rfl))
  · exact (hw _ (List.mem_of_getElem? (i := 66) rfl))
  · exact (hw _ (List.mem_of_getElem? (i := 67) rfl))
  · exact (hw _ (List.mem_of_getElem? (i := 68) rfl))
  · exact (hw _ (List.mem_of_getElem? (i := 69) rfl))
  · exact (hw _ (List.mem_of_getElem? (i := 70) rfl))
  · exact (hw _ (List.mem_of_getElem? (i := 71) rfl))
theorem own_mask3 (p : Int32) : (p &&& (3 : Int32)) = 0 ∨ (p &&& (3 : Int32)) = 1 ∨ (p &&& (3 : Int32)) = 2 ∨ (p &&& (3 : Int32)) = 3 := by
  have h := c_and p (3 : Int32) (by decide)
  have e3 : (3 : Int32).toInt = 3 := by decide
  have e0 : (0 : Int32).toInt = 0 := by decide
  have e1 : (1 : Int32).toInt = 1 := by decide
  have e2 : (2 : Int32).toInt = 2 := by decide
  simp only [← Int32.toInt_inj]
  omega
theorem own_len {x : Int32} {n : Int32} {nl : Int64} {k : Int} (h1 : n.toInt = k) (h2 : nl.toInt = k) (hk : 1 ≤ k ∧ k ≤ 4) (h : ¬ ((0 : Int32) < lcmpW (x.toInt64 + nl - (1 : Int64)) (2147483647 : Int64))) : lcmpW ((x + n - (1 : Int32)).toInt64) (x.toInt64 + nl - (1 : Int64)) = 0 := by
  rw [lw_gt, Int64.lt_iff_toInt_lt] at h
  rw [lw_eq, ← Int64.toInt_inj, c_i2l]
  have a1 := c_isub (x + n) 1
  have a2 := c_iadd x n
  have a3 := c_lsub (x.toInt64 + nl) 1
  have a4 := c_ladd x.toInt64 nl
  rw [c_i2l] at a4
  have r1 := rng32 x
  have r2 := rng32 (x + n - 1)
  have r3 := rng64 (x.toInt64 + nl - 1)
  have e1 : (1 : Int32).toInt = 1 := by decide
  have e2 : (1 : Int64).toInt = 1 := by decide
  have e3 : (2147483647 : Int64).toInt = 2147483647 := by decide
  omega
theorem own_pn12 : plainName "com/example/makewhole/makewhole/mortality/MortalityTableGetLastAgePinLaw" = true := by first | (simp [plainName, overriddenIn]; done) | decide +kernel
theorem own_ef0 (m : MethodId) (x0 : Int32) (x1 : Int32) : entryFrame m #[(.int x0), (.int x1)] maxLocals = mkF m 0 #[.val (.int x0), .val (.int x1), .unset, .unset, .unset, .unset, .unset] [] := by first | (simp [entryFrame, mkF, argsToLocals, Value.category, maxLocals]; done) | rfl
theorem own_pd16 : parseMethodDescriptor "(Ljava/lang/Object;)Z" = some ⟨[(.object "java/lang/Object")], some .boolean⟩ := by decide +kernel
theorem own_pd17 : parseMethodDescriptor "(Ljava/lang/String;ILjava/util/List;)V" = some ⟨[(.object "java/lang/String"), .int, (.object "java/util/List")], none⟩ := by decide +kernel
def own_Q_own_rm0 (Z : State) (p0 : Int32) (p1 : Int32) (w : Addr) (kw : ClassId) (zz : Addr) (oo : Addr) (em : Addr) (mr : Addr) (h0 : Heap) (n0 : Nat) (v : Option Value) (h : Heap) (L : List Loc) : Prop := v = some (.int (1 : Int32)) ∧ Fr n0 L
set_option maxRecDepth 65536 in
set_option maxHeartbeats 40000000 in
theorem own_rm0 (l : Launch) (Z : State) (a0 : Array Value) (hw : ∀ d ∈ tables_1, d.before a0 Z = true) (ws : List Jvm.Cond) (p0 : Int32) (p1 : Int32) (w : Addr) (kw : ClassId) (zz : Addr) (oo : Addr) (em : Addr) (mr : Addr) (h0 : Heap) (n0 : Nat) (O0 : Old Z n0 h0) (SW : Sta Z Z.heap "java/util/ArrayList" "DEFAULTCAPACITY_EMPTY_ELEMENTDATA" "[Ljava/lang/Object;" (.ref w)) (VW : Arv Z Z.heap w kw (.object "java/lang/Object") (0 : Int32) [] .null) (EZ : Exa Z Z.heap zz "java/math/BigDecimal") (EO : Exa Z Z.heap oo "java/math/BigDecimal") (SZ : Sta Z Z.heap "java/math/BigDecimal" "ZERO" "Ljava/math/BigDecimal;" (.ref zz)) (SO : Sta Z Z.heap "java/math/BigDecimal" "ONE" "Ljava/math/BigDecimal;" (.ref oo)) (SE : Sta Z Z.heap "java/util/ImmutableCollections" "EMPTY" "Ljava/lang/Object;" (.ref em)) (EE : Exa Z Z.heap em "java/lang/Object") (MR : own_Mir Z "[Ljava/lang/Object;" mr) :
    MetFree l x (head1 (Jvm.Cond.code x code maxLocals ret :: ws) room_1) (fun args_ U => args_ = #[(.int p0), (.int p1)] ∧ Z.Warmed39 U.vm ∧ U.heap = h0) (fun _ _ _ _ _ => True) (fun _ U o U' => ∃ v L, o = .returned v ∧ (own_Q_own_rm0 Z p0 p1 w kw zz oo em mr h0 n0) v U'.heap L ∧ ReturnedEndW U o U' L room_1.cells room_1.slots) := by
  refine MetFree.of_bodySF (plainFor_of_name own_pn12) hisR ?_
  intro p e s m args below meth c s₁ Bd hml0 hP hK
  obtain ⟨rfl, hZ, hh⟩ := hP
  have hx := Bd.exec
  have hby := Bd.bytes
  have hml : c.maxLocals = 7 := hml0
  have hown : s.vm.findClass "com/example/makewhole/makewhole/mortality/MortalityTableGetLastAgePinLaw" = some m.cls := findClass_of_methodNamed Bd.named
  have hnm := (name_of_methodNamed Bd.named Bd.method).1
  have X0 : Stand p l e room_1 s m #[(.int p0), (.int p1)] below meth c s₁ [] 0 0 := Stand.of_body Bd
  have e0 : s₁.heap = h0 := by rw [← hh, Bd.state]; rfl
  have N0 := Fr.nil n0
  refine own_closeW (s := s) (Q := (own_Q_own_rm0 Z p0 p1 w kw zz oo em mr h0 n0)) (C := (room_1).cells) (N := (room_1).slots) (own_st (fun _ kt => castTop (own_ef0 m p0 p1) kt) ?_)
  show own_Rch p e below _ s₁ (mkF m 0 #[.val (.int p0), .val (.int p1), .unset, .unset, .unset, .unset, .unset] [])
  refine own_st (fun _ kt => XS.iconst X0.here hx rfl (hb hby at_0) kt) ?_
  show own_Rch p e below _ s₁ (mkF m 1 #[.val (.int p0), .val (.int p1), .unset, .unset, .unset, .unset, .unset] [(.int (1 : Int32))])
  refine own_st (fun _ kt => XS.iloadN X0.here hx rfl (hb hby at_1) rfl  kt) ?_
  show own_Rch p e below _ s₁ (mkF m 2 #[.val (.int p0), .val (.int p1), .unset, .unset, .unset, .unset, .unset] [(.int p1), (.int (1 : Int32))])
  refine own_st (fun _ kt => XS.iconst X0.here hx rfl (hb hby at_2) kt) ?_
  show own_Rch p e below _ s₁ (mkF m 3 #[.val (.int p0), .val (.int p1), .unset, .unset, .unset, .unset, .unset] [(.int (3 : Int32)), (.int p1), (.int (1 : Int32))])
  refine own_st (fun _ kt => XS.iand X0.here hx rfl (hb hby at_3) rfl kt) ?_
  show own_Rch p e below _ s₁ (mkF m 4 #[.val (.int p0), .val (.int p1), .unset, .unset, .unset, .unset, .unset] [(.int (p1 &&& (3 : Int32))), (.int (1 : Int32))])
  rcases own_mask3 p1 with hm | hm | hm | hm
  · rw [hm]
    show own_Rch p e below _ s₁ (mkF m 4 #[.val (.int p0), .val (.int p1), .unset, .unset, .unset, .unset, .unset] [(.int (0 : Int32)), (.int (1 : Int32))])
    refine own_st (fun _ kt => XS.iadd X0.here hx rfl (hb hby at_4) rfl kt) ?_
    show own_Rch p e below _ s₁ (mkF m 5 #[.val (.int p0), .val (.int p1), .unset, .unset, .unset, .unset, .unset] [(.int (1 : Int32))])
    refine own_st (fun _ kt => XS.istoreN X0.here hx rfl (hb hby at_5) rfl (l' := #[.val (.int p0), .val (.int p1), .val (.int (1 : Int32)), .unset, .unset, .unset, .unset]) rfl kt) ?_
    show own_Rch p e below _ s₁ (mkF m 6 #[.val (.int p0), .val (.int p1), .val (.int (1 : Int32)), .unset, .unset, .unset, .unset] [])
    refine own_st (fun _ kt => XS.iloadN X0.here hx rfl (hb hby at_6) rfl  kt) ?_
    show own_Rch p e below _ s₁ (mkF m 7 #[.val (.int p0), .val (.int p1), .val (.int (1 : Int32)), .unset, .unset, .unset, .unset] [(.int p0)])
    refine own_st (fun _ kt => XS.i2l X0.here hx rfl (hb hby at_7) rfl kt) ?_
    show own_Rch p e below _ s₁ (mkF m 8 #[.val (.int p0), .val (.int p1), .val (.int (1 : Int32)), .unset, .unset, .unset, .unset] [(.long (p0.toInt64))])
    refine own_st (fun _ kt => XS.iloadN X0.here hx rfl (hb hby at_8) rfl  kt) ?_
    show own_Rch p e below _ s₁ (mkF m 9 #[.val (.int p0), .val (.int p1), .val (.int (1 : Int32)), .unset, .unset, .unset, .unset] [(.int (1 : Int32)), (.long (p0.toInt64))])
    refine own_st (fun _ kt => XS.i2l X0.here hx rfl (hb hby at_9) rfl kt) ?_
    show own_Rch p e below _ s₁ (mkF m 10 #[.val (.int p0), .val (.int p1), .val (.int (1 : Int32)), .unset, .unset, .unset, .unset] [(.long (1 : Int64)), (.long (p0.toInt64))])
    refine own_st (fun _ kt => XS.ladd X0.here hx rfl (hb hby at_10) rfl kt) ?_
    show own_Rch p e below _ s₁ (mkF m 11 #[.val (.int p0), .val (.int p1), .val (.int (1 : Int32)), .unset, .unset, .unset, .unset] [(.long ((p0.toInt64) + (1 : Int64)))])
    refine own_st (fun _ kt => XS.lconst X0.here hx rfl (hb hby at_11) kt) ?_
    show own_Rch p e below _ s₁ (mkF m 12 #[.val (.int p0), .val (.int p1), .val (.int (1 : Int32)), .unset, .unset, .unset, .unset] [(.long (1 : Int64)), (.long ((p0.toInt64) + (1 : Int64)))])
    refine own_st (fun _ kt => XS.lsub X0.here hx rfl (hb hby at_12) rfl kt) ?_
    show own_Rch p e below _ s₁ (mkF m 13 #[.val (.int p0), .val (.int p1), .val (.int (1 : Int32)), .unset, .unset, .unset, .unset] [(.long (((p0.toInt64) + (1 : Int64)) - (1 : Int64)))])
    refine own_st (X0.ldc2Long hx hown (mvT hZ (hw _ (List.mem_of_getElem? (i := 0) rfl))) (g := (mkF m 13 #[.val (.int p0), .val (.int p1), .val (.int (1 : Int32)), .unset, .unset, .unset, .unset] [(.long (((p0.toInt64) + (1 : Int64)) - (1 : Int64)))])) rfl (hb hby at_13)) ?_
    show own_Rch p e below _ s₁ (mkF m 16 #[.val (.int p0), .val (.int p1), .val (.int (1 : Int32)), .unset, .unset, .unset, .unset] [(.long (2147483647 : Int64)), (.long (((p0.toInt64) + (1 : Int64)) - (1 : Int64)))])
    refine own_st (fun _ kt => XS.lcmp X0.here hx rfl (hb hby at_16) rfl kt) ?_
    show own_Rch p e below _ s₁ (mkF m 17 #[.val (.int p0), .val (.int p1), .val (.int (1 : Int32)), .unset, .unset, .unset, .unset] [(.int (lcmpW (((p0.toInt64) + (1 : Int64)) - (1 : Int64)) (2147483647 : Int64)))])
    by_cases hc17_1 : (0 : Int32) < (lcmpW (((p0.toInt64) + (1 : Int64)) - (1 : Int64)) (2147483647 : Int64))
    · -- pc 17: True
      refine own_st (fun _ kt => XS.ifNo X0.here hx rfl (hb hby at_17) rfl ((if0 _ _).trans (tlt hc17_1).2.2.2) kt) ?_
      show own_Rch p e below _ s₁ (mkF m 20 #[.val (.int p0), .val (.int p1), .val (.int (1 : Int32)), .unset, .unset, .unset, .unset] [])
      refine own_st (fun _ kt => XS.iconst X0.here hx rfl (hb hby at_20) kt) ?_
      show own_Rch p e below _ s₁ (mkF m 21 #[.val (.int p0), .val (.int p1), .val (.int (1 : Int32)), .unset, .unset, .unset, .unset] [(.int (1 : Int32))])
      have hS2 : s.Since s.vm 0 := own_since s
      have hk2 : 0 ≤ h0.size := Nat.zero_le _
      refine own_retNW (t := .boolean) (by simp) (s := s) hS2 (by rw [e0]; exact hk2) X0 hx Bd.notSynchronized Bd.returns (hb hby at_21) (by decide) (by decide) ?_
      rw [e0]
      exact ⟨rfl, N0⟩
    · -- pc 17: False
      refine own_st (fun _ kt => XS.ifYes X0.here hx rfl (pc0 := 17) (pc' := 22) rfl (hb hby at_17) rfl ((if0 _ _).trans (flt hc17_1).2.2.2) (by decide) (by decide) kt) ?_
      show own_Rch p e below _ s₁ (mkF m 22 #[.val (.int p0), .val (.int p1), .val (.int (1 : Int32)), .unset, .unset, .unset, .unset] [])
      obtain ⟨T3, h3, X3, e3, E3, A3, D3, U3, st3⟩ := newO X0 hx hZ hown (hw _ (List.mem_of_getElem? (i := 1) rfl)) (hw _ (List.mem_of_getElem? (i := 2) rfl)) (hw _ (List.mem_of_getElem? (i := 3) rfl)) e0 (g := (mkF m 22 #[.val (.int p0), .val (.int p1), .val (.int (1 : Int32)), .unset, .unset, .unset, .unset] [])) rfl (hb hby at_22) (by decide) (by decide)
      obtain ⟨b3, g3⟩ : ∃ z, z = h0.size := ⟨_, rfl⟩
      rw [← g3] at A3 D3 U3 st3
      have ge3 : n0 ≤ b3 := by rw [g3]; exact own_old_le O0
      have O0_x3 := O0.ext E3
      refine own_st st3 ?_
      have F3_modCount : Fld Z h3 b3 "java/util/AbstractList" "modCount" "I" (.int (0 : Int32)) := D3 (Or.inl (hw _ (List.mem_of_getElem? (i := 23) rfl))) (ty := .int) (by decide)
      have F3_elementData : Fld Z h3 b3 "java/util/ArrayList" "elementData" "[Ljava/lang/Object;" .null := D3 (Or.inl (hw _ (List.mem_of_getElem? (i := 26) rfl))) (ty := (.array (.object "java/lang/Object"))) (by decide)
      have F3_size : Fld Z h3 b3 "java/util/ArrayList" "size" "I" (.int (0 : Int32)) := D3 (Or.inl (hw _ (List.mem_of_getElem? (i := 37) rfl))) (ty := .int) (by decide)
      show own_Rch p e below _ T3 (mkF m 25 #[.val (.int p0), .val (.int p1), .val (.int (1 : Int32)), .unset, .unset, .unset, .unset] [(.ref b3)])
      refine own_st (fun _ kt => XS.dup X3.here hx rfl (hb hby at_25) rfl rfl kt) ?_
      show own_Rch p e below _ T3 (mkF m 26 #[.val (.int p0), .val (.int p1), .val (.int (1 : Int32)), .unset, .unset, .unset, .unset] [(.ref b3), (.ref b3)])
      obtain ⟨_, _, ⟨T4, L4, k4, n4⟩, -, X4, ⟨Lc4, hQ4, l4, y4, z4⟩, st4⟩ := X3.specialBack hx (y := (⟨"java/util/ArrayList", "<init>", "()V"⟩ : MethodName)) rfl hown (mvT hZ (hw _ (List.mem_of_getElem? (i := 4) rfl))) (mvT hZ (hw _ (List.mem_of_getElem? (i := 5) rfl))) (mvT hZ (hw _ (List.mem_of_getElem? (i := 6) rfl))) (by decide) (backOf (W := 1) (own_alinit l Z a0 hw [] b3 w kw h3 n0 O0_x3 SW VW A3 F3_elementData F3_size F3_modCount ge3) hZ (hw _ (List.mem_of_getElem? (i := 6) rfl)) (hw _ (List.mem_of_getElem? (i := 3) rfl)) (by decide) (by decide)) (g := (mkF m 26 #[.val (.int p0), .val (.int p1), .val (.int (1 : Int32)), .unset, .unset, .unset, .unset] [(.ref b3), (.ref b3)])) rfl (by rw [hml]; rfl) (Steps.refl _) (a := b3) (argsL := []) (rest := [(.ref b3)]) (lenOf own_pd0 rfl) rfl (by show 2 * 0 + _ ≤ _; exact Nat.le_of_eq rfl) (hb hby at_26) (fun _ _ => ⟨rfl, e3, (by decide : 1 + 0 ≤ _), (by decide : 3 + 0 ≤ _)⟩)
      dsimp only [Pt.U, Pt.locs, Pt.cells, Pt.slots] at X4 l4 y4 z4 st4 hQ4
      subst l4 y4 z4
      obtain ⟨rfl, N4q, K4, Ea4, Fe4, Fz4, Fm4⟩ := hQ4
      have N4 := Fr.app N0 N4q
      refine own_st (fun _ kt => st4.trans kt) ?_
      have O0_x4 := O0_x3.keep K4 (allS ge3 all0)
      have A3_x4 := A3.keep K4
      show own_Rch p e below _ T4 (mkF m 29 #[.val (.int p0), .val (.int p1), .val (.int (1 : Int32)), .unset, .unset, .unset, .unset] [(.ref b3)])
      refine own_st (fun _ kt => XS.astoreN X4.here hx rfl (hb hby at_29) rfl rfl (l' := #[.val (.int p0), .val (.int p1), .val (.int (1 : Int32)), .val (.ref b3), .unset, .unset, .unset]) rfl kt) ?_
      show own_Rch p e below _ T4 (mkF m 30 #[.val (.int p0), .val (.int p1), .val (.int (1 : Int32)), .val (.ref b3), .unset, .unset, .unset] [])
      refine own_st (fun _ kt => XS.iloadN X4.here hx rfl (hb hby at_30) rfl  kt) ?_
      show own_Rch p e below _ T4 (mkF m 31 #[.val (.int p0), .val (.int p1), .val (.int (1 : Int32)), .val (.ref b3), .unset, .unset, .unset] [(.int (1 : Int32))])
      refine own_st (fun _ kt => XS.iconst X4.here hx rfl (hb hby at_31) kt) ?_
      show own_Rch p e below _ T4 (mkF m 32 #[.val (.int p0), .val (.int p1), .val (.int (1 : Int32)), .val (.ref b3), .unset, .unset, .unset] [(.int (2 : Int32)), (.int (1 : Int32))])
      refine own_st (fun _ kt => XS.icmpYes X4.here hx rfl (pc0 := 32) (pc' := 43) rfl (hb hby at_32) rfl (tlt ((by decide) : (1 : Int32) < (2 : Int32))).1 (by decide) (by decide) kt) ?_
      show own_Rch p e below _ T4 (mkF m 43 #[.val (.int p0), .val (.int p1), .val (.int (1 : Int32)), .val (.ref b3), .unset, .unset, .unset] [])
      refine own_st (fun _ kt => XS.iloadN X4.here hx rfl (hb hby at_43) rfl  kt) ?_
      show own_Rch p e below _ T4 (mkF m 44 #[.val (.int p0), .val (.int p1), .val (.int (1 : Int32)), .val (.ref b3), .unset, .unset, .unset] [(.int (1 : Int32))])
      refine own_st (fun _ kt => XS.iconst X4.here hx rfl (hb hby at_44) kt) ?_
      show own_Rch p e below _ T4 (mkF m 45 #[.val (.int p0), .val (.int p1), .val (.int (1 : Int32)), .val (.ref b3), .unset, .unset, .unset] [(.int (3 : Int32)), (.int (1 : Int32))])
      refine own_st (fun _ kt => XS.icmpYes X4.here hx rfl (pc0 := 45) (pc' := 56) rfl (hb hby at_45) rfl (tlt ((by decide) : (1 : Int32) < (3 : Int32))).1 (by decide) (by decide) kt) ?_
      show own_Rch p e below _ T4 (mkF m 56 #[.val (.int p0), .val (.int p1), .val (.int (1 : Int32)), .val (.ref b3), .unset, .unset, .unset] [])
      refine own_st (fun _ kt => XS.iloadN X4.here hx rfl (hb hby at_56) rfl  kt) ?_
      show own_Rch p e below _ T4 (mkF m 57 #[.val (.int p0), .val (.int p1), .val (.int (1 : Int32)), .val (.ref b3), .unset, .unset, .unset] [(.int (1 : Int32))])
      refine own_st (fun _ kt => XS.iconst X4.here hx rfl (hb hby at_57) kt) ?_
      show own_Rch p e below _ T4 (mkF m 58 #[.val (.int p0), .val (.int p1), .val (.int (1 : Int32)), .val (.ref b3), .unset, .unset, .unset] [(.int (4 : Int32)), (.int (1 : Int32))])
      refine own_st (fun _ kt => XS.icmpYes X4.here hx rfl (pc0 := 58) (pc' := 69) rfl (hb hby at_58) rfl (tlt ((by decide) : (1 : Int32) < (4 : Int32))).1 (by decide) (by decide) kt) ?_
      show own_Rch p e below _ T4 (mkF m 69 #[.val (.int p0), .val (.int p1), .val (.int (1 : Int32)), .val (.ref b3), .unset, .unset, .unset] [])
      refine own_st (fun _ kt => XS.aloadN X4.here hx rfl (hb hby at_69) rfl rfl  kt) ?_
      show own_Rch p e below _ T4 (mkF m 70 #[.val (.int p0), .val (.int p1), .val (.int (1 : Int32)), .val (.ref b3), .unset, .unset, .unset] [(.ref b3)])
      obtain ⟨T5, X5, e5, st5⟩ := getS2 X4 hx hZ hown (host := "") (Or.inl (hw _ (List.mem_of_getElem? (i := 60) rfl))) Via.refl rfl (SO.ext O0_x4.2) (g := (mkF m 70 #[.val (.int p0), .val (.int p1), .val (.int (1 : Int32)), .val (.ref b3), .unset, .unset, .unset] [(.ref b3)])) rfl (hb hby at_70)
      refine own_st st5 ?_
      show own_Rch p e below _ T5 (mkF m 73 #[.val (.int p0), .val (.int p1), .val (.int (1 : Int32)), .val (.ref b3), .unset, .unset, .unset] [(.ref oo), (.ref b3)])
      obtain ⟨cq6, kq6, q6a, q6b, q6c⟩ := isOf hZ e5 Ea4
      obtain ⟨_, _, ⟨T6, L6, k6, n6⟩, -, X6, ⟨Lc6, hQ6, l6, y6, z6⟩, st6⟩ := X5.virtualBack hx (y := (⟨"java/util/ArrayList", "add", "(Ljava/lang/Object;)Z"⟩ : MethodName)) (z := (⟨"java/util/ArrayList", "add", "(Ljava/lang/Object;)Z"⟩ : MethodName)) hown (mvT hZ (hw _ (List.mem_of_getElem? (i := 29) rfl))) (mvT hZ (hw _ (List.mem_of_getElem? (i := 30) rfl))) (notFace_of_selects (args := #[]) (mvT hZ (hw _ (List.mem_of_getElem? (i := 32) rfl)))) (mvT hZ (hw _ (List.mem_of_getElem? (i := 32) rfl))) (mvT hZ (hw _ (List.mem_of_getElem? (i := 31) rfl))) (by decide) (backOf (W := 0) (own_add0 l Z a0 hw [] b3 oo w kw T4.heap n0 O0_x4 SW VW Ea4 Fe4 Fz4 Fm4 ge3 EO) hZ (hw _ (List.mem_of_getElem? (i := 33) rfl)) (hw _ (List.mem_of_getElem? (i := 3) rfl)) (by decide) (by decide)) q6a q6c (g := (mkF m 73 #[.val (.int p0), .val (.int p1), .val (.int (1 : Int32)), .val (.ref b3), .unset, .unset, .unset] [(.ref oo), (.ref b3)])) rfl (by rw [hml]; rfl) (Steps.refl _) (argsL := [(.ref oo)]) (rest := []) (lenOf own_pd16 rfl) rfl (by show 2 * 0 + _ ≤ _; exact Nat.le_of_eq rfl) (hb hby at_73) (fun _ _ => ⟨rfl, e5, (by decide : 1 + 1 ≤ _), (by decide : 3 + 10 ≤ _)⟩)
      dsimp only [Pt.U, Pt.locs, Pt.cells, Pt.slots] at X6 l6 y6 z6 st6 hQ6
      subst l6 y6 z6
      obtain ⟨bl6, kg6, rfl, N6q, K6, hb6, Ea6, Fe6, Fz6, Fm6, Eb6, Vb6, Ob6⟩ := hQ6
      have N6 := Fr.app N4 N6q
      refine own_st (fun _ kt => st6.trans kt) ?_
      have ne6_b3_bl6 : b3 ≠ bl6 := Nat.ne_of_lt (Nat.lt_of_lt_of_le Ea4.lt hb6)
      have ge6_bl6 : n0 ≤ bl6 := Nat.le_trans (own_old_le O0_x4) hb6
      have O0_x6 := O0_x4.keep K6 (allS ge3 all0)
      have Ea4_x6 := Ea4.keep K6
      show own_Rch p e below _ T6 (mkF m 76 #[.val (.int p0), .val (.int p1), .val (.int (1 : Int32)), .val (.ref b3), .unset, .unset, .unset] [(.int (1 : Int32))])
      refine own_st (fun _ kt => XS.pop X6.here hx rfl (hb hby at_76) rfl rfl kt) ?_
      show own_Rch p e below _ T6 (mkF m 77 #[.val (.int p0), .val (.int p1), .val (.int (1 : Int32)), .val (.ref b3), .unset, .unset, .unset] [])
      obtain ⟨T7, h7, X7, e7, E7, A7, D7, U7, st7⟩ := newO X6 hx hZ hown (hw _ (List.mem_of_getElem? (i := 61) rfl)) (hw _ (List.mem_of_getElem? (i := 62) rfl)) (hw _ (List.mem_of_getElem? (i := 63) rfl)) rfl (g := (mkF m 77 #[.val (.int p0), .val (.int p1), .val (.int (1 : Int32)), .val (.ref b3), .unset, .unset, .unset] [])) rfl (hb hby at_77) (by decide) (by decide)
      obtain ⟨b7, g7⟩ : ∃ z, z = T6.heap.size := ⟨_, rfl⟩
      rw [← g7] at A7 D7 U7 st7
      have ge7 : n0 ≤ b7 := by rw [g7]; exact own_old_le O0_x6
      have ne7_b3 : b3 ≠ b7 := by rw [g7]; exact Nat.ne_of_lt Ea6.lt
      have ne7_bl6 : bl6 ≠ b7 := by rw [g7]; exact Nat.ne_of_lt Eb6.lt
      have O0_x7 := O0_x6.ext E7
      have Ea6_x7 := Ea6.ext E7
      have Fe6_x7 := Fe6.ext E7
      have Fz6_x7 := Fz6.ext E7
      have Fm6_x7 := Fm6.ext E7
      have Eb6_x7 := Eb6.ext E7
      have Vb6_x7 := Vb6.ext E7
      refine own_st st7 ?_
      have F7_source : Fld Z h7 b7 "com/example/makewhole/makewhole/mortality/MortalityTable" "source" "Ljava/lang/String;" .null := D7 (Or.inr (hw _ (List.mem_of_getElem? (i := 80) rfl))) (ty := (.object "java/lang/String")) (by decide)
      have F7_firstAge : Fld Z h7 b7 "com/example/makewhole/makewhole/mortality/MortalityTable" "firstAge" "I" (.int (0 : Int32)) := D7 (Or.inr (hw _ (List.mem_of_getElem? (i := 82) rfl))) (ty := .int) (by decide)
      have F7_qx : Fld Z h7 b7 "com/example/makewhole/makewhole/mortality/MortalityTable" "qx" "Ljava/util/List;" .null := D7 (Or.inr (hw _ (List.mem_of_getElem? (i := 172) rfl))) (ty := (.object "java/util/List")) (by decide)
      have F7_publishedName : Fld Z h7 b7 "com/example/makewhole/makewhole/mortality/MortalityTable" "publishedName" "Ljava/lang/String;" .null := D7 (Or.inr (hw _ (List.mem_of_getElem? (i := 174) rfl))) (ty := (.object "java/lang/String")) (by decide)
      have F7_publishedIdentity : Fld Z h7 b7 "com/example/makewhole/makewhole/mortality/MortalityTable" "publishedIdentity" "Ljava/lang/String;" .null := D7 (Or.inr (hw _ (List.mem_of_getElem? (i := 176) rfl))) (ty := (.object "java/lang/String")) (by decide)
      show own_Rch p e below _ T7 (mkF m 80 #[.val (.int p0), .val (.int p1), .val (.int (1 : Int32)), .val (.ref b3), .unset, .unset, .unset] [(.ref b7)])
      refine own_st (fun _ kt => XS.dup X7.here hx rfl (hb hby at_80) rfl rfl kt) ?_
      show own_Rch p e below _ T7 (mkF m 81 #[.val (.int p0), .val (.int p1), .val (.int (1 : Int32)), .val (.ref b3), .unset, .unset, .unset] [(.ref b7), (.ref b7)])
      have hS8 : s.Since s.vm 0 := own_since s
      have hk8 : 0 ≤ h7.size := Nat.zero_le _
      obtain ⟨sl9, T9, h9, ks9, X9, e9, E9, hS9, hk9, hZ9, hown9, st9⟩ := ldcS (s := s) X7 hx hZ hown (hw _ (List.mem_of_getElem? (i := 64) rfl)) (own_wS hw) e7 hS8 hk8 (g := (mkF m 81 #[.val (.int p0), .val (.int p1), .val (.int (1 : Int32)), .val (.ref b3), .unset, .unset, .unset] [(.ref b7), (.ref b7)])) rfl (hb hby at_81) (n := 20) (by decide) (by decide) (by decide) (by decide)
      have O0_x9 := O0_x7.ext E9
      have Ea6_x9 := Ea6_x7.ext E9
      have Fe6_x9 := Fe6_x7.ext E9
      have Fz6_x9 := Fz6_x7.ext E9
      have Fm6_x9 := Fm6_x7.ext E9
      have Eb6_x9 := Eb6_x7.ext E9
      have Vb6_x9 := Vb6_x7.ext E9
      have F7_source_x9 := F7_source.ext E9
      have F7_firstAge_x9 := F7_firstAge.ext E9
      have F7_qx_x9 := F7_qx.ext E9
      have F7_publishedName_x9 := F7_publishedName.ext E9
      have F7_publishedIdentity_x9 := F7_publishedIdentity.ext E9
      have A7_x9 := A7.ext E9
      refine own_st st9 ?_
      show own_Rch p e below _ T9 (mkF m 83 #[.val (.int p0), .val (.int p1), .val (.int (1 : Int32)), .val (.ref b3), .unset, .unset, .unset] [(.ref sl9), (.ref b7), (.ref b7)])
      refine own_st (fun _ kt => XS.iloadN X9.here hx rfl (hb hby at_83) rfl  kt) ?_
      show own_Rch p e below _ T9 (mkF m 84 #[.val (.int p0), .val (.int p1), .val (.int (1 : Int32)), .val (.ref b3), .unset, .unset, .unset] [(.int p0), (.ref sl9), (.ref b7), (.ref b7)])
      refine own_st (fun _ kt => XS.aloadN X9.here hx rfl (hb hby at_84) rfl rfl  kt) ?_
      show own_Rch p e below _ T9 (mkF m 85 #[.val (.int p0), .val (.int p1), .val (.int (1 : Int32)), .val (.ref b3), .unset, .unset, .unset] [(.ref b3), (.int p0), (.ref sl9), (.ref b7), (.ref b7)])
      obtain ⟨_, _, ⟨T10, L10, k10, n10⟩, -, X10, ⟨Lc10, hQ10, l10, y10, z10⟩, st10⟩ := X9.specialBack hx (y := (⟨"com/example/makewhole/makewhole/mortality/MortalityTable", "<init>", "(Ljava/lang/String;ILjava/util/List;)V"⟩ : MethodName)) rfl hown9 (mvT hZ9 (hw _ (List.mem_of_getElem? (i := 72) rfl))) (mvT hZ9 (hw _ (List.mem_of_getElem? (i := 73) rfl))) (mvT hZ9 (hw _ (List.mem_of_getElem? (i := 74) rfl))) (by decide) (backOf (W := 1) (own_mt3_1 l Z a0 hw [] b7 sl9 p0 b3 bl6 kg6 mr zz oo em h9 n0 O0_x9 Ea6_x9 Fe6_x9 Fz6_x9 Fm6_x9 Eb6_x9 Vb6_x9 EZ EO MR SE A7_x9 F7_source_x9 F7_firstAge_x9 F7_qx_x9 F7_publishedName_x9 F7_publishedIdentity_x9 ge7 ne7_b3 ne7_bl6) hZ9 (hw _ (List.mem_of_getElem? (i := 74) rfl)) (hw _ (List.mem_of_getElem? (i := 63) rfl)) (by decide) (by decide)) (g := (mkF m 85 #[.val (.int p0), .val (.int p1), .val (.int (1 : Int32)), .val (.ref b3), .unset, .unset, .unset] [(.ref b3), (.int p0), (.ref sl9), (.ref b7), (.ref b7)])) rfl (by rw [hml]; rfl) (Steps.refl _) (a := b7) (argsL := [(.ref sl9), (.int p0), (.ref b3)]) (rest := [(.ref b7)]) (lenOf own_pd17 rfl) rfl (by show 2 * 0 + _ ≤ _; exact Nat.le_of_eq rfl) (hb hby at_85) (fun _ _ => ⟨rfl, e9, (by decide : 5 + 2 ≤ _), (by decide : 42 + 3 ≤ _)⟩)
      dsimp only [Pt.U, Pt.locs, Pt.cells, Pt.slots] at X10 l10 y10 z10 st10 hQ10
      subst l10 y10 z10
      obtain ⟨rfl, N10q, K10, qm10, Ex10, Fa10, Fx10, hq10, Eq10, Fq10⟩ := hQ10
      have N10 := Fr.app N6 N10q
      refine own_st (fun _ kt => st10.trans kt) ?_
      have ne10_b3_qm10 : b3 ≠ qm10 := Nat.ne_of_lt (Nat.lt_of_lt_of_le Ea6_x9.lt hq10)
      have ne10_bl6_qm10 : bl6 ≠ qm10 := Nat.ne_of_lt (Nat.lt_of_lt_of_le Eb6_x9.lt hq10)
      have ne10_b7_qm10 : b7 ≠ qm10 := Nat.ne_of_lt (Nat.lt_of_lt_of_le F7_source_x9.lt hq10)
      have ge10_qm10 : n0 ≤ qm10 := Nat.le_trans (own_old_le O0_x9) hq10
      have hkk10 := Nat.le_trans hk9 K10.1
      have O0_x10 := O0_x9.keep K10 (allS ge7 all0)
      have Ea6_x10 := Ea6_x9.keep K10
      have Fe6_x10 := Fe6_x9.keep K10 (ninS ne7_b3 nin0)
      have Fz6_x10 := Fz6_x9.keep K10 (ninS ne7_b3 nin0)
      have Fm6_x10 := Fm6_x9.keep K10 (ninS ne7_b3 nin0)
      have Eb6_x10 := Eb6_x9.keep K10
      have Vb6_x10 := Vb6_x9.keep K10 (ninS ne7_bl6 nin0)
      have A7_x10 := A7_x9.keep K10
      show own_Rch p e below _ T10 (mkF m 88 #[.val (.int p0), .val (.int p1), .val (.int (1 : Int32)), .val (.ref b3), .unset, .unset, .unset] [(.ref b7)])
      refine own_st (fun _ kt => XS.astore X10.here hx rfl (hb hby at_88) rfl rfl (l' := #[.val (.int p0), .val (.int p1), .val (.int (1 : Int32)), .val (.ref b3), .val (.ref b7), .unset, .unset]) rfl kt) ?_
      show own_Rch p e below _ T10 (mkF m 90 #[.val (.int p0), .val (.int p1), .val (.int (1 : Int32)), .val (.ref b3), .val (.ref b7), .unset, .unset] [])
      refine own_st (fun _ kt => XS.iloadN X10.here hx rfl (hb hby at_90) rfl  kt) ?_
      show own_Rch p e below _ T10 (mkF m 91 #[.val (.int p0), .val (.int p1), .val (.int (1 : Int32)), .val (.ref b3), .val (.ref b7), .unset, .unset] [(.int p0)])
      refine own_st (fun _ kt => XS.i2l X10.here hx rfl (hb hby at_91) rfl kt) ?_
      show own_Rch p e below _ T10 (mkF m 92 #[.val (.int p0), .val (.int p1), .val (.int (1 : Int32)), .val (.ref b3), .val (.ref b7), .unset, .unset] [(.long (p0.toInt64))])
      refine own_st (fun _ kt => XS.iloadN X10.here hx rfl (hb hby at_92) rfl  kt) ?_
      show own_Rch p e below _ T10 (mkF m 93 #[.val (.int p0), .val (.int p1), .val (.int (1 : Int32)), .val (.ref b3), .val (.ref b7), .unset, .unset] [(.int (1 : Int32)), (.long (p0.toInt64))])
      refine own_st (fun _ kt => XS.i2l X10.here hx rfl (hb hby at_93) rfl kt) ?_
      show own_Rch p e below _ T10 (mkF m 94 #[.val (.int p0), .val (.int p1), .val (.int (1 : Int32)), .val (.ref b3), .val (.ref b7), .unset, .unset] [(.long (1 : Int64)), (.long (p0.toInt64))])
      refine own_st (fun _ kt => XS.ladd X10.here hx rfl (hb hby at_94) rfl kt) ?_
      show own_Rch p e below _ T10 (mkF m 95 #[.val (.int p0), .val (.int p1), .val (.int (1 : Int32)), .val (.ref b3), .val (.ref b7), .unset, .unset] [(.long ((p0.toInt64) + (1 : Int64)))])
      refine own_st (fun _ kt => XS.lconst X10.here hx rfl (hb hby at_95) kt) ?_
      show own_Rch p e below _ T10 (mkF m 96 #[.val (.int p0), .val (.int p1), .val (.int (1 : Int32)), .val (.ref b3), .val (.ref b7), .unset, .unset] [(.long (1 : Int64)), (.long ((p0.toInt64) + (1 : Int64)))])
      refine own_st (fun _ kt => XS.lsub X10.here hx rfl (hb hby at_96) rfl kt) ?_
      show own_Rch p e below _ T10 (mkF m 97 #[.val (.int p0), .val (.int p1), .val (.int (1 : Int32)), .val (.ref b3), .val (.ref b7), .unset, .unset] [(.long (((p0.toInt64) + (1 : Int64)) - (1 : Int64)))])
      refine own_st (fun _ kt => XS.lstore X10.here hx rfl (hb hby at_97) rfl (l' := #[.val (.int p0), .val (.int p1), .val (.int (1 : Int32)), .val (.ref b3), .val (.ref b7), .val (.long (((p0.toInt64) + (1 : Int64)) - (1 : Int64))), .second]) rfl kt) ?_
      show own_Rch p e below _ T10 (mkF m 99 #[.val (.int p0), .val (.int p1), .val (.int (1 : Int32)), .val (.ref b3), .val (.ref b7), .val (.long (((p0.toInt64) + (1 : Int64)) - (1 : Int64))), .second] [])
      refine own_st (fun _ kt => XS.aload X10.here hx rfl (hb hby at_99) rfl rfl  kt) ?_
      show own_Rch p e below _ T10 (mkF m 101 #[.val (.int p0), .val (.int p1), .val (.int (1 : Int32)), .val (.ref b3), .val (.ref b7), .val (.long (((p0.toInt64) + (1 : Int64)) - (1 : Int64))), .second] [(.ref b7)])
      obtain ⟨cq11, kq11, q11a, q11b, q11c⟩ := isOf hZ9 rfl Ex10
      obtain ⟨_, _, ⟨T11, L11, k11, n11⟩, -, X11, ⟨Lc11, hQ11, l11, y11, z11⟩, st11⟩ := X10.virtualBack hx (y := (⟨"com/example/makewhole/makewhole/mortality/MortalityTable", "getLastAge", "()I"⟩ : MethodName)) (z := (⟨"com/example/makewhole/makewhole/mortality/MortalityTable", "getLastAge", "()I"⟩ : MethodName)) hown9 (mvT hZ9 (hw _ (List.mem_of_getElem? (i := 177) rfl))) (mvT hZ9 (hw _ (List.mem_of_getElem? (i := 178) rfl))) (notFace_of_selects (args := #[]) (mvT hZ9 (hw _ (List.mem_of_getElem? (i := 180) rfl)))) (mvT hZ9 (hw _ (List.mem_of_getElem? (i := 180) rfl))) (mvT hZ9 (hw _ (List.mem_of_getElem? (i := 179) rfl))) (by decide) (backOf (W := 0) (own_last_1 l Z a0 hw [] b7 p0 qm10 em oo T10.heap n0 O0_x10 SE EE EO Fa10 Fx10 Eq10 Fq10) hZ9 (hw _ (List.mem_of_getElem? (i := 181) rfl)) (hw _ (List.mem_of_getElem? (i := 63) rfl)) (by decide) (by decide)) q11a q11c (g := (mkF m 101 #[.val (.int p0), .val (.int p1), .val (.int (1 : Int32)), .val (.ref b3), .val (.ref b7), .val (.long (((p0.toInt64) + (1 : Int64)) - (1 : Int64))), .second] [(.ref b7)])) rfl (by rw [hml]; rfl) (Steps.refl _) (argsL := []) (rest := []) (lenOf own_pd13 rfl) rfl (by show 2 * 0 + _ ≤ _; exact Nat.le_of_eq rfl) (hb hby at_101) (fun _ _ => ⟨rfl, rfl, (by decide : 7 + 0 ≤ _), (by decide : 45 + 0 ≤ _)⟩)
      dsimp only [Pt.U, Pt.locs, Pt.cells, Pt.slots] at X11 l11 y11 z11 st11 hQ11
      subst l11 y11 z11
      obtain ⟨rfl, N11q, hh11⟩ := hQ11
      have N11 := Fr.app N10 N11q
      refine own_st (fun _ kt => st11.trans kt) ?_
      show own_Rch p e below _ T11 (mkF m 104 #[.val (.int p0), .val (.int p1), .val (.int (1 : Int32)), .val (.ref b3), .val (.ref b7), .val (.long (((p0.toInt64) + (1 : Int64)) - (1 : Int64))), .second] [(.int ((p0 + (1 : Int32)) - (1 : Int32)))])
      refine own_st (fun _ kt => XS.i2l X11.here hx rfl (hb hby at_104) rfl kt) ?_
      show own_Rch p e below _ T11 (mkF m 105 #[.val (.int p0), .val (.int p1), .val (.int (1 : Int32)), .val (.ref b3), .val (.ref b7), .val (.long (((p0.toInt64) + (1 : Int64)) - (1 : Int64))), .second] [(.long (((p0 + (1 : Int32)) - (1 : Int32)).toInt64))])
      refine own_st (fun _ kt => XS.lload X11.here hx rfl (hb hby at_105) rfl  kt) ?_
      show own_Rch p e below _ T11 (mkF m 107 #[.val (.int p0), .val (.int p1), .val (.int (1 : Int32)), .val (.ref b3), .val (.ref b7), .val (.long (((p0.toInt64) + (1 : Int64)) - (1 : Int64))), .second] [(.long (((p0.toInt64) + (1 : Int64)) - (1 : Int64))), (.long (((p0 + (1 : Int32)) - (1 : Int32)).toInt64))])
      refine own_st (fun _ kt => XS.lcmp X11.here hx rfl (hb hby at_107) rfl kt) ?_
      show own_Rch p e below _ T11 (mkF m 108 #[.val (.int p0), .val (.int p1), .val (.int (1 : Int32)), .val (.ref b3), .val (.ref b7), .val (.long (((p0.toInt64) + (1 : Int64)) - (1 : Int64))), .second] [(.int (lcmpW (((p0 + (1 : Int32)) - (1 : Int32)).toInt64) (((p0.toInt64) + (1 : Int64)) - (1 : Int64))))])
      refine own_st (fun _ kt => XS.ifNo X11.here hx rfl (hb hby at_108) rfl ((if0 _ _).trans (teq (own_len (k := 1) (by decide) (by decide) (by decide) hc17_1 : (lcmpW (((p0 + (1 : Int32)) - (1 : Int32)).toInt64) (((p0.toInt64) + (1 : Int64)) - (1 : Int64))) = (0 : Int32))).2) kt) ?_
      show own_Rch p e below _ T11 (mkF m 111 #[.val (.int p0), .val (.int p1), .val (.int (1 : Int32)), .val (.ref b3), .val (.ref b7), .val (.long (((p0.toInt64) + (1 : Int64)) - (1 : Int64))), .second] [])
      refine own_st (fun _ kt => XS.aload X11.here hx rfl (hb hby at_111) rfl rfl  kt) ?_
      show own_Rch p e below _ T11 (mkF m 113 #[.val (.int p0), .val (.int p1), .val (.int (1 : Int32)), .val (.ref b3), .val (.ref b7), .val (.long (((p0.toInt64) + (1 : Int64)) - (1 : Int64))), .second] [(.ref b7)])
      obtain ⟨cq12, kq12, q12a, q12b, q12c⟩ := isOf hZ9 hh11 Ex10
      obtain ⟨_, _, ⟨T12, L12, k12, n12⟩, -, X12, ⟨Lc12, hQ12, l12, y12, z12⟩, st12⟩ := X11.virtualBack hx (y := (⟨"com/example/makewhole/makewhole/mortality/MortalityTable", "getFirstAge", "()I"⟩ : MethodName)) (z := (⟨"com/example/makewhole/makewhole/mortality/MortalityTable", "getFirstAge", "()I"⟩ : MethodName)) hown9 (mvT hZ9 (hw _ (List.mem_of_getElem? (i := 191) rfl))) (mvT hZ9 (hw _ (List.mem_of_getElem? (i := 192) rfl))) (notFace_of_selects (args := #[]) (mvT hZ9 (hw _ (List.mem_of_getElem? (i := 194) rfl)))) (mvT hZ9 (hw _ (List.mem_of_getElem? (i := 194) rfl))) (mvT hZ9 (hw _ (List.mem_of_getElem? (i := 193) rfl))) (by decide) (backOf (W := 0) (own_first l Z a0 hw [] b7 p0 T10.heap n0 O0_x10 Fa10) hZ9 (hw _ (List.mem_of_getElem? (i := 195) rfl)) (hw _ (List.mem_of_getElem? (i := 63) rfl)) (by decide) (by decide)) q12a q12c (g := (mkF m 113 #[.val (.int p0), .val (.int p1), .val (.int (1 : Int32)), .val (.ref b3), .val (.ref b7), .val (.long (((p0.toInt64) + (1 : Int64)) - (1 : Int64))), .second] [(.ref b7)])) rfl (by rw [hml]; rfl) (Steps.refl _) (argsL := []) (rest := []) (lenOf own_pd13 rfl) rfl (by show 2 * 0 + _ ≤ _; exact Nat.le_of_eq rfl) (hb hby at_113) (fun _ _ => ⟨rfl, hh11, (by decide : 7 + 0 ≤ _), (by decide : 45 + 0 ≤ _)⟩)
      dsimp only [Pt.U, Pt.locs, Pt.cells, Pt.slots] at X12 l12 y12 z12 st12 hQ12
      subst l12 y12 z12
      obtain ⟨rfl, N12q, hh12⟩ := hQ12
      have N12 := Fr.app N11 N12q
      refine own_st (fun _ kt => st12.trans kt) ?_
      show own_Rch p e below _ T12 (mkF m 116 #[.val (.int p0), .val (.int p1), .val (.int (1 : Int32)), .val (.ref b3), .val (.ref b7), .val (.long (((p0.toInt64) + (1 : Int64)) - (1 : Int64))), .second] [(.int p0)])
      refine own_st (fun _ kt => XS.iloadN X12.here hx rfl (hb hby at_116) rfl  kt) ?_
      show own_Rch p e below _ T12 (mkF m 117 #[.val (.int p0), .val (.int p1), .val (.int (1 : Int32)), .val (.ref b3), .val (.ref b7), .val (.long (((p0.toInt64) + (1 : Int64)) - (1 : Int64))), .second] [(.int p0), (.int p0)])
      refine own_st (fun _ kt => XS.icmpNo X12.here hx rfl (hb hby at_117) rfl (teq (rfl : p0 = p0)).2 kt) ?_
      show own_Rch p e below _ T12 (mkF m 120 #[.val (.int p0), .val (.int p1), .val (.int (1 : Int32)), .val (.ref b3), .val (.ref b7), .val (.long (((p0.toInt64) + (1 : Int64)) - (1 : Int64))), .second] [])
      refine own_st (fun _ kt => XS.iconst X12.here hx rfl (hb hby at_120) kt) ?_
      show own_Rch p e below _ T12 (mkF m 121 #[.val (.int p0), .val (.int p1), .val (.int (1 : Int32)), .val (.ref b3), .val (.ref b7), .val (.long (((p0.toInt64) + (1 : Int64)) - (1 : Int64))), .second] [(.int (1 : Int32))])
      refine own_st (fun _ kt => XS.goto X12.here hx rfl (pc0 := 121) (pc' := 125) rfl (hb hby at_121) (by decide) (by decide) kt) ?_
      show own_Rch p e below _ T12 (mkF m 125 #[.val (.int p0), .val (.int p1), .val (.int (1 : Int32)), .val (.ref b3), .val (.ref b7), .val (.long (((p0.toInt64) + (1 : Int64)) - (1 : Int64))), .second] [(.int (1 : Int32))])
      refine own_retNW (t := .boolean) (by simp) (s := s) hS9 (by rw [hh12]; exact hkk10) X12 hx Bd.notSynchronized Bd.returns (hb hby at_125) (by decide) (by decide) ?_
      rw [hh12]
      exact ⟨rfl, N12⟩
  · rw [hm]
    show own_Rch p e below _ s₁ (mkF m 4 #[.val (.int p0), .val (.int p1), .unset, .unset, .unset, .unset, .unset] [(.int (1 : Int32)), (.int (1 : Int32))])
    refine own_st (fun _ kt => XS.iadd X0.here hx rfl (hb hby at_4) rfl kt) ?_
    show own_Rch p e below _ s₁ (mkF m 5 #[.val (.int p0), .val (.int p1), .unset, .unset, .unset, .unset, .unset] [(.int (2 : Int32))])
    refine own_st (fun _ kt => XS.istoreN X0.here hx rfl (hb hby at_5) rfl (l' := #[.val (.int p0), .val (.int p1), .val (.int (2 : Int32)), .unset, .unset, .unset, .unset]) rfl kt) ?_
    show own_Rch p e below _ s₁ (mkF m 6 #[.val (.int p0), .val (.int p1), .val (.int (2 : Int32)), .unset, .unset, .unset, .unset] [])
    refine own_st (fun _ kt => XS.iloadN X0.here hx rfl (hb hby at_6) rfl  kt) ?_
    show own_Rch p e below _ s₁ (mkF m 7 #[.val (.int p0), .val (.int p1), .val (.int (2 : Int32)), .unset, .unset, .unset, .unset] [(.int p0)])
    refine own_st (fun _ kt => XS.i2l X0.here hx rfl (hb hby at_7) rfl kt) ?_
    show own_Rch p e below _ s₁ (mkF m 8 #[.val (.int p0), .val (.int p1), .val (.int (2 : Int32)), .unset, .unset, .unset, .unset] [(.long (p0.toInt64))])
    refine own_st (fun _ kt => XS.iloadN X0.here hx rfl (hb hby at_8) rfl  kt) ?_
    show own_Rch p e below _ s₁ (mkF m 9 #[.val (.int p0), .val (.int p1), .val (.int (2 : Int32)), .unset, .unset, .unset, .unset] [(.int (2 : Int32)), (.long (p0.toInt64))])
    refine own_st (fun _ kt => XS.i2l X0.here hx rfl (hb hby at_9) rfl kt) ?_
    show own_Rch p e below _ s₁ (mkF m 10 #[.val (.int p0), .val (.int p1), .val (.int (2 : Int32)), .unset, .unset, .unset, .unset] [(.long (2 : Int64)), (.long (p0.toInt64))])
    refine own_st (fun _ kt => XS.ladd X0.here hx rfl (hb hby at_10) rfl kt) ?_
    show own_Rch p e below _ s₁ (mkF m 11 #[.val (.int p0), .val (.int p1), .val (.int (2 : Int32)), .unset, .unset, .unset, .unset] [(.long ((p0.toInt64) + (2 : Int64)))])
    refine own_st (fun _ kt => XS.lconst X0.here hx rfl (hb hby at_11) kt) ?_
    show own_Rch p e below _ s₁ (mkF m 12 #[.val (.int p0), .val (.int p1), .val (.int (2 : Int32)), .unset, .unset, .unset, .unset] [(.long (1 : Int64)), (.long ((p0.toInt64) + (2 : Int64)))])
    refine own_st (fun _ kt => XS.lsub X0.here hx rfl (hb hby at_12) rfl kt) ?_
    show own_Rch p e below _ s₁ (mkF m 13 #[.val (.int p0), .val (.int p1), .val (.int (2 : Int32)), .unset, .unset, .unset, .unset] [(.long (((p0.toInt64) + (2 : Int64)) - (1 : Int64)))])
    refine own_st (X0.ldc2Long hx hown (mvT hZ (hw _ (List.mem_of_getElem? (i := 0) rfl))) (g := (mkF m 13 #[.val (.int p0), .val (.int p1), .val (.int (2 : Int32)), .unset, .unset, .unset, .unset] [(.long (((p0.toInt64) + (2 : Int64)) - (1 : Int64)))])) rfl (hb hby at_13)) ?_
    show own_Rch p e below _ s₁ (mkF m 16 #[.val (.int p0), .val (.int p1), .val (.int (2 : Int32)), .unset, .unset, .unset, .unset] [(.long (2147483647 : Int64)), (.long (((p0.toInt64) + (2 : Int64)) - (1 : Int64)))])
    refine own_st (fun _ kt => XS.lcmp X0.here hx rfl (hb hby at_16) rfl kt) ?_
    show own_Rch p e below _ s₁ (mkF m 17 #[.val (.int p0), .val (.int p1), .val (.int (2 : Int32)), .unset, .unset, .unset, .unset] [(.int (lcmpW (((p0.toInt64) + (2 : Int64)) - (1 : Int64)) (2147483647 : Int64)))])
    by_cases hc17_13 : (0 : Int32) < (lcmpW (((p0.toInt64) + (2 : Int64)) - (1 : Int64)) (2147483647 : Int64))
    · -- pc 17: True
      refine own_st (fun _ kt => XS.ifNo X0.here hx rfl (hb hby at_17) rfl ((if0 _ _).trans (tlt hc17_13).2.2.2) kt) ?_
      show own_Rch p e below _ s₁ (mkF m 20 #[.val (.int p0), .val (.int p1), .val (.int (2 : Int32)), .unset, .unset, .unset, .unset] [])
      refine own_st (fun _ kt => XS.iconst X0.here hx rfl (hb hby at_20) kt) ?_
      show own_Rch p e below _ s₁ (mkF m 21 #[.val (.int p0), .val (.int p1), .val (.int (2 : Int32)), .unset, .unset, .unset, .unset] [(.int (1 : Int32))])
      have hS14 : s.Since s.vm 0 := own_since s
      have hk14 : 0 ≤ h0.size := Nat.zero_le _
      refine own_retNW (t := .boolean) (by simp) (s := s) hS14 (by rw [e0]; exact hk14) X0 hx Bd.notSynchronized Bd.returns (hb hby at_21) (by decide) (by decide) ?_
      rw [e0]
      exact ⟨rfl, N0⟩
    · -- pc 17: False
      refine own_st (fun _ kt => XS.ifYes X0.here hx rfl (pc0 := 17) (pc' := 22) rfl (hb hby at_17) rfl ((if0 _ _).trans (flt hc17_13).2.2.2) (by decide) (by decide) kt) ?_
      show own_Rch p e below _ s₁ (mkF m 22 #[.val (.int p0), .val (.int p1), .val (.int (2 : Int32)), .unset, .unset, .unset, .unset] [])
      obtain ⟨T15, h15, X15, e15, E15, A15, D15, U15, st15⟩ := newO X0 hx hZ hown (hw _ (List.mem_of_getElem? (i := 1) rfl)) (hw _ (List.mem_of_getElem? (i := 2) rfl)) (hw _ (List.mem_of_getElem? (i := 3) rfl)) e0 (g := (mkF m 22 #[.val (.int p0), .val (.int p1), .val (.int (2 : Int32)), .unset, .unset, .unset, .unset] [])) rfl (hb hby at_22) (by decide) (by decide)
      obtain ⟨b15, g15⟩ : ∃ z, z = h0.size := ⟨_, rfl⟩
      rw [← g15] at A15 D15 U15 st15
      have ge15 : n0 ≤ b15 := by rw [g15]; exact own_old_le O0
      have O0_x15 := O0.ext E15
      refine own_st st15 ?_
      have F15_modCount : Fld Z h15 b15 "java/util/AbstractList" "modCount" "I" (.int (0 : Int32)) := D15 (Or.inl (hw _ (List.mem_of_getElem? (i := 23) rfl))) (ty := .int) (by decide)
      have F15_elementData : Fld Z h15 b15 "java/util/ArrayList" "elementData" "[Ljava/lang/Object;" .null := D15 (Or.inl (hw _ (List.mem_of_getElem? (i := 26) rfl))) (ty := (.array (.object "java/lang/Object"))) (by decide)
      have F15_size : Fld Z h15 b15 "java/util/ArrayList" "size" "I" (.int (0 : Int32)) := D15 (Or.inl (hw _ (List.mem_of_getElem? (i := 37) rfl))) (ty := .int) (by decide)
      show own_Rch p e below _ T15 (mkF m 25 #[.val (.int p0), .val (.int p1), .val (.int (2 : Int32)), .unset, .unset, .unset, .unset] [(.ref b15)])
      refine own_st (fun _ kt => XS.dup X15.here hx rfl (hb hby at_25) rfl rfl kt) ?_
      show own_Rch p e below _ T15 (mkF m 26 #[.val (.int p0), .val (.int p1), .val (.int (2 : Int32)), .unset, .unset, .unset, .unset] [(.ref b15), (.ref b15)])
      obtain ⟨_, _, ⟨T16, L16, k16, n16⟩, -, X16, ⟨Lc16, hQ16, l16, y16, z16⟩, st16⟩ := X15.specialBack hx (y := (⟨"java/util/ArrayList", "<init>", "()V"⟩ : MethodName)) rfl hown (mvT hZ (hw _ (List.mem_of_getElem? (i := 4) rfl))) (mvT hZ (hw _ (List.mem_of_getElem? (i := 5) rfl))) (mvT hZ (hw _ (List.mem_of_getElem? (i := 6) rfl))) (by decide) (backOf (W := 1) (own_alinit l Z a0 hw [] b15 w kw h15 n0 O0_x15 SW VW A15 F15_elementData F15_size F15_modCount ge15) hZ (hw _ (List.mem_of_getElem? (i := 6) rfl)) (hw _ (List.mem_of_getElem? (i := 3) rfl)) (by decide) (by decide)) (g := (mkF m 26 #[.val (.int p0), .val (.int p1), .val (.int (2 : Int32)), .unset, .unset, .unset, .unset] [(.ref b15), (.ref b15)])) rfl (by rw [hml]; rfl) (Steps.refl _) (a := b15) (argsL := []) (rest := [(.ref b15)]) (lenOf own_pd0 rfl) rfl (by show 2 * 0 + _ ≤ _; exact Nat.le_of_eq rfl) (hb hby at_26) (fun _ _ => ⟨rfl, e15, (by decide : 1 + 0 ≤ _), (by decide : 3 + 0 ≤ _)⟩)
      dsimp only [Pt.U, Pt.locs, Pt.cells, Pt.slots] at X16 l16 y16 z16 st16 hQ16
      subst l16 y16 z16
      obtain ⟨rfl, N16q, K16, Ea16, Fe16, Fz16, Fm16⟩ := hQ16
      have N16 := Fr.app N0 N16q
      refine own_st (fun _ kt => st16.trans kt) ?_
      have O0_x16 := O0_x15.keep K16 (allS ge15 all0)
      have A15_x16 := A15.keep K16
      show own_Rch p e below _ T16 (mkF m 29 #[.val (.int p0), .val (.int p1), .val (.int (2 : Int32)), .unset, .unset, .unset, .unset] [(.ref b15)])
      refine own_st (fun _ kt => XS.astoreN X16.here hx rfl (hb hby at_29) rfl rfl (l' := #[.val (.int p0), .val (.int p1), .val (.int (2 : Int32)), .val (.ref b15), .unset, .unset, .unset]) rfl kt) ?_
      show own_Rch p e below _ T16 (mkF m 30 #[.val (.int p0), .val (.int p1), .val (.int (2 : Int32)), .val (.ref b15), .unset, .unset, .unset] [])
      refine own_st (fun _ kt => XS.iloadN X16.here hx rfl (hb hby at_30) rfl  kt) ?_
      show own_Rch p e below _ T16 (mkF m 31 #[.val (.int p0), .val (.int p1), .val (.int (2 : Int32)), .val (.ref b15), .unset, .unset, .unset] [(.int (2 : Int32))])
      refine own_st (fun _ kt => XS.iconst X16.here hx rfl (hb hby at_31) kt) ?_
      show own_Rch p e below _ T16 (mkF m 32 #[.val (.int p0), .val (.int p1), .val (.int (2 : Int32)), .val (.ref b15), .unset, .unset, .unset] [(.int (2 : Int32)), (.int (2 : Int32))])
      refine own_st (fun _ kt => XS.icmpNo X16.here hx rfl (hb hby at_32) rfl (flt ((by decide) : ¬ ((2 : Int32) < (2 : Int32)))).1 kt) ?_
      show own_Rch p e below _ T16 (mkF m 35 #[.val (.int p0), .val (.int p1), .val (.int (2 : Int32)), .val (.ref b15), .unset, .unset, .unset] [])
      refine own_st (fun _ kt => XS.aloadN X16.here hx rfl (hb hby at_35) rfl rfl  kt) ?_
      show own_Rch p e below _ T16 (mkF m 36 #[.val (.int p0), .val (.int p1), .val (.int (2 : Int32)), .val (.ref b15), .unset, .unset, .unset] [(.ref b15)])
      obtain ⟨T17, X17, e17, st17⟩ := getS2 X16 hx hZ hown (host := "") (Or.inl (hw _ (List.mem_of_getElem? (i := 27) rfl))) Via.refl rfl (SZ.ext O0_x16.2) (g := (mkF m 36 #[.val (.int p0), .val (.int p1), .val (.int (2 : Int32)), .val (.ref b15), .unset, .unset, .unset] [(.ref b15)])) rfl (hb hby at_36)
      refine own_st st17 ?_
      show own_Rch p e below _ T17 (mkF m 39 #[.val (.int p0), .val (.int p1), .val (.int (2 : Int32)), .val (.ref b15), .unset, .unset, .unset] [(.ref zz), (.ref b15)])
      obtain ⟨cq18, kq18, q18a, q18b, q18c⟩ := isOf hZ e17 Ea16
      obtain ⟨_, _, ⟨T18, L18, k18, n18⟩, -, X18, ⟨Lc18, hQ18, l18, y18, z18⟩, st18⟩ := X17.virtualBack hx (y := (⟨"java/util/ArrayList", "add", "(Ljava/lang/Object;)Z"⟩ : MethodName)) (z := (⟨"java/util/ArrayList", "add", "(Ljava/lang/Object;)Z"⟩ : MethodName)) hown (mvT hZ (hw _ (List.mem_of_getElem? (i := 29) rfl))) (mvT hZ (hw _ (List.mem_of_getElem? (i := 30) rfl))) (notFace_of_selects (args := #[]) (mvT hZ (hw _ (List.mem_of_getElem? (i := 32) rfl)))) (mvT hZ (hw _ (List.mem_of_getElem? (i := 32) rfl))) (mvT hZ (hw _ (List.mem_of_getElem? (i := 31) rfl))) (by decide) (backOf (W := 0) (own_add0 l Z a0 hw [] b15 zz w kw T16.heap n0 O0_x16 SW VW Ea16 Fe16 Fz16 Fm16 ge15 EZ) hZ (hw _ (List.mem_of_getElem? (i := 33) rfl)) (hw _ (List.mem_of_getElem? (i := 3) rfl)) (by decide) (by decide)) q18a q18c (g := (mkF m 39 #[.val (.int p0), .val (.int p1), .val (.int (2 : Int32)), .val (.ref b15), .unset, .unset, .unset] [(.ref zz), (.ref b15)])) rfl (by rw [hml]; rfl) (Steps.refl _) (argsL := [(.ref zz)]) (rest := []) (lenOf own_pd16 rfl) rfl (by show 2 * 0 + _ ≤ _; exact Nat.le_of_eq rfl) (hb hby at_39) (fun _ _ => ⟨rfl, e17, (by decide : 1 + 1 ≤ _), (by decide : 3 + 10 ≤ _)⟩)
      dsimp only [Pt.U, Pt.locs, Pt.cells, Pt.slots] at X18 l18 y18 z18 st18 hQ18
      subst l18 y18 z18
      obtain ⟨bl18, kg18, rfl, N18q, K18, hb18, Ea18, Fe18, Fz18, Fm18, Eb18, Vb18, Ob18⟩ := hQ18
      have N18 := Fr.app N16 N18q
      refine own_st (fun _ kt => st18.trans kt) ?_
      have ne18_b15_bl18 : b15 ≠ bl18 := Nat.ne_of_lt (Nat.lt_of_lt_of_le Ea16.lt hb18)
      have ge18_bl18 : n0 ≤ bl18 := Nat.le_trans (own_old_le O0_x16) hb18
      have O0_x18 := O0_x16.keep K18 (allS ge15 all0)
      have Ea16_x18 := Ea16.keep K18
      show own_Rch p e below _ T18 (mkF m 42 #[.val (.int p0), .val (.int p1), .val (.int (2 : Int32)), .val (.ref b15), .unset, .unset, .unset] [(.int (1 : Int32))])
      refine own_st (fun _ kt => XS.pop X18.here hx rfl (hb hby at_42) rfl rfl kt) ?_
      show own_Rch p e below _ T18 (mkF m 43 #[.val (.int p0), .val (.int p1), .val (.int (2 : Int32)), .val (.ref b15), .unset, .unset, .unset] [])
      refine own_st (fun _ kt => XS.iloadN X18.here hx rfl (hb hby at_43) rfl  kt) ?_
      show own_Rch p e below _ T18 (mkF m 44 #[.val (.int p0), .val (.int p1), .val (.int (2 : Int32)), .val (.ref b15), .unset, .unset, .unset] [(.int (2 : Int32))])
      refine own_st (fun _ kt => XS.iconst X18.here hx rfl (hb hby at_44) kt) ?_
      show own_Rch p e below _ T18 (mkF m 45 #[.val (.int p0), .val (.int p1), .val (.int (2 : Int32)), .val (.ref b15), .unset, .unset, .unset] [(.int (3 : Int32)), (.int (2 : Int32))])
      refine own_st (fun _ kt => XS.icmpYes X18.here hx rfl (pc0 := 45) (pc' := 56) rfl (hb hby at_45) rfl (tlt ((by decide) : (2 : Int32) < (3 : Int32))).1 (by decide) (by decide) kt) ?_
      show own_Rch p e below _ T18 (mkF m 56 #[.val (.int p0), .val (.int p1), .val (.int (2 : Int32)), .val (.ref b15), .unset, .unset, .unset] [])
      refine own_st (fun _ kt => XS.iloadN X18.here hx rfl (hb hby at_56) rfl  kt) ?_
      show own_Rch p e below _ T18 (mkF m 57 #[.val (.int p0), .val (.int p1), .val (.int (2 : Int32)), .val (.ref b15), .unset, .unset, .unset] [(.int (2 : Int32))])
      refine own_st (fun _ kt => XS.iconst X18.here hx rfl (hb hby at_57) kt) ?_
      show own_Rch p e below _ T18 (mkF m 58 #[.val (.int p0), .val (.int p1), .val (.int (2 : Int32)), .val (.ref b15), .unset, .unset, .unset] [(.int (4 : Int32)), (.int (2 : Int32))])
      refine own_st (fun _ kt => XS.icmpYes X18.here hx rfl (pc0 := 58) (pc' := 69) rfl (hb hby at_58) rfl (tlt ((by decide) : (2 : Int32) < (4 : Int32))).1 (by decide) (by decide) kt) ?_
      show own_Rch p e below _ T18 (mkF m 69 #[.val (.int p0), .val (.int p1), .val (.int (2 : Int32)), .val (.ref b15), .unset, .unset, .unset] [])
      refine own_st (fun _ kt => XS.aloadN X18.here hx rfl (hb hby at_69) rfl rfl  kt) ?_
      show own_Rch p e below _ T18 (mkF m 70 #[.val (.int p0), .val (.int p1), .val (.int (2 : Int32)), .val (.ref b15), .unset, .unset, .unset] [(.ref b15)])
      obtain ⟨T19, X19, e19, st19⟩ := getS2 X18 hx hZ hown (host := "") (Or.inl (hw _ (List.mem_of_getElem? (i := 60) rfl))) Via.refl rfl (SO.ext O0_x18.2) (g := (mkF m 70 #[.val (.int p0), .val (.int p1), .val (.int (2 : Int32)), .val (.ref b15), .unset, .unset, .unset] [(.ref b15)])) rfl (hb hby at_70)
      refine own_st st19 ?_
      show own_Rch p e below _ T19 (mkF m 73 #[.val (.int p0), .val (.int p1), .val (.int (2 : Int32)), .val (.ref b15), .unset, .unset, .unset] [(.ref oo), (.ref b15)])
      obtain ⟨cq20, kq20, q20a, q20b, q20c⟩ := isOf hZ e19 Ea18
      obtain ⟨_, _, ⟨T20, L20, k20, n20⟩, -, X20, ⟨Lc20, hQ20, l20, y20, z20⟩, st20⟩ := X19.virtualBack hx (y := (⟨"java/util/ArrayList", "add", "(Ljava/lang/Object;)Z"⟩ : MethodName)) (z := (⟨"java/util/ArrayList", "add", "(Ljava/lang/Object;)Z"⟩ : MethodName)) hown (mvT hZ (hw _ (List.mem_of_getElem? (i := 29) rfl))) (mvT hZ (hw _ (List.mem_of_getElem? (i := 30) rfl))) (notFace_of_selects (args := #[]) (mvT hZ (hw _ (List.mem_of_getElem? (i := 32) rfl)))) (mvT hZ (hw _ (List.mem_of_getElem? (i := 32) rfl))) (mvT hZ (hw _ (List.mem_of_getElem? (i := 31) rfl))) (by decide) (backOf (W := 0) (own_add1 l Z a0 hw [] b15 oo bl18 kg18 zz T18.heap n0 O0_x18 Ea18 Fe18 Fz18 Fm18 ge15 EO Eb18 Vb18 Ob18 ge18_bl18 ne18_b15_bl18) hZ (hw _ (List.mem_of_getElem? (i := 33) rfl)) (hw _ (List.mem_of_getElem? (i := 3) rfl)) (by decide) (by decide)) q20a q20c (g := (mkF m 73 #[.val (.int p0), .val (.int p1), .val (.int (2 : Int32)), .val (.ref b15), .unset, .unset, .unset] [(.ref oo), (.ref b15)])) rfl (by rw [hml]; rfl) (Steps.refl _) (argsL := [(.ref oo)]) (rest := []) (lenOf own_pd16 rfl) rfl (by show 2 * 0 + _ ≤ _; exact Nat.le_of_eq rfl) (hb hby at_73) (fun _ _ => ⟨rfl, e19, (by decide : 2 + 0 ≤ _), (by decide : 13 + 0 ≤ _)⟩)
      dsimp only [Pt.U, Pt.locs, Pt.cells, Pt.slots] at X20 l20 y20 z20 st20 hQ20
      subst l20 y20 z20
      obtain ⟨rfl, N20q, K20, Ea20, Fe20, Fz20, Fm20, Eb20, Vb20⟩ := hQ20
      have N20 := Fr.app N18 N20q
      refine own_st (fun _ kt => st20.trans kt) ?_
      have O0_x20 := O0_x18.keep K20 (allS ge15 (allS ge18_bl18 all0))
      have Ea18_x20 := Ea18.keep K20
      have Eb18_x20 := Eb18.keep K20
      show own_Rch p e below _ T20 (mkF m 76 #[.val (.int p0), .val (.int p1), .val (.int (2 : Int32)), .val (.ref b15), .unset, .unset, .unset] [(.int (1 : Int32))])
      refine own_st (fun _ kt => XS.pop X20.here hx rfl (hb hby at_76) rfl rfl kt) ?_
      show own_Rch p e below _ T20 (mkF m 77 #[.val (.int p0), .val (.int p1), .val (.int (2 : Int32)), .val (.ref b15), .unset, .unset, .unset] [])
      obtain ⟨T21, h21, X21, e21, E21, A21, D21, U21, st21⟩ := newO X20 hx hZ hown (hw _ (List.mem_of_getElem? (i := 61) rfl)) (hw _ (List.mem_of_getElem? (i := 62) rfl)) (hw _ (List.mem_of_getElem? (i := 63) rfl)) rfl (g := (mkF m 77 #[.val (.int p0), .val (.int p1), .val (.int (2 : Int32)), .val (.ref b15), .unset, .unset, .unset] [])) rfl (hb hby at_77) (by decide) (by decide)
      obtain ⟨b21, g21⟩ : ∃ z, z = T20.heap.size := ⟨_, rfl⟩
      rw [← g21] at A21 D21 U21 st21
      have ge21 : n0 ≤ b21 := by rw [g21]; exact own_old_le O0_x20
      have ne21_b15 : b15 ≠ b21 := by rw [g21]; exact Nat.ne_of_lt Ea20.lt
      have ne21_bl18 : bl18 ≠ b21 := by rw [g21]; exact Nat.ne_of_lt Eb20.lt
      have O0_x21 := O0_x20.ext E21
      have Ea20_x21 := Ea20.ext E21
      have Eb20_x21 := Eb20.ext E21
      have Fe20_x21 := Fe20.ext E21
      have Fz20_x21 := Fz20.ext E21
      have Fm20_x21 := Fm20.ext E21
      have Vb20_x21 := Vb20.ext E21
      refine own_st st21 ?_
      have F21_source : Fld Z h21 b21 "com/example/makewhole/makewhole/mortality/MortalityTable" "source" "Ljava/lang/String;" .null := D21 (Or.inr (hw _ (List.mem_of_getElem? (i := 80) rfl))) (ty := (.object "java/lang/String")) (by decide)
      have F21_firstAge : Fld Z h21 b21 "com/example/makewhole/makewhole/mortality/MortalityTable" "firstAge" "I" (.int (0 : Int32)) := D21 (Or.inr (hw _ (List.mem_of_getElem? (i := 82) rfl))) (ty := .int) (by decide)
      have F21_qx : Fld Z h21 b21 "com/example/makewhole/makewhole/mortality/MortalityTable" "qx" "Ljava/util/List;" .null := D21 (Or.inr (hw _ (List.mem_of_getElem? (i := 172) rfl))) (ty := (.object "java/util/List")) (by decide)
      have F21_publishedName : Fld Z h21 b21 "com/example/makewhole/makewhole/mortality/MortalityTable" "publishedName" "Ljava/lang/String;" .null := D21 (Or.inr (hw _ (List.mem_of_getElem? (i := 174) rfl))) (ty := (.object "java/lang/String")) (by decide)
      have F21_publishedIdentity : Fld Z h21 b21 "com/example/makewhole/makewhole/mortality/MortalityTable" "publishedIdentity" "Ljava/lang/String;" .null := D21 (Or.inr (hw _ (List.mem_of_getElem? (i := 176) rfl))) (ty := (.object "java/lang/String")) (by decide)
      show own_Rch p e below _ T21 (mkF m 80 #[.val (.int p0), .val (.int p1), .val (.int (2 : Int32)), .val (.ref b15), .unset, .unset, .unset] [(.ref b21)])
      refine own_st (fun _ kt => XS.dup X21.here hx rfl (hb hby at_80) rfl rfl kt) ?_
      show own_Rch p e below _ T21 (mkF m 81 #[.val (.int p0), .val (.int p1), .val (.int (2 : Int32)), .val (.ref b15), .unset, .unset, .unset] [(.ref b21), (.ref b21)])
      have hS22 : s.Since s.vm 0 := own_since s
      have hk22 : 0 ≤ h21.size := Nat.zero_le _
      obtain ⟨sl23, T23, h23, ks23, X23, e23, E23, hS23, hk23, hZ23, hown23, st23⟩ := ldcS (s := s) X21 hx hZ hown (hw _ (List.mem_of_getElem? (i := 64) rfl)) (own_wS hw) e21 hS22 hk22 (g := (mkF m 81 #[.val (.int p0), .val (.int p1), .val (.int (2 : Int32)), .val (.ref b15), .unset, .unset, .unset] [(.ref b21), (.ref b21)])) rfl (hb hby at_81) (n := 20) (by decide) (by decide) (by decide) (by decide)
      have O0_x23 := O0_x21.ext E23
      have Ea20_x23 := Ea20_x21.ext E23
      have Eb20_x23 := Eb20_x21.ext E23
      have Fe20_x23 := Fe20_x21.ext E23
      have Fz20_x23 := Fz20_x21.ext E23
      have Fm20_x23 := Fm20_x21.ext E23
      have Vb20_x23 := Vb20_x21.ext E23
      have F21_source_x23 := F21_source.ext E23
      have F21_firstAge_x23 := F21_firstAge.ext E23
      have F21_qx_x23 := F21_qx.ext E23
      have F21_publishedName_x23 := F21_publishedName.ext E23
      have F21_publishedIdentity_x23 := F21_publishedIdentity.ext E23
      have A21_x23 := A21.ext E23
      refine own_st st23 ?_
      show own_Rch p e below _ T23 (mkF m 83 #[.val (.int p0), .val (.int p1), .val (.int (2 : Int32)), .val (.ref b15), .unset, .unset, .unset] [(.ref sl23), (.ref b21), (.ref b21)])
      refine own_st (fun _ kt => XS.iloadN X23.here hx rfl (hb hby at_83) rfl  kt) ?_
      show own_Rch p e below _ T23 (mkF m 84 #[.val (.int p0), .val (.int p1), .val (.int (2 : Int32)), .val (.ref b15), .unset, .unset, .unset] [(.int p0), (.ref sl23), (.ref b21), (.ref b21)])
      refine own_st (fun _ kt => XS.aloadN X23.here hx rfl (hb hby at_84) rfl rfl  kt) ?_
      show own_Rch p e below _ T23 (mkF m 85 #[.val (.int p0), .val (.int p1), .val (.int (2 : Int32)), .val (.ref b15), .unset, .unset, .unset] [(.ref b15), (.int p0), (.ref sl23), (.ref b21), (.ref b21)])
      obtain ⟨_, _, ⟨T24, L24, k24, n24⟩, -, X24, ⟨Lc24, hQ24, l24, y24, z24⟩, st24⟩ := X23.specialBack hx (y := (⟨"com/example/makewhole/makewhole/mortality/MortalityTable", "<init>", "(Ljava/lang/String;ILjava/util/List;)V"⟩ : MethodName)) rfl hown23 (mvT hZ23 (hw _ (List.mem_of_getElem? (i := 72) rfl))) (mvT hZ23 (hw _ (List.mem_of_getElem? (i := 73) rfl))) (mvT hZ23 (hw _ (List.mem_of_getElem? (i := 74) rfl))) (by decide) (backOf (W := 1) (own_mt3_2 l Z a0 hw [] b21 sl23 p0 b15 bl18 kg18 mr zz oo em h23 n0 O0_x23 Ea20_x23 Fe20_x23 Fz20_x23 Fm20_x23 Eb20_x23 Vb20_x23 EZ EO MR SE A21_x23 F21_source_x23 F21_firstAge_x23 F21_qx_x23 F21_publishedName_x23 F21_publishedIdentity_x23 ge21 ne21_b15 ne21_bl18) hZ23 (hw _ (List.mem_of_getElem? (i := 74) rfl)) (hw _ (List.mem_of_getElem? (i := 63) rfl)) (by decide) (by decide)) (g := (mkF m 85 #[.val (.int p0), .val (.int p1), .val (.int (2 : Int32)), .val (.ref b15), .unset, .unset, .unset] [(.ref b15), (.int p0), (.ref sl23), (.ref b21), (.ref b21)])) rfl (by rw [hml]; rfl) (Steps.refl _) (a := b21) (argsL := [(.ref sl23), (.int p0), (.ref b15)]) (rest := [(.ref b21)]) (lenOf own_pd17 rfl) rfl (by show 2 * 0 + _ ≤ _; exact Nat.le_of_eq rfl) (hb hby at_85) (fun _ _ => ⟨rfl, e23, (by decide : 5 + 2 ≤ _), (by decide : 42 + 4 ≤ _)⟩)
      dsimp only [Pt.U, Pt.locs, Pt.cells, Pt.slots] at X24 l24 y24 z24 st24 hQ24
      subst l24 y24 z24
      obtain ⟨rfl, N24q, K24, qm24, Ex24, Fa24, Fx24, hq24, Eq24, Fq24⟩ := hQ24
      have N24 := Fr.app N20 N24q
      refine own_st (fun _ kt => st24.trans kt) ?_
      have ne24_b15_qm24 : b15 ≠ qm24 := Nat.ne_of_lt (Nat.lt_of_lt_of_le Ea20_x23.lt hq24)
      have ne24_bl18_qm24 : bl18 ≠ qm24 := Nat.ne_of_lt (Nat.lt_of_lt_of_le Eb20_x23.lt hq24)
      have ne24_b21_qm24 : b21 ≠ qm24 := Nat.ne_of_lt (Nat.lt_of_lt_of_le F21_source_x23.lt hq24)
      have ge24_qm24 : n0 ≤ qm24 := Nat.le_trans (own_old_le O0_x23) hq24
      have hkk24 := Nat.le_trans hk23 K24.1
      have O0_x24 := O0_x23.keep K24 (allS ge21 all0)
      have Ea20_x24 := Ea20_x23.keep K24
      have Eb20_x24 := Eb20_x23.keep K24
      have Fe20_x24 := Fe20_x23.keep K24 (ninS ne21_b15 nin0)
      have Fz20_x24 := Fz20_x23.keep K24 (ninS ne21_b15 nin0)
      have Fm20_x24 := Fm20_x23.keep K24 (ninS ne21_b15 nin0)
      have Vb20_x24 := Vb20_x23.keep K24 (ninS ne21_bl18 nin0)
      have A21_x24 := A21_x23.keep K24
      show own_Rch p e below _ T24 (mkF m 88 #[.val (.int p0), .val (.int p1), .val (.int (2 : Int32)), .val (.ref b15), .unset, .unset, .unset] [(.ref b21)])
      refine own_st (fun _ kt => XS.astore X24.here hx rfl (hb hby at_88) rfl rfl (l' := #[.val (.int p0), .val (.int p1), .val (.int (2 : Int32)), .val (.ref b15), .val (.ref b21), .unset, .unset]) rfl kt) ?_
      show own_Rch p e below _ T24 (mkF m 90 #[.val (.int p0), .val (.int p1), .val (.int (2 : Int32)), .val (.ref b15), .val (.ref b21), .unset, .unset] [])
      refine own_st (fun _ kt => XS.iloadN X24.here hx rfl (hb hby at_90) rfl  kt) ?_
      show own_Rch p e below _ T24 (mkF m 91 #[.val (.int p0), .val (.int p1), .val (.int (2 : Int32)), .val (.ref b15), .val (.ref b21), .unset, .unset] [(.int p0)])
      refine own_st (fun _ kt => XS.i2l X24.here hx rfl (hb hby at_91) rfl kt) ?_
      show own_Rch p e below _ T24 (mkF m 92 #[.val (.int p0), .val (.int p1), .val (.int (2 : Int32)), .val (.ref b15), .val (.ref b21), .unset, .unset] [(.long (p0.toInt64))])
      refine own_st (fun _ kt => XS.iloadN X24.here hx rfl (hb hby at_92) rfl  kt) ?_
      show own_Rch p e below _ T24 (mkF m 93 #[.val (.int p0), .val (.int p1), .val (.int (2 : Int32)), .val (.ref b15), .val (.ref b21), .unset, .unset] [(.int (2 : Int32)), (.long (p0.toInt64))])
      refine own_st (fun _ kt => XS.i2l X24.here hx rfl (hb hby at_93) rfl kt) ?_
      show own_Rch p e below _ T24 (mkF m 94 #[.val (.int p0), .val (.int p1), .val (.int (2 : Int32)), .val (.ref b15), .val (.ref b21), .unset, .unset] [(.long (2 : Int64)), (.long (p0.toInt64))])
      refine own_st (fun _ kt => XS.ladd X24.here hx rfl (hb hby at_94) rfl kt) ?_
      show own_Rch p e below _ T24 (mkF m 95 #[.val (.int p0), .val (.int p1), .val (.int (2 : Int32)), .val (.ref b15), .val (.ref b21), .unset, .unset] [(.long ((p0.toInt64) + (2 : Int64)))])
      refine own_st (fun _ kt => XS.lconst X24.here hx rfl (hb hby at_95) kt) ?_
      show own_Rch p e below _ T24 (mkF m 96 #[.val (.int p0), .val (.int p1), .val (.int (2 : Int32)), .val (.ref b15), .val (.ref b21), .unset, .unset] [(.long (1 : Int64)), (.long ((p0.toInt64) + (2 : Int64)))])
      refine own_st (fun _ kt => XS.lsub X24.here hx rfl (hb hby at_96) rfl kt) ?_
      show own_Rch p e below _ T24 (mkF m 97 #[.val (.int p0), .val (.int p1), .val (.int (2 : Int32)), .val (.ref b15), .val (.ref b21), .unset, .unset] [(.long (((p0.toInt64) + (2 : Int64)) - (1 : Int64)))])
      refine own_st (fun _ kt => XS.lstore X24.here hx rfl (hb hby at_97) rfl (l' := #[.val (.int p0), .val (.int p1), .val (.int (2 : Int32)), .val (.ref b15), .val (.ref b21), .val (.long (((p0.toInt64) + (2 : Int64)) - (1 : Int64))), .second]) rfl kt) ?_
      show own_Rch p e below _ T24 (mkF m 99 #[.val (.int p0), .val (.int p1), .val (.int (2 : Int32)), .val (.ref b15), .val (.ref b21), .val (.long (((p0.toInt64) + (2 : Int64)) - (1 : Int64))), .second] [])
      refine own_st (fun _ kt => XS.aload X24.here hx rfl (hb hby at_99) rfl rfl  kt) ?_
      show own_Rch p e below _ T24 (mkF m 101 #[.val (.int p0), .val (.int p1), .val (.int (2 : Int32)), .val (.ref b15), .val (.ref b21), .val (.long (((p0.toInt64) + (2 : Int64)) - (1 : Int64))), .second] [(.ref b21)])
      obtain ⟨cq25, kq25, q25a, q25b, q25c⟩ := isOf hZ23 rfl Ex24
      obtain ⟨_, _, ⟨T25, L25, k25, n25⟩, -, X25, ⟨Lc25, hQ25, l25, y25, z25⟩, st25⟩ := X24.virtualBack hx (y := (⟨"com/example/makewhole/makewhole/mortality/MortalityTable", "getLastAge", "()I"⟩ : MethodName)) (z := (⟨"com/example/makewhole/makewhole/mortality/MortalityTable", "getLastAge", "()I"⟩ : MethodName)) hown23 (mvT hZ23 (hw _ (List.mem_of_getElem? (i := 177) rfl))) (mvT hZ23 (hw _ (List.mem_of_getElem? (i := 178) rfl))) (notFace_of_selects (args := #[]) (mvT hZ23 (hw _ (List.mem_of_getElem? (i := 180) rfl)))) (mvT hZ23 (hw _ (List.mem_of_getElem? (i := 180) rfl))) (mvT hZ23 (hw _ (List.mem_of_getElem? (i := 179) rfl))) (by decide) (backOf (W := 0) (own_last_2 l Z a0 hw [] b21 p0 qm24 em oo T24.heap n0 O0_x24 SE EE EO Fa24 Fx24 Eq24 Fq24) hZ23 (hw _ (List.mem_of_getElem? (i := 181) rfl)) (hw _ (List.mem_of_getElem? (i := 63) rfl)) (by decide) (by decide)) q25a q25c (g := (mkF m 101 #[.val (.int p0), .val (.int p1), .val (.int (2 : Int32)), .val (.ref b15), .val (.ref b21), .val (.long (((p0.toInt64) + (2 : Int64)) - (1 : Int64))), .second] [(.ref b21)])) rfl (by rw [hml]; rfl) (Steps.refl _) (argsL := []) (rest := []) (lenOf own_pd13 rfl) rfl (by show 2 * 0 + _ ≤ _; exact Nat.le_of_eq rfl) (hb hby at_101) (fun _ _ => ⟨rfl, rfl, (by decide : 7 + 0 ≤ _), (by decide : 46 + 0 ≤ _)⟩)
      dsimp only [Pt.U, Pt.locs, Pt.cells, Pt.slots] at X25 l25 y25 z25 st25 hQ25
      subst l25 y25 z25
      obtain ⟨rfl, N25q, hh25⟩ := hQ25
      have N25 := Fr.app N24 N25q
      refine own_st (fun _ kt => st25.trans kt) ?_
      show own_Rch p e below _ T25 (mkF m 104 #[.val (.int p0), .val (.int p1), .val (.int (2 : Int32)), .val (.ref b15), .val (.ref b21), .val (.long (((p0.toInt64) + (2 : Int64)) - (1 : Int64))), .second] [(.int ((p0 + (2 : Int32)) - (1 : Int32)))])
      refine own_st (fun _ kt => XS.i2l X25.here hx rfl (hb hby at_104) rfl kt) ?_
      show own_Rch p e below _ T25 (mkF m 105 #[.val (.int p0), .val (.int p1), .val (.int (2 : Int32)), .val (.ref b15), .val (.ref b21), .val (.long (((p0.toInt64) + (2 : Int64)) - (1 : Int64))), .second] [(.long (((p0 + (2 : Int32)) - (1 : Int32)).toInt64))])
      refine own_st (fun _ kt => XS.lload X25.here hx rfl (hb hby at_105) rfl  kt) ?_
      show own_Rch p e below _ T25 (mkF m 107 #[.val (.int p0), .val (.int p1), .val (.int (2 : Int32)), .val (.ref b15), .val (.ref b21), .val (.long (((p0.toInt64) + (2 : Int64)) - (1 : Int64))), .second] [(.long (((p0.toInt64) + (2 : Int64)) - (1 : Int64))), (.long (((p0 + (2 : Int32)) - (1 : Int32)).toInt64))])
      refine own_st (fun _ kt => XS.lcmp X25.here hx rfl (hb hby at_107) rfl kt) ?_
      show own_Rch p e below _ T25 (mkF m 108 #[.val (.int p0), .val (.int p1), .val (.int (2 : Int32)), .val (.ref b15), .val (.ref b21), .val (.long (((p0.toInt64) + (2 : Int64)) - (1 : Int64))), .second] [(.int (lcmpW (((p0 + (2 : Int32)) - (1 : Int32)).toInt64) (((p0.toInt64) + (2 : Int64)) - (1 : Int64))))])
      refine own_st (fun _ kt => XS.ifNo X25.here hx rfl (hb hby at_108) rfl ((if0 _ _).trans (teq (own_len (k := 2) (by decide) (by decide) (by decide) hc17_13 : (lcmpW (((p0 + (2 : Int32)) - (1 : Int32)).toInt64) (((p0.toInt64) + (2 : Int64)) - (1 : Int64))) = (0 : Int32))).2) kt) ?_
      show own_Rch p e below _ T25 (mkF m 111 #[.val (.int p0), .val (.int p1), .val (.int (2 : Int32)), .val (.ref b15), .val (.ref b21), .val (.long (((p0.toInt64) + (2 : Int64)) - (1 : Int64))), .second] [])
      refine own_st (fun _ kt => XS.aload X25.here hx rfl (hb hby at_111) rfl rfl  kt) ?_
      show own_Rch p e below _ T25 (mkF m 113 #[.val (.int p0), .val (.int p1), .val (.int (2 : Int32)), .val (.ref b15), .val (.ref b21), .val (.long (((p0.toInt64) + (2 : Int64)) - (1 : Int64))), .second] [(.ref b21)])
      obtain ⟨cq26, kq26, q26a, q26b, q26c⟩ := isOf hZ23 hh25 Ex24
      obtain ⟨_, _, ⟨T26, L26, k26, n26⟩, -, X26, ⟨Lc26, hQ26, l26, y26, z26⟩, st26⟩ := X25.virtualBack hx (y := (⟨"com/example/makewhole/makewhole/mortality/MortalityTable", "getFirstAge", "()I"⟩ : MethodName)) (z := (⟨"com/example/makewhole/makewhole/mortality/MortalityTable", "getFirstAge", "()I"⟩ : MethodName)) hown23 (mvT hZ23 (hw _ (List.mem_of_getElem? (i := 191) rfl))) (mvT hZ23 (hw _ (List.mem_of_getElem? (i := 192) rfl))) (notFace_of_selects (args := #[]) (mvT hZ23 (hw _ (List.mem_of_getElem? (i := 194) rfl)))) (mvT hZ23 (hw _ (List.mem_of_getElem? (i := 194) rfl))) (mvT hZ23 (hw _ (List.mem_of_getElem? (i := 193) rfl))) (by decide) (backOf (W := 0) (own_first l Z a0 hw [] b21 p0 T24.heap n0 O0_x24 Fa24) hZ23 (hw _ (List.mem_of_getElem? (i := 195) rfl)) (hw _ (List.mem_of_getElem? (i := 63) rfl)) (by decide) (by decide)) q26a q26c (g := (mkF m 113 #[.val (.int p0), .val (.int p1), .val (.int (2 : Int32)), .val (.ref b15), .val (.ref b21), .val (.long (((p0.toInt64) + (2 : Int64)) - (1 : Int64))), .second] [(.ref b21)])) rfl (by rw [hml]; rfl) (Steps.refl _) (argsL := []) (rest := []) (lenOf own_pd13 rfl) rfl (by show 2 * 0 + _ ≤ _; exact Nat.le_of_eq rfl) (hb hby at_113) (fun _ _ => ⟨rfl, hh25, (by decide : 7 + 0 ≤ _), (by decide : 46 + 0 ≤ _)⟩)
      dsimp only [Pt.U, Pt.locs, Pt.cells, Pt.slots] at X26 l26 y26 z26 st26 hQ26
      subst l26 y26 z26
      obtain ⟨rfl, N26q, hh26⟩ := hQ26
      have N26 := Fr.app N25 N26q
      refine own_st (fun _ kt => st26.trans kt) ?_
      show own_Rch p e below _ T26 (mkF m 116 #[.val (.int p0), .val (.int p1), .val (.int (2 : Int32)), .val (.ref b15), .val (.ref b21), .val (.long (((p0.toInt64) + (2 : Int64)) - (1 : Int64))), .second] [(.int p0)])
      refine own_st (fun _ kt => XS.iloadN X26.here hx rfl (hb hby at_116) rfl  kt) ?_
      show own_Rch p e below _ T26 (mkF m 117 #[.val (.int p0), .val (.int p1), .val (.int (2 : Int32)), .val (.ref b15), .val (.ref b21), .val (.long (((p0.toInt64) + (2 : Int64)) - (1 : Int64))), .second] [(.int p0), (.int p0)])
      refine own_st (fun _ kt => XS.icmpNo X26.here hx rfl (hb hby at_117) rfl (teq (rfl : p0 = p0)).2 kt) ?_
      show own_Rch p e below _ T26 (mkF m 120 #[.val (.int p0), .val (.int p1), .val (.int (2 : Int32)), .val (.ref b15), .val (.ref b21), .val (.long (((p0.toInt64) + (2 : Int64)) - (1 : Int64))), .second] [])
      refine own_st (fun _ kt => XS.iconst X26.here hx rfl (hb hby at_120) kt) ?_
      show own_Rch p e below _ T26 (mkF m 121 #[.val (.int p0), .val (.int p1), .val (.int (2 : Int32)), .val (.ref b15), .val (.ref b21), .val (.long (((p0.toInt64) + (2 : Int64)) - (1 : Int64))), .second] [(.int (1 : Int32))])
      refine own_st (fun _ kt => XS.goto X26.here hx rfl (pc0 := 121) (pc' := 125) rfl (hb hby at_121) (by decide) (by decide) kt) ?_
      show own_Rch p e below _ T26 (mkF m 125 #[.val (.int p0), .val (.int p1), .val (.int (2 : Int32)), .val (.ref b15), .val (.ref b21), .val (.long (((p0.toInt64) + (2 : Int64)) - (1 : Int64))), .second] [(.int (1 : Int32))])
      refine own_retNW (t := .boolean) (by simp) (s := s) hS23 (by rw [hh26]; exact hkk24) X26 hx Bd.notSynchronized Bd.returns (hb hby at_125) (by decide) (by decide) ?_
      rw [hh26]
      exact ⟨rfl, N26⟩
  · rw [hm]
    show own_Rch p e below _ s₁ (mkF m 4 #[.val (.int p0), .val (.int p1), .unset, .unset, .unset, .unset, .unset] [(.int (2 : Int32)), (.int (1 : Int32))])
    refine own_st (fun _ kt => XS.iadd X0.here hx rfl (hb hby at_4) rfl kt) ?_
    show own_Rch p e below _ s₁ (mkF m 5 #[.val (.int p0), .val (.int p1), .unset, .unset, .unset, .unset, .unset] [(.int (3 : Int32))])
    refine own_st (fun _ kt => XS.istoreN X0.here hx rfl (hb hby at_5) rfl (l' := #[.val (.int p0), .val (.int p1), .val (.int (3 : Int32)), .unset, .unset, .unset, .unset]) rfl kt) ?_
    show own_Rch p e below _ s₁ (mkF m 6 #[.val (.int p0), .val (.int p1), .val (.int (3 : Int32)), .unset, .unset, .unset, .unset] [])
    refine own_st (fun _ kt => XS.iloadN X0.here hx rfl (hb hby at_6) rfl  kt) ?_
    show own_Rch p e below _ s₁ (mkF m 7 #[.val (.int p0), .val (.int p1), .val (.int (3 : Int32)), .unset, .unset, .unset, .unset] [(.int p0)])
    refine own_st (fun _ kt => XS.i2l X0.here hx rfl (hb hby at_7) rfl kt) ?_
    show own_Rch p e below _ s₁ (mkF m 8 #[.val (.int p0), .val (.int p1), .val (.int (3 : Int32)), .unset, .unset, .unset, .unset] [(.long (p0.toInt64))])
    refine own_st (fun _ kt => XS.iloadN X0.here hx rfl (hb hby at_8) rfl  kt) ?_
    show own_Rch p e below _ s₁ (mkF m 9 #[.val (.int p0), .val (.int p1), .val (.int (3 : Int32)), .unset, .unset, .unset, .unset] [(.int (3 : Int32)), (.long (p0.toInt64))])
    refine own_st (fun _ kt => XS.i2l X0.here hx rfl (hb hby at_9) rfl kt) ?_
    show own_Rch p e below _ s₁ (mkF m 10 #[.val (.int p0), .val (.int p1), .val (.int (3 : Int32)), .unset, .unset, .unset, .unset] [(.long (3 : Int64)), (.long (p0.toInt64))])
    refine own_st (fun _ kt => XS.ladd X0.here hx rfl (hb hby at_10) rfl kt) ?_
    show own_Rch p e below _ s₁ (mkF m 11 #[.val (.int p0), .val (.int p1), .val (.int (3 : Int32)), .unset, .unset, .unset, .unset] [(.long ((p0.toInt64) + (3 : Int64)))])
    refine own_st (fun _ kt => XS.lconst X0.here hx rfl (hb hby at_11) kt) ?_
    show own_Rch p e below _ s₁ (mkF m 12 #[.val (.int p0), .val (.int p1), .val (.int (3 : Int32)), .unset, .unset, .unset, .unset] [(.long (1 : Int64)), (.long ((p0.toInt64) + (3 : Int64)))])
    refine own_st (fun _ kt => XS.lsub X0.here hx rfl (hb hby at_12) rfl kt) ?_
    show own_Rch p e below _ s₁ (mkF m 13 #[.val (.int p0), .val (.int p1), .val (.int (3 : Int32)), .unset, .unset, .unset, .unset] [(.long (((p0.toInt64) + (3 : Int64)) - (1 : Int64)))])
    refine own_st (X0.ldc2Long hx hown (mvT hZ (hw _ (List.mem_of_getElem? (i := 0) rfl))) (g := (mkF m 13 #[.val (.int p0), .val (.int p1), .val (.int (3 : Int32)), .unset, .unset, .unset, .unset] [(.long (((p0.toInt64) + (3 : Int64)) - (1 : Int64)))])) rfl (hb hby at_13)) ?_
    show own_Rch p e below _ s₁ (mkF m 16 #[.val (.int p0), .val (.int p1), .val (.int (3 : Int32)), .unset, .unset, .unset, .unset] [(.long (2147483647 : Int64)), (.long (((p0.toInt64) + (3 : Int64)) - (1 : Int64)))])
    refine own_st (fun _ kt => XS.lcmp X0.here hx rfl (hb hby at_16) rfl kt) ?_
    show own_Rch p e below _ s₁ (mkF m 17 #[.val (.int p0), .val (.int p1), .val (.int (3 : Int32)), .unset, .unset, .unset, .unset] [(.int (lcmpW (((p0.toInt64) + (3 : Int64)) - (1 : Int64)) (2147483647 : Int64)))])
    by_cases hc17_27 : (0 : Int32) < (lcmpW (((p0.toInt64) + (3 : Int64)) - (1 : Int64)) (2147483647 : Int64))
    · -- pc 17: True
      refine own_st (fun _ kt => XS.ifNo X0.here hx rfl (hb hby at_17) rfl ((if0 _ _).trans (tlt hc17_27).2.2.2) kt) ?_
      show own_Rch p e below _ s₁ (mkF m 20 #[.val (.int p0), .val (.int p1), .val (.int (3 : Int32)), .unset, .unset, .unset, .unset] [])
      refine own_st (fun _ kt => XS.iconst X0.here hx rfl (hb hby at_20) kt) ?_
      show own_Rch p e below _ s₁ (mkF m 21 #[.val (.int p0), .val (.int p1), .val (.int (3 : Int32)), .unset, .unset, .unset, .unset] [(.int (1 : Int32))])
      have hS28 : s.Since s.vm 0 := own_since s
      have hk28 : 0 ≤ h0.size := Nat.zero_le _
      refine own_retNW (t := .boolean) (by simp) (s := s) hS28 (by rw [e0]; exact hk28) X0 hx Bd.notSynchronized Bd.returns (hb hby at_21) (by decide) (by decide) ?_
      rw [e0]
      exact ⟨rfl, N0⟩
    · -- pc 17: False
      refine own_st (fun _ kt => XS.ifYes X0.here hx rfl (pc0 := 17) (pc' := 22) rfl (hb hby at_17) rfl ((if0 _ _).trans (flt hc17_27).2.2.2) (by decide) (by decide) kt) ?_
      show own_Rch p e below _ s₁ (mkF m 22 #[.val (.int p0), .val (.int p1), .val (.int (3 : Int32)), .unset, .unset, .unset, .unset] [])
      obtain ⟨T29, h29, X29, e29, E29, A29, D29, U29, st29⟩ := newO X0 hx hZ hown (hw _ (List.mem_of_getElem? (i := 1) rfl)) (hw _ (List.mem_of_getElem? (i := 2) rfl)) (hw _ (List.mem_of_getElem? (i := 3) rfl)) e0 (g := (mkF m 22 #[.val (.int p0), .val (.int p1), .val (.int (3 : Int32)), .unset, .unset, .unset, .unset] [])) rfl (hb hby at_22) (by decide) (by decide)
      obtain ⟨b29, g29⟩ : ∃ z, z = h0.size := ⟨_, rfl⟩
      rw [← g29] at A29 D29 U29 st29
      have ge29 : n0 ≤ b29 := by rw [g29]; exact own_old_le O0
      have O0_x29 := O0.ext E29
      refine own_st st29 ?_
      have F29_modCount : Fld Z h29 b29 "java/util/AbstractList" "modCount" "I" (.int (0 : Int32)) := D29 (Or.inl (hw _ (List.mem_of_getElem? (i := 23) rfl))) (ty := .int) (by decide)
      have F29_elementData : Fld Z h29 b29 "java/util/ArrayList" "elementData" "[Ljava/lang/Object;" .null := D29 (Or.inl (hw _ (List.mem_of_getElem? (i := 26) rfl))) (ty := (.array (.object "java/lang/Object"))) (by decide)
      have F29_size : Fld Z h29 b29 "java/util/ArrayList" "size" "I" (.int (0 : Int32)) := D29 (Or.inl (hw _ (List.mem_of_getElem? (i := 37) rfl))) (ty := .int) (by decide)
      show own_Rch p e below _ T29 (mkF m 25 #[.val (.int p0), .val (.int p1), .val (.int (3 : Int32)), .unset, .unset, .unset, .unset] [(.ref b29)])
      refine own_st (fun _ kt => XS.dup X29.here hx rfl (hb hby at_25) rfl rfl kt) ?_
      show own_Rch p e below _ T29 (mkF m 26 #[.val (.int p0), .val (.int p1), .val (.int (3 : Int32)), .unset, .unset, .unset, .unset] [(.ref b29), (.ref b29)])
      obtain ⟨_, _, ⟨T30, L30, k30, n30⟩, -, X30, ⟨Lc30, hQ30, l30, y30, z30⟩, st30⟩ := X29.specialBack hx (y := (⟨"java/util/ArrayList", "<init>", "()V"⟩ : MethodName)) rfl hown (mvT hZ (hw _ (List.mem_of_getElem? (i := 4) rfl))) (mvT hZ (hw _ (List.mem_of_getElem? (i := 5) rfl))) (mvT hZ (hw _ (List.mem_of_getElem? (i := 6) rfl))) (by decide) (backOf (W := 1) (own_alinit l Z a0 hw [] b29 w kw h29 n0 O0_x29 SW VW A29 F29_elementData F29_size F29_modCount ge29) hZ (hw _ (List.mem_of_getElem? (i := 6) rfl)) (hw _ (List.mem_of_getElem? (i := 3) rfl)) (by decide) (by decide)) (g := (mkF m 26 #[.val (.int p0), .val (.int p1), .val (.int (3 : Int32)), .unset, .unset, .unset, .unset] [(.ref b29), (.ref b29)])) rfl (by rw [hml]; rfl) (Steps.refl _) (a := b29) (argsL := []) (rest := [(.ref b29)]) (lenOf own_pd0 rfl) rfl (by show 2 * 0 + _ ≤ _; exact Nat.le_of_eq rfl) (hb hby at_26) (fun _ _ => ⟨rfl, e29, (by decide : 1 + 0 ≤ _), (by decide : 3 + 0 ≤ _)⟩)
      dsimp only [Pt.U, Pt.locs, Pt.cells, Pt.slots] at X30 l30 y30 z30 st30 hQ30
      subst l30 y30 z30
      obtain ⟨rfl, N30q, K30, Ea30, Fe30, Fz30, Fm30⟩ := hQ30
      have N30 := Fr.app N0 N30q
      refine own_st (fun _ kt => st30.trans kt) ?_
      have O0_x30 := O0_x29.keep K30 (allS ge29 all0)
      have A29_x30 := A29.keep K30
      show own_Rch p e below _ T30 (mkF m 29 #[.val (.int p0), .val (.int p1), .val (.int (3 : Int32)), .unset, .unset, .unset, .unset] [(.ref b29)])
      refine own_st (fun _ kt => XS.astoreN X30.here hx rfl (hb hby at_29) rfl rfl (l' := #[.val (.int p0), .val (.int p1), .val (.int (3 : Int32)), .val (.ref b29), .unset, .unset, .unset]) rfl kt) ?_
      show own_Rch p e below _ T30 (mkF m 30 #[.val (.int p0), .val (.int p1), .val (.int (3 : Int32)), .val (.ref b29), .unset, .unset, .unset] [])
      refine own_st (fun _ kt => XS.iloadN X30.here hx rfl (hb hby at_30) rfl  kt) ?_
      show own_Rch p e below _ T30 (mkF m 31 #[.val (.int p0), .val (.int p1), .val (.int (3 : Int32)), .val (.ref b29), .unset, .unset, .unset] [(.int (3 : Int32))])
      refine own_st (fun _ kt => XS.iconst X30.here hx rfl (hb hby at_31) kt) ?_
      show own_Rch p e below _ T30 (mkF m 32 #[.val (.int p0), .val (.int p1), .val (.int (3 : Int32)), .val (.ref b29), .unset, .unset, .unset] [(.int (2 : Int32)), (.int (3 : Int32))])
      refine own_st (fun _ kt => XS.icmpNo X30.here hx rfl (hb hby at_32) rfl (flt ((by decide) : ¬ ((3 : Int32) < (2 : Int32)))).1 kt) ?_
      show own_Rch p e below _ T30 (mkF m 35 #[.val (.int p0), .val (.int p1), .val (.int (3 : Int32)), .val (.ref b29), .unset, .unset, .unset] [])
      refine own_st (fun _ kt => XS.aloadN X30.here hx rfl (hb hby at_35) rfl rfl  kt) ?_
      show own_Rch p e below _ T30 (mkF m 36 #[.val (.int p0), .val (.int p1), .val (.int (3 : Int32)), .val (.ref b29), .unset, .unset, .unset] [(.ref b29)])
      obtain ⟨T31, X31, e31, st31⟩ := getS2 X30 hx hZ hown (host := "") (Or.inl (hw _ (List.mem_of_getElem? (i := 27) rfl))) Via.refl rfl (SZ.ext O0_x30.2) (g := (mkF m 36 #[.val (.int p0), .val (.int p1), .val (.int (3 : Int32)), .val (.ref b29), .unset, .unset, .unset] [(.ref b29)])) rfl (hb hby at_36)
      refine own_st st31 ?_
      show own_Rch p e below _ T31 (mkF m 39 #[.val (.int p0), .val (.int p1), .val (.int (3 : Int32)), .val (.ref b29), .unset, .unset, .unset] [(.ref zz), (.ref b29)])
      obtain ⟨cq32, kq32, q32a, q32b, q32c⟩ := isOf hZ e31 Ea30
      obtain ⟨_, _, ⟨T32, L32, k32, n32⟩, -, X32, ⟨Lc32, hQ32, l32, y32, z32⟩, st32⟩ := X31.virtualBack hx (y := (⟨"java/util/ArrayList", "add", "(Ljava/lang/Object;)Z"⟩ : MethodName)) (z := (⟨"java/util/ArrayList", "add", "(Ljava/lang/Object;)Z"⟩ : MethodName)) hown (mvT hZ (hw _ (List.mem_of_getElem? (i := 29) rfl))) (mvT hZ (hw _ (List.mem_of_getElem? (i := 30) rfl))) (notFace_of_selects (args := #[]) (mvT hZ (hw _ (List.mem_of_getElem? (i := 32) rfl)))) (mvT hZ (hw _ (List.mem_of_getElem? (i := 32) rfl))) (mvT hZ (hw _ (List.mem_of_getElem? (i := 31) rfl))) (by decide) (backOf (W := 0) (own_add0 l Z a0 hw [] b29 zz w kw T30.heap n0 O0_x30 SW VW Ea30 Fe30 Fz30 Fm30 ge29 EZ) hZ (hw _ (List.mem_of_getElem? (i := 33) rfl)) (hw _ (List.mem_of_getElem? (i := 3) rfl)) (by decide) (by decide)) q32a q32c (g := (mkF m 39 #[.val (.int p0), .val (.int p1), .val (.int (3 : Int32)), .val (.ref b29), .unset, .unset, .unset] [(.ref zz), (.ref b29)])) rfl (by rw [hml]; rfl) (Steps.refl _) (argsL := [(.ref zz)]) (rest := []) (lenOf own_pd16 rfl) rfl (by show 2 * 0 + _ ≤ _; exact Nat.le_of_eq rfl) (hb hby at_39) (fun _ _ => ⟨rfl, e31, (by decide : 1 + 1 ≤ _), (by decide : 3 + 10 ≤ _)⟩)
      dsimp only [Pt.U, Pt.locs, Pt.cells, Pt.slots] at X32 l32 y32 z32 st32 hQ32
      subst l32 y32 z32
      obtain ⟨bl32, kg32, rfl, N32q, K32, hb32, Ea32, Fe32, Fz32, Fm32, Eb32, Vb32, Ob32⟩ := hQ32
      have N32 := Fr.app N30 N32q
      refine own_st (fun _ kt => st32.trans kt) ?_
      have ne32_b29_bl32 : b29 ≠ bl32 := Nat.ne_of_lt (Nat.lt_of_lt_of_le Ea30.lt hb32)
      have ge32_bl32 : n0 ≤ bl32 := Nat.le_trans (own_old_le O0_x30) hb32
      have O0_x32 := O0_x30.keep K32 (allS ge29 all0)
      have Ea30_x32 := Ea30.keep K32
      show own_Rch p e below _ T32 (mkF m 42 #[.val (.int p0), .val (.int p1), .val (.int (3 : Int32)), .val (.ref b29), .unset, .unset, .unset] [(.int (1 : Int32))])
      refine own_st (fun _ kt => XS.pop X32.here hx rfl (hb hby at_42) rfl rfl kt) ?_
      show own_Rch p e below _ T32 (mkF m 43 #[.val (.int p0), .val (.int p1), .val (.int (3 : Int32)), .val (.ref b29), .unset, .unset, .unset] [])
      refine own_st (fun _ kt => XS.iloadN X32.here hx rfl (hb hby at_43) rfl  kt) ?_
      show own_Rch p e below _ T32 (mkF m 44 #[.val (.int p0), .val (.int p1), .val (.int (3 : Int32)), .val (.ref b29), .unset, .unset, .unset] [(.int (3 : Int32))])
      refine own_st (fun _ kt => XS.iconst X32.here hx rfl (hb hby at_44) kt) ?_
      show own_Rch p e below _ T32 (mkF m 45 #[.val (.int p0), .val (.int p1), .val (.int (3 : Int32)), .val (.ref b29), .unset, .unset, .unset] [(.int (3 : Int32)), (.int (3 : Int32))])
      refine own_st (fun _ kt => XS.icmpNo X32.here hx rfl (hb hby at_45) rfl (flt ((by decide) : ¬ ((3 : Int32) < (3 : Int32)))).1 kt) ?_
      show own_Rch p e below _ T32 (mkF m 48 #[.val (.int p0), .val (.int p1), .val (.int (3 : Int32)), .val (.ref b29), .unset, .unset, .unset] [])
      refine own_st (fun _ kt => XS.aloadN X32.here hx rfl (hb hby at_48) rfl rfl  kt) ?_
      show own_Rch p e below _ T32 (mkF m 49 #[.val (.int p0), .val (.int p1), .val (.int (3 : Int32)), .val (.ref b29), .unset, .unset, .unset] [(.ref b29)])
      obtain ⟨T33, X33, e33, st33⟩ := getS2 X32 hx hZ hown (host := "") (Or.inl (hw _ (List.mem_of_getElem? (i := 27) rfl))) Via.refl rfl (SZ.ext O0_x32.2) (g := (mkF m 49 #[.val (.int p0), .val (.int p1), .val (.int (3 : Int32)), .val (.ref b29), .unset, .unset, .unset] [(.ref b29)])) rfl (hb hby at_49)
      refine own_st st33 ?_
      show own_Rch p e below _ T33 (mkF m 52 #[.val (.int p0), .val (.int p1), .val (.int (3 : Int32)), .val (.ref b29), .unset, .unset, .unset] [(.ref zz), (.ref b29)])
      obtain ⟨cq34, kq34, q34a, q34b, q34c⟩ := isOf hZ e33 Ea32
      obtain ⟨_, _, ⟨T34, L34, k34, n34⟩, -, X34, ⟨Lc34, hQ34, l34, y34, z34⟩, st34⟩ := X33.virtualBack hx (y := (⟨"java/util/ArrayList", "add", "(Ljava/lang/Object;)Z"⟩ : MethodName)) (z := (⟨"java/util/ArrayList", "add", "(Ljava/lang/Object;)Z"⟩ : MethodName)) hown (mvT hZ (hw _ (List.mem_of_getElem? (i := 29) rfl))) (mvT hZ (hw _ (List.mem_of_getElem? (i := 30) rfl))) (notFace_of_selects (args := #[]) (mvT hZ (hw _ (List.mem_of_getElem? (i := 32) rfl)))) (mvT hZ (hw _ (List.mem_of_getElem? (i := 32) rfl))) (mvT hZ (hw _ (List.mem_of_getElem? (i := 31) rfl))) (by decide) (backOf (W := 0) (own_add1 l Z a0 hw [] b29 zz bl32 kg32 zz T32.heap n0 O0_x32 Ea32 Fe32 Fz32 Fm32 ge29 EZ Eb32 Vb32 Ob32 ge32_bl32 ne32_b29_bl32) hZ (hw _ (List.mem_of_getElem? (i := 33) rfl)) (hw _ (List.mem_of_getElem? (i := 3) rfl)) (by decide) (by decide)) q34a q34c (g := (mkF m 52 #[.val (.int p0), .val (.int p1), .val (.int (3 : Int32)), .val (.ref b29), .unset, .unset, .unset] [(.ref zz), (.ref b29)])) rfl (by rw [hml]; rfl) (Steps.refl _) (argsL := [(.ref zz)]) (rest := []) (lenOf own_pd16 rfl) rfl (by show 2 * 0 + _ ≤ _; exact Nat.le_of_eq rfl) (hb hby at_52) (fun _ _ => ⟨rfl, e33, (by decide : 2 + 0 ≤ _), (by decide : 13 + 0 ≤ _)⟩)
      dsimp only [Pt.U, Pt.locs, Pt.cells, Pt.slots] at X34 l34 y34 z34 st34 hQ34
      subst l34 y34 z34
      obtain ⟨rfl, N34q, K34, Ea34, Fe34, Fz34, Fm34, Eb34, Vb34⟩ := hQ34
      have N34 := Fr.app N32 N34q
      refine own_st (fun _ kt => st34.trans kt) ?_
      have O0_x34 := O0_x32.keep K34 (allS ge29 (allS ge32_bl32 all0))
      have Ea32_x34 := Ea32.keep K34
      have Eb32_x34 := Eb32.keep K34
      show own_Rch p e below _ T34 (mkF m 55 #[.val (.int p0), .val (.int p1), .val (.int (3 : Int32)), .val (.ref b29), .unset, .unset, .unset] [(.int (1 : Int32))])
      refine own_st (fun _ kt => XS.pop X34.here hx rfl (hb hby at_55) rfl rfl kt) ?_
      show own_Rch p e below _ T34 (mkF m 56 #[.val (.int p0), .val (.int p1), .val (.int (3 : Int32)), .val (.ref b29), .unset, .unset, .unset] [])
      refine own_st (fun _ kt => XS.iloadN X34.here hx rfl (hb hby at_56) rfl  kt) ?_
      show own_Rch p e below _ T34 (mkF m 57 #[.val (.int p0), .val (.int p1), .val (.int (3 : Int32)), .val (.ref b29), .unset, .unset, .unset] [(.int (3 : Int32))])
      refine own_st (fun _ kt => XS.iconst X34.here hx rfl (hb hby at_57) kt) ?_
      show own_Rch p e below _ T34 (mkF m 58 #[.val (.int p0), .val (.int p1), .val (.int (3 : Int32)), .val (.ref b29), .unset, .unset, .unset] [(.int (4 : Int32)), (.int (3 : Int32))])
      refine own_st (fun _ kt => XS.icmpYes X34.here hx rfl (pc0 := 58) (pc' := 69) rfl (hb hby at_58) rfl (tlt ((by decide) : (3 : Int32) < (4 : Int32))).1 (by decide) (by decide) kt) ?_
      show own_Rch p e below _ T34 (mkF m 69 #[.val (.int p0), .val (.int p1), .val (.int (3 : Int32)), .val (.ref b29), .unset, .unset, .unset] [])
      refine own_st (fun _ kt => XS.aloadN X34.here hx rfl (hb hby at_69) rfl rfl  kt) ?_
      show own_Rch p e below _ T34 (mkF m 70 #[.val (.int p0), .val (.int p1), .val (.int (3 : Int32)), .val (.ref b29), .unset, .unset, .unset] [(.ref b29)])
      obtain ⟨T35, X35, e35, st35⟩ := getS2 X34 hx hZ hown (host := "") (Or.inl (hw _ (List.mem_of_getElem? (i := 60) rfl))) Via.refl rfl (SO.ext O0_x34.2) (g := (mkF m 70 #[.val (.int p0), .val (.int p1), .val (.int (3 : Int32)), .val (.ref b29), .unset, .unset, .unset] [(.ref b29)])) rfl (hb hby at_70)
      refine own_st st35 ?_
      show own_Rch p e below _ T35 (mkF m 73 #[.val (.int p0), .val (.int p1), .val (.int (3 : Int32)), .val (.ref b29), .unset, .unset, .unset] [(.ref oo), (.ref b29)])
      obtain ⟨cq36, kq36, q36a, q36b, q36c⟩ := isOf hZ e35 Ea34
      obtain ⟨_, _, ⟨T36, L36, k36, n36⟩, -, X36, ⟨Lc36, hQ36, l36, y36, z36⟩, st36⟩ := X35.virtualBack hx (y := (⟨"java/util/ArrayList", "add", "(Ljava/lang/Object;)Z"⟩ : MethodName)) (z := (⟨"java/util/ArrayList", "add", "(Ljava/lang/Object;)Z"⟩ : MethodName)) hown (mvT hZ (hw _ (List.mem_of_getElem? (i := 29) rfl))) (mvT hZ (hw _ (List.mem_of_getElem? (i := 30) rfl))) (notFace_of_selects (args := #[]) (mvT hZ (hw _ (List.mem_of_getElem? (i := 32) rfl)))) (mvT hZ (hw _ (List.mem_of_getElem? (i := 32) rfl))) (mvT hZ (hw _ (List.mem_of_getElem? (i := 31) rfl))) (by decide) (backOf (W := 0) (own_add2 l Z a0 hw [] b29 oo bl32 kg32 zz zz T34.heap n0 O0_x34 Ea34 Fe34 Fz34 Fm34 ge29 EO Eb34 Vb34 Ob32 ge32_bl32 ne32_b29_bl32) hZ (hw _ (List.mem_of_getElem? (i := 33) rfl)) (hw _ (List.mem_of_getElem? (i := 3) rfl)) (by decide) (by decide)) q36a q36c (g := (mkF m 73 #[.val (.int p0), .val (.int p1), .val (.int (3 : Int32)), .val (.ref b29), .unset, .unset, .unset] [(.ref oo), (.ref b29)])) rfl (by rw [hml]; rfl) (Steps.refl _) (argsL := [(.ref oo)]) (rest := []) (lenOf own_pd16 rfl) rfl (by show 2 * 0 + _ ≤ _; exact Nat.le_of_eq rfl) (hb hby at_73) (fun _ _ => ⟨rfl, e35, (by decide : 2 + 0 ≤ _), (by decide : 13 + 0 ≤ _)⟩)
      dsimp only [Pt.U, Pt.locs, Pt.cells, Pt.slots] at X36 l36 y36 z36 st36 hQ36
      subst l36 y36 z36
      obtain ⟨rfl, N36q, K36, Ea36, Fe36, Fz36, Fm36, Eb36, Vb36⟩ := hQ36
      have N36 := Fr.app N34 N36q
      refine own_st (fun _ kt => st36.trans kt) ?_
      have O0_x36 := O0_x34.keep K36 (allS ge29 (allS ge32_bl32 all0))
      have Ea34_x36 := Ea34.keep K36
      have Eb34_x36 := Eb34.keep K36
      show own_Rch p e below _ T36 (mkF m 76 #[.val (.int p0), .val (.int p1), .val (.int (3 : Int32)), .val (.ref b29), .unset, .unset, .unset] [(.int (1 : Int32))])
      refine own_st (fun _ kt => XS.pop X36.here hx rfl (hb hby at_76) rfl rfl kt) ?_
      show own_Rch p e below _ T36 (mkF m 77 #[.val (.int p0), .val (.int p1), .val (.int (3 : Int32)), .val (.ref b29), .unset, .unset, .unset] [])
      obtain ⟨T37, h37, X37, e37, E37, A37, D37, U37, st37⟩ := newO X36 hx hZ hown (hw _ (List.mem_of_getElem? (i := 61) rfl)) (hw _ (List.mem_of_getElem? (i := 62) rfl)) (hw _ (List.mem_of_getElem? (i := 63) rfl)) rfl (g := (mkF m 77 #[.val (.int p0), .val (.int p1), .val (.int (3 : Int32)), .val (.ref b29), .unset, .unset, .unset] [])) rfl (hb hby at_77) (by decide) (by decide)
      obtain ⟨b37, g37⟩ : ∃ z, z = T36.heap.size := ⟨_, rfl⟩
      rw [← g37] at A37 D37 U37 st37
      have ge37 : n0 ≤ b37 := by rw [g37]; exact own_old_le O0_x36
      have ne37_b29 : b29 ≠ b37 := by rw [g37]; exact Nat.ne_of_lt Ea36.lt
      have ne37_bl32 : bl32 ≠ b37 := by rw [g37]; exact Nat.ne_of_lt Eb36.lt
      have O0_x37 := O0_x36.ext E37
      have Ea36_x37 := Ea36.ext E37
      have Eb36_x37 := Eb36.ext E37
      have Fe36_x37 := Fe36.ext E37
      have Fz36_x37 := Fz36.ext E37
      have Fm36_x37 := Fm36.ext E37
      have Vb36_x37 := Vb36.ext E37
      refine own_st st37 ?_
      have F37_source : Fld Z h37 b37 "com/example/makewhole/makewhole/mortality/MortalityTable" "source" "Ljava/lang/String;" .null := D37 (Or.inr (hw _ (List.mem_of_getElem? (i := 80) rfl))) (ty := (.object "java/lang/String")) (by decide)
      have F37_firstAge : Fld Z h37 b37 "com/example/makewhole/makewhole/mortality/MortalityTable" "firstAge" "I" (.int (0 : Int32)) := D37 (Or.inr (hw _ (List.mem_of_getElem? (i := 82) rfl))) (ty := .int) (by decide)
      have F37_qx : Fld Z h37 b37 "com/example/makewhole/makewhole/mortality/MortalityTable" "qx" "Ljava/util/List;" .null := D37 (Or.inr (hw _ (List.mem_of_getElem? (i := 172) rfl))) (ty := (.object "java/util/List")) (by decide)
      have F37_publishedName : Fld Z h37 b37 "com/example/makewhole/makewhole/mortality/MortalityTable" "publishedName" "Ljava/lang/String;" .null := D37 (Or.inr (hw _ (List.mem_of_getElem? (i := 174) rfl))) (ty := (.object "java/lang/String")) (by decide)
      have F37_publishedIdentity : Fld Z h37 b37 "com/example/makewhole/makewhole/mortality/MortalityTable" "publishedIdentity" "Ljava/lang/String;" .null := D37 (Or.inr (hw _ (List.mem_of_getElem? (i := 176) rfl))) (ty := (.object "java/lang/String")) (by decide)
      show own_Rch p e below _ T37 (mkF m 80 #[.val (.int p0), .val (.int p1), .val (.int (3 : Int32)), .val (.ref b29), .unset, .unset, .unset] [(.ref b37)])
      refine own_st (fun _ kt => XS.dup X37.here hx rfl (hb hby at_80) rfl rfl kt) ?_
      show own_Rch p e below _ T37 (mkF m 81 #[.val (.int p0), .val (.int p1), .val (.int (3 : Int32)), .val (.ref b29), .unset, .unset, .unset] [(.ref b37), (.ref b37)])
      have hS38 : s.Since s.vm 0 := own_since s
      have hk38 : 0 ≤ h37.size := Nat.zero_le _
      obtain ⟨sl39, T39, h39, ks39, X39, e39, E39, hS39, hk39, hZ39, hown39, st39⟩ := ldcS (s := s) X37 hx hZ hown (hw _ (List.mem_of_getElem? (i := 64) rfl)) (own_wS hw) e37 hS38 hk38 (g := (mkF m 81 #[.val (.int p0), .val (.int p1), .val (.int (3 : Int32)), .val (.ref b29), .unset, .unset, .unset] [(.ref b37), (.ref b37)])) rfl (hb hby at_81) (n := 20) (by decide) (by decide) (by decide) (by decide)
      have O0_x39 := O0_x37.ext E39
      have Ea36_x39 := Ea36_x37.ext E39
      have Eb36_x39 := Eb36_x37.ext E39
      have Fe36_x39 := Fe36_x37.ext E39
      have Fz36_x39 := Fz36_x37.ext E39
      have Fm36_x39 := Fm36_x37.ext E39
      have Vb36_x39 := Vb36_x37.ext E39
      have F37_source_x39 := F37_source.ext E39
      have F37_firstAge_x39 := F37_firstAge.ext E39
      have F37_qx_x39 := F37_qx.ext E39
      have F37_publishedName_x39 := F37_publishedName.ext E39
      have F37_publishedIdentity_x39 := F37_publishedIdentity.ext E39
      have A37_x39 := A37.ext E39
      refine own_st st39 ?_
      show own_Rch p e below _ T39 (mkF m 83 #[.val (.int p0), .val (.int p1), .val (.int (3 : Int32)), .val (.ref b29), .unset, .unset, .unset] [(.ref sl39), (.ref b37), (.ref b37)])
      refine own_st (fun _ kt => XS.iloadN X39.here hx rfl (hb hby at_83) rfl  kt) ?_
      show own_Rch p e below _ T39 (mkF m 84 #[.val (.int p0), .val (.int p1), .val (.int (3 : Int32)), .val (.ref b29), .unset, .unset, .unset] [(.int p0), (.ref sl39), (.ref b37), (.ref b37)])
      refine own_st (fun _ kt => XS.aloadN X39.here hx rfl (hb hby at_84) rfl rfl  kt) ?_
      show own_Rch p e below _ T39 (mkF m 85 #[.val (.int p0), .val (.int p1), .val (.int (3 : Int32)), .val (.ref b29), .unset, .unset, .unset] [(.ref b29), (.int p0), (.ref sl39), (.ref b37), (.ref b37)])
      obtain ⟨_, _, ⟨T40, L40, k40, n40⟩, -, X40, ⟨Lc40, hQ40, l40, y40, z40⟩, st40⟩ := X39.specialBack hx (y := (⟨"com/example/makewhole/makewhole/mortality/MortalityTable", "<init>", "(Ljava/lang/String;ILjava/util/List;)V"⟩ : MethodName)) rfl hown39 (mvT hZ39 (hw _ (List.mem_of_getElem? (i := 72) rfl))) (mvT hZ39 (hw _ (List.mem_of_getElem? (i := 73) rfl))) (mvT hZ39 (hw _ (List.mem_of_getElem? (i := 74) rfl))) (by decide) (backOf (W := 1) (own_mt3_3 l Z a0 hw [] b37 sl39 p0 b29 bl32 kg32 mr zz oo em h39 n0 O0_x39 Ea36_x39 Fe36_x39 Fz36_x39 Fm36_x39 Eb36_x39 Vb36_x39 EZ EO MR SE A37_x39 F37_source_x39 F37_firstAge_x39 F37_qx_x39 F37_publishedName_x39 F37_publishedIdentity_x39 ge37 ne37_b29 ne37_bl32) hZ39 (hw _ (List.mem_of_getElem? (i := 74) rfl)) (hw _ (List.mem_of_getElem? (i := 63) rfl)) (by decide) (by decide)) (g := (mkF m 85 #[.val (.int p0), .val (.int p1), .val (.int (3 : Int32)), .val (.ref b29), .unset, .unset, .unset] [(.ref b29), (.int p0), (.ref sl39), (.ref b37), (.ref b37)])) rfl (by rw [hml]; rfl) (Steps.refl _) (a := b37) (argsL := [(.ref sl39), (.int p0), (.ref b29)]) (rest := [(.ref b37)]) (lenOf own_pd17 rfl) rfl (by show 2 * 0 + _ ≤ _; exact Nat.le_of_eq rfl) (hb hby at_85) (fun _ _ => ⟨rfl, e39, (by decide : 5 + 3 ≤ _), (by decide : 42 + 8 ≤ _)⟩)
      dsimp only [Pt.U, Pt.locs, Pt.cells, Pt.slots] at X40 l40 y40 z40 st40 hQ40
      subst l40 y40 z40
      obtain ⟨rfl, N40q, K40, qm40, Ex40, Fa40, Fx40, hq40, rq40, kq40, hr40, Eq40, Fq40, Vq40⟩ := hQ40
      have N40 := Fr.app N36 N40q
      refine own_st (fun _ kt => st40.trans kt) ?_
      have ne40_b29_qm40 : b29 ≠ qm40 := Nat.ne_of_lt (Nat.lt_of_lt_of_le Ea36_x39.lt hq40)
      have ne40_bl32_qm40 : bl32 ≠ qm40 := Nat.ne_of_lt (Nat.lt_of_lt_of_le Eb36_x39.lt hq40)
      have ne40_b37_qm40 : b37 ≠ qm40 := Nat.ne_of_lt (Nat.lt_of_lt_of_le F37_source_x39.lt hq40)
      have ge40_qm40 : n0 ≤ qm40 := Nat.le_trans (own_old_le O0_x39) hq40
      have ne40_b29_rq40 : b29 ≠ rq40 := Nat.ne_of_lt (Nat.lt_of_lt_of_le Ea36_x39.lt hr40)
      have ne40_bl32_rq40 : bl32 ≠ rq40 := Nat.ne_of_lt (Nat.lt_of_lt_of_le Eb36_x39.lt hr40)
      have ne40_b37_rq40 : b37 ≠ rq40 := Nat.ne_of_lt (Nat.lt_of_lt_of_le F37_source_x39.lt hr40)
      have ge40_rq40 : n0 ≤ rq40 := Nat.le_trans (own_old_le O0_x39) hr40
      have hkk40 := Nat.le_trans hk39 K40.1
      have O0_x40 := O0_x39.keep K40 (allS ge37 all0)
      have Ea36_x40 := Ea36_x39.keep K40
      have Eb36_x40 := Eb36_x39.keep K40
      have Fe36_x40 := Fe36_x39.keep K40 (ninS ne37_b29 nin0)
      have Fz36_x40 := Fz36_x39.keep K40 (ninS ne37_b29 nin0)
      have Fm36_x40 := Fm36_x39.keep K40 (ninS ne37_b29 nin0)
      have Vb36_x40 := Vb36_x39.keep K40 (ninS ne37_bl32 nin0)
      have A37_x40 := A37_x39.keep K40
      show own_Rch p e below _ T40 (mkF m 88 #[.val (.int p0), .val (.int p1), .val (.int (3 : Int32)), .val (.ref b29), .unset, .unset, .unset] [(.ref b37)])
      refine own_st (fun _ kt => XS.astore X40.here hx rfl (hb hby at_88) rfl rfl (l' := #[.val (.int p0), .val (.int p1), .val (.int (3 : Int32)), .val (.ref b29), .val (.ref b37), .unset, .unset]) rfl kt) ?_
      show own_Rch p e below _ T40 (mkF m 90 #[.val (.int p0), .val (.int p1), .val (.int (3 : Int32)), .val (.ref b29), .val (.ref b37), .unset, .unset] [])
      refine own_st (fun _ kt => XS.iloadN X40.here hx rfl (hb hby at_90) rfl  kt) ?_
      show own_Rch p e below _ T40 (mkF m 91 #[.val (.int p0), .val (.int p1), .val (.int (3 : Int32)), .val (.ref b29), .val (.ref b37), .unset, .unset] [(.int p0)])
      refine own_st (fun _ kt => XS.i2l X40.here hx rfl (hb hby at_91) rfl kt) ?_
      show own_Rch p e below _ T40 (mkF m 92 #[.val (.int p0), .val (.int p1), .val (.int (3 : Int32)), .val (.ref b29), .val (.ref b37), .unset, .unset] [(.long (p0.toInt64))])
      refine own_st (fun _ kt => XS.iloadN X40.here hx rfl (hb hby at_92) rfl  kt) ?_
      show own_Rch p e below _ T40 (mkF m 93 #[.val (.int p0), .val (.int p1), .val (.int (3 : Int32)), .val (.ref b29), .val (.ref b37), .unset, .unset] [(.int (3 : Int32)), (.long (p0.toInt64))])
      refine own_st (fun _ kt => XS.i2l X40.here hx rfl (hb hby at_93) rfl kt) ?_
      show own_Rch p e below _ T40 (mkF m 94 #[.val (.int p0), .val (.int p1), .val (.int (3 : Int32)), .val (.ref b29), .val (.ref b37), .unset, .unset] [(.long (3 : Int64)), (.long (p0.toInt64))])
      refine own_st (fun _ kt => XS.ladd X40.here hx rfl (hb hby at_94) rfl kt) ?_
      show own_Rch p e below _ T40 (mkF m 95 #[.val (.int p0), .val (.int p1), .val (.int (3 : Int32)), .val (.ref b29), .val (.ref b37), .unset, .unset] [(.long ((p0.toInt64) + (3 : Int64)))])
      refine own_st (fun _ kt => XS.lconst X40.here hx rfl (hb hby at_95) kt) ?_
      show own_Rch p e below _ T40 (mkF m 96 #[.val (.int p0), .val (.int p1), .val (.int (3 : Int32)), .val (.ref b29), .val (.ref b37), .unset, .unset] [(.long (1 : Int64)), (.long ((p0.toInt64) + (3 : Int64)))])
      refine own_st (fun _ kt => XS.lsub X40.here hx rfl (hb hby at_96) rfl kt) ?_
      show own_Rch p e below _ T40 (mkF m 97 #[.val (.int p0), .val (.int p1), .val (.int (3 : Int32)), .val (.ref b29), .val (.ref b37), .unset, .unset] [(.long (((p0.toInt64) + (3 : Int64)) - (1 : Int64)))])
      refine own_st (fun _ kt => XS.lstore X40.here hx rfl (hb hby at_97) rfl (l' := #[.val (.int p0), .val (.int p1), .val (.int (3 : Int32)), .val (.ref b29), .val (.ref b37), .val (.long (((p0.toInt64) + (3 : Int64)) - (1 : Int64))), .second]) rfl kt) ?_
      show own_Rch p e below _ T40 (mkF m 99 #[.val (.int p0), .val (.int p1), .val (.int (3 : Int32)), .val (.ref b29), .val (.ref b37), .val (.long (((p0.toInt64) + (3 : Int64)) - (1 : Int64))), .second] [])
      refine own_st (fun _ kt => XS.aload X40.here hx rfl (hb hby at_99) rfl rfl  kt) ?_
      show own_Rch p e below _ T40 (mkF m 101 #[.val (.int p0), .val (.int p1), .val (.int (3 : Int32)), .val (.ref b29), .val (.ref b37), .val (.long (((p0.toInt64) + (3 : Int64)) - (1 : Int64))), .second] [(.ref b37)])
      obtain ⟨cq41, kq41, q41a, q41b, q41c⟩ := isOf hZ39 rfl Ex40
      obtain ⟨_, _, ⟨T41, L41, k41, n41⟩, -, X41, ⟨Lc41, hQ41, l41, y41, z41⟩, st41⟩ := X40.virtualBack hx (y := (⟨"com/example/makewhole/makewhole/mortality/MortalityTable", "getLastAge", "()I"⟩ : MethodName)) (z := (⟨"com/example/makewhole/makewhole/mortality/MortalityTable", "getLastAge", "()I"⟩ : MethodName)) hown39 (mvT hZ39 (hw _ (List.mem_of_getElem? (i := 177) rfl))) (mvT hZ39 (hw _ (List.mem_of_getElem? (i := 178) rfl))) (notFace_of_selects (args := #[]) (mvT hZ39 (hw _ (List.mem_of_getElem? (i := 180) rfl)))) (mvT hZ39 (hw _ (List.mem_of_getElem? (i := 180) rfl))) (mvT hZ39 (hw _ (List.mem_of_getElem? (i := 179) rfl))) (by decide) (backOf (W := 0) (own_last_3 l Z a0 hw [] b37 p0 qm40 rq40 kq40 zz oo T40.heap n0 O0_x40 Fa40 Fx40 Eq40 Fq40 Vq40) hZ39 (hw _ (List.mem_of_getElem? (i := 181) rfl)) (hw _ (List.mem_of_getElem? (i := 63) rfl)) (by decide) (by decide)) q41a q41c (g := (mkF m 101 #[.val (.int p0), .val (.int p1), .val (.int (3 : Int32)), .val (.ref b29), .val (.ref b37), .val (.long (((p0.toInt64) + (3 : Int64)) - (1 : Int64))), .second] [(.ref b37)])) rfl (by rw [hml]; rfl) (Steps.refl _) (argsL := []) (rest := []) (lenOf own_pd13 rfl) rfl (by show 2 * 0 + _ ≤ _; exact Nat.le_of_eq rfl) (hb hby at_101) (fun _ _ => ⟨rfl, rfl, (by decide : 8 + 0 ≤ _), (by decide : 50 + 0 ≤ _)⟩)
      dsimp only [Pt.U, Pt.locs, Pt.cells, Pt.slots] at X41 l41 y41 z41 st41 hQ41
      subst l41 y41 z41
      obtain ⟨rfl, N41q, hh41⟩ := hQ41
      have N41 := Fr.app N40 N41q
      refine own_st (fun _ kt => st41.trans kt) ?_
      show own_Rch p e below _ T41 (mkF m 104 #[.val (.int p0), .val (.int p1), .val (.int (3 : Int32)), .val (.ref b29), .val (.ref b37), .val (.long (((p0.toInt64) + (3 : Int64)) - (1 : Int64))), .second] [(.int ((p0 + (3 : Int32)) - (1 : Int32)))])
      refine own_st (fun _ kt => XS.i2l X41.here hx rfl (hb hby at_104) rfl kt) ?_
      show own_Rch p e below _ T41 (mkF m 105 #[.val (.int p0), .val (.int p1), .val (.int (3 : Int32)), .val (.ref b29), .val (.ref b37), .val (.long (((p0.toInt64) + (3 : Int64)) - (1 : Int64))), .second] [(.long (((p0 + (3 : Int32)) - (1 : Int32)).toInt64))])
      refine own_st (fun _ kt => XS.lload X41.here hx rfl (hb hby at_105) rfl  kt) ?_
      show own_Rch p e below _ T41 (mkF m 107 #[.val (.int p0), .val (.int p1), .val (.int (3 : Int32)), .val (.ref b29), .val (.ref b37), .val (.long (((p0.toInt64) + (3 : Int64)) - (1 : Int64))), .second] [(.long (((p0.toInt64) + (3 : Int64)) - (1 : Int64))), (.long (((p0 + (3 : Int32)) - (1 : Int32)).toInt64))])
      refine own_st (fun _ kt => XS.lcmp X41.here hx rfl (hb hby at_107) rfl kt) ?_
      show own_Rch p e below _ T41 (mkF m 108 #[.val (.int p0), .val (.int p1), .val (.int (3 : Int32)), .val (.ref b29), .val (.ref b37), .val (.long (((p0.toInt64) + (3 : Int64)) - (1 : Int64))), .second] [(.int (lcmpW (((p0 + (3 : Int32)) - (1 : Int32)).toInt64) (((p0.toInt64) + (3 : Int64)) - (1 : Int64))))])
      refine own_st (fun _ kt => XS.ifNo X41.here hx rfl (hb hby at_108) rfl ((if0 _ _).trans (teq (own_len (k := 3) (by decide) (by decide) (by decide) hc17_27 : (lcmpW (((p0 + (3 : Int32)) - (1 : Int32)).toInt64) (((p0.toInt64) + (3 : Int64)) - (1 : Int64))) = (0 : Int32))).2) kt) ?_
      show own_Rch p e below _ T41 (mkF m 111 #[.val (.int p0), .val (.int p1), .val (.int (3 : Int32)), .val (.ref b29), .val (.ref b37), .val (.long (((p0.toInt64) + (3 : Int64)) - (1 : Int64))), .second] [])
      refine own_st (fun _ kt => XS.aload X41.here hx rfl (hb hby at_111) rfl rfl  kt) ?_
      show own_Rch p e below _ T41 (mkF m 113 #[.val (.int p0), .val (.int p1), .val (.int (3 : Int32)), .val (.ref b29), .val (.ref b37), .val (.long (((p0.toInt64) + (3 : Int64)) - (1 : Int64))), .second] [(.ref b37)])
      obtain ⟨cq42, kq42, q42a, q42b, q42c⟩ := isOf hZ39 hh41 Ex40
      obtain ⟨_, _, ⟨T42, L42, k42, n42⟩, -, X42, ⟨Lc42, hQ42, l42, y42, z42⟩, st42⟩ := X41.virtualBack hx (y := (⟨"com/example/makewhole/makewhole/mortality/MortalityTable", "getFirstAge", "()I"⟩ : MethodName)) (z := (⟨"com/example/makewhole/makewhole/mortality/MortalityTable", "getFirstAge", "()I"⟩ : MethodName)) hown39 (mvT hZ39 (hw _ (List.mem_of_getElem? (i := 191) rfl))) (mvT hZ39 (hw _ (List.mem_of_getElem? (i := 192) rfl))) (notFace_of_selects (args := #[]) (mvT hZ39 (hw _ (List.mem_of_getElem? (i := 194) rfl)))) (mvT hZ39 (hw _ (List.mem_of_getElem? (i := 194) rfl))) (mvT hZ39 (hw _ (List.mem_of_getElem? (i := 193) rfl))) (by decide) (backOf (W := 0) (own_first l Z a0 hw [] b37 p0 T40.heap n0 O0_x40 Fa40) hZ39 (hw _ (List.mem_of_getElem? (i := 195) rfl)) (hw _ (List.mem_of_getElem? (i := 63) rfl)) (by decide) (by decide)) q42a q42c (g := (mkF m 113 #[.val (.int p0), .val (.int p1), .val (.int (3 : Int32)), .val (.ref b29), .val (.ref b37), .val (.long (((p0.toInt64) + (3 : Int64)) - (1 : Int64))), .second] [(.ref b37)])) rfl (by rw [hml]; rfl) (Steps.refl _) (argsL := []) (rest := []) (lenOf own_pd13 rfl) rfl (by show 2 * 0 + _ ≤ _; exact Nat.le_of_eq rfl) (hb hby at_113) (fun _ _ => ⟨rfl, hh41, (by decide : 8 + 0 ≤ _), (by decide : 50 + 0 ≤ _)⟩)
      dsimp only [Pt.U, Pt.locs, Pt.cells, Pt.slots] at X42 l42 y42 z42 st42 hQ42
      subst l42 y42 z42
      obtain ⟨rfl, N42q, hh42⟩ := hQ42
      have N42 := Fr.app N41 N42q
      refine own_st (fun _ kt => st42.trans kt) ?_
      show own_Rch p e below _ T42 (mkF m 116 #[.val (.int p0), .val (.int p1), .val (.int (3 : Int32)), .val (.ref b29), .val (.ref b37), .val (.long (((p0.toInt64) + (3 : Int64)) - (1 : Int64))), .second] [(.int p0)])
      refine own_st (fun _ kt => XS.iloadN X42.here hx rfl (hb hby at_116) rfl  kt) ?_
      show own_Rch p e below _ T42 (mkF m 117 #[.val (.int p0), .val (.int p1), .val (.int (3 : Int32)), .val (.ref b29), .val (.ref b37), .val (.long (((p0.toInt64) + (3 : Int64)) - (1 : Int64))), .second] [(.int p0), (.int p0)])
      refine own_st (fun _ kt => XS.icmpNo X42.here hx rfl (hb hby at_117) rfl (teq (rfl : p0 = p0)).2 kt) ?_
      show own_Rch p e below _ T42 (mkF m 120 #[.val (.int p0), .val (.int p1), .val (.int (3 : Int32)), .val (.ref b29), .val (.ref b37), .val (.long (((p0.toInt64) + (3 : Int64)) - (1 : Int64))), .second] [])
      refine own_st (fun _ kt => XS.iconst X42.here hx rfl (hb hby at_120) kt) ?_
      show own_Rch p e below _ T42 (mkF m 121 #[.val (.int p0), .val (.int p1), .val (.int (3 : Int32)), .val (.ref b29), .val (.ref b37), .val (.long (((p0.toInt64) + (3 : Int64)) - (1 : Int64))), .second] [(.int (1 : Int32))])
      refine own_st (fun _ kt => XS.goto X42.here hx rfl (pc0 := 121) (pc' := 125) rfl (hb hby at_121) (by decide) (by decide) kt) ?_
      show own_Rch p e below _ T42 (mkF m 125 #[.val (.int p0), .val (.int p1), .val (.int (3 : Int32)), .val (.ref b29), .val (.ref b37), .val (.long (((p0.toInt64) + (3 : Int64)) - (1 : Int64))), .second] [(.int (1 : Int32))])
      refine own_retNW (t := .boolean) (by simp) (s := s) hS39 (by rw [hh42]; exact hkk40) X42 hx Bd.notSynchronized Bd.returns (hb hby at_125) (by decide) (by decide) ?_
      rw [hh42]
      exact ⟨rfl, N42⟩
  · rw [hm]
    show own_Rch p e below _ s₁ (mkF m 4 #[.val (.int p0), .val (.int p1), .unset, .unset, .unset, .unset, .unset] [(.int (3 : Int32)), (.int (1 : Int32))])
    refine own_st (fun _ kt => XS.iadd X0.here hx rfl (hb hby at_4) rfl kt) ?_
    show own_Rch p e below _ s₁ (mkF m 5 #[.val (.int p0), .val (.int p1), .unset, .unset, .unset, .unset, .unset] [(.int (4 : Int32))])
    refine own_st (fun _ kt => XS.istoreN X0.here hx rfl (hb hby at_5) rfl (l' := #[.val (.int p0), .val (.int p1), .val (.int (4 : Int32)), .unset, .unset, .unset, .unset]) rfl kt) ?_
    show own_Rch p e below _ s₁ (mkF m 6 #[.val (.int p0), .val (.int p1), .val (.int (4 : Int32)), .unset, .unset, .unset, .unset] [])
    refine own_st (fun _ kt => XS.iloadN X0.here hx rfl (hb hby at_6) rfl  kt) ?_
    show own_Rch p e below _ s₁ (mkF m 7 #[.val (.int p0), .val (.int p1), .val (.int (4 : Int32)), .unset, .unset, .unset, .unset] [(.int p0)])
    refine own_st (fun _ kt => XS.i2l X0.here hx rfl (hb hby at_7) rfl kt) ?_
    show own_Rch p e below _ s₁ (mkF m 8 #[.val (.int p0), .val (.int p1), .val (.int (4 : Int32)), .unset, .unset, .unset, .unset] [(.long (p0.toInt64))])
    refine own_st (fun _ kt => XS.iloadN X0.here hx rfl (hb hby at_8) rfl  kt) ?_
    show own_Rch p e below _ s₁ (mkF m 9 #[.val (.int p0), .val (.int p1), .val (.int (4 : Int32)), .unset, .unset, .unset, .unset] [(.int (4 : Int32)), (.long (p0.toInt64))])
    refine own_st (fun _ kt => XS.i2l X0.here hx rfl (hb hby at_9) rfl kt) ?_
    show own_Rch p e below _ s₁ (mkF m 10 #[.val (.int p0), .val (.int p1), .val (.int (4 : Int32)), .unset, .unset, .unset, .unset] [(.long (4 : Int64)), (.long (p0.toInt64))])
    refine own_st (fun _ kt => XS.ladd X0.here hx rfl (hb hby at_10) rfl kt) ?_
    show own_Rch p e below _ s₁ (mkF m 11 #[.val (.int p0), .val (.int p1), .val (.int (4 : Int32)), .unset, .unset, .unset, .unset] [(.long ((p0.toInt64) + (4 : Int64)))])
    refine own_st (fun _ kt => XS.lconst X0.here hx rfl (hb hby at_11) kt) ?_
    show own_Rch p e below _ s₁ (mkF m 12 #[.val (.int p0), .val (.int p1), .val (.int (4 : Int32)), .unset, .unset, .unset, .unset] [(.long (1 : Int64)), (.long ((p0.toInt64) + (4 : Int64)))])
    refine own_st (fun _ kt => XS.lsub X0.here hx rfl (hb hby at_12) rfl kt) ?_
    show own_Rch p e below _ s₁ (mkF m 13 #[.val (.int p0), .val (.int p1), .val (.int (4 : Int32)), .unset, .unset, .unset, .unset] [(.long (((p0.toInt64) + (4 : Int64)) - (1 : Int64)))])
    refine own_st (X0.ldc2Long hx hown (mvT hZ (hw _ (List.mem_of_getElem? (i := 0) rfl))) (g := (mkF m 13 #[.val (.int p0), .val (.int p1), .val (.int (4 : Int32)), .unset, .unset, .unset, .unset] [(.long (((p0.toInt64) + (4 : Int64)) - (1 : Int64)))])) rfl (hb hby at_13)) ?_
    show own_Rch p e below _ s₁ (mkF m 16 #[.val (.int p0), .val (.int p1), .val (.int (4 : Int32)), .unset, .unset, .unset, .unset] [(.long (2147483647 : Int64)), (.long (((p0.toInt64) + (4 : Int64)) - (1 : Int64)))])
    refine own_st (fun _ kt => XS.lcmp X0.here hx rfl (hb hby at_16) rfl kt) ?_
    show own_Rch p e below _ s₁ (mkF m 17 #[.val (.int p0), .val (.int p1), .val (.int (4 : Int32)), .unset, .unset, .unset, .unset] [(.int (lcmpW (((p0.toInt64) + (4 : Int64)) - (1 : Int64)) (2147483647 : Int64)))])
    by_cases hc17_43 : (0 : Int32) < (lcmpW (((p0.toInt64) + (4 : Int64)) - (1 : Int64)) (2147483647 : Int64))
    · -- pc 17: True
      refine own_st (fun _ kt => XS.ifNo X0.here hx rfl (hb hby at_17) rfl ((if0 _ _).trans (tlt hc17_43).2.2.2) kt) ?_
      show own_Rch p e below _ s₁ (mkF m 20 #[.val (.int p0), .val (.int p1), .val (.int (4 : Int32)), .unset, .unset, .unset, .unset] [])
      refine own_st (fun _ kt => XS.iconst X0.here hx rfl (hb hby at_20) kt) ?_
      show own_Rch p e below _ s₁ (mkF m 21 #[.val (.int p0), .val (.int p1), .val (.int (4 : Int32)), .unset, .unset, .unset, .unset] [(.int (1 : Int32))])
      have hS44 : s.Since s.vm 0 := own_since s
      have hk44 : 0 ≤ h0.size := Nat.zero_le _
      refine own_retNW (t := .boolean) (by simp) (s := s) hS44 (by rw [e0]; exact hk44) X0 hx Bd.notSynchronized Bd.returns (hb hby at_21) (by decide) (by decide) ?_
      rw [e0]
      exact ⟨rfl, N0⟩
    · -- pc 17: False
      refine own_st (fun _ kt => XS.ifYes X0.here hx rfl (pc0 := 17) (pc' := 22) rfl (hb hby at_17) rfl ((if0 _ _).trans (flt hc17_43).2.2.2) (by decide) (by decide) kt) ?_
      show own_Rch p e below _ s₁ (mkF m 22 #[.val (.int p0), .val (.int p1), .val (.int (4 : Int32)), .unset, .unset, .unset, .unset] [])
      obtain ⟨T45, h45, X45, e45, E45, A45, D45, U45, st45⟩ := newO X0 hx hZ hown (hw _ (List.mem_of_getElem? (i := 1) rfl)) (hw _ (List.mem_of_getElem? (i := 2) rfl)) (hw _ (List.mem_of_getElem? (i := 3) rfl)) e0 (g := (mkF m 22 #[.val (.int p0), .val (.int p1), .val (.int (4 : Int32)), .unset, .unset, .unset, .unset] [])) rfl (hb hby at_22) (by decide) (by decide)
      obtain ⟨b45, g45⟩ : ∃ z, z = h0.size := ⟨_, rfl⟩
      rw [← g45] at A45 D45 U45 st45
      have ge45 : n0 ≤ b45 := by rw [g45]; exact own_old_le O0
      have O0_x45 := O0.ext E45
      refine own_st st45 ?_
      have F45_modCount : Fld Z h45 b45 "java/util/AbstractList" "modCount" "I" (.int (0 : Int32)) := D45 (Or.inl (hw _ (List.mem_of_getElem? (i := 23) rfl))) (ty := .int) (by decide)
      have F45_elementData : Fld Z h45 b45 "java/util/ArrayList" "elementData" "[Ljava/lang/Object;" .null := D45 (Or.inl (hw _ (List.mem_of_getElem? (i := 26) rfl))) (ty := (.array (.object "java/lang/Object"))) (by decide)
      have F45_size : Fld Z h45 b45 "java/util/ArrayList" "size" "I" (.int (0 : Int32)) := D45 (Or.inl (hw _ (List.mem_of_getElem? (i := 37) rfl))) (ty := .int) (by decide)
      show own_Rch p e below _ T45 (mkF m 25 #[.val (.int p0), .val (.int p1), .val (.int (4 : Int32)), .unset, .unset, .unset, .unset] [(.ref b45)])
      refine own_st (fun _ kt => XS.dup X45.here hx rfl (hb hby at_25) rfl rfl kt) ?_
      show own_Rch p e below _ T45 (mkF m 26 #[.val (.int p0), .val (.int p1), .val (.int (4 : Int32)), .unset, .unset, .unset, .unset] [(.ref b45), (.ref b45)])
      obtain ⟨_, _, ⟨T46, L46, k46, n46⟩, -, X46, ⟨Lc46, hQ46, l46, y46, z46⟩, st46⟩ := X45.specialBack hx (y := (⟨"java/util/ArrayList", "<init>", "()V"⟩ : MethodName)) rfl hown (mvT hZ (hw _ (List.mem_of_getElem? (i := 4) rfl))) (mvT hZ (hw _ (List.mem_of_getElem? (i := 5) rfl))) (mvT hZ (hw _ (List.mem_of_getElem? (i := 6) rfl))) (by decide) (backOf (W := 1) (own_alinit l Z a0 hw [] b45 w kw h45 n0 O0_x45 SW VW A45 F45_elementData F45_size F45_modCount ge45) hZ (hw _ (List.mem_of_getElem? (i := 6) rfl)) (hw _ (List.mem_of_getElem? (i := 3) rfl)) (by decide) (by decide)) (g := (mkF m 26 #[.val (.int p0), .val (.int p1), .val (.int (4 : Int32)), .unset, .unset, .unset, .unset] [(.ref b45), (.ref b45)])) rfl (by rw [hml]; rfl) (Steps.refl _) (a := b45) (argsL := []) (rest := [(.ref b45)]) (lenOf own_pd0 rfl) rfl (by show 2 * 0 + _ ≤ _; exact Nat.le_of_eq rfl) (hb hby at_26) (fun _ _ => ⟨rfl, e45, (by decide : 1 + 0 ≤ _), (by decide : 3 + 0 ≤ _)⟩)
      dsimp only [Pt.U, Pt.locs, Pt.cells, Pt.slots] at X46 l46 y46 z46 st46 hQ46
      subst l46 y46 z46
      obtain ⟨rfl, N46q, K46, Ea46, Fe46, Fz46, Fm46⟩ := hQ46
      have N46 := Fr.app N0 N46q
      refine own_st (fun _ kt => st46.trans kt) ?_
      have O0_x46 := O0_x45.keep K46 (allS ge45 all0)
      have A45_x46 := A45.keep K46
      show own_Rch p e below _ T46 (mkF m 29 #[.val (.int p0), .val (.int p1), .val (.int (4 : Int32)), .unset, .unset, .unset, .unset] [(.ref b45)])
      refine own_st (fun _ kt => XS.astoreN X46.here hx rfl (hb hby at_29) rfl rfl (l' := #[.val (.int p0), .val (.int p1), .val (.int (4 : Int32)), .val (.ref b45), .unset, .unset, .unset]) rfl kt) ?_
      show own_Rch p e below _ T46 (mkF m 30 #[.val (.int p0), .val (.int p1), .val (.int (4 : Int32)), .val (.ref b45), .unset, .unset, .unset] [])
      refine own_st (fun _ kt => XS.iloadN X46.here hx rfl (hb hby at_30) rfl  kt) ?_
      show own_Rch p e below _ T46 (mkF m 31 #[.val (.int p0), .val (.int p1), .val (.int (4 : Int32)), .val (.ref b45), .unset, .unset, .unset] [(.int (4 : Int32))])
      refine own_st (fun _ kt => XS.iconst X46.here hx rfl (hb hby at_31) kt) ?_
      show own_Rch p e below _ T46 (mkF m 32 #[.val (.int p0), .val (.int p1), .val (.int (4 : Int32)), .val (.ref b45), .unset, .unset, .unset] [(.int (2 : Int32)), (.int (4 : Int32))])
      refine own_st (fun _ kt => XS.icmpNo X46.here hx rfl (hb hby at_32) rfl (flt ((by decide) : ¬ ((4 : Int32) < (2 : Int32)))).1 kt) ?_
      show own_Rch p e below _ T46 (mkF m 35 #[.val (.int p0), .val (.int p1), .val (.int (4 : Int32)), .val (.ref b45), .unset, .unset, .unset] [])
      refine own_st (fun _ kt => XS.aloadN X46.here hx rfl (hb hby at_35) rfl rfl  kt) ?_
      show own_Rch p e below _ T46 (mkF m 36 #[.val (.int p0), .val (.int p1), .val (.int (4 : Int32)), .val (.ref b45), .unset, .unset, .unset] [(.ref b45)])
      obtain ⟨T47, X47, e47, st47⟩ := getS2 X46 hx hZ hown (host := "") (Or.inl (hw _ (List.mem_of_getElem? (i := 27) rfl))) Via.refl rfl (SZ.ext O0_x46.2) (g := (mkF m 36 #[.val (.int p0), .val (.int p1), .val (.int (4 : Int32)), .val (.ref b45), .unset, .unset, .unset] [(.ref b45)])) rfl (hb hby at_36)
      refine own_st st47 ?_
      show own_Rch p e below _ T47 (mkF m 39 #[.val (.int p0), .val (.int p1), .val (.int (4 : Int32)), .val (.ref b45), .unset, .unset, .unset] [(.ref zz), (.ref b45)])
      obtain ⟨cq48, kq48, q48a, q48b, q48c⟩ := isOf hZ e47 Ea46
      obtain ⟨_, _, ⟨T48, L48, k48, n48⟩, -, X48, ⟨Lc48, hQ48, l48, y48, z48⟩, st48⟩ := X47.virtualBack hx (y := (⟨"java/util/ArrayList", "add", "(Ljava/lang/Object;)Z"⟩ : MethodName)) (z := (⟨"java/util/ArrayList", "add", "(Ljava/lang/Object;)Z"⟩ : MethodName)) hown (mvT hZ (hw _ (List.mem_of_getElem? (i := 29) rfl))) (mvT hZ (hw _ (List.mem_of_getElem? (i := 30) rfl))) (notFace_of_selects (args := #[]) (mvT hZ (hw _ (List.mem_of_getElem? (i := 32) rfl)))) (mvT hZ (hw _ (List.mem_of_getElem? (i := 32) rfl))) (mvT hZ (hw _ (List.mem_of_getElem? (i := 31) rfl))) (by decide) (backOf (W := 0) (own_add0 l Z a0 hw [] b45 zz w kw T46.heap n0 O0_x46 SW VW Ea46 Fe46 Fz46 Fm46 ge45 EZ) hZ (hw _ (List.mem_of_getElem? (i := 33) rfl)) (hw _ (List.mem_of_getElem? (i := 3) rfl)) (by decide) (by decide)) q48a q48c (g := (mkF m 39 #[.val (.int p0), .val (.int p1), .val (.int (4 : Int32)), .val (.ref b45), .unset, .unset, .unset] [(.ref zz), (.ref b45)])) rfl (by rw [hml]; rfl) (Steps.refl _) (argsL := [(.ref zz)]) (rest := []) (lenOf own_pd16 rfl) rfl (by show 2 * 0 + _ ≤ _; exact Nat.le_of_eq rfl) (hb hby at_39) (fun _ _ => ⟨rfl, e47, (by decide : 1 + 1 ≤ _), (by decide : 3 + 10 ≤ _)⟩)
      dsimp only [Pt.U, Pt.locs, Pt.cells, Pt.slots] at X48 l48 y48 z48 st48 hQ48
      subst l48 y48 z48
      obtain ⟨bl48, kg48, rfl, N48q, K48, hb48, Ea48, Fe48, Fz48, Fm48, Eb48, Vb48, Ob48⟩ := hQ48
      have N48 := Fr.app N46 N48q
      refine own_st (fun _ kt => st48.trans kt) ?_
      have ne48_b45_bl48 : b45 ≠ bl48 := Nat.ne_of_lt (Nat.lt_of_lt_of_le Ea46.lt hb48)
      have ge48_bl48 : n0 ≤ bl48 := Nat.le_trans (own_old_le O0_x46) hb48
      have O0_x48 := O0_x46.keep K48 (allS ge45 all0)
      have Ea46_x48 := Ea46.keep K48
      show own_Rch p e below _ T48 (mkF m 42 #[.val (.int p0), .val (.int p1), .val (.int (4 : Int32)), .val (.ref b45), .unset, .unset, .unset] [(.int (1 : Int32))])
      refine own_st (fun _ kt => XS.pop X48.here hx rfl (hb hby at_42) rfl rfl kt) ?_
      show own_Rch p e below _ T48 (mkF m 43 #[.val (.int p0), .val (.int p1), .val (.int (4 : Int32)), .val (.ref b45), .unset, .unset, .unset] [])
      refine own_st (fun _ kt => XS.iloadN X48.here hx rfl (hb hby at_43) rfl  kt) ?_
      show own_Rch p e below _ T48 (mkF m 44 #[.val (.int p0), .val (.int p1), .val (.int (4 : Int32)), .val (.ref b45), .unset, .unset, .unset] [(.int (4 : Int32))])
      refine own_st (fun _ kt => XS.iconst X48.here hx rfl (hb hby at_44) kt) ?_
      show own_Rch p e below _ T48 (mkF m 45 #[.val (.int p0), .val (.int p1), .val (.int (4 : Int32)), .val (.ref b45), .unset, .unset, .unset] [(.int (3 : Int32)), (.int (4 : Int32))])
      refine own_st (fun _ kt => XS.icmpNo X48.here hx rfl (hb hby at_45) rfl (flt ((by decide) : ¬ ((4 : Int32) < (3 : Int32)))).1 kt) ?_
      show own_Rch p e below _ T48 (mkF m 48 #[.val (.int p0), .val (.int p1), .val (.int (4 : Int32)), .val (.ref b45), .unset, .unset, .unset] [])
      refine own_st (fun _ kt => XS.aloadN X48.here hx rfl (hb hby at_48) rfl rfl  kt) ?_
      show own_Rch p e below _ T48 (mkF m 49 #[.val (.int p0), .val (.int p1), .val (.int (4 : Int32)), .val (.ref b45), .unset, .unset, .unset] [(.ref b45)])
      obtain ⟨T49, X49, e49, st49⟩ := getS2 X48 hx hZ hown (host := "") (Or.inl (hw _ (List.mem_of_getElem? (i := 27) rfl))) Via.refl rfl (SZ.ext O0_x48.2) (g := (mkF m 49 #[.val (.int p0), .val (.int p1), .val (.int (4 : Int32)), .val (.ref b45), .unset, .unset, .unset] [(.ref b45)])) rfl (hb hby at_49)
      refine own_st st49 ?_
      show own_Rch p e below _ T49 (mkF m 52 #[.val (.int p0), .val (.int p1), .val (.int (4 : Int32)), .val (.ref b45), .unset, .unset, .unset] [(.ref zz), (.ref b45)])
      obtain ⟨cq50, kq50, q50a, q50b, q50c⟩ := isOf hZ e49 Ea48
      obtain ⟨_, _, ⟨T50, L50, k50, n50⟩, -, X50, ⟨Lc50, hQ50, l50, y50, z50⟩, st50⟩ := X49.virtualBack hx (y := (⟨"java/util/ArrayList", "add", "(Ljava/lang/Object;)Z"⟩ : MethodName)) (z := (⟨"java/util/ArrayList", "add", "(Ljava/lang/Object;)Z"⟩ : MethodName)) hown (mvT hZ (hw _ (List.mem_of_getElem? (i := 29) rfl))) (mvT hZ (hw _ (List.mem_of_getElem? (i := 30) rfl))) (notFace_of_selects (args := #[]) (mvT hZ (hw _ (List.mem_of_getElem? (i := 32) rfl)))) (mvT hZ (hw _ (List.mem_of_getElem? (i := 32) rfl))) (mvT hZ (hw _ (List.mem_of_getElem? (i := 31) rfl))) (by decide) (backOf (W := 0) (own_add1 l Z a0 hw [] b45 zz bl48 kg48 zz T48.heap n0 O0_x48 Ea48 Fe48 Fz48 Fm48 ge45 EZ Eb48 Vb48 Ob48 ge48_bl48 ne48_b45_bl48) hZ (hw _ (List.mem_of_getElem? (i := 33) rfl)) (hw _ (List.mem_of_getElem? (i := 3) rfl)) (by decide) (by decide)) q50a q50c (g := (mkF m 52 #[.val (.int p0), .val (.int p1), .val (.int (4 : Int32)), .val (.ref b45), .unset, .unset, .unset] [(.ref zz), (.ref b45)])) rfl (by rw [hml]; rfl) (Steps.refl _) (argsL := [(.ref zz)]) (rest := []) (lenOf own_pd16 rfl) rfl (by show 2 * 0 + _ ≤ _; exact Nat.le_of_eq rfl) (hb hby at_52) (fun _ _ => ⟨rfl, e49, (by decide : 2 + 0 ≤ _), (by decide : 13 + 0 ≤ _)⟩)
      dsimp only [Pt.U, Pt.locs, Pt.cells, Pt.slots] at X50 l50 y50 z50 st50 hQ50
      subst l50 y50 z50
      obtain ⟨rfl, N50q, K50, Ea50, Fe50, Fz50, Fm50, Eb50, Vb50⟩ := hQ50
      have N50 := Fr.app N48 N50q
      refine own_st (fun _ kt => st50.trans kt) ?_
      have O0_x50 := O0_x48.keep K50 (allS ge45 (allS ge48_bl48 all0))
      have Ea48_x50 := Ea48.keep K50
      have Eb48_x50 := Eb48.keep K50
      show own_Rch p e below _ T50 (mkF m 55 #[.val (.int p0), .val (.int p1), .val (.int (4 : Int32)), .val (.ref b45), .unset, .unset, .unset] [(.int (1 : Int32))])
      refine own_st (fun _ kt => XS.pop X50.here hx rfl (hb hby at_55) rfl rfl kt) ?_
      show own_Rch p e below _ T50 (mkF m 56 #[.val (.int p0), .val (.int p1), .val (.int (4 : Int32)), .val (.ref b45), .unset, .unset, .unset] [])
      refine own_st (fun _ kt => XS.iloadN X50.here hx rfl (hb hby at_56) rfl  kt) ?_
      show own_Rch p e below _ T50 (mkF m 57 #[.val (.int p0), .val (.int p1), .val (.int (4 : Int32)), .val (.ref b45), .unset, .unset, .unset] [(.int (4 : Int32))])
      refine own_st (fun _ kt => XS.iconst X50.here hx rfl (hb hby at_57) kt) ?_
      show own_Rch p e below _ T50 (mkF m 58 #[.val (.int p0), .val (.int p1), .val (.int (4 : Int32)), .val (.ref b45), .unset, .unset, .unset] [(.int (4 : Int32)), (.int (4 : Int32))])
      refine own_st (fun _ kt => XS.icmpNo X50.here hx rfl (hb hby at_58) rfl (flt ((by decide) : ¬ ((4 : Int32) < (4 : Int32)))).1 kt) ?_
      show own_Rch p e below _ T50 (mkF m 61 #[.val (.int p0), .val (.int p1), .val (.int (4 : Int32)), .val (.ref b45), .unset, .unset, .unset] [])
      refine own_st (fun _ kt => XS.aloadN X50.here hx rfl (hb hby at_61) rfl rfl  kt) ?_
      show own_Rch p e below _ T50 (mkF m 62 #[.val (.int p0), .val (.int p1), .val (.int (4 : Int32)), .val (.ref b45), .unset, .unset, .unset] [(.ref b45)])
      obtain ⟨T51, X51, e51, st51⟩ := getS2 X50 hx hZ hown (host := "") (Or.inl (hw _ (List.mem_of_getElem? (i := 27) rfl))) Via.refl rfl (SZ.ext O0_x50.2) (g := (mkF m 62 #[.val (.int p0), .val (.int p1), .val (.int (4 : Int32)), .val (.ref b45), .unset, .unset, .unset] [(.ref b45)])) rfl (hb hby at_62)
      refine own_st st51 ?_
      show own_Rch p e below _ T51 (mkF m 65 #[.val (.int p0), .val (.int p1), .val (.int (4 : Int32)), .val (.ref b45), .unset, .unset, .unset] [(.ref zz), (.ref b45)])
      obtain ⟨cq52, kq52, q52a, q52b, q52c⟩ := isOf hZ e51 Ea50
      obtain ⟨_, _, ⟨T52, L52, k52, n52⟩, -, X52, ⟨Lc52, hQ52, l52, y52, z52⟩, st52⟩ := X51.virtualBack hx (y := (⟨"java/util/ArrayList", "add", "(Ljava/lang/Object;)Z"⟩ : MethodName)) (z := (⟨"java/util/ArrayList", "add", "(Ljava/lang/Object;)Z"⟩ : MethodName)) hown (mvT hZ (hw _ (List.mem_of_getElem? (i := 29) rfl))) (mvT hZ (hw _ (List.mem_of_getElem? (i := 30) rfl))) (notFace_of_selects (args := #[]) (mvT hZ (hw _ (List.mem_of_getElem? (i := 32) rfl)))) (mvT hZ (hw _ (List.mem_of_getElem? (i := 32) rfl))) (mvT hZ (hw _ (List.mem_of_getElem? (i := 31) rfl))) (by decide) (backOf (W := 0) (own_add2 l Z a0 hw [] b45 zz bl48 kg48 zz zz T50.heap n0 O0_x50 Ea50 Fe50 Fz50 Fm50 ge45 EZ Eb50 Vb50 Ob48 ge48_bl48 ne48_b45_bl48) hZ (hw _ (List.mem_of_getElem? (i := 33) rfl)) (hw _ (List.mem_of_getElem? (i := 3) rfl)) (by decide) (by decide)) q52a q52c (g := (mkF m 65 #[.val (.int p0), .val (.int p1), .val (.int (4 : Int32)), .val (.ref b45), .unset, .unset, .unset] [(.ref zz), (.ref b45)])) rfl (by rw [hml]; rfl) (Steps.refl _) (argsL := [(.ref zz)]) (rest := []) (lenOf own_pd16 rfl) rfl (by show 2 * 0 + _ ≤ _; exact Nat.le_of_eq rfl) (hb hby at_65) (fun _ _ => ⟨rfl, e51, (by decide : 2 + 0 ≤ _), (by decide : 13 + 0 ≤ _)⟩)
      dsimp only [Pt.U, Pt.locs, Pt.cells, Pt.slots] at X52 l52 y52 z52 st52 hQ52
      subst l52 y52 z52
      obtain ⟨rfl, N52q, K52, Ea52, Fe52, Fz52, Fm52, Eb52, Vb52⟩ := hQ52
      have N52 := Fr.app N50 N52q
      refine own_st (fun _ kt => st52.trans kt) ?_
      have O0_x52 := O0_x50.keep K52 (allS ge45 (allS ge48_bl48 all0))
      have Ea50_x52 := Ea50.keep K52
      have Eb50_x52 := Eb50.keep K52
      show own_Rch p e below _ T52 (mkF m 68 #[.val (.int p0), .val (.int p1), .val (.int (4 : Int32)), .val (.ref b45), .unset, .unset, .unset] [(.int (1 : Int32))])
      refine own_st (fun _ kt => XS.pop X52.here hx rfl (hb hby at_68) rfl rfl kt) ?_
      show own_Rch p e below _ T52 (mkF m 69 #[.val (.int p0), .val (.int p1), .val (.int (4 : Int32)), .val (.ref b45), .unset, .unset, .unset] [])
      refine own_st (fun _ kt => XS.aloadN X52.here hx rfl (hb hby at_69) rfl rfl  kt) ?_
      show own_Rch p e below _ T52 (mkF m 70 #[.val (.int p0), .val (.int p1), .val (.int (4 : Int32)), .val (.ref b45), .unset, .unset, .unset] [(.ref b45)])
      obtain ⟨T53, X53, e53, st53⟩ := getS2 X52 hx hZ hown (host := "") (Or.inl (hw _ (List.mem_of_getElem? (i := 60) rfl))) Via.refl rfl (SO.ext O0_x52.2) (g := (mkF m 70 #[.val (.int p0), .val (.int p1), .val (.int (4 : Int32)), .val (.ref b45), .unset, .unset, .unset] [(.ref b45)])) rfl (hb hby at_70)
      refine own_st st53 ?_
      show own_Rch p e below _ T53 (mkF m 73 #[.val (.int p0), .val (.int p1), .val (.int (4 : Int32)), .val (.ref b45), .unset, .unset, .unset] [(.ref oo), (.ref b45)])
      obtain ⟨cq54, kq54, q54a, q54b, q54c⟩ := isOf hZ e53 Ea52
      obtain ⟨_, _, ⟨T54, L54, k54, n54⟩, -, X54, ⟨Lc54, hQ54, l54, y54, z54⟩, st54⟩ := X53.virtualBack hx (y := (⟨"java/util/ArrayList", "add", "(Ljava/lang/Object;)Z"⟩ : MethodName)) (z := (⟨"java/util/ArrayList", "add", "(Ljava/lang/Object;)Z"⟩ : MethodName)) hown (mvT hZ (hw _ (List.mem_of_getElem? (i := 29) rfl))) (mvT hZ (hw _ (List.mem_of_getElem? (i := 30) rfl))) (notFace_of_selects (args := #[]) (mvT hZ (hw _ (List.mem_of_getElem? (i := 32) rfl)))) (mvT hZ (hw _ (List.mem_of_getElem? (i := 32) rfl))) (mvT hZ (hw _ (List.mem_of_getElem? (i := 31) rfl))) (by decide) (backOf (W := 0) (own_add3 l Z a0 hw [] b45 oo bl48 kg48 zz zz zz T52.heap n0 O0_x52 Ea52 Fe52 Fz52 Fm52 ge45 EO Eb52 Vb52 Ob48 ge48_bl48 ne48_b45_bl48) hZ (hw _ (List.mem_of_getElem? (i := 33) rfl)) (hw _ (List.mem_of_getElem? (i := 3) rfl)) (by decide) (by decide)) q54a q54c (g := (mkF m 73 #[.val (.int p0), .val (.int p1), .val (.int (4 : Int32)), .val (.ref b45), .unset, .unset, .unset] [(.ref oo), (.ref b45)])) rfl (by rw [hml]; rfl) (Steps.refl _) (argsL := [(.ref oo)]) (rest := []) (lenOf own_pd16 rfl) rfl (by show 2 * 0 + _ ≤ _; exact Nat.le_of_eq rfl) (hb hby at_73) (fun _ _ => ⟨rfl, e53, (by decide : 2 + 0 ≤ _), (by decide : 13 + 0 ≤ _)⟩)
      dsimp only [Pt.U, Pt.locs, Pt.cells, Pt.slots] at X54 l54 y54 z54 st54 hQ54
      subst l54 y54 z54
      obtain ⟨rfl, N54q, K54, Ea54, Fe54, Fz54, Fm54, Eb54, Vb54⟩ := hQ54
      have N54 := Fr.app N52 N54q
      refine own_st (fun _ kt => st54.trans kt) ?_
      have O0_x54 := O0_x52.keep K54 (allS ge45 (allS ge48_bl48 all0))
      have Ea52_x54 := Ea52.keep K54
      have Eb52_x54 := Eb52.keep K54
      show own_Rch p e below _ T54 (mkF m 76 #[.val (.int p0), .val (.int p1), .val (.int (4 : Int32)), .val (.ref b45), .unset, .unset, .unset] [(.int (1 : Int32))])
      refine own_st (fun _ kt => XS.pop X54.here hx rfl (hb hby at_76) rfl rfl kt) ?_
      show own_Rch p e below _ T54 (mkF m 77 #[.val (.int p0), .val (.int p1), .val (.int (4 : Int32)), .val (.ref b45), .unset, .unset, .unset] [])
      obtain ⟨T55, h55, X55, e55, E55, A55, D55, U55, st55⟩ := newO X54 hx hZ hown (hw _ (List.mem_of_getElem? (i := 61) rfl)) (hw _ (List.mem_of_getElem? (i := 62) rfl)) (hw _ (List.mem_of_getElem? (i := 63) rfl)) rfl (g := (mkF m 77 #[.val (.int p0), .val (.int p1), .val (.int (4 : Int32)), .val (.ref b45), .unset, .unset, .unset] [])) rfl (hb hby at_77) (by decide) (by decide)
      obtain ⟨b55, g55⟩ : ∃ z, z = T54.heap.size := ⟨_, rfl⟩
      rw [← g55] at A55 D55 U55 st55
      have ge55 : n0 ≤ b55 := by rw [g55]; exact own_old_le O0_x54
      have ne55_b45 : b45 ≠ b55 := by rw [g55]; exact Nat.ne_of_lt Ea54.lt
      have ne55_bl48 : bl48 ≠ b55 := by rw [g55]; exact Nat.ne_of_lt Eb54.lt
      have O0_x55 := O0_x54.ext E55
      have Ea54_x55 := Ea54.ext E55
      have Eb54_x55 := Eb54.ext E55
      have Fe54_x55 := Fe54.ext E55
      have Fz54_x55 := Fz54.ext E55
      have Fm54_x55 := Fm54.ext E55
      have Vb54_x55 := Vb54.ext E55
      refine own_st st55 ?_
      have F55_source : Fld Z h55 b55 "com/example/makewhole/makewhole/mortality/MortalityTable" "source" "Ljava/lang/String;" .null := D55 (Or.inr (hw _ (List.mem_of_getElem? (i := 80) rfl))) (ty := (.object "java/lang/String")) (by decide)
      have F55_firstAge : Fld Z h55 b55 "com/example/makewhole/makewhole/mortality/MortalityTable" "firstAge" "I" (.int (0 : Int32)) := D55 (Or.inr (hw _ (List.mem_of_getElem? (i := 82) rfl))) (ty := .int) (by decide)
      have F55_qx : Fld Z h55 b55 "com/example/makewhole/makewhole/mortality/MortalityTable" "qx" "Ljava/util/List;" .null := D55 (Or.inr (hw _ (List.mem_of_getElem? (i := 172) rfl))) (ty := (.object "java/util/List")) (by decide)
      have F55_publishedName : Fld Z h55 b55 "com/example/makewhole/makewhole/mortality/MortalityTable" "publishedName" "Ljava/lang/String;" .null := D55 (Or.inr (hw _ (List.mem_of_getElem? (i := 174) rfl))) (ty := (.object "java/lang/String")) (by decide)
      have F55_publishedIdentity : Fld Z h55 b55 "com/example/makewhole/makewhole/mortality/MortalityTable" "publishedIdentity" "Ljava/lang/String;" .null := D55 (Or.inr (hw _ (List.mem_of_getElem? (i := 176) rfl))) (ty := (.object "java/lang/String")) (by decide)
      show own_Rch p e below _ T55 (mkF m 80 #[.val (.int p0), .val (.int p1), .val (.int (4 : Int32)), .val (.ref b45), .unset, .unset, .unset] [(.ref b55)])
      refine own_st (fun _ kt => XS.dup X55.here hx rfl (hb hby at_80) rfl rfl kt) ?_
      show own_Rch p e below _ T55 (mkF m 81 #[.val (.int p0), .val (.int p1), .val (.int (4 : Int32)), .val (.ref b45), .unset, .unset, .unset] [(.ref b55), (.ref b55)])
      have hS56 : s.Since s.vm 0 := own_since s
      have hk56 : 0 ≤ h55.size := Nat.zero_le _
      obtain ⟨sl57, T57, h57, ks57, X57, e57, E57, hS57, hk57, hZ57, hown57, st57⟩ := ldcS (s := s) X55 hx hZ hown (hw _ (List.mem_of_getElem? (i := 64) rfl)) (own_wS hw) e55 hS56 hk56 (g := (mkF m 81 #[.val (.int p0), .val (.int p1), .val (.int (4 : Int32)), .val (.ref b45), .unset, .unset, .unset] [(.ref b55), (.ref b55)])) rfl (hb hby at_81) (n := 20) (by decide) (by decide) (by decide) (by decide)
      have O0_x57 := O0_x55.ext E57
      have Ea54_x57 := Ea54_x55.ext E57
      have Eb54_x57 := Eb54_x55.ext E57
      have Fe54_x57 := Fe54_x55.ext E57
      have Fz54_x57 := Fz54_x55.ext E57
      have Fm54_x57 := Fm54_x55.ext E57
      have Vb54_x57 := Vb54_x55.ext E57
      have F55_source_x57 := F55_source.ext E57
      have F55_firstAge_x57 := F55_firstAge.ext E57
      have F55_qx_x57 := F55_qx.ext E57
      have F55_publishedName_x57 := F55_publishedName.ext E57
      have F55_publishedIdentity_x57 := F55_publishedIdentity.ext E57
      have A55_x57 := A55.ext E57
      refine own_st st57 ?_
      show own_Rch p e below _ T57 (mkF m 83 #[.val (.int p0), .val (.int p1), .val (.int (4 : Int32)), .val (.ref b45), .unset, .unset, .unset] [(.ref sl57), (.ref b55), (.ref b55)])
      refine own_st (fun _ kt => XS.iloadN X57.here hx rfl (hb hby at_83) rfl  kt) ?_
      show own_Rch p e below _ T57 (mkF m 84 #[.val (.int p0), .val (.int p1), .val (.int (4 : Int32)), .val (.ref b45), .unset, .unset, .unset] [(.int p0), (.ref sl57), (.ref b55), (.ref b55)])
      refine own_st (fun _ kt => XS.aloadN X57.here hx rfl (hb hby at_84) rfl rfl  kt) ?_
      show own_Rch p e below _ T57 (mkF m 85 #[.val (.int p0), .val (.int p1), .val (.int (4 : Int32)), .val (.ref b45), .unset, .unset, .unset] [(.ref b45), (.int p0), (.ref sl57), (.ref b55), (.ref b55)])
      obtain ⟨_, _, ⟨T58, L58, k58, n58⟩, -, X58, ⟨Lc58, hQ58, l58, y58, z58⟩, st58⟩ := X57.specialBack hx (y := (⟨"com/example/makewhole/makewhole/mortality/MortalityTable", "<init>", "(Ljava/lang/String;ILjava/util/List;)V"⟩ : MethodName)) rfl hown57 (mvT hZ57 (hw _ (List.mem_of_getElem? (i := 72) rfl))) (mvT hZ57 (hw _ (List.mem_of_getElem? (i := 73) rfl))) (mvT hZ57 (hw _ (List.mem_of_getElem? (i := 74) rfl))) (by decide) (backOf (W := 1) (own_mt3_4 l Z a0 hw [] b55 sl57 p0 b45 bl48 kg48 mr zz oo em h57 n0 O0_x57 Ea54_x57 Fe54_x57 Fz54_x57 Fm54_x57 Eb54_x57 Vb54_x57 EZ EO MR SE A55_x57 F55_source_x57 F55_firstAge_x57 F55_qx_x57 F55_publishedName_x57 F55_publishedIdentity_x57 ge55 ne55_b45 ne55_bl48) hZ57 (hw _ (List.mem_of_getElem? (i := 74) rfl)) (hw _ (List.mem_of_getElem? (i := 63) rfl)) (by decide) (by decide)) (g := (mkF m 85 #[.val (.int p0), .val (.int p1), .val (.int (4 : Int32)), .val (.ref b45), .unset, .unset, .unset] [(.ref b45), (.int p0), (.ref sl57), (.ref b55), (.ref b55)])) rfl (by rw [hml]; rfl) (Steps.refl _) (a := b55) (argsL := [(.ref sl57), (.int p0), (.ref b45)]) (rest := [(.ref b55)]) (lenOf own_pd17 rfl) rfl (by show 2 * 0 + _ ≤ _; exact Nat.le_of_eq rfl) (hb hby at_85) (fun _ _ => ⟨rfl, e57, (by decide : 5 + 3 ≤ _), (by decide : 42 + 10 ≤ _)⟩)
      dsimp only [Pt.U, Pt.locs, Pt.cells, Pt.slots] at X58 l58 y58 z58 st58 hQ58
      subst l58 y58 z58
      obtain ⟨rfl, N58q, K58, qm58, Ex58, Fa58, Fx58, hq58, rq58, kq58, hr58, Eq58, Fq58, Vq58⟩ := hQ58
      have N58 := Fr.app N54 N58q
      refine own_st (fun _ kt => st58.trans kt) ?_
      have ne58_b45_qm58 : b45 ≠ qm58 := Nat.ne_of_lt (Nat.lt_of_lt_of_le Ea54_x57.lt hq58)
      have ne58_bl48_qm58 : bl48 ≠ qm58 := Nat.ne_of_lt (Nat.lt_of_lt_of_le Eb54_x57.lt hq58)
      have ne58_b55_qm58 : b55 ≠ qm58 := Nat.ne_of_lt (Nat.lt_of_lt_of_le F55_source_x57.lt hq58)
      have ge58_qm58 : n0 ≤ qm58 := Nat.le_trans (own_old_le O0_x57) hq58
      have ne58_b45_rq58 : b45 ≠ rq58 := Nat.ne_of_lt (Nat.lt_of_lt_of_le Ea54_x57.lt hr58)
      have ne58_bl48_rq58 : bl48 ≠ rq58 := Nat.ne_of_lt (Nat.lt_of_lt_of_le Eb54_x57.lt hr58)
      have ne58_b55_rq58 : b55 ≠ rq58 := Nat.ne_of_lt (Nat.lt_of_lt_of_le F55_source_x57.lt hr58)
      have ge58_rq58 : n0 ≤ rq58 := Nat.le_trans (own_old_le O0_x57) hr58
      have hkk58 := Nat.le_trans hk57 K58.1
      have O0_x58 := O0_x57.keep K58 (allS ge55 all0)
      have Ea54_x58 := Ea54_x57.keep K58
      have Eb54_x58 := Eb54_x57.keep K58
      have Fe54_x58 := Fe54_x57.keep K58 (ninS ne55_b45 nin0)
      have Fz54_x58 := Fz54_x57.keep K58 (ninS ne55_b45 nin0)
      have Fm54_x58 := Fm54_x57.keep K58 (ninS ne55_b45 nin0)
      have Vb54_x58 := Vb54_x57.keep K58 (ninS ne55_bl48 nin0)
      have A55_x58 := A55_x57.keep K58
      show own_Rch p e below _ T58 (mkF m 88 #[.val (.int p0), .val (.int p1), .val (.int (4 : Int32)), .val (.ref b45), .unset, .unset, .unset] [(.ref b55)])
      refine own_st (fun _ kt => XS.astore X58.here hx rfl (hb hby at_88) rfl rfl (l' := #[.val (.int p0), .val (.int p1), .val (.int (4 : Int32)), .val (.ref b45), .val (.ref b55), .unset, .unset]) rfl kt) ?_
      show own_Rch p e below _ T58 (mkF m 90 #[.val (.int p0), .val (.int p1), .val (.int (4 : Int32)), .val (.ref b45), .val (.ref b55), .unset, .unset] [])
      refine own_st (fun _ kt => XS.iloadN X58.here hx rfl (hb hby at_90) rfl  kt) ?_
      show own_Rch p e below _ T58 (mkF m 91 #[.val (.int p0), .val (.int p1), .val (.int (4 : Int32)), .val (.ref b45), .val (.ref b55), .unset, .unset] [(.int p0)])
      refine own_st (fun _ kt => XS.i2l X58.here hx rfl (hb hby at_91) rfl kt) ?_
      show own_Rch p e below _ T58 (mkF m 92 #[.val (.int p0), .val (.int p1), .val (.int (4 : Int32)), .val (.ref b45), .val (.ref b55), .unset, .unset] [(.long (p0.toInt64))])
      refine own_st (fun _ kt => XS.iloadN X58.here hx rfl (hb hby at_92) rfl  kt) ?_
      show own_Rch p e below _ T58 (mkF m 93 #[.val (.int p0), .val (.int p1), .val (.int (4 : Int32)), .val (.ref b45), .val (.ref b55), .unset, .unset] [(.int (4 : Int32)), (.long (p0.toInt64))])
      refine own_st (fun _ kt => XS.i2l X58.here hx rfl (hb hby at_93) rfl kt) ?_
      show own_Rch p e below _ T58 (mkF m 94 #[.val (.int p0), .val (.int p1), .val (.int (4 : Int32)), .val (.ref b45), .val (.ref b55), .unset, .unset] [(.long (4 : Int64)), (.long (p0.toInt64))])
      refine own_st (fun _ kt => XS.ladd X58.here hx rfl (hb hby at_94) rfl kt) ?_
      show own_Rch p e below _ T58 (mkF m 95 #[.val (.int p0), .val (.int p1), .val (.int (4 : Int32)), .val (.ref b45), .val (.ref b55), .unset, .unset] [(.long ((p0.toInt64) + (4 : Int64)))])
      refine own_st (fun _ kt => XS.lconst X58.here hx rfl (hb hby at_95) kt) ?_
      show own_Rch p e below _ T58 (mkF m 96 #[.val (.int p0), .val (.int p1), .val (.int (4 : Int32)), .val (.ref b45), .val (.ref b55), .unset, .unset] [(.long (1 : Int64)), (.long ((p0.toInt64) + (4 : Int64)))])
      refine own_st (fun _ kt => XS.lsub X58.here hx rfl (hb hby at_96) rfl kt) ?_
      show own_Rch p e below _ T58 (mkF m 97 #[.val (.int p0), .val (.int p1), .val (.int (4 : Int32)), .val (.ref b45), .val (.ref b55), .unset, .unset] [(.long (((p0.toInt64) + (4 : Int64)) - (1 : Int64)))])
      refine own_st (fun _ kt => XS.lstore X58.here hx rfl (hb hby at_97) rfl (l' := #[.val (.int p0), .val (.int p1), .val (.int (4 : Int32)), .val (.ref b45), .val (.ref b55), .val (.long (((p0.toInt64) + (4 : Int64)) - (1 : Int64))), .second]) rfl kt) ?_
      show own_Rch p e below _ T58 (mkF m 99 #[.val (.int p0), .val (.int p1), .val (.int (4 : Int32)), .val (.ref b45), .val (.ref b55), .val (.long (((p0.toInt64) + (4 : Int64)) - (1 : Int64))), .second] [])
      refine own_st (fun _ kt => XS.aload X58.here hx rfl (hb hby at_99) rfl rfl  kt) ?_
      show own_Rch p e below _ T58 (mkF m 101 #[.val (.int p0), .val (.int p1), .val (.int (4 : Int32)), .val (.ref b45), .val (.ref b55), .val (.long (((p0.toInt64) + (4 : Int64)) - (1 : Int64))), .second] [(.ref b55)])
      obtain ⟨cq59, kq59, q59a, q59b, q59c⟩ := isOf hZ57 rfl Ex58
      obtain ⟨_, _, ⟨T59, L59, k59, n59⟩, -, X59, ⟨Lc59, hQ59, l59, y59, z59⟩, st59⟩ := X58.virtualBack hx (y := (⟨"com/example/makewhole/makewhole/mortality/MortalityTable", "getLastAge", "()I"⟩ : MethodName)) (z := (⟨"com/example/makewhole/makewhole/mortality/MortalityTable", "getLastAge", "()I"⟩ : MethodName)) hown57 (mvT hZ57 (hw _ (List.mem_of_getElem? (i := 177) rfl))) (mvT hZ57 (hw _ (List.mem_of_getElem? (i := 178) rfl))) (notFace_of_selects (args := #[]) (mvT hZ57 (hw _ (List.mem_of_getElem? (i := 180) rfl)))) (mvT hZ57 (hw _ (List.mem_of_getElem? (i := 180) rfl))) (mvT hZ57 (hw _ (List.mem_of_getElem? (i := 179) rfl))) (by decide) (backOf (W := 0) (own_last_4 l Z a0 hw [] b55 p0 qm58 rq58 kq58 zz oo T58.heap n0 O0_x58 Fa58 Fx58 Eq58 Fq58 Vq58) hZ57 (hw _ (List.mem_of_getElem? (i := 181) rfl)) (hw _ (List.mem_of_getElem? (i := 63) rfl)) (by decide) (by decide)) q59a q59c (g := (mkF m 101 #[.val (.int p0), .val (.int p1), .val (.int (4 : Int32)), .val (.ref b45), .val (.ref b55), .val (.long (((p0.toInt64) + (4 : Int64)) - (1 : Int64))), .second] [(.ref b55)])) rfl (by rw [hml]; rfl) (Steps.refl _) (argsL := []) (rest := []) (lenOf own_pd13 rfl) rfl (by show 2 * 0 + _ ≤ _; exact Nat.le_of_eq rfl) (hb hby at_101) (fun _ _ => ⟨rfl, rfl, (by decide : 8 + 0 ≤ _), (by decide : 52 + 0 ≤ _)⟩)
      dsimp only [Pt.U, Pt.locs, Pt.cells, Pt.slots] at X59 l59 y59 z59 st59 hQ59
      subst l59 y59 z59
      obtain ⟨rfl, N59q, hh59⟩ := hQ59
      have N59 := Fr.app N58 N59q
      refine own_st (fun _ kt => st59.trans kt) ?_
      show own_Rch p e below _ T59 (mkF m 104 #[.val (.int p0), .val (.int p1), .val (.int (4 : Int32)), .val (.ref b45), .val (.ref b55), .val (.long (((p0.toInt64) + (4 : Int64)) - (1 : Int64))), .second] [(.int ((p0 + (4 : Int32)) - (1 : Int32)))])
      refine own_st (fun _ kt => XS.i2l X59.here hx rfl (hb hby at_104) rfl kt) ?_
      show own_Rch p e below _ T59 (mkF m 105 #[.val (.int p0), .val (.int p1), .val (.int (4 : Int32)), .val (.ref b45), .val (.ref b55), .val (.long (((p0.toInt64) + (4 : Int64)) - (1 : Int64))), .second] [(.long (((p0 + (4 : Int32)) - (1 : Int32)).toInt64))])
      refine own_st (fun _ kt => XS.lload X59.here hx rfl (hb hby at_105) rfl  kt) ?_
      show own_Rch p e below _ T59 (mkF m 107 #[.val (.int p0), .val (.int p1), .val (.int (4 : Int32)), .val (.ref b45), .val (.ref b55), .val (.long (((p0.toInt64) + (4 : Int64)) - (1 : Int64))), .second] [(.long (((p0.toInt64) + (4 : Int64)) - (1 : Int64))), (.long (((p0 + (4 : Int32)) - (1 : Int32)).toInt64))])
      refine own_st (fun _ kt => XS.lcmp X59.here hx rfl (hb hby at_107) rfl kt) ?_
      show own_Rch p e below _ T59 (mkF m 108 #[.val (.int p0), .val (.int p1), .val (.int (4 : Int32)), .val (.ref b45), .val (.ref b55), .val (.long (((p0.toInt64) + (4 : Int64)) - (1 : Int64))), .second] [(.int (lcmpW (((p0 + (4 : Int32)) - (1 : Int32)).toInt64) (((p0.toInt64) + (4 : Int64)) - (1 : Int64))))])
      refine own_st (fun _ kt => XS.ifNo X59.here hx rfl (hb hby at_108) rfl ((if0 _ _).trans (teq (own_len (k := 4) (by decide) (by decide) (by decide) hc17_43 : (lcmpW (((p0 + (4 : Int32)) - (1 : Int32)).toInt64) (((p0.toInt64) + (4 : Int64)) - (1 : Int64))) = (0 : Int32))).2) kt) ?_
      show own_Rch p e below _ T59 (mkF m 111 #[.val (.int p0), .val (.int p1), .val (.int (4 : Int32)), .val (.ref b45), .val (.ref b55), .val (.long (((p0.toInt64) + (4 : Int64)) - (1 : Int64))), .second] [])
      refine own_st (fun _ kt => XS.aload X59.here hx rfl (hb hby at_111) rfl rfl  kt) ?_
      show own_Rch p e below _ T59 (mkF m 113 #[.val (.int p0), .val (.int p1), .val (.int (4 : Int32)), .val (.ref b45), .val (.ref b55), .val (.long (((p0.toInt64) + (4 : Int64)) - (1 : Int64))), .second] [(.ref b55)])
      obtain ⟨cq60, kq60, q60a, q60b, q60c⟩ := isOf hZ57 hh59 Ex58
      obtain ⟨_, _, ⟨T60, L60, k60, n60⟩, -, X60, ⟨Lc60, hQ60, l60, y60, z60⟩, st60⟩ := X59.virtualBack hx (y := (⟨"com/example/makewhole/makewhole/mortality/MortalityTable", "getFirstAge", "()I"⟩ : MethodName)) (z := (⟨"com/example/makewhole/makewhole/mortality/MortalityTable", "getFirstAge", "()I"⟩ : MethodName)) hown57 (mvT hZ57 (hw _ (List.mem_of_getElem? (i := 191) rfl))) (mvT hZ57 (hw _ (List.mem_of_getElem? (i := 192) rfl))) (notFace_of_selects (args := #[]) (mvT hZ57 (hw _ (List.mem_of_getElem? (i := 194) rfl)))) (mvT hZ57 (hw _ (List.mem_of_getElem? (i := 194) rfl))) (mvT hZ57 (hw _ (List.mem_of_getElem? (i := 193) rfl))) (by decide) (backOf (W := 0) (own_first l Z a0 hw [] b55 p0 T58.heap n0 O0_x58 Fa58) hZ57 (hw _ (List.mem_of_getElem? (i := 195) rfl)) (hw _ (List.mem_of_getElem? (i := 63) rfl)) (by decide) (by decide)) q60a q60c (g := (mkF m 113 #[.val (.int p0), .val (.int p1), .val (.int (4 : Int32)), .val (.ref b45), .val (.ref b55), .val (.long (((p0.toInt64) + (4 : Int64)) - (1 : Int64))), .second] [(.ref b55)])) rfl (by rw [hml]; rfl) (Steps.refl _) (argsL := []) (rest := []) (lenOf own_pd13 rfl) rfl (by show 2 * 0 + _ ≤ _; exact Nat.le_of_eq rfl) (hb hby at_113) (fun _ _ => ⟨rfl, hh59, (by decide : 8 + 0 ≤ _), (by decide : 52 + 0 ≤ _)⟩)
      dsimp only [Pt.U, Pt.locs, Pt.cells, Pt.slots] at X60 l60 y60 z60 st60 hQ60
      subst l60 y60 z60
      obtain ⟨rfl, N60q, hh60⟩ := hQ60
      have N60 := Fr.app N59 N60q
      refine own_st (fun _ kt => st60.trans kt) ?_
      show own_Rch p e below _ T60 (mkF m 116 #[.val (.int p0), .val (.int p1), .val (.int (4 : Int32)), .val (.ref b45), .val (.ref b55), .val (.long (((p0.toInt64) + (4 : Int64)) - (1 : Int64))), .second] [(.int p0)])
      refine own_st (fun _ kt => XS.iloadN X60.here hx rfl (hb hby at_116) rfl  kt) ?_
      show own_Rch p e below _ T60 (mkF m 117 #[.val (.int p0), .val (.int p1), .val (.int (4 : Int32)), .val (.ref b45), .val (.ref b55), .val (.long (((p0.toInt64) + (4 : Int64)) - (1 : Int64))), .second] [(.int p0), (.int p0)])
      refine own_st (fun _ kt => XS.icmpNo X60.here hx rfl (hb hby at_117) rfl (teq (rfl : p0 = p0)).2 kt) ?_
      show own_Rch p e below _ T60 (mkF m 120 #[.val (.int p0), .val (.int p1), .val (.int (4 : Int32)), .val (.ref b45), .val (.ref b55), .val (.long (((p0.toInt64) + (4 : Int64)) - (1 : Int64))), .second] [])
      refine own_st (fun _ kt => XS.iconst X60.here hx rfl (hb hby at_120) kt) ?_
      show own_Rch p e below _ T60 (mkF m 121 #[.val (.int p0), .val (.int p1), .val (.int (4 : Int32)), .val (.ref b45), .val (.ref b55), .val (.long (((p0.toInt64) + (4 : Int64)) - (1 : Int64))), .second] [(.int (1 : Int32))])
      refine own_st (fun _ kt => XS.goto X60.here hx rfl (pc0 := 121) (pc' := 125) rfl (hb hby at_121) (by decide) (by decide) kt) ?_
      show own_Rch p e below _ T60 (mkF m 125 #[.val (.int p0), .val (.int p1), .val (.int (4 : Int32)), .val (.ref b45), .val (.ref b55), .val (.long (((p0.toInt64) + (4 : Int64)) - (1 : Int64))), .second] [(.int (1 : Int32))])
      refine own_retNW (t := .boolean) (by simp) (s := s) hS57 (by rw [hh60]; exact hkk58) X60 hx Bd.notSynchronized Bd.returns (hb hby at_125) (by decide) (by decide) ?_
      rw [hh60]
      exact ⟨rfl, N60⟩
set_option maxRecDepth 65536 in
set_option maxHeartbeats 40000000 in
theorem own_comes {Post : Tables → Env → Array Value → State → Outcome → State → Prop} (hpost : ∀ tb e args s v u, (limb_1_1.after args s (.returned v) u = true ∧ limb_1_2.after args s (.returned v) u = true ∧ True) → ReturnedEndW s (.returned v) u (Jvm.fieldLocs frame_1_writes args s ++ Jvm.arrayLocs frame_1_arrays args s ++ Jvm.staticLocs frame_1_statics s) 24 1152 → Post tb e args s (.returned v) u) :
    ArmFor flags0 classFile x code maxLocals ret World_1 tables_1 room_1 Calls_1 rest_1 Pre_1 Post := by
  intro l hfl _ _ p e ha hc hk s m args below hf hA hF happ hP
  obtain ⟨hcalls, hrest, hpre⟩ := hP
  obtain ⟨-, -, -, hnamed, -, -, -, hat⟩ := (Spec.applies_iff hf).mp happ
  obtain ⟨hg, hn⟩ := and_e (Cond.before_iff.mp (show (Jvm.Cond.and given_1 narrow_1).before args s = true from hpre))
  obtain ⟨g0, g1⟩ := and_e hg
  obtain ⟨g2, g3⟩ := and_e g1
  obtain ⟨w0, w1, rfl⟩ : ∃ w0 w1 : Value, args = #[w0, w1] := by
    have hs : args.size = 2 := by simpa [Cond.value, given_1] using g0
    obtain ⟨L⟩ := args
    match L, hs with
    | [w0, w1], _ => exact ⟨w0, w1, rfl⟩
  have hw := fun d (hd : d ∈ tables_1) => atoms_spec (ws := Jvm.Cond.code x code maxLocals ret :: tables_1) hat d (List.mem_cons_of_mem _ hd)
  have hfit : Fit s := fun {y c} hc i hi => by
    obtain ⟨ha, rfl⟩ := Array.getElem?_eq_some_iff.mp hc
    have q := List.all_eq_true.mp ((Array.all_eq_true_iff_forall_mem.mp hF) _ (Array.getElem_mem ha)) i (List.mem_range.mpr hi)
    simpa [Array.getElem?_eq_getElem hi] using q
  obtain ⟨hsets, hown0⟩ := atoms_of _ (rest_1_c_eq ▸ (show rest_1_c.before _ s = true from hrest))
  have hr0 := Cond.before_iff.mp hown0
  obtain ⟨i0, ei0⟩ := is_v g2
  obtain rfl : w0 = (.int i0) := Option.some.inj ei0
  obtain ⟨i1, ei1⟩ := is_v g3
  obtain rfl : w1 = (.int i1) := Option.some.inj ei1
  obtain ⟨w, evw⟩ := exa_v (Cond.before_iff.mp (hsets _ (List.mem_of_getElem? (i := 7) rfl)))
  have SW := Sta.start evw (Or.inr ⟨(hw _ (List.mem_of_getElem? (i := 3) rfl)), (hsets _ (List.mem_of_getElem? (i := 2) rfl))⟩)
  obtain ⟨kw, VW⟩ := own_arr0 hfit evw (Cond.before_iff.mp (hsets _ (List.mem_of_getElem? (i := 6) rfl))) (Cond.before_iff.mp (hsets _ (List.mem_of_getElem? (i := 8) rfl)))
  obtain ⟨zz, evz⟩ := exa_v (Cond.before_iff.mp (hsets _ (List.mem_of_getElem? (i := 13) rfl)))
  have EZ := Exa.start evz (Cond.before_iff.mp (hsets _ (List.mem_of_getElem? (i := 13) rfl)))
  have SZ := Sta.start evz (Or.inl (hsets _ (List.mem_of_getElem? (i := 10) rfl)))
  obtain ⟨oo, evo⟩ := exa_v (Cond.before_iff.mp (hsets _ (List.mem_of_getElem? (i := 26) rfl)))
  have EO := Exa.start evo (Cond.before_iff.mp (hsets _ (List.mem_of_getElem? (i := 26) rfl)))
  have SO := Sta.start evo (Or.inl (hsets _ (List.mem_of_getElem? (i := 23) rfl)))
  obtain ⟨em, eve⟩ := exa_v (Cond.before_iff.mp (hsets _ (List.mem_of_getElem? (i := 38) rfl)))
  have EE := Exa.start eve (Cond.before_iff.mp (hsets _ (List.mem_of_getElem? (i := 38) rfl)))
  have SE := Sta.start eve (Or.inl (hsets _ (List.mem_of_getElem? (i := 37) rfl)))
  obtain ⟨⟨cm, km, mr, mr1, mr2, mr3⟩, -⟩ := hcalls
  have MR : own_Mir s "[Ljava/lang/Object;" mr := ⟨cm, km, mr1, mr2, mr3.1⟩
  obtain ⟨n, o, h1, h2, h3, _, L, rfl, ⟨rfl, N⟩, hq⟩ := own_rm0 l s _ hw tables_1 i0 i1 w kw zz oo em mr s.heap s.heap.size (Old.start s) SW VW EZ EO SZ SO SE EE MR p e ha hc hk s m _ below hf ((Spec.applies_iff_loose hf).mp happ).1 ⟨rfl, State.Warmed39.refl s, rfl⟩ trivial
  refine ⟨n, _, h1, h2, h3, hpost _ _ _ _ _ _ ⟨Cond.after_iff.mpr rfl, Cond.after_iff.mpr (eq_i res_at (Term.int_eval (1)) rfl), trivial⟩ ⟨hq.1, hq.2.1, hq.2.2.1, (hq.2.2.2.sift fun y hy => Or.inr (N y hy)).mono (by decide) (by decide)⟩⟩
theorem main_1_1 : Claimed_1_1 := own_comes fun _ _ _ _ _ _ h hF => ⟨h.1, hF⟩
theorem main_1_2 : Claimed_1_2 := own_comes fun _ _ _ _ _ _ h hF => ⟨h.2.1, hF⟩
end Jvm.Pilot.@@N@@
namespace Jvm.Pilot.@@N@@
open Jvm Jvm.ClassFile Sem Op Lib Jvm.Free Jvm.Stand Jvm.Pilot.@@N@@.Jvm.D
/-! MADE BY PROGRAM (witnessworld.py) out of the Statement's table words and the real class files: 35 classes; the members and pool entries that the words name. The judged class is class 1, her method 1. -/
namespace start1
open Jvm.ClassFile
def u (s : String) : CpInfo := .utf8 (stringToUtf16 s)
/-- a pool by its gaps: so many unusable entries, then the entry; so many at the end -/
def gap : Nat → List CpInfo → List CpInfo
  | 0, r => r
  | n + 1, r => .unusable :: gap n r
def poolList (es : List (Nat × CpInfo)) (last : Nat) : List CpInfo := es.foldr (fun e r => gap e.1 (e.2 :: r)) (gap last [])
def pool (es : List (Nat × CpInfo)) (last : Nat) : Array CpInfo := ⟨poolList es last⟩
def fileOf (pool : Array CpInfo) (this : Nat) (attrs : Array Attribute := #[]) (ms : Array MethodInfo := #[]) (fl : Nat := 33) (sup : Nat := 0) (ifs : Array Nat := #[]) (fds : Array FieldInfo := #[]) : ClassFile where
  minorVersion := 0
  majorVersion := 65
  constantPool := pool
  accessFlags := fl
  thisClass := this
  superClass := sup
  interfaces := ifs
  fields := fds
  methods := ms
  attributes := attrs
def plain (name : String) (sup : Option ClassId) : Class where
  name := name
  kind := .ordinary
  loader := none
  accessFlags := 33
  super := sup
  interfaces := #[]
  cf := none
  fields := #[]
  methods := #[]
  instanceTypes := #[]
  staticTypes := #[]
  resolved := #[]
  callSites := []
  init := .initialized
  statics := none
  mirror := none

def pool0 : Array CpInfo := pool [(5, u "<init>"), (0, u "()V"), (1, .class_ 10), (1, u "java/lang/Object"), (0, u "getClass"), (0, u "()Ljava/lang/Class;")] 111

def k0c0 : Code := { maxStack := 0, maxLocals := 1, code := object_method_1_code, exceptionTable := #[], attributes := #[] }
def k0m0 : Method := { name := "<init>", desc := "()V", sig := { parameters := [], returnType := none }, accessFlags := 1, code := some k0c0 }
def k0m1 : Method := { name := "getClass", desc := "()Ljava/lang/Class;", sig := { parameters := [], returnType := some (.object "java/lang/Class") }, accessFlags := 273, code := none }
/-- java/lang/Object -/
def k0 : Class := { plain "java/lang/Object" none with
  accessFlags := 33
  interfaces := #[]
  cf := some (fileOf pool0 8 #[] #[{ accessFlags := 1, nameIndex := 5, descriptorIndex := 6, attributes := #[] }, { accessFlags := 273, nameIndex := 11, descriptorIndex := 12, attributes := #[] }] 33 0 #[] #[])
  fields := #[]
  methods := #[k0m0, k0m1]
  instanceTypes := #[]
  staticTypes := #[]
  resolved := Array.replicate 124 none
  statics := none }

def pool1 : Array CpInfo := pool [(2, .class_ 4), (0, .nameAndType 5 6), (0, u "java/lang/Object"), (0, u "<init>"), (0, u "()V"), (2, .long 2147483647), (1, .class_ 12), (0, u "java/util/ArrayList"), (0, .methodref 11 3), (0, .fieldref 15 16), (0, .class_ 17), (0, .nameAndType 18 19), (0, u "java/math/BigDecimal"), (0, u "ZERO"), (0, u "Ljava/math/BigDecimal;"), (0, .methodref 11 21), (0, .nameAndType 22 23), (0, u "add"), (0, u "(Ljava/lang/Object;)Z"), (0, .fieldref 15 25), (0, .nameAndType 26 19), (0, u "ONE"), (0, .class_ 28), (0, u "com/example/makewhole/makewhole/mortality/MortalityTable"), (0, .string 30), (0, u "t.csv"), (0, .methodref 27 32), (0, .nameAndType 5 33), (0, u "(Ljava/lang/String;ILjava/util/List;)V"), (0, .methodref 27 35), (0, .nameAndType 36 37), (0, u "getLastAge"), (0, u "()I"), (0, .methodref 27 39), (0, .nameAndType 40 37), (0, u "getFirstAge"), (0, .class_ 42), (0, u "com/example/makewhole/makewhole/mortality/MortalityTableGetLastAgePinLaw"), (2, u "law"), (0, u "(II)Z")] 3

def k1m0 : Method := { name := "<init>", desc := "()V", sig := { parameters := [], returnType := none }, accessFlags := 1, code := none }
def k1c1 : Code := { maxStack := 5, maxLocals := 7, code := code, exceptionTable := #[], attributes := #[] }
def k1m1 : Method := { name := "law", desc := "(II)Z", sig := { parameters := [.int, .int], returnType := some .boolean }, accessFlags := 9, code := some k1c1 }
/-- com/example/makewhole/makewhole/mortality/MortalityTableGetLastAgePinLaw -/
def k1 : Class := { plain "com/example/makewhole/makewhole/mortality/MortalityTableGetLastAgePinLaw" (some 0) with
  accessFlags := 49
  interfaces := #[]
  cf := some (fileOf pool1 41 #[] #[{ accessFlags := 1, nameIndex := 5, descriptorIndex := 6, attributes := #[] }, { accessFlags := 9, nameIndex := 45, descriptorIndex := 46, attributes := #[] }] 49 2 #[] #[])
  fields := #[]
  methods := #[k1m0, k1m1]
  instanceTypes := #[]
  staticTypes := #[]
  resolved := Array.replicate 50 none
  statics := none }

def pool2 : Array CpInfo := pool [(8, .class_ 10), (1, u "java/lang/Iterable"), (24, .class_ 36), (0, u "java/lang/Object")] 25

/-- java/lang/Iterable -/
def k2 : Class := { plain "java/lang/Iterable" (some 0) with
  accessFlags := 1537
  interfaces := #[]
  cf := some (fileOf pool2 8 #[] #[] 1537 35 #[] #[])
  fields := #[]
  methods := #[]
  instanceTypes := #[]
  staticTypes := #[]
  resolved := Array.replicate 62 none
  statics := none }

def pool3 : Array CpInfo := pool [(10, .class_ 12), (1, u "java/util/Collection"), (0, u "toArray"), (16, u "()Z"), (29, .class_ 61), (0, u "java/lang/Object"), (0, .class_ 63), (0, u "java/lang/Iterable"), (2, u "isEmpty"), (3, u "()[Ljava/lang/Object;")] 44

def k3m0 : Method := { name := "isEmpty", desc := "()Z", sig := { parameters := [], returnType := some .boolean }, accessFlags := 1025, code := none }
def k3m1 : Method := { name := "toArray", desc := "()[Ljava/lang/Object;", sig := { parameters := [], returnType := some (.array (.object "java/lang/Object")) }, accessFlags := 1025, code := none }
/-- java/util/Collection -/
def k3 : Class := { plain "java/util/Collection" (some 0) with
  accessFlags := 1537
  interfaces := #[2]
  cf := some (fileOf pool3 10 #[] #[{ accessFlags := 1025, nameIndex := 66, descriptorIndex := 30, attributes := #[] }, { accessFlags := 1025, nameIndex := 13, descriptorIndex := 70, attributes := #[] }] 1537 60 #[62] #[])
  fields := #[]
  methods := #[k3m0, k3m1]
  instanceTypes := #[]
  staticTypes := #[]
  resolved := Array.replicate 115 none
  statics := none }

def pool4 : Array CpInfo := pool [(1, .methodref 2 3), (0, .class_ 4), (0, .nameAndType 5 6), (0, u "java/lang/Object"), (0, u "<init>"), (0, u "()V"), (1, .class_ 10), (1, u "java/util/AbstractCollection"), (66, .class_ 78), (0, u "java/util/Collection")] 81

def k4c0 : Code := { maxStack := 1, maxLocals := 1, code := jdk_22_method_1_code, exceptionTable := #[], attributes := #[] }
def k4m0 : Method := { name := "<init>", desc := "()V", sig := { parameters := [], returnType := none }, accessFlags := 4, code := some k4c0 }
/-- java/util/AbstractCollection -/
def k4 : Class := { plain "java/util/AbstractCollection" (some 0) with
  accessFlags := 1057
  interfaces := #[3]
  cf := some (fileOf pool4 8 #[] #[{ accessFlags := 4, nameIndex := 5, descriptorIndex := 6, attributes := #[] }] 1057 2 #[77] #[])
  fields := #[]
  methods := #[k4m0]
  instanceTypes := #[]
  staticTypes := #[]
  resolved := Array.replicate 160 none
  statics := none }

def pool5 : Array CpInfo := pool [(8, .class_ 10), (1, u "java/util/SequencedCollection"), (15, .class_ 27), (0, u "java/lang/Object"), (0, .class_ 29), (0, u "java/util/Collection")] 27

/-- java/util/SequencedCollection -/
def k5 : Class := { plain "java/util/SequencedCollection" (some 0) with
  accessFlags := 1537
  interfaces := #[3]
  cf := some (fileOf pool5 8 #[] #[] 1537 26 #[28] #[])
  fields := #[]
  methods := #[]
  instanceTypes := #[]
  staticTypes := #[]
  resolved := Array.replicate 57 none
  statics := none }

def pool6 : Array CpInfo := pool [(8, .class_ 10), (1, u "java/util/List"), (20, u "(Ljava/lang/Object;)V"), (16, u "<init>"), (30, u "size"), (0, u "()I"), (7, u "of"), (2, .class_ 93), (1, u "java/util/ImmutableCollections"), (2, .class_ 97), (0, u "java/util/ImmutableCollections$List12"), (0, .methodref 96 99), (0, .nameAndType 48 31), (0, .methodref 96 101), (0, .nameAndType 48 102), (0, u "(Ljava/lang/Object;Ljava/lang/Object;)V"), (0, .class_ 104), (0, u "java/lang/Object"), (3, u "([Ljava/lang/Object;)Ljava/util/List;"), (0, .methodref 91 110), (0, .nameAndType 111 108), (0, u "listFromArray"), (0, .methodref 91 113), (0, .nameAndType 114 115), (0, u "listCopy"), (0, u "(Ljava/util/Collection;)Ljava/util/List;"), (4, .class_ 121), (0, u "java/util/SequencedCollection"), (112, u "copyOf")] 16

def k6m0 : Method := { name := "size", desc := "()I", sig := { parameters := [], returnType := some .int }, accessFlags := 1025, code := none }
def k6c1 : Code := { maxStack := 5, maxLocals := 2, code := jdk_40_method_47_code, exceptionTable := #[], attributes := #[] }
def k6m1 : Method := { name := "of", desc := "([Ljava/lang/Object;)Ljava/util/List;", sig := { parameters := [(.array (.object "java/lang/Object"))], returnType := some (.object "java/util/List") }, accessFlags := 137, code := some k6c1 }
def k6c2 : Code := { maxStack := 1, maxLocals := 1, code := jdk_40_method_48_code, exceptionTable := #[], attributes := #[] }
def k6m2 : Method := { name := "copyOf", desc := "(Ljava/util/Collection;)Ljava/util/List;", sig := { parameters := [(.object "java/util/Collection")], returnType := some (.object "java/util/List") }, accessFlags := 9, code := some k6c2 }
/-- java/util/List -/
def k6 : Class := { plain "java/util/List" (some 0) with
  accessFlags := 1537
  interfaces := #[5]
  cf := some (fileOf pool6 8 #[] #[{ accessFlags := 1025, nameIndex := 79, descriptorIndex := 80, attributes := #[] }, { accessFlags := 137, nameIndex := 88, descriptorIndex := 108, attributes := #[] }, { accessFlags := 9, nameIndex := 234, descriptorIndex := 115, attributes := #[] }] 1537 103 #[120] #[])
  fields := #[]
  methods := #[k6m0, k6m1, k6m2]
  instanceTypes := #[]
  staticTypes := #[]
  resolved := Array.replicate 251 none
  statics := none }

def pool7 : Array CpInfo := pool [(1, .methodref 2 3), (0, .class_ 4), (0, .nameAndType 5 6), (0, u "java/util/AbstractCollection"), (0, u "<init>"), (0, u "()V"), (0, .fieldref 8 9), (0, .class_ 10), (0, .nameAndType 11 12), (0, u "java/util/AbstractList"), (0, u "modCount"), (0, u "I"), (64, .class_ 78), (0, u "java/util/AbstractList$Itr"), (3, .class_ 83), (0, u "java/util/AbstractList$ListItr"), (9, .class_ 94), (0, u "java/util/AbstractList$RandomAccessSubList"), (3, .class_ 99), (0, u "java/util/AbstractList$SubList"), (33, .class_ 134), (0, u "java/util/List"), (73, .class_ 209), (0, u "java/util/AbstractList$SubList$1"), (0, .class_ 211), (0, u "java/util/AbstractList$RandomAccessSpliterator")] 6

def k7c0 : Code := { maxStack := 2, maxLocals := 1, code := jdk_39_method_1_code, exceptionTable := #[], attributes := #[] }
def k7m0 : Method := { name := "<init>", desc := "()V", sig := { parameters := [], returnType := none }, accessFlags := 4, code := some k7c0 }
/-- java/util/AbstractList -/
def k7 : Class := { plain "java/util/AbstractList" (some 4) with
  accessFlags := 1057
  interfaces := #[6]
  cf := some (fileOf pool7 8 #[.nestMembers #[93, 98, 208, 210, 82, 77]] #[{ accessFlags := 4, nameIndex := 5, descriptorIndex := 6, attributes := #[] }] 1057 2 #[133] #[{ accessFlags := 132, nameIndex := 11, descriptorIndex := 12, attributes := #[] }])
  fields := #[{ name := "modCount", type := .int, accessFlags := 132, slot := 0, constantValue := 0 }]
  methods := #[k7m0]
  instanceTypes := #[.int]
  staticTypes := #[]
  resolved := Array.replicate 218 none
  statics := none }

def pool8 : Array CpInfo := pool [(1, .class_ 2), (0, u "java/util/RandomAccess"), (0, .class_ 4), (0, u "java/lang/Object")] 2

/-- java/util/RandomAccess -/
def k8 : Class := { plain "java/util/RandomAccess" (some 0) with
  accessFlags := 1537
  interfaces := #[]
  cf := some (fileOf pool8 1 #[] #[] 1537 3 #[] #[])
  fields := #[]
  methods := #[]
  instanceTypes := #[]
  staticTypes := #[]
  resolved := Array.replicate 7 none
  statics := none }

def pool9 : Array CpInfo := pool [(1, .class_ 2), (0, u "java/lang/Cloneable"), (0, .class_ 4), (0, u "java/lang/Object")] 2

/-- java/lang/Cloneable -/
def k9 : Class := { plain "java/lang/Cloneable" (some 0) with
  accessFlags := 1537
  interfaces := #[]
  cf := some (fileOf pool9 1 #[] #[] 1537 3 #[] #[])
  fields := #[]
  methods := #[]
  instanceTypes := #[]
  staticTypes := #[]
  resolved := Array.replicate 7 none
  statics := none }

def pool10 : Array CpInfo := pool [(1, .class_ 2), (0, u "java/io/Serializable"), (0, .class_ 4), (0, u "java/lang/Object")] 2

/-- java/io/Serializable -/
def k10 : Class := { plain "java/io/Serializable" (some 0) with
  accessFlags := 1537
  interfaces := #[]
  cf := some (fileOf pool10 1 #[] #[] 1537 3 #[] #[])
  fields := #[]
  methods := #[]
  instanceTypes := #[]
  staticTypes := #[]
  resolved := Array.replicate 7 none
  statics := none }

def pool11 : Array CpInfo := pool [(1, .methodref 2 3), (0, .class_ 4), (0, .nameAndType 5 6), (0, u "java/util/AbstractList"), (0, u "<init>"), (0, u "()V"), (0, .class_ 8), (0, u "java/lang/Object"), (0, .fieldref 10 11), (0, .class_ 12), (0, .nameAndType 13 14), (0, u "java/util/ArrayList"), (0, u "elementData"), (0, u "[Ljava/lang/Object;"), (2, u "EMPTY_ELEMENTDATA"), (21, .fieldref 10 40), (0, .nameAndType 41 14), (0, u "DEFAULTCAPACITY_EMPTY_ELEMENTDATA"), (4, u "toArray"), (0, u "()[Ljava/lang/Object;"), (0, .fieldref 10 49), (0, .nameAndType 50 51), (0, u "size"), (0, u "I"), (6, .class_ 60), (1, u "java/util/Arrays"), (0, u "copyOf"), (1, .fieldref 10 64), (0, .nameAndType 65 51), (0, u "modCount"), (0, .methodref 58 67), (0, .nameAndType 61 68), (0, u "([Ljava/lang/Object;I)[Ljava/lang/Object;"), (0, .methodref 10 70), (0, .nameAndType 71 72), (0, u "grow"), (0, u "(I)[Ljava/lang/Object;"), (6, .methodref 80 81), (0, .class_ 82), (0, .nameAndType 83 84), (0, u "java/lang/Math"), (0, u "max"), (0, u "(II)I"), (11, u "(Ljava/lang/Object;)Z"), (32, .methodref 10 130), (0, .nameAndType 71 47), (0, .methodref 10 132), (0, .nameAndType 133 134), (0, u "add"), (0, u "(Ljava/lang/Object;[Ljava/lang/Object;I)V"), (13, .class_ 149), (0, u "java/util/List"), (23, u "()Z"), (88, .class_ 263), (0, u "java/util/ArrayList$ListItr"), (3, .class_ 268), (0, u "java/util/ArrayList$Itr"), (7, .class_ 277), (0, u "java/util/ArrayList$SubList"), (12, .class_ 291), (0, u "java/util/ArrayList$ArrayListSpliterator"), (37, .class_ 330), (0, u "java/util/RandomAccess"), (0, .class_ 332), (0, u "java/lang/Cloneable"), (0, .class_ 334), (0, u "java/io/Serializable"), (0, u "serialVersionUID"), (0, u "J"), (3, u "DEFAULT_CAPACITY"), (22, u "isEmpty"), (136, .class_ 501), (0, u "java/util/ArrayList$SubList$2"), (0, .class_ 503), (0, u "java/util/ArrayList$SubList$1")] 5

def k11c0 : Code := { maxStack := 2, maxLocals := 1, code := jdk_38_method_2_code, exceptionTable := #[], attributes := #[] }
def k11m0 : Method := { name := "<init>", desc := "()V", sig := { parameters := [], returnType := none }, accessFlags := 1, code := some k11c0 }
def k11c1 : Code := { maxStack := 4, maxLocals := 4, code := jdk_38_method_6_code, exceptionTable := #[], attributes := #[] }
def k11m1 : Method := { name := "grow", desc := "(I)[Ljava/lang/Object;", sig := { parameters := [.int], returnType := some (.array (.object "java/lang/Object")) }, accessFlags := 2, code := some k11c1 }
def k11c2 : Code := { maxStack := 3, maxLocals := 1, code := jdk_38_method_7_code, exceptionTable := #[], attributes := #[] }
def k11m2 : Method := { name := "grow", desc := "()[Ljava/lang/Object;", sig := { parameters := [], returnType := some (.array (.object "java/lang/Object")) }, accessFlags := 2, code := some k11c2 }
def k11c3 : Code := { maxStack := 1, maxLocals := 1, code := jdk_38_method_9_code, exceptionTable := #[], attributes := #[] }
def k11m3 : Method := { name := "isEmpty", desc := "()Z", sig := { parameters := [], returnType := some .boolean }, accessFlags := 1, code := some k11c3 }
def k11c4 : Code := { maxStack := 2, maxLocals := 1, code := jdk_38_method_16_code, exceptionTable := #[], attributes := #[] }
def k11m4 : Method := { name := "toArray", desc := "()[Ljava/lang/Object;", sig := { parameters := [], returnType := some (.array (.object "java/lang/Object")) }, accessFlags := 1, code := some k11c4 }
def k11c5 : Code := { maxStack := 3, maxLocals := 4, code := jdk_38_method_24_code, exceptionTable := #[], attributes := #[] }
def k11m5 : Method := { name := "add", desc := "(Ljava/lang/Object;[Ljava/lang/Object;I)V", sig := { parameters := [(.object "java/lang/Object"), (.array (.object "java/lang/Object")), .int], returnType := none }, accessFlags := 2, code := some k11c5 }
def k11c6 : Code := { maxStack := 4, maxLocals := 2, code := jdk_38_method_25_code, exceptionTable := #[], attributes := #[] }
def k11m6 : Method := { name := "add", desc := "(Ljava/lang/Object;)Z", sig := { parameters := [(.object "java/lang/Object")], returnType := some .boolean }, accessFlags := 1, code := some k11c6 }
/-- java/util/ArrayList -/
def k11 : Class := { plain "java/util/ArrayList" (some 7) with
  accessFlags := 33
  interfaces := #[6, 8, 9, 10]
  cf := some (fileOf pool11 10 #[.nestMembers #[290, 276, 500, 502, 262, 267]] #[{ accessFlags := 1, nameIndex := 5, descriptorIndex := 6, attributes := #[] }, { accessFlags := 2, nameIndex := 71, descriptorIndex := 72, attributes := #[] }, { accessFlags := 2, nameIndex := 71, descriptorIndex := 47, attributes := #[] }, { accessFlags := 1, nameIndex := 363, descriptorIndex := 173, attributes := #[] }, { accessFlags := 1, nameIndex := 46, descriptorIndex := 47, attributes := #[] }, { accessFlags := 2, nameIndex := 133, descriptorIndex := 134, attributes := #[] }, { accessFlags := 1, nameIndex := 133, descriptorIndex := 96, attributes := #[] }] 33 2 #[148, 329, 331, 333] #[{ accessFlags := 26, nameIndex := 335, descriptorIndex := 336, attributes := #[] }, { accessFlags := 26, nameIndex := 340, descriptorIndex := 51, attributes := #[] }, { accessFlags := 26, nameIndex := 17, descriptorIndex := 14, attributes := #[] }, { accessFlags := 26, nameIndex := 41, descriptorIndex := 14, attributes := #[] }, { accessFlags := 128, nameIndex := 13, descriptorIndex := 14, attributes := #[] }, { accessFlags := 2, nameIndex := 50, descriptorIndex := 51, attributes := #[] }])
  fields := #[{ name := "serialVersionUID", type := .long, accessFlags := 26, slot := 0, constantValue := 0 }, { name := "DEFAULT_CAPACITY", type := .int, accessFlags := 26, slot := 1, constantValue := 0 }, { name := "EMPTY_ELEMENTDATA", type := (.array (.object "java/lang/Object")), accessFlags := 26, slot := 2, constantValue := 0 }, { name := "DEFAULTCAPACITY_EMPTY_ELEMENTDATA", type := (.array (.object "java/lang/Object")), accessFlags := 26, slot := 3, constantValue := 0 }, { name := "elementData", type := (.array (.object "java/lang/Object")), accessFlags := 128, slot := 1, constantValue := 0 }, { name := "size", type := .int, accessFlags := 2, slot := 2, constantValue := 0 }]
  methods := #[k11m0, k11m1, k11m2, k11m3, k11m4, k11m5, k11m6]
  instanceTypes := #[.int, (.array (.object "java/lang/Object")), .int]
  staticTypes := #[.long, .int, (.array (.object "java/lang/Object")), (.array (.object "java/lang/Object"))]
  resolved := Array.replicate 509 none
  statics := some 0 }

def pool12 : Array CpInfo := pool [(2, .class_ 4), (1, u "java/lang/Object"), (0, u "<init>"), (0, u "()V"), (1, .class_ 10), (1, u "java/lang/Number"), (2, .class_ 14), (0, u "java/io/Serializable"), (0, u "serialVersionUID"), (0, u "J")] 20

def k12m0 : Method := { name := "<init>", desc := "()V", sig := { parameters := [], returnType := none }, accessFlags := 1, code := none }
/-- java/lang/Number -/
def k12 : Class := { plain "java/lang/Number" (some 0) with
  accessFlags := 1057
  interfaces := #[10]
  cf := some (fileOf pool12 8 #[] #[{ accessFlags := 1, nameIndex := 5, descriptorIndex := 6, attributes := #[] }] 1057 2 #[13] #[{ accessFlags := 26, nameIndex := 15, descriptorIndex := 16, attributes := #[] }])
  fields := #[{ name := "serialVersionUID", type := .long, accessFlags := 26, slot := 0, constantValue := 0 }]
  methods := #[k12m0]
  instanceTypes := #[]
  staticTypes := #[.long]
  resolved := Array.replicate 37 none
  statics := none }

def pool13 : Array CpInfo := pool [(1, .class_ 2), (0, u "java/lang/Comparable"), (0, .class_ 4), (0, u "java/lang/Object")] 7

/-- java/lang/Comparable -/
def k13 : Class := { plain "java/lang/Comparable" (some 0) with
  accessFlags := 1537
  interfaces := #[]
  cf := some (fileOf pool13 1 #[] #[] 1537 3 #[] #[])
  fields := #[]
  methods := #[]
  instanceTypes := #[]
  staticTypes := #[]
  resolved := Array.replicate 12 none
  statics := none }

def pool14 : Array CpInfo := pool [(3, .class_ 4), (0, u "java/math/BigDecimal"), (7, .class_ 14), (1, u "java/lang/Number"), (4, u "scale"), (0, u "I"), (2, u "precision"), (2, u "intCompact"), (0, u "J"), (2, u "intVal"), (0, u "Ljava/math/BigInteger;"), (65, u "LONG_TEN_POWERS_TABLE"), (0, u "[J"), (88, u "ZERO"), (2, u "INFLATED_BIGINT"), (15, u "TWO"), (41, u "ZERO_THROUGH_TEN"), (0, u "[Ljava/math/BigDecimal;"), (2, u "ZERO_SCALED_BY"), (60, u "$assertionsDisabled"), (0, u "Z"), (163, u "ONE_TENTH"), (0, u "Ljava/math/BigDecimal;"), (5, u "TEN"), (14, .class_ 502), (1, u "java/math/BigDecimal$1"), (15, u "ONE_HALF"), (16, u "ONE"), (107, u "stringCache"), (0, u "Ljava/lang/String;"), (52, .class_ 699), (1, u "java/math/BigDecimal$LongOverflow"), (8, u "FLOAT_10_POW"), (0, u "[F"), (39, u "DOUBLE_10_POW"), (0, u "[D"), (19, .class_ 772), (1, u "java/math/BigDecimal$StringBuilderHelper"), (35, u "BIG_TEN_POWERS_TABLE_MAX"), (2, u "BIG_TEN_POWERS_TABLE"), (0, u "[Ljava/math/BigInteger;"), (14, u "THRESHOLDS_TABLE"), (23, .class_ 853), (1, u "java/math/BigDecimal$UnsafeHolder"), (214, u "LONGLONG_TEN_POWERS_TABLE"), (0, u "[[J"), (112, u "BIG_TEN_POWERS_TABLE_INITLEN"), (113, .class_ 1297), (0, u "java/lang/Comparable"), (0, u "L"), (0, u "D"), (1, u "P_F"), (1, u "Q_MIN_F"), (1, u "Q_MAX_F"), (1, u "P_D"), (1, u "Q_MIN_D"), (1, u "Q_MAX_D"), (1, u "INFLATED"), (0, u "MAX_COMPACT_DIGITS"), (1, u "serialVersionUID"), (2, u "HALF_LONG_MAX_VALUE"), (0, u "HALF_LONG_MIN_VALUE"), (0, u "ROUND_UP"), (6, u "ROUND_DOWN"), (1, u "ROUND_CEILING"), (1, u "ROUND_FLOOR"), (1, u "ROUND_HALF_UP"), (1, u "ROUND_HALF_DOWN"), (1, u "ROUND_HALF_EVEN"), (1, u "ROUND_UNNECESSARY"), (1, u "DIV_NUM_BASE")] 294

/-- java/math/BigDecimal -/
def k14 : Class := { plain "java/math/BigDecimal" (some 12) with
  accessFlags := 33
  interfaces := #[13]
  cf := some (fileOf pool14 3 #[.nestMembers #[500, 851, 770, 697]] #[] 33 12 #[1296] #[{ accessFlags := 26, nameIndex := 1298, descriptorIndex := 1299, attributes := #[] }, { accessFlags := 26, nameIndex := 1301, descriptorIndex := 20, attributes := #[] }, { accessFlags := 26, nameIndex := 1303, descriptorIndex := 20, attributes := #[] }, { accessFlags := 26, nameIndex := 1305, descriptorIndex := 20, attributes := #[] }, { accessFlags := 26, nameIndex := 1307, descriptorIndex := 20, attributes := #[] }, { accessFlags := 26, nameIndex := 1309, descriptorIndex := 20, attributes := #[] }, { accessFlags := 26, nameIndex := 1311, descriptorIndex := 20, attributes := #[] }, { accessFlags := 18, nameIndex := 30, descriptorIndex := 31, attributes := #[] }, { accessFlags := 18, nameIndex := 19, descriptorIndex := 20, attributes := #[] }, { accessFlags := 130, nameIndex := 23, descriptorIndex := 20, attributes := #[] }, { accessFlags := 130, nameIndex := 643, descriptorIndex := 644, attributes := #[] }, { accessFlags := 24, nameIndex := 1313, descriptorIndex := 27, attributes := #[] }, { accessFlags := 26, nameIndex := 190, descriptorIndex := 31, attributes := #[] }, { accessFlags := 146, nameIndex := 26, descriptorIndex := 27, attributes := #[] }, { accessFlags := 26, nameIndex := 1314, descriptorIndex := 20, attributes := #[] }, { accessFlags := 26, nameIndex := 1316, descriptorIndex := 27, attributes := #[] }, { accessFlags := 26, nameIndex := 248, descriptorIndex := 249, attributes := #[] }, { accessFlags := 26, nameIndex := 252, descriptorIndex := 249, attributes := #[] }, { accessFlags := 26, nameIndex := 1319, descriptorIndex := 27, attributes := #[] }, { accessFlags := 26, nameIndex := 1320, descriptorIndex := 27, attributes := #[] }, { accessFlags := 25, nameIndex := 187, descriptorIndex := 479, attributes := #[] }, { accessFlags := 25, nameIndex := 535, descriptorIndex := 479, attributes := #[] }, { accessFlags := 25, nameIndex := 206, descriptorIndex := 479, attributes := #[] }, { accessFlags := 25, nameIndex := 485, descriptorIndex := 479, attributes := #[] }, { accessFlags := 26, nameIndex := 478, descriptorIndex := 479, attributes := #[] }, { accessFlags := 26, nameIndex := 518, descriptorIndex := 479, attributes := #[] }, { accessFlags := 25, nameIndex := 1321, descriptorIndex := 20, attributes := #[] }, { accessFlags := 25, nameIndex := 1328, descriptorIndex := 20, attributes := #[] }, { accessFlags := 25, nameIndex := 1330, descriptorIndex := 20, attributes := #[] }, { accessFlags := 25, nameIndex := 1332, descriptorIndex := 20, attributes := #[] }, { accessFlags := 25, nameIndex := 1334, descriptorIndex := 20, attributes := #[] }, { accessFlags := 25, nameIndex := 1336, descriptorIndex := 20, attributes := #[] }, { accessFlags := 25, nameIndex := 1338, descriptorIndex := 20, attributes := #[] }, { accessFlags := 25, nameIndex := 1340, descriptorIndex := 20, attributes := #[] }, { accessFlags := 26, nameIndex := 749, descriptorIndex := 750, attributes := #[] }, { accessFlags := 26, nameIndex := 708, descriptorIndex := 709, attributes := #[] }, { accessFlags := 26, nameIndex := 97, descriptorIndex := 98, attributes := #[] }, { accessFlags := 74, nameIndex := 811, descriptorIndex := 812, attributes := #[] }, { accessFlags := 26, nameIndex := 1182, descriptorIndex := 20, attributes := #[] }, { accessFlags := 26, nameIndex := 808, descriptorIndex := 20, attributes := #[] }, { accessFlags := 26, nameIndex := 827, descriptorIndex := 98, attributes := #[] }, { accessFlags := 26, nameIndex := 1342, descriptorIndex := 27, attributes := #[] }, { accessFlags := 26, nameIndex := 1068, descriptorIndex := 1069, attributes := #[] }, { accessFlags := 4120, nameIndex := 313, descriptorIndex := 314, attributes := #[] }])
  fields := #[{ name := "L", type := .double, accessFlags := 26, slot := 0, constantValue := 0 }, { name := "P_F", type := .int, accessFlags := 26, slot := 1, constantValue := 0 }, { name := "Q_MIN_F", type := .int, accessFlags := 26, slot := 2, constantValue := 0 }, { name := "Q_MAX_F", type := .int, accessFlags := 26, slot := 3, constantValue := 0 }, { name := "P_D", type := .int, accessFlags := 26, slot := 4, constantValue := 0 }, { name := "Q_MIN_D", type := .int, accessFlags := 26, slot := 5, constantValue := 0 }, { name := "Q_MAX_D", type := .int, accessFlags := 26, slot := 6, constantValue := 0 }, { name := "intVal", type := (.object "java/math/BigInteger"), accessFlags := 18, slot := 0, constantValue := 0 }, { name := "scale", type := .int, accessFlags := 18, slot := 1, constantValue := 0 }, { name := "precision", type := .int, accessFlags := 130, slot := 2, constantValue := 0 }, { name := "stringCache", type := (.object "java/lang/String"), accessFlags := 130, slot := 3, constantValue := 0 }, { name := "INFLATED", type := .long, accessFlags := 24, slot := 7, constantValue := 0 }, { name := "INFLATED_BIGINT", type := (.object "java/math/BigInteger"), accessFlags := 26, slot := 8, constantValue := 0 }, { name := "intCompact", type := .long, accessFlags := 146, slot := 4, constantValue := 0 }, { name := "MAX_COMPACT_DIGITS", type := .int, accessFlags := 26, slot := 9, constantValue := 0 }, { name := "serialVersionUID", type := .long, accessFlags := 26, slot := 10, constantValue := 0 }, { name := "ZERO_THROUGH_TEN", type := (.array (.object "java/math/BigDecimal")), accessFlags := 26, slot := 11, constantValue := 0 }, { name := "ZERO_SCALED_BY", type := (.array (.object "java/math/BigDecimal")), accessFlags := 26, slot := 12, constantValue := 0 }, { name := "HALF_LONG_MAX_VALUE", type := .long, accessFlags := 26, slot := 13, constantValue := 0 }, { name := "HALF_LONG_MIN_VALUE", type := .long, accessFlags := 26, slot := 14, constantValue := 0 }, { name := "ZERO", type := (.object "java/math/BigDecimal"), accessFlags := 25, slot := 15, constantValue := 0 }, { name := "ONE", type := (.object "java/math/BigDecimal"), accessFlags := 25, slot := 16, constantValue := 0 }, { name := "TWO", type := (.object "java/math/BigDecimal"), accessFlags := 25, slot := 17, constantValue := 0 }, { name := "TEN", type := (.object "java/math/BigDecimal"), accessFlags := 25, slot := 18, constantValue := 0 }, { name := "ONE_TENTH", type := (.object "java/math/BigDecimal"), accessFlags := 26, slot := 19, constantValue := 0 }, { name := "ONE_HALF", type := (.object "java/math/BigDecimal"), accessFlags := 26, slot := 20, constantValue := 0 }, { name := "ROUND_UP", type := .int, accessFlags := 25, slot := 21, constantValue := 0 }, { name := "ROUND_DOWN", type := .int, accessFlags := 25, slot := 22, constantValue := 0 }, { name := "ROUND_CEILING", type := .int, accessFlags := 25, slot := 23, constantValue := 0 }, { name := "ROUND_FLOOR", type := .int, accessFlags := 25, slot := 24, constantValue := 0 }, { name := "ROUND_HALF_UP", type := .int, accessFlags := 25, slot := 25, constantValue := 0 }, { name := "ROUND_HALF_DOWN", type := .int, accessFlags := 25, slot := 26, constantValue := 0 }, { name := "ROUND_HALF_EVEN", type := .int, accessFlags := 25, slot := 27, constantValue := 0 }, { name := "ROUND_UNNECESSARY", type := .int, accessFlags := 25, slot := 28, constantValue := 0 }, { name := "DOUBLE_10_POW", type := (.array .double), accessFlags := 26, slot := 29, constantValue := 0 }, { name := "FLOAT_10_POW", type := (.array .float), accessFlags := 26, slot := 30, constantValue := 0 }, { name := "LONG_TEN_POWERS_TABLE", type := (.array .long), accessFlags := 26, slot := 31, constantValue := 0 }, { name := "BIG_TEN_POWERS_TABLE", type := (.array (.object "java/math/BigInteger")), accessFlags := 74, slot := 32, constantValue := 0 }, { name := "BIG_TEN_POWERS_TABLE_INITLEN", type := .int, accessFlags := 26, slot := 33, constantValue := 0 }, { name := "BIG_TEN_POWERS_TABLE_MAX", type := .int, accessFlags := 26, slot := 34, constantValue := 0 }, { name := "THRESHOLDS_TABLE", type := (.array .long), accessFlags := 26, slot := 35, constantValue := 0 }, { name := "DIV_NUM_BASE", type := .long, accessFlags := 26, slot := 36, constantValue := 0 }, { name := "LONGLONG_TEN_POWERS_TABLE", type := (.array (.array .long)), accessFlags := 26, slot := 37, constantValue := 0 }, { name := "$assertionsDisabled", type := .boolean, accessFlags := 4120, slot := 38, constantValue := 0 }]
  methods := #[]
  instanceTypes := #[(.object "java/math/BigInteger"), .int, .int, (.object "java/lang/String"), .long]
  staticTypes := #[.double, .int, .int, .int, .int, .int, .int, .long, (.object "java/math/BigInteger"), .int, .long, (.array (.object "java/math/BigDecimal")), (.array (.object "java/math/BigDecimal")), .long, .long, (.object "java/math/BigDecimal"), (.object "java/math/BigDecimal"), (.object "java/math/BigDecimal"), (.object "java/math/BigDecimal"), (.object "java/math/BigDecimal"), (.object "java/math/BigDecimal"), .int, .int, .int, .int, .int, .int, .int, .int, (.array .double), (.array .float), (.array .long), (.array (.object "java/math/BigInteger")), .int, .int, (.array .long), .long, (.array (.array .long)), .boolean]
  resolved := Array.replicate 1637 none
  statics := some 1 }

def pool15 : Array CpInfo := pool [(1, .class_ 2), (0, u "java/lang/Math"), (1, .class_ 6), (1, u "java/lang/Object"), (0, u "<init>"), (0, u "()V"), (89, .class_ 100), (1, u "java/lang/Math$RandomNumberGeneratorHolder"), (71, u "negativeZeroFloatBits"), (0, u "J"), (2, u "negativeZeroDoubleBits"), (21, u "max"), (2, u "min"), (43, u "$assertionsDisabled"), (0, u "Z"), (88, u "(II)I"), (2, u "twoToTheDoubleScaleDown"), (0, u "D"), (4, u "twoToTheDoubleScaleUp"), (9, u "E"), (3, u "PI"), (2, u "TAU"), (2, u "DEGREES_TO_RADIANS"), (0, u "RADIANS_TO_DEGREES")] 94

def k15m0 : Method := { name := "<init>", desc := "()V", sig := { parameters := [], returnType := none }, accessFlags := 2, code := none }
def k15c1 : Code := { maxStack := 2, maxLocals := 2, code := jdk_29_method_65_code, exceptionTable := #[], attributes := #[] }
def k15m1 : Method := { name := "max", desc := "(II)I", sig := { parameters := [.int, .int], returnType := some .int }, accessFlags := 9, code := some k15c1 }
def k15c2 : Code := { maxStack := 2, maxLocals := 2, code := jdk_29_method_69_code, exceptionTable := #[], attributes := #[] }
def k15m2 : Method := { name := "min", desc := "(II)I", sig := { parameters := [.int, .int], returnType := some .int }, accessFlags := 9, code := some k15c2 }
/-- java/lang/Math -/
def k15 : Class := { plain "java/lang/Math" (some 0) with
  accessFlags := 49
  interfaces := #[]
  cf := some (fileOf pool15 1 #[.nestMembers #[98]] #[{ accessFlags := 2, nameIndex := 7, descriptorIndex := 8, attributes := #[] }, { accessFlags := 9, nameIndex := 198, descriptorIndex := 335, attributes := #[] }, { accessFlags := 9, nameIndex := 201, descriptorIndex := 335, attributes := #[] }] 49 4 #[] #[{ accessFlags := 25, nameIndex := 354, descriptorIndex := 339, attributes := #[] }, { accessFlags := 25, nameIndex := 358, descriptorIndex := 339, attributes := #[] }, { accessFlags := 25, nameIndex := 361, descriptorIndex := 339, attributes := #[] }, { accessFlags := 26, nameIndex := 364, descriptorIndex := 339, attributes := #[] }, { accessFlags := 26, nameIndex := 365, descriptorIndex := 339, attributes := #[] }, { accessFlags := 26, nameIndex := 172, descriptorIndex := 173, attributes := #[] }, { accessFlags := 26, nameIndex := 176, descriptorIndex := 173, attributes := #[] }, { accessFlags := 8, nameIndex := 344, descriptorIndex := 339, attributes := #[] }, { accessFlags := 8, nameIndex := 338, descriptorIndex := 339, attributes := #[] }, { accessFlags := 4120, nameIndex := 245, descriptorIndex := 246, attributes := #[] }])
  fields := #[{ name := "E", type := .double, accessFlags := 25, slot := 0, constantValue := 0 }, { name := "PI", type := .double, accessFlags := 25, slot := 1, constantValue := 0 }, { name := "TAU", type := .double, accessFlags := 25, slot := 2, constantValue := 0 }, { name := "DEGREES_TO_RADIANS", type := .double, accessFlags := 26, slot := 3, constantValue := 0 }, { name := "RADIANS_TO_DEGREES", type := .double, accessFlags := 26, slot := 4, constantValue := 0 }, { name := "negativeZeroFloatBits", type := .long, accessFlags := 26, slot := 5, constantValue := 0 }, { name := "negativeZeroDoubleBits", type := .long, accessFlags := 26, slot := 6, constantValue := 0 }, { name := "twoToTheDoubleScaleUp", type := .double, accessFlags := 8, slot := 7, constantValue := 0 }, { name := "twoToTheDoubleScaleDown", type := .double, accessFlags := 8, slot := 8, constantValue := 0 }, { name := "$assertionsDisabled", type := .boolean, accessFlags := 4120, slot := 9, constantValue := 0 }]
  methods := #[k15m0, k15m1, k15m2]
  instanceTypes := #[]
  staticTypes := #[.double, .double, .double, .double, .double, .long, .long, .double, .double, .boolean]
  resolved := Array.replicate 460 none
  statics := none }

def pool16 : Array CpInfo := pool [(1, .methodref 2 3), (0, .class_ 4), (0, .nameAndType 5 6), (0, u "com/example/makewhole/makewhole/mortality/MortalityTable"), (0, u "<init>"), (0, u "(Ljava/lang/String;ILjava/util/List;Ljava/lang/String;Ljava/lang/String;)V"), (0, .methodref 8 9), (0, .class_ 10), (0, .nameAndType 5 11), (0, u "java/lang/Object"), (0, u "()V"), (0, .fieldref 2 13), (0, .nameAndType 14 15), (0, u "source"), (0, u "Ljava/lang/String;"), (0, .fieldref 2 17), (0, .nameAndType 18 19), (0, u "firstAge"), (0, u "I"), (0, .interfaceMethodref 21 22), (0, .class_ 23), (0, .nameAndType 24 25), (0, u "java/util/List"), (0, u "copyOf"), (0, u "(Ljava/util/Collection;)Ljava/util/List;"), (0, .fieldref 2 27), (0, .nameAndType 28 29), (0, u "qx"), (0, u "Ljava/util/List;"), (0, .fieldref 2 31), (0, .nameAndType 32 15), (0, u "publishedName"), (0, .fieldref 2 34), (0, .nameAndType 35 15), (0, u "publishedIdentity"), (14, .interfaceMethodref 21 51), (0, .nameAndType 52 53), (0, u "size"), (0, u "()I"), (2, u "getLastAge"), (21, u "(Ljava/lang/String;ILjava/util/List;)V"), (14, u "getFirstAge")] 4

def k16c0 : Code := { maxStack := 6, maxLocals := 4, code := prog_36_method_1_code, exceptionTable := #[], attributes := #[] }
def k16m0 : Method := { name := "<init>", desc := "(Ljava/lang/String;ILjava/util/List;)V", sig := { parameters := [(.object "java/lang/String"), .int, (.object "java/util/List")], returnType := none }, accessFlags := 0, code := some k16c0 }
def k16c1 : Code := { maxStack := 2, maxLocals := 6, code := prog_36_method_2_code, exceptionTable := #[], attributes := #[] }
def k16m1 : Method := { name := "<init>", desc := "(Ljava/lang/String;ILjava/util/List;Ljava/lang/String;Ljava/lang/String;)V", sig := { parameters := [(.object "java/lang/String"), .int, (.object "java/util/List"), (.object "java/lang/String"), (.object "java/lang/String")], returnType := none }, accessFlags := 2, code := some k16c1 }
def k16c2 : Code := { maxStack := 1, maxLocals := 1, code := prog_36_method_8_code, exceptionTable := #[], attributes := #[] }
def k16m2 : Method := { name := "getFirstAge", desc := "()I", sig := { parameters := [], returnType := some .int }, accessFlags := 1, code := some k16c2 }
def k16c3 : Code := { maxStack := 2, maxLocals := 1, code := prog_36_method_9_code, exceptionTable := #[], attributes := #[] }
def k16m3 : Method := { name := "getLastAge", desc := "()I", sig := { parameters := [], returnType := some .int }, accessFlags := 1, code := some k16c3 }
/-- com/example/makewhole/makewhole/mortality/MortalityTable -/
def k16 : Class := { plain "com/example/makewhole/makewhole/mortality/MortalityTable" (some 0) with
  accessFlags := 33
  interfaces := #[]
  cf := some (fileOf pool16 2 #[] #[{ accessFlags := 0, nameIndex := 5, descriptorIndex := 78, attributes := #[] }, { accessFlags := 2, nameIndex := 5, descriptorIndex := 6, attributes := #[] }, { accessFlags := 1, nameIndex := 93, descriptorIndex := 53, attributes := #[] }, { accessFlags := 1, nameIndex := 56, descriptorIndex := 53, attributes := #[] }] 33 8 #[] #[{ accessFlags := 18, nameIndex := 14, descriptorIndex := 15, attributes := #[] }, { accessFlags := 18, nameIndex := 18, descriptorIndex := 19, attributes := #[] }, { accessFlags := 18, nameIndex := 28, descriptorIndex := 29, attributes := #[] }, { accessFlags := 18, nameIndex := 32, descriptorIndex := 15, attributes := #[] }, { accessFlags := 18, nameIndex := 35, descriptorIndex := 15, attributes := #[] }])
  fields := #[{ name := "source", type := (.object "java/lang/String"), accessFlags := 18, slot := 0, constantValue := 0 }, { name := "firstAge", type := .int, accessFlags := 18, slot := 1, constantValue := 0 }, { name := "qx", type := (.object "java/util/List"), accessFlags := 18, slot := 2, constantValue := 0 }, { name := "publishedName", type := (.object "java/lang/String"), accessFlags := 18, slot := 3, constantValue := 0 }, { name := "publishedIdentity", type := (.object "java/lang/String"), accessFlags := 18, slot := 4, constantValue := 0 }]
  methods := #[k16m0, k16m1, k16m2, k16m3]
  instanceTypes := #[(.object "java/lang/String"), .int, (.object "java/util/List"), (.object "java/lang/String"), (.object "java/lang/String")]
  staticTypes := #[]
  resolved := Array.replicate 98 none
  statics := none }

def pool17 : Array CpInfo := pool [(2, .class_ 4), (1, u "java/lang/CharSequence"), (42, .class_ 48), (0, u "java/lang/CharSequence$1CodePointIterator"), (10, .class_ 60), (0, u "java/lang/CharSequence$1CharIterator"), (5, .class_ 67), (0, u "java/lang/Object")] 63

/-- java/lang/CharSequence -/
def k17 : Class := { plain "java/lang/CharSequence" (some 0) with
  accessFlags := 1537
  interfaces := #[]
  cf := some (fileOf pool17 2 #[.nestMembers #[47, 59]] #[] 1537 66 #[] #[])
  fields := #[]
  methods := #[]
  instanceTypes := #[]
  staticTypes := #[]
  resolved := Array.replicate 131 none
  statics := none }

def pool18 : Array CpInfo := pool [(1, .class_ 2), (0, u "java/lang/constant/Constable"), (0, .class_ 4), (0, u "java/lang/Object")] 6

/-- java/lang/constant/Constable -/
def k18 : Class := { plain "java/lang/constant/Constable" (some 0) with
  accessFlags := 1537
  interfaces := #[]
  cf := some (fileOf pool18 1 #[] #[] 1537 3 #[] #[])
  fields := #[]
  methods := #[]
  instanceTypes := #[]
  staticTypes := #[]
  resolved := Array.replicate 11 none
  statics := none }

def pool19 : Array CpInfo := pool [(1, .class_ 2), (0, u "java/lang/constant/ConstantDesc"), (0, .class_ 4), (0, u "java/lang/Object")] 32

/-- java/lang/constant/ConstantDesc -/
def k19 : Class := { plain "java/lang/constant/ConstantDesc" (some 0) with
  accessFlags := 1537
  interfaces := #[]
  cf := some (fileOf pool19 1 #[] #[] 1537 3 #[] #[])
  fields := #[]
  methods := #[]
  instanceTypes := #[]
  staticTypes := #[]
  resolved := Array.replicate 37 none
  statics := none }

def pool20 : Array CpInfo := pool [(2, .class_ 4), (1, u "java/lang/Object"), (0, u "<init>"), (0, u "()V"), (3, .class_ 12), (1, u "java/lang/String"), (0, u "value"), (0, u "[B"), (2, u "coder"), (0, u "B"), (2, u "hash"), (0, u "I"), (2, u "hashIsZero"), (0, u "Z"), (13, u "COMPACT_STRINGS"), (534, .class_ 576), (0, u "java/lang/CharSequence"), (22, u "CASE_INSENSITIVE_ORDER"), (0, u "Ljava/util/Comparator;"), (500, u "serialPersistentFields"), (0, u "[Ljava/io/ObjectStreamField;"), (0, .class_ 1104), (0, u "java/lang/String$CaseInsensitiveComparator"), (1, .class_ 1107), (0, u "java/io/Serializable"), (0, .class_ 1109), (0, u "java/lang/Comparable"), (0, .class_ 1111), (0, u "java/lang/constant/Constable"), (0, .class_ 1113), (0, u "java/lang/constant/ConstantDesc"), (2, u "serialVersionUID"), (0, u "J"), (3, u "REPL"), (0, u "C"), (2, u "LATIN1"), (1, u "UTF16")] 323

def k20m0 : Method := { name := "<init>", desc := "()V", sig := { parameters := [], returnType := none }, accessFlags := 1, code := none }
/-- java/lang/String -/
def k20 : Class := { plain "java/lang/String" (some 0) with
  accessFlags := 49
  interfaces := #[10, 13, 17, 18, 19]
  cf := some (fileOf pool20 10 #[.nestMembers #[1103]] #[{ accessFlags := 1, nameIndex := 5, descriptorIndex := 6, attributes := #[] }] 49 2 #[1106, 1108, 575, 1110, 1112] #[{ accessFlags := 18, nameIndex := 13, descriptorIndex := 14, attributes := #[] }, { accessFlags := 18, nameIndex := 17, descriptorIndex := 18, attributes := #[] }, { accessFlags := 2, nameIndex := 21, descriptorIndex := 22, attributes := #[] }, { accessFlags := 2, nameIndex := 25, descriptorIndex := 26, attributes := #[] }, { accessFlags := 26, nameIndex := 1116, descriptorIndex := 1117, attributes := #[] }, { accessFlags := 24, nameIndex := 40, descriptorIndex := 26, attributes := #[] }, { accessFlags := 26, nameIndex := 1101, descriptorIndex := 1102, attributes := #[] }, { accessFlags := 26, nameIndex := 1121, descriptorIndex := 1122, attributes := #[] }, { accessFlags := 25, nameIndex := 599, descriptorIndex := 600, attributes := #[] }, { accessFlags := 24, nameIndex := 1125, descriptorIndex := 18, attributes := #[] }, { accessFlags := 24, nameIndex := 1127, descriptorIndex := 18, attributes := #[] }])
  fields := #[{ name := "value", type := (.array .byte), accessFlags := 18, slot := 0, constantValue := 0 }, { name := "coder", type := .byte, accessFlags := 18, slot := 1, constantValue := 0 }, { name := "hash", type := .int, accessFlags := 2, slot := 2, constantValue := 0 }, { name := "hashIsZero", type := .boolean, accessFlags := 2, slot := 3, constantValue := 0 }, { name := "serialVersionUID", type := .long, accessFlags := 26, slot := 0, constantValue := 0 }, { name := "COMPACT_STRINGS", type := .boolean, accessFlags := 24, slot := 1, constantValue := 0 }, { name := "serialPersistentFields", type := (.array (.object "java/io/ObjectStreamField")), accessFlags := 26, slot := 2, constantValue := 0 }, { name := "REPL", type := .char, accessFlags := 26, slot := 3, constantValue := 0 }, { name := "CASE_INSENSITIVE_ORDER", type := (.object "java/util/Comparator"), accessFlags := 25, slot := 4, constantValue := 0 }, { name := "LATIN1", type := .byte, accessFlags := 24, slot := 5, constantValue := 0 }, { name := "UTF16", type := .byte, accessFlags := 24, slot := 6, constantValue := 0 }]
  methods := #[k20m0]
  instanceTypes := #[(.array .byte), .byte, .int, .boolean]
  staticTypes := #[.long, .boolean, (.array (.object "java/io/ObjectStreamField")), .char, (.object "java/util/Comparator"), .byte, .byte]
  resolved := Array.replicate 1451 none
  statics := none }

def pool21 : Array CpInfo := pool [(2, .class_ 4), (1, u "java/lang/Object"), (0, u "<init>"), (0, u "()V"), (3, .class_ 11), (0, u "java/util/ImmutableCollections$List12"), (0, .class_ 13), (0, u "java/util/ImmutableCollections$ListN"), (3, u "Z"), (0, .class_ 19), (0, u "java/util/List"), (0, .interfaceMethodref 21 22), (0, .class_ 23), (0, .nameAndType 24 25), (0, u "java/util/Collection"), (0, u "isEmpty"), (0, u "()Z"), (2, u "of"), (1, .interfaceMethodref 21 31), (0, .nameAndType 32 33), (0, u "toArray"), (0, u "()[Ljava/lang/Object;"), (0, .interfaceMethodref 18 35), (0, .nameAndType 28 36), (0, u "([Ljava/lang/Object;)Ljava/util/List;"), (0, .methodref 38 39), (0, .class_ 40), (0, .nameAndType 41 42), (0, u "java/util/Objects"), (0, u "requireNonNull"), (0, u "(Ljava/lang/Object;)Ljava/lang/Object;"), (0, .methodref 12 44), (0, .nameAndType 5 45), (0, u "([Ljava/lang/Object;Z)V"), (1, .class_ 49), (1, u "java/util/ImmutableCollections"), (0, u "$assertionsDisabled"), (5, u "[Ljava/lang/Object;"), (5, u "EMPTY_LIST"), (0, u "Ljava/util/ImmutableCollections$ListN;"), (8, u "EMPTY_LIST_NULLS"), (22, u "SALT32L"), (0, u "J"), (2, u "REVERSE"), (6, u "archivedObjects"), (2, u "EMPTY"), (0, u "Ljava/lang/Object;"), (0, .class_ 112), (0, u "java/util/ImmutableCollections$SetN"), (5, u "EMPTY_SET"), (0, u "Ljava/util/ImmutableCollections$SetN;"), (0, .class_ 121), (0, u "java/util/ImmutableCollections$MapN"), (3, u "EMPTY_MAP"), (0, u "Ljava/util/ImmutableCollections$MapN;"), (4, u "EXPAND_FACTOR"), (0, u "I"), (9, u "listCopy"), (0, u "(Ljava/util/Collection;)Ljava/util/List;"), (7, u "listFromArray"), (17, .class_ 170), (0, u "java/util/ImmutableCollections$MapN$MapNIterator"), (0, .class_ 172), (0, u "java/util/ImmutableCollections$MapN$1"), (0, .class_ 174), (0, u "java/util/ImmutableCollections$Map1"), (0, .class_ 176), (0, u "java/util/ImmutableCollections$AbstractImmutableMap"), (0, .class_ 178), (0, u "java/util/ImmutableCollections$SetN$SetNIterator"), (0, .class_ 180), (0, u "java/util/ImmutableCollections$Set12"), (0, .class_ 182), (0, u "java/util/ImmutableCollections$Set12$1"), (0, .class_ 184), (0, u "java/util/ImmutableCollections$AbstractImmutableSet"), (0, .class_ 186), (0, u "java/util/ImmutableCollections$SubList"), (0, .class_ 188), (0, u "java/util/ImmutableCollections$ListItr"), (0, .class_ 190), (0, u "java/util/ImmutableCollections$AbstractImmutableList"), (0, .class_ 192), (0, u "java/util/ImmutableCollections$AbstractImmutableCollection"), (0, .class_ 194), (0, u "java/util/ImmutableCollections$Access"), (0, .class_ 196), (0, u "java/util/ImmutableCollections$Access$1")] 16

def k21m0 : Method := { name := "<init>", desc := "()V", sig := { parameters := [], returnType := none }, accessFlags := 2, code := none }
def k21c1 : Code := { maxStack := 1, maxLocals := 2, code := jdk_56_method_3_code, exceptionTable := #[], attributes := #[] }
def k21m1 : Method := { name := "listCopy", desc := "(Ljava/util/Collection;)Ljava/util/List;", sig := { parameters := [(.object "java/util/Collection")], returnType := some (.object "java/util/List") }, accessFlags := 8, code := some k21c1 }
def k21c2 : Code := { maxStack := 4, maxLocals := 3, code := jdk_56_method_4_code, exceptionTable := #[], attributes := #[] }
def k21m2 : Method := { name := "listFromArray", desc := "([Ljava/lang/Object;)Ljava/util/List;", sig := { parameters := [(.array (.object "java/lang/Object"))], returnType := some (.object "java/util/List") }, accessFlags := 136, code := some k21c2 }
/-- java/util/ImmutableCollections -/
def k21 : Class := { plain "java/util/ImmutableCollections" (some 0) with
  accessFlags := 32
  interfaces := #[]
  cf := some (fileOf pool21 47 #[.nestMembers #[120, 169, 171, 173, 175, 111, 177, 179, 181, 183, 12, 10, 185, 187, 189, 191, 193, 195]] #[{ accessFlags := 2, nameIndex := 5, descriptorIndex := 6, attributes := #[] }, { accessFlags := 8, nameIndex := 142, descriptorIndex := 143, attributes := #[] }, { accessFlags := 136, nameIndex := 151, descriptorIndex := 36, attributes := #[] }] 32 2 #[] #[{ accessFlags := 26, nameIndex := 95, descriptorIndex := 96, attributes := #[] }, { accessFlags := 26, nameIndex := 99, descriptorIndex := 17, attributes := #[] }, { accessFlags := 10, nameIndex := 106, descriptorIndex := 56, attributes := #[] }, { accessFlags := 26, nameIndex := 109, descriptorIndex := 110, attributes := #[] }, { accessFlags := 24, nameIndex := 62, descriptorIndex := 63, attributes := #[] }, { accessFlags := 24, nameIndex := 72, descriptorIndex := 63, attributes := #[] }, { accessFlags := 24, nameIndex := 118, descriptorIndex := 119, attributes := #[] }, { accessFlags := 24, nameIndex := 125, descriptorIndex := 126, attributes := #[] }, { accessFlags := 24, nameIndex := 131, descriptorIndex := 132, attributes := #[] }, { accessFlags := 4120, nameIndex := 50, descriptorIndex := 17, attributes := #[] }])
  fields := #[{ name := "SALT32L", type := .long, accessFlags := 26, slot := 0, constantValue := 0 }, { name := "REVERSE", type := .boolean, accessFlags := 26, slot := 1, constantValue := 0 }, { name := "archivedObjects", type := (.array (.object "java/lang/Object")), accessFlags := 10, slot := 2, constantValue := 0 }, { name := "EMPTY", type := (.object "java/lang/Object"), accessFlags := 26, slot := 3, constantValue := 0 }, { name := "EMPTY_LIST", type := (.object "java/util/ImmutableCollections$ListN"), accessFlags := 24, slot := 4, constantValue := 0 }, { name := "EMPTY_LIST_NULLS", type := (.object "java/util/ImmutableCollections$ListN"), accessFlags := 24, slot := 5, constantValue := 0 }, { name := "EMPTY_SET", type := (.object "java/util/ImmutableCollections$SetN"), accessFlags := 24, slot := 6, constantValue := 0 }, { name := "EMPTY_MAP", type := (.object "java/util/ImmutableCollections$MapN"), accessFlags := 24, slot := 7, constantValue := 0 }, { name := "EXPAND_FACTOR", type := .int, accessFlags := 24, slot := 8, constantValue := 0 }, { name := "$assertionsDisabled", type := .boolean, accessFlags := 4120, slot := 9, constantValue := 0 }]
  methods := #[k21m0, k21m1, k21m2]
  instanceTypes := #[]
  staticTypes := #[.long, .boolean, (.array (.object "java/lang/Object")), (.object "java/lang/Object"), (.object "java/util/ImmutableCollections$ListN"), (.object "java/util/ImmutableCollections$ListN"), (.object "java/util/ImmutableCollections$SetN"), (.object "java/util/ImmutableCollections$MapN"), .int, .boolean]
  resolved := Array.replicate 213 none
  statics := some 2 }

def pool22 : Array CpInfo := pool [(1, .methodref 2 3), (0, .class_ 4), (0, .nameAndType 5 6), (0, u "java/util/AbstractCollection"), (0, u "<init>"), (0, u "()V"), (1, .class_ 10), (1, u "java/util/ImmutableCollections"), (2, .class_ 14), (0, u "java/util/ImmutableCollections$AbstractImmutableCollection")] 41

def k22c0 : Code := { maxStack := 1, maxLocals := 1, code := jdk_47_method_1_code, exceptionTable := #[], attributes := #[] }
def k22m0 : Method := { name := "<init>", desc := "()V", sig := { parameters := [], returnType := none }, accessFlags := 0, code := some k22c0 }
/-- java/util/ImmutableCollections$AbstractImmutableCollection -/
def k22 : Class := { plain "java/util/ImmutableCollections$AbstractImmutableCollection" (some 4) with
  accessFlags := 1056
  interfaces := #[]
  cf := some (fileOf pool22 13 #[.nestHost 8] #[{ accessFlags := 0, nameIndex := 5, descriptorIndex := 6, attributes := #[] }] 1056 2 #[] #[])
  fields := #[]
  methods := #[k22m0]
  instanceTypes := #[]
  staticTypes := #[]
  resolved := Array.replicate 56 none
  statics := none }

def pool23 : Array CpInfo := pool [(1, .methodref 2 3), (0, .class_ 4), (0, .nameAndType 5 6), (0, u "java/util/ImmutableCollections$AbstractImmutableCollection"), (0, u "<init>"), (0, u "()V"), (1, .class_ 10), (1, u "java/util/ImmutableCollections"), (3, .class_ 16), (1, u "java/util/ImmutableCollections$AbstractImmutableList"), (60, .class_ 78), (0, u "java/util/List"), (45, .class_ 125), (0, u "java/util/RandomAccess")] 70

def k23c0 : Code := { maxStack := 1, maxLocals := 1, code := jdk_46_method_1_code, exceptionTable := #[], attributes := #[] }
def k23m0 : Method := { name := "<init>", desc := "()V", sig := { parameters := [], returnType := none }, accessFlags := 0, code := some k23c0 }
/-- java/util/ImmutableCollections$AbstractImmutableList -/
def k23 : Class := { plain "java/util/ImmutableCollections$AbstractImmutableList" (some 22) with
  accessFlags := 1056
  interfaces := #[6, 8]
  cf := some (fileOf pool23 14 #[.nestHost 8] #[{ accessFlags := 0, nameIndex := 5, descriptorIndex := 6, attributes := #[] }] 1056 2 #[77, 124] #[])
  fields := #[]
  methods := #[k23m0]
  instanceTypes := #[]
  staticTypes := #[]
  resolved := Array.replicate 196 none
  statics := none }

def pool24 : Array CpInfo := pool [(1, .methodref 2 3), (0, .class_ 4), (0, .nameAndType 5 6), (0, u "java/util/ImmutableCollections$AbstractImmutableList"), (0, u "<init>"), (0, u "()V"), (0, .methodref 8 9), (0, .class_ 10), (0, .nameAndType 11 12), (0, u "java/util/Objects"), (0, u "requireNonNull"), (0, u "(Ljava/lang/Object;)Ljava/lang/Object;"), (0, .fieldref 14 15), (0, .class_ 16), (0, .nameAndType 17 18), (0, u "java/util/ImmutableCollections$List12"), (0, u "e0"), (0, u "Ljava/lang/Object;"), (0, .fieldref 20 21), (0, .class_ 22), (0, .nameAndType 23 18), (0, u "java/util/ImmutableCollections"), (0, u "EMPTY"), (0, .fieldref 14 25), (0, .nameAndType 26 18), (0, u "e1"), (24, u "size"), (0, u "()I"), (17, .class_ 71), (0, u "java/io/Serializable"), (4, u "(Ljava/lang/Object;)V"), (8, u "(Ljava/lang/Object;Ljava/lang/Object;)V")] 39

def k24c0 : Code := { maxStack := 2, maxLocals := 2, code := jdk_44_method_1_code, exceptionTable := #[], attributes := #[] }
def k24m0 : Method := { name := "<init>", desc := "(Ljava/lang/Object;)V", sig := { parameters := [(.object "java/lang/Object")], returnType := none }, accessFlags := 0, code := some k24c0 }
def k24c1 : Code := { maxStack := 2, maxLocals := 3, code := jdk_44_method_2_code, exceptionTable := #[], attributes := #[] }
def k24m1 : Method := { name := "<init>", desc := "(Ljava/lang/Object;Ljava/lang/Object;)V", sig := { parameters := [(.object "java/lang/Object"), (.object "java/lang/Object")], returnType := none }, accessFlags := 0, code := some k24c1 }
def k24c2 : Code := { maxStack := 2, maxLocals := 1, code := jdk_44_method_3_code, exceptionTable := #[], attributes := #[] }
def k24m2 : Method := { name := "size", desc := "()I", sig := { parameters := [], returnType := some .int }, accessFlags := 1, code := some k24c2 }
/-- java/util/ImmutableCollections$List12 -/
def k24 : Class := { plain "java/util/ImmutableCollections$List12" (some 23) with
  accessFlags := 48
  interfaces := #[10]
  cf := some (fileOf pool24 14 #[.nestHost 20] #[{ accessFlags := 0, nameIndex := 5, descriptorIndex := 76, attributes := #[] }, { accessFlags := 0, nameIndex := 5, descriptorIndex := 85, attributes := #[] }, { accessFlags := 1, nameIndex := 51, descriptorIndex := 52, attributes := #[] }] 48 2 #[70] #[{ accessFlags := 18, nameIndex := 17, descriptorIndex := 18, attributes := #[] }, { accessFlags := 18, nameIndex := 26, descriptorIndex := 18, attributes := #[] }])
  fields := #[{ name := "e0", type := (.object "java/lang/Object"), accessFlags := 18, slot := 0, constantValue := 0 }, { name := "e1", type := (.object "java/lang/Object"), accessFlags := 18, slot := 1, constantValue := 0 }]
  methods := #[k24m0, k24m1, k24m2]
  instanceTypes := #[(.object "java/lang/Object"), (.object "java/lang/Object")]
  staticTypes := #[]
  resolved := Array.replicate 125 none
  statics := none }

def pool25 : Array CpInfo := pool [(1, .methodref 2 3), (0, .class_ 4), (0, .nameAndType 5 6), (0, u "java/util/ImmutableCollections$AbstractImmutableList"), (0, u "<init>"), (0, u "()V"), (0, .fieldref 8 9), (0, .class_ 10), (0, .nameAndType 11 12), (0, u "java/util/ImmutableCollections$ListN"), (0, u "elements"), (0, u "[Ljava/lang/Object;"), (0, .fieldref 8 14), (0, .nameAndType 15 16), (0, u "allowNulls"), (0, u "Z"), (42, .class_ 60), (0, u "java/io/Serializable"), (4, u "([Ljava/lang/Object;Z)V"), (11, u "size"), (0, u "()I"), (35, .class_ 115), (0, u "java/util/ImmutableCollections")] 3

def k25c0 : Code := { maxStack := 2, maxLocals := 3, code := jdk_45_method_1_code, exceptionTable := #[], attributes := #[] }
def k25m0 : Method := { name := "<init>", desc := "([Ljava/lang/Object;Z)V", sig := { parameters := [(.array (.object "java/lang/Object")), .boolean], returnType := none }, accessFlags := 2, code := some k25c0 }
def k25c1 : Code := { maxStack := 1, maxLocals := 1, code := jdk_45_method_3_code, exceptionTable := #[], attributes := #[] }
def k25m1 : Method := { name := "size", desc := "()I", sig := { parameters := [], returnType := some .int }, accessFlags := 1, code := some k25c1 }
/-- java/util/ImmutableCollections$ListN -/
def k25 : Class := { plain "java/util/ImmutableCollections$ListN" (some 23) with
  accessFlags := 48
  interfaces := #[10]
  cf := some (fileOf pool25 8 #[.nestHost 114] #[{ accessFlags := 2, nameIndex := 5, descriptorIndex := 65, attributes := #[] }, { accessFlags := 1, nameIndex := 77, descriptorIndex := 78, attributes := #[] }] 48 2 #[59] #[{ accessFlags := 18, nameIndex := 11, descriptorIndex := 12, attributes := #[] }, { accessFlags := 18, nameIndex := 15, descriptorIndex := 16, attributes := #[] }])
  fields := #[{ name := "elements", type := (.array (.object "java/lang/Object")), accessFlags := 18, slot := 0, constantValue := 0 }, { name := "allowNulls", type := .boolean, accessFlags := 18, slot := 1, constantValue := 0 }]
  methods := #[k25m0, k25m1]
  instanceTypes := #[(.array (.object "java/lang/Object")), .boolean]
  staticTypes := #[]
  resolved := Array.replicate 119 none
  statics := none }

def pool26 : Array CpInfo := pool [(2, .class_ 4), (1, u "java/lang/Object"), (0, u "<init>"), (0, u "()V"), (7, .class_ 16), (1, u "java/util/Arrays"), (57, .class_ 76), (1, u "java/util/Arrays$NaturalOrder"), (9, .methodref 2 87), (0, .nameAndType 88 89), (0, u "getClass"), (0, u "()Ljava/lang/Class;"), (20, .class_ 111), (0, u "[Ljava/lang/Object;"), (1, .class_ 115), (1, u "java/util/Arrays$LegacyMergeSort"), (1, u "Z"), (32, .methodref 151 152), (0, .class_ 153), (0, .nameAndType 154 155), (0, u "java/lang/System"), (0, u "arraycopy"), (0, u "(Ljava/lang/Object;ILjava/lang/Object;II)V"), (144, .methodref 14 301), (0, .nameAndType 302 303), (0, u "copyOf"), (0, u "([Ljava/lang/Object;ILjava/lang/Class;)[Ljava/lang/Object;"), (0, .methodref 305 306), (0, .class_ 307), (0, .nameAndType 308 309), (0, u "java/lang/Math"), (0, u "min"), (0, u "(II)I"), (65, .class_ 376), (0, u "java/util/Arrays$ArrayList"), (68, u "$assertionsDisabled"), (269, u "MIN_ARRAY_SORT_GRAN"), (0, u "I"), (2, u "INSERTIONSORT_THRESHOLD"), (140, u "([Ljava/lang/Object;I)[Ljava/lang/Object;"), (114, .class_ 976), (0, u "java/util/Arrays$ArrayItr")] 52

def k26m0 : Method := { name := "<init>", desc := "()V", sig := { parameters := [], returnType := none }, accessFlags := 2, code := none }
def k26c1 : Code := { maxStack := 3, maxLocals := 2, code := jdk_65_method_119_code, exceptionTable := #[], attributes := #[] }
def k26m1 : Method := { name := "copyOf", desc := "([Ljava/lang/Object;I)[Ljava/lang/Object;", sig := { parameters := [(.array (.object "java/lang/Object")), .int], returnType := some (.array (.object "java/lang/Object")) }, accessFlags := 9, code := some k26c1 }
def k26c2 : Code := { maxStack := 6, maxLocals := 4, code := jdk_65_method_120_code, exceptionTable := #[], attributes := #[] }
def k26m2 : Method := { name := "copyOf", desc := "([Ljava/lang/Object;ILjava/lang/Class;)[Ljava/lang/Object;", sig := { parameters := [(.array (.object "java/lang/Object")), .int, (.object "java/lang/Class")], returnType := some (.array (.object "java/lang/Object")) }, accessFlags := 9, code := some k26c2 }
/-- java/util/Arrays -/
def k26 : Class := { plain "java/util/Arrays" (some 0) with
  accessFlags := 49
  interfaces := #[]
  cf := some (fileOf pool26 14 #[.nestMembers #[975, 375, 113, 74]] #[{ accessFlags := 2, nameIndex := 5, descriptorIndex := 6, attributes := #[] }, { accessFlags := 9, nameIndex := 302, descriptorIndex := 860, attributes := #[] }, { accessFlags := 9, nameIndex := 302, descriptorIndex := 303, attributes := #[] }] 49 2 #[] #[{ accessFlags := 26, nameIndex := 715, descriptorIndex := 716, attributes := #[] }, { accessFlags := 26, nameIndex := 719, descriptorIndex := 716, attributes := #[] }, { accessFlags := 4120, nameIndex := 445, descriptorIndex := 117, attributes := #[] }])
  fields := #[{ name := "MIN_ARRAY_SORT_GRAN", type := .int, accessFlags := 26, slot := 0, constantValue := 0 }, { name := "INSERTIONSORT_THRESHOLD", type := .int, accessFlags := 26, slot := 1, constantValue := 0 }, { name := "$assertionsDisabled", type := .boolean, accessFlags := 4120, slot := 2, constantValue := 0 }]
  methods := #[k26m0, k26m1, k26m2]
  instanceTypes := #[]
  staticTypes := #[.int, .int, .boolean]
  resolved := Array.replicate 1029 none
  statics := none }

def pool27 : Array CpInfo := pool [(2, .class_ 4), (1, u "java/lang/Object"), (0, u "<init>"), (0, u "()V"), (1, .class_ 10), (1, u "java/lang/System"), (0, u "allowSecurityManager"), (0, u "I"), (16, u "cons"), (0, u "Ljava/io/Console;"), (77, .class_ 110), (1, u "java/lang/System$CallersHolder"), (43, u "initialErrStream"), (0, u "Ljava/io/PrintStream;"), (19, u "security"), (0, u "Ljava/lang/SecurityManager;"), (31, .class_ 209), (0, u "java/lang/System$1"), (7, u "props"), (0, u "Ljava/util/Properties;"), (2, u "lineSeparator"), (0, u "Ljava/lang/String;"), (96, .class_ 321), (1, u "java/lang/System$LoggerFinder"), (5, .class_ 328), (0, u "java/lang/System$Logger"), (67, u "err"), (2, u "out"), (91, u "notSupportedJnuEncoding"), (15, u "in"), (17, u "initialIn"), (0, u "Ljava/io/InputStream;"), (35, u "bootLayer"), (0, u "Ljava/lang/ModuleLayer;"), (99, .class_ 664), (0, u "java/lang/System$2"), (9, u "NEVER"), (2, u "MAYBE"), (49, u "arraycopy"), (0, u "(Ljava/lang/Object;ILjava/lang/Object;II)V"), (72, .class_ 802), (0, u "java/lang/System$Logger$Level")] 31

def k27m0 : Method := { name := "<init>", desc := "()V", sig := { parameters := [], returnType := none }, accessFlags := 2, code := none }
def k27m1 : Method := { name := "arraycopy", desc := "(Ljava/lang/Object;ILjava/lang/Object;II)V", sig := { parameters := [(.object "java/lang/Object"), .int, (.object "java/lang/Object"), .int, .int], returnType := none }, accessFlags := 265, code := none }
/-- java/lang/System -/
def k27 : Class := { plain "java/lang/System" (some 0) with
  accessFlags := 49
  interfaces := #[]
  cf := some (fileOf pool27 8 #[.nestMembers #[319, 327, 801, 108, 663, 208]] #[{ accessFlags := 2, nameIndex := 5, descriptorIndex := 6, attributes := #[] }, { accessFlags := 265, nameIndex := 727, descriptorIndex := 728, attributes := #[] }] 49 2 #[] #[{ accessFlags := 25, nameIndex := 507, descriptorIndex := 526, attributes := #[] }, { accessFlags := 25, nameIndex := 399, descriptorIndex := 155, attributes := #[] }, { accessFlags := 25, nameIndex := 396, descriptorIndex := 155, attributes := #[] }, { accessFlags := 10, nameIndex := 525, descriptorIndex := 526, attributes := #[] }, { accessFlags := 26, nameIndex := 674, descriptorIndex := 12, attributes := #[] }, { accessFlags := 26, nameIndex := 677, descriptorIndex := 12, attributes := #[] }, { accessFlags := 10, nameIndex := 11, descriptorIndex := 12, attributes := #[] }, { accessFlags := 74, nameIndex := 175, descriptorIndex := 176, attributes := #[] }, { accessFlags := 10, nameIndex := 491, descriptorIndex := 222, attributes := #[] }, { accessFlags := 74, nameIndex := 29, descriptorIndex := 30, attributes := #[] }, { accessFlags := 74, nameIndex := 154, descriptorIndex := 155, attributes := #[] }, { accessFlags := 10, nameIndex := 217, descriptorIndex := 218, attributes := #[] }, { accessFlags := 10, nameIndex := 221, descriptorIndex := 222, attributes := #[] }, { accessFlags := 8, nameIndex := 562, descriptorIndex := 563, attributes := #[] }])
  fields := #[{ name := "in", type := (.object "java/io/InputStream"), accessFlags := 25, slot := 0, constantValue := 0 }, { name := "out", type := (.object "java/io/PrintStream"), accessFlags := 25, slot := 1, constantValue := 0 }, { name := "err", type := (.object "java/io/PrintStream"), accessFlags := 25, slot := 2, constantValue := 0 }, { name := "initialIn", type := (.object "java/io/InputStream"), accessFlags := 10, slot := 3, constantValue := 0 }, { name := "NEVER", type := .int, accessFlags := 26, slot := 4, constantValue := 0 }, { name := "MAYBE", type := .int, accessFlags := 26, slot := 5, constantValue := 0 }, { name := "allowSecurityManager", type := .int, accessFlags := 10, slot := 6, constantValue := 0 }, { name := "security", type := (.object "java/lang/SecurityManager"), accessFlags := 74, slot := 7, constantValue := 0 }, { name := "notSupportedJnuEncoding", type := (.object "java/lang/String"), accessFlags := 10, slot := 8, constantValue := 0 }, { name := "cons", type := (.object "java/io/Console"), accessFlags := 74, slot := 9, constantValue := 0 }, { name := "initialErrStream", type := (.object "java/io/PrintStream"), accessFlags := 74, slot := 10, constantValue := 0 }, { name := "props", type := (.object "java/util/Properties"), accessFlags := 10, slot := 11, constantValue := 0 }, { name := "lineSeparator", type := (.object "java/lang/String"), accessFlags := 10, slot := 12, constantValue := 0 }, { name := "bootLayer", type := (.object "java/lang/ModuleLayer"), accessFlags := 8, slot := 13, constantValue := 0 }]
  methods := #[k27m0, k27m1]
  instanceTypes := #[]
  staticTypes := #[(.object "java/io/InputStream"), (.object "java/io/PrintStream"), (.object "java/io/PrintStream"), (.object "java/io/InputStream"), .int, .int, .int, (.object "java/lang/SecurityManager"), (.object "java/lang/String"), (.object "java/io/Console"), (.object "java/io/PrintStream"), (.object "java/util/Properties"), (.object "java/lang/String"), (.object "java/lang/ModuleLayer")]
  resolved := Array.replicate 834 none
  statics := none }

def pool28 : Array CpInfo := pool [(2, .class_ 4), (1, u "java/lang/Object"), (0, u "<init>"), (0, u "()V"), (35, .class_ 44), (1, u "java/util/Objects"), (0, u "requireNonNull"), (0, u "(Ljava/lang/Object;)Ljava/lang/Object;")] 137

def k28m0 : Method := { name := "<init>", desc := "()V", sig := { parameters := [], returnType := none }, accessFlags := 2, code := none }
def k28c1 : Code := { maxStack := 2, maxLocals := 1, code := jdk_31_method_10_code, exceptionTable := #[], attributes := #[] }
def k28m1 : Method := { name := "requireNonNull", desc := "(Ljava/lang/Object;)Ljava/lang/Object;", sig := { parameters := [(.object "java/lang/Object")], returnType := some (.object "java/lang/Object") }, accessFlags := 9, code := some k28c1 }
/-- java/util/Objects -/
def k28 : Class := { plain "java/util/Objects" (some 0) with
  accessFlags := 49
  interfaces := #[]
  cf := some (fileOf pool28 42 #[] #[{ accessFlags := 2, nameIndex := 5, descriptorIndex := 6, attributes := #[] }, { accessFlags := 9, nameIndex := 45, descriptorIndex := 46, attributes := #[] }] 49 2 #[] #[])
  fields := #[]
  methods := #[k28m0, k28m1]
  instanceTypes := #[]
  staticTypes := #[]
  resolved := Array.replicate 184 none
  statics := none }

def pool29 : Array CpInfo := pool [(4, .class_ 6), (1, u "java/lang/Number"), (16, .class_ 25), (1, u "java/math/BigInteger"), (0, u "ZERO"), (0, u "Ljava/math/BigInteger;"), (2, u "mag"), (0, u "[I"), (2, u "signum"), (0, u "I"), (59, u "bitsPerDigit"), (0, u "[J"), (9, u "digitsPerInt"), (12, u "intRadix"), (60, u "SMALL_PRIME_PRODUCT"), (79, u "ONE"), (6, u "TWO"), (43, u "$assertionsDisabled"), (0, u "Z"), (36, u "posConst"), (0, u "[Ljava/math/BigInteger;"), (4, u "negConst"), (116, .class_ 474), (1, u "java/math/BigInteger$RecursiveOp"), (106, u "NEGATIVE_ONE"), (91, u "bnExpModThreshTable"), (72, u "lowestSetBitPlusTwo"), (2, u "bitLengthPlusOne"), (2, u "bitCountPlusOne"), (6, u "LOG_TWO"), (0, u "D"), (2, u "logCache"), (0, u "[D"), (13, u "NUM_ZEROS"), (2, u "ZEROS"), (0, u "Ljava/lang/String;"), (9, u "longRadix"), (5, u "digitsPerLong"), (22, u "powerCache"), (0, u "[[Ljava/math/BigInteger;"), (45, u "firstNonzeroIntNumPlusTwo"), (38, .class_ 909), (1, u "java/math/BigInteger$UnsafeHolder"), (141, u "TEN"), (106, u "serialPersistentFields"), (0, u "[Ljava/io/ObjectStreamField;"), (0, .class_ 1161), (0, u "java/lang/Comparable"), (0, u "LONG_MASK"), (0, u "J"), (1, u "MAX_MAG_LENGTH"), (0, u "PRIME_SEARCH_BIT_LENGTH_LIMIT"), (1, u "KARATSUBA_THRESHOLD"), (1, u "TOOM_COOK_THRESHOLD"), (1, u "KARATSUBA_SQUARE_THRESHOLD"), (1, u "TOOM_COOK_SQUARE_THRESHOLD"), (1, u "BURNIKEL_ZIEGLER_THRESHOLD"), (0, u "BURNIKEL_ZIEGLER_OFFSET"), (1, u "SCHOENHAGE_BASE_CONVERSION_THRESHOLD"), (1, u "MULTIPLY_SQUARE_THRESHOLD"), (0, u "MONTGOMERY_INTRINSIC_THRESHOLD"), (1, u "SMALL_PRIME_THRESHOLD"), (1, u "DEFAULT_PRIME_CERTAINTY"), (1, u "MAX_CONSTANT"), (3, u "serialVersionUID"), (338, .class_ 1532), (0, u "java/math/BigInteger$RecursiveOp$RecursiveSquare"), (0, .class_ 1534), (0, u "java/math/BigInteger$RecursiveOp$RecursiveMultiply")] 7

/-- java/math/BigInteger -/
def k29 : Class := { plain "java/math/BigInteger" (some 12) with
  accessFlags := 33
  interfaces := #[13]
  cf := some (fileOf pool29 23 #[.nestMembers #[907, 472, 1531, 1533]] #[] 33 4 #[1160] #[{ accessFlags := 16, nameIndex := 34, descriptorIndex := 35, attributes := #[] }, { accessFlags := 16, nameIndex := 30, descriptorIndex := 31, attributes := #[] }, { accessFlags := 2, nameIndex := 752, descriptorIndex := 35, attributes := #[] }, { accessFlags := 2, nameIndex := 749, descriptorIndex := 35, attributes := #[] }, { accessFlags := 2, nameIndex := 746, descriptorIndex := 35, attributes := #[] }, { accessFlags := 2, nameIndex := 868, descriptorIndex := 35, attributes := #[] }, { accessFlags := 24, nameIndex := 1162, descriptorIndex := 1163, attributes := #[] }, { accessFlags := 26, nameIndex := 1165, descriptorIndex := 35, attributes := #[] }, { accessFlags := 26, nameIndex := 1166, descriptorIndex := 35, attributes := #[] }, { accessFlags := 26, nameIndex := 1168, descriptorIndex := 35, attributes := #[] }, { accessFlags := 26, nameIndex := 1170, descriptorIndex := 35, attributes := #[] }, { accessFlags := 26, nameIndex := 1172, descriptorIndex := 35, attributes := #[] }, { accessFlags := 26, nameIndex := 1174, descriptorIndex := 35, attributes := #[] }, { accessFlags := 24, nameIndex := 1176, descriptorIndex := 35, attributes := #[] }, { accessFlags := 24, nameIndex := 1177, descriptorIndex := 35, attributes := #[] }, { accessFlags := 26, nameIndex := 1179, descriptorIndex := 35, attributes := #[] }, { accessFlags := 26, nameIndex := 1181, descriptorIndex := 35, attributes := #[] }, { accessFlags := 26, nameIndex := 1182, descriptorIndex := 35, attributes := #[] }, { accessFlags := 10, nameIndex := 95, descriptorIndex := 96, attributes := #[] }, { accessFlags := 26, nameIndex := 1184, descriptorIndex := 35, attributes := #[] }, { accessFlags := 26, nameIndex := 1186, descriptorIndex := 35, attributes := #[] }, { accessFlags := 26, nameIndex := 180, descriptorIndex := 27, attributes := #[] }, { accessFlags := 26, nameIndex := 1188, descriptorIndex := 35, attributes := #[] }, { accessFlags := 26, nameIndex := 349, descriptorIndex := 350, attributes := #[] }, { accessFlags := 26, nameIndex := 355, descriptorIndex := 350, attributes := #[] }, { accessFlags := 74, nameIndex := 821, descriptorIndex := 822, attributes := #[] }, { accessFlags := 26, nameIndex := 763, descriptorIndex := 764, attributes := #[] }, { accessFlags := 26, nameIndex := 759, descriptorIndex := 760, attributes := #[] }, { accessFlags := 25, nameIndex := 26, descriptorIndex := 27, attributes := #[] }, { accessFlags := 25, nameIndex := 260, descriptorIndex := 27, attributes := #[] }, { accessFlags := 25, nameIndex := 267, descriptorIndex := 27, attributes := #[] }, { accessFlags := 26, nameIndex := 581, descriptorIndex := 27, attributes := #[] }, { accessFlags := 25, nameIndex := 1051, descriptorIndex := 27, attributes := #[] }, { accessFlags := 8, nameIndex := 673, descriptorIndex := 31, attributes := #[] }, { accessFlags := 10, nameIndex := 778, descriptorIndex := 35, attributes := #[] }, { accessFlags := 26, nameIndex := 781, descriptorIndex := 782, attributes := #[] }, { accessFlags := 10, nameIndex := 798, descriptorIndex := 31, attributes := #[] }, { accessFlags := 10, nameIndex := 792, descriptorIndex := 350, attributes := #[] }, { accessFlags := 10, nameIndex := 106, descriptorIndex := 31, attributes := #[] }, { accessFlags := 10, nameIndex := 119, descriptorIndex := 31, attributes := #[] }, { accessFlags := 26, nameIndex := 1192, descriptorIndex := 1163, attributes := #[] }, { accessFlags := 26, nameIndex := 1158, descriptorIndex := 1159, attributes := #[] }, { accessFlags := 4120, nameIndex := 311, descriptorIndex := 312, attributes := #[] }])
  fields := #[{ name := "signum", type := .int, accessFlags := 16, slot := 0, constantValue := 0 }, { name := "mag", type := (.array .int), accessFlags := 16, slot := 1, constantValue := 0 }, { name := "bitCountPlusOne", type := .int, accessFlags := 2, slot := 2, constantValue := 0 }, { name := "bitLengthPlusOne", type := .int, accessFlags := 2, slot := 3, constantValue := 0 }, { name := "lowestSetBitPlusTwo", type := .int, accessFlags := 2, slot := 4, constantValue := 0 }, { name := "firstNonzeroIntNumPlusTwo", type := .int, accessFlags := 2, slot := 5, constantValue := 0 }, { name := "LONG_MASK", type := .long, accessFlags := 24, slot := 0, constantValue := 0 }, { name := "MAX_MAG_LENGTH", type := .int, accessFlags := 26, slot := 1, constantValue := 0 }, { name := "PRIME_SEARCH_BIT_LENGTH_LIMIT", type := .int, accessFlags := 26, slot := 2, constantValue := 0 }, { name := "KARATSUBA_THRESHOLD", type := .int, accessFlags := 26, slot := 3, constantValue := 0 }, { name := "TOOM_COOK_THRESHOLD", type := .int, accessFlags := 26, slot := 4, constantValue := 0 }, { name := "KARATSUBA_SQUARE_THRESHOLD", type := .int, accessFlags := 26, slot := 5, constantValue := 0 }, { name := "TOOM_COOK_SQUARE_THRESHOLD", type := .int, accessFlags := 26, slot := 6, constantValue := 0 }, { name := "BURNIKEL_ZIEGLER_THRESHOLD", type := .int, accessFlags := 24, slot := 7, constantValue := 0 }, { name := "BURNIKEL_ZIEGLER_OFFSET", type := .int, accessFlags := 24, slot := 8, constantValue := 0 }, { name := "SCHOENHAGE_BASE_CONVERSION_THRESHOLD", type := .int, accessFlags := 26, slot := 9, constantValue := 0 }, { name := "MULTIPLY_SQUARE_THRESHOLD", type := .int, accessFlags := 26, slot := 10, constantValue := 0 }, { name := "MONTGOMERY_INTRINSIC_THRESHOLD", type := .int, accessFlags := 26, slot := 11, constantValue := 0 }, { name := "bitsPerDigit", type := (.array .long), accessFlags := 10, slot := 12, constantValue := 0 }, { name := "SMALL_PRIME_THRESHOLD", type := .int, accessFlags := 26, slot := 13, constantValue := 0 }, { name := "DEFAULT_PRIME_CERTAINTY", type := .int, accessFlags := 26, slot := 14, constantValue := 0 }, { name := "SMALL_PRIME_PRODUCT", type := (.object "java/math/BigInteger"), accessFlags := 26, slot := 15, constantValue := 0 }, { name := "MAX_CONSTANT", type := .int, accessFlags := 26, slot := 16, constantValue := 0 }, { name := "posConst", type := (.array (.object "java/math/BigInteger")), accessFlags := 26, slot := 17, constantValue := 0 }, { name := "negConst", type := (.array (.object "java/math/BigInteger")), accessFlags := 26, slot := 18, constantValue := 0 }, { name := "powerCache", type := (.array (.array (.object "java/math/BigInteger"))), accessFlags := 74, slot := 19, constantValue := 0 }, { name := "logCache", type := (.array .double), accessFlags := 26, slot := 20, constantValue := 0 }, { name := "LOG_TWO", type := .double, accessFlags := 26, slot := 21, constantValue := 0 }, { name := "ZERO", type := (.object "java/math/BigInteger"), accessFlags := 25, slot := 22, constantValue := 0 }, { name := "ONE", type := (.object "java/math/BigInteger"), accessFlags := 25, slot := 23, constantValue := 0 }, { name := "TWO", type := (.object "java/math/BigInteger"), accessFlags := 25, slot := 24, constantValue := 0 }, { name := "NEGATIVE_ONE", type := (.object "java/math/BigInteger"), accessFlags := 26, slot := 25, constantValue := 0 }, { name := "TEN", type := (.object "java/math/BigInteger"), accessFlags := 25, slot := 26, constantValue := 0 }, { name := "bnExpModThreshTable", type := (.array .int), accessFlags := 8, slot := 27, constantValue := 0 }, { name := "NUM_ZEROS", type := .int, accessFlags := 10, slot := 28, constantValue := 0 }, { name := "ZEROS", type := (.object "java/lang/String"), accessFlags := 26, slot := 29, constantValue := 0 }, { name := "digitsPerLong", type := (.array .int), accessFlags := 10, slot := 30, constantValue := 0 }, { name := "longRadix", type := (.array (.object "java/math/BigInteger")), accessFlags := 10, slot := 31, constantValue := 0 }, { name := "digitsPerInt", type := (.array .int), accessFlags := 10, slot := 32, constantValue := 0 }, { name := "intRadix", type := (.array .int), accessFlags := 10, slot := 33, constantValue := 0 }, { name := "serialVersionUID", type := .long, accessFlags := 26, slot := 34, constantValue := 0 }, { name := "serialPersistentFields", type := (.array (.object "java/io/ObjectStreamField")), accessFlags := 26, slot := 35, constantValue := 0 }, { name := "$assertionsDisabled", type := .boolean, accessFlags := 4120, slot := 36, constantValue := 0 }]
  methods := #[]
  instanceTypes := #[.int, (.array .int), .int, .int, .int, .int]
  staticTypes := #[.long, .int, .int, .int, .int, .int, .int, .int, .int, .int, .int, .int, (.array .long), .int, .int, (.object "java/math/BigInteger"), .int, (.array (.object "java/math/BigInteger")), (.array (.object "java/math/BigInteger")), (.array (.array (.object "java/math/BigInteger"))), (.array .double), .double, (.object "java/math/BigInteger"), (.object "java/math/BigInteger"), (.object "java/math/BigInteger"), (.object "java/math/BigInteger"), (.object "java/math/BigInteger"), (.array .int), .int, (.object "java/lang/String"), (.array .int), (.array (.object "java/math/BigInteger")), (.array .int), (.array .int), .long, (.array (.object "java/io/ObjectStreamField")), .boolean]
  resolved := Array.replicate 1542 none
  statics := some 3 }

/-- the primitive byte -/
def k30 : Class := { plain "byte" none with kind := .primitive 'B', accessFlags := 0x411 }
/-- [B -/
def k31 : Class := { plain "[B" (some 0) with kind := .array 30 .byte, interfaces := #[9, 10], accessFlags := 1041 }

/-- the primitive int -/
def k32 : Class := { plain "int" none with kind := .primitive 'I', accessFlags := 0x411 }
/-- [I -/
def k33 : Class := { plain "[I" (some 0) with kind := .array 32 .int, interfaces := #[9, 10], accessFlags := 1041 }

/-- [Ljava/lang/Object; -/
def k34 : Class := { plain "[Ljava/lang/Object;" (some 0) with kind := .array 0 (.object "java/lang/Object"), interfaces := #[9, 10], accessFlags := 1041, mirror := some 14 }

def heap : Heap := #[{ cls := 11, slots := #[.long 0, .int 0, .ref 10, .ref 11], vm := .statics 11 },
  { cls := 14, slots := #[.double 0, .int 0, .int 0, .int 0, .int 0, .int 0, .int 0, .long 0, .null, .int 0, .long 0, .null, .null, .long 0, .long 0, .ref 8, .ref 9, .null, .null, .null, .null, .int 0, .int 0, .int 0, .int 0, .int 0, .int 0, .int 0, .int 0, .null, .null, .null, .null, .int 0, .int 0, .null, .long 0, .null, .int 0], vm := .statics 14 },
  { cls := 21, slots := #[.long 0, .int 0, .null, .ref 12, .ref 13, .null, .null, .null, .int 0, .int 1], vm := .statics 21 },
  { cls := 29, slots := #[.long 0, .int 0, .int 0, .int 0, .int 0, .int 0, .int 0, .int 0, .int 0, .int 0, .int 0, .int 0, .null, .int 0, .int 0, .null, .int 0, .null, .null, .null, .null, .double 0, .ref 4, .ref 5, .null, .null, .null, .null, .int 0, .null, .null, .null, .null, .null, .long 0, .null, .int 0], vm := .statics 29 },
  { cls := 29, slots := #[.int 0, .ref 6, .int 0, .int 0, .int 0, .int 0], vm := .none },
  { cls := 29, slots := #[.int 1, .ref 7, .int 0, .int 0, .int 0, .int 0], vm := .none },
  { cls := 33, slots := #[], vm := .none },
  { cls := 33, slots := #[.int 1], vm := .none },
  { cls := 14, slots := #[.ref 4, .int 0, .int 0, .null, .long 0], vm := .none },
  { cls := 14, slots := #[.ref 5, .int 0, .int 0, .null, .long 1], vm := .none },
  { cls := 34, slots := #[], vm := .none },
  { cls := 34, slots := #[], vm := .none },
  { cls := 0, slots := #[], vm := .none },
  { cls := 25, slots := #[.null, .int 0], vm := .none },
  { cls := 0, slots := #[], vm := .mirror 34 }]
def classes : Array Class := #[k0, k1, k2, k3, k4, k5, k6, k7, k8, k9, k10, k11, k12, k13, k14, k15, k16, k17, k18, k19, k20, k21, k22, k23, k24, k25, k26, k27, k28, k29, k30, k31, k32, k33, k34]
def interned : List (Array UInt16 × Addr) := []
def slotsUsed : Nat := 115
def theMethod : MethodId := ⟨1, 1⟩
def args0 : Array Value := #[.int 5, .int 3]
def aboutOver (below : List Frame) : State where
  vm := { classes := classes, interned := interned.toArray }
  heap := heap
  slotsUsed := slotsUsed
  threads := #[{ frames := .invoking theMethod args0 :: below }]
def below0 : List Frame := [.native { method := ⟨0, 0⟩, args := #[] }]
def about1 : State := aboutOver below0
def p0 : Program := .bare "" "" ""
def e0 : Env := launch0.env 0 0 0
theorem w_frames : about1.frames = Frame.invoking theMethod args0 :: below0 := rfl
set_option maxRecDepth 65536 in
theorem w_args : argsFit about1.vm theMethod args0 = true := by decide +kernel
set_option maxRecDepth 65536 in
theorem w_heap : heapFits about1 = true := by decide +kernel
set_option maxRecDepth 65536 in
theorem w_runnable : about1.curStatus? = some .runnable := by decide +kernel
set_option maxRecDepth 65536 in
theorem w_alone : about1.alone = true := by decide +kernel
set_option maxRecDepth 65536 in
theorem w_named : about1.methodNamed? x = some theMethod := by decide +kernel
set_option maxRecDepth 65536 in
theorem w_hears : about1.hears theMethod below0 = true := by decide +kernel
set_option maxRecDepth 65536 in
theorem w_ripe : about1.ripe theMethod args0 below0 = true := by decide +kernel
theorem w_running : about1.status = .running := rfl
set_option maxRecDepth 65536 in
theorem w_room : about1.hasRoom e0.platform room_1 = true :=
  launch0.hasRoom_least _ room_1 (by decide +kernel) (by decide +kernel) (by decide +kernel) (by decide +kernel) (by decide +kernel) (by decide +kernel)
theorem allAtoms_all (ts : List Jvm.Cond) (a : Array Jvm.Value) (st : Jvm.State) : (allAtoms ts).before a st = ts.all (fun c => c.before a st) := by
  induction ts with
  | nil => rfl
  | cons c t ih =>
    show (Jvm.Cond.and c (allAtoms t)).before a st = _
    rw [Jvm.Cond.before_and, ih, List.all_cons]
def words1 : List Jvm.Cond := Jvm.Cond.code x code maxLocals ret :: tables_1
/-- a 'code' word, met by the world's own term for the bytes: nothing is compared byte by byte -/
theorem code_word {y : MethodName} {bytes : ByteArray} {mx : Nat} {rt : Option FieldType} {a : Array Value} {s : State} {m : MethodId} {meth : Method} {c : Code} (h1 : s.methodNamed? y = some m) (h2 : s.vm.method? m = some meth) (h3 : meth.code = some c) (h4 : c.code = bytes)
    (h5 : (c.maxLocals == mx && c.exceptionTable.isEmpty && decide (c.maxStack ≤ mostOperands) && decide (meth.sig.returnType = rt) && !meth.locks && decide (parseMethodDescriptor y.desc = some meth.sig)) = true) : (Jvm.Cond.code y bytes mx rt).before a s = true := by
  simp only [Bool.and_eq_true, beq_iff_eq, Bool.not_eq_true', decide_eq_true_eq] at h5
  obtain ⟨⟨⟨⟨⟨g1, g2⟩, g3⟩, g4⟩, g5⟩, g6⟩ := h5
  simp [Cond.before, Cond.holds, Cond.value, h1, h2, h3, h4, g1, g2, g3, g4, g5, g6]
def isCode : Jvm.Cond → Bool
  | .code _ _ _ _ => true
  | _ => false
theorem all_split {L : List Jvm.Cond} {P : Jvm.Cond → Bool} (h1 : L.all (fun c => isCode c || P c) = true) (h2 : ∀ c ∈ L.filter isCode, P c = true) : L.all P = true := by
  refine List.all_eq_true.mpr fun c hc => ?_
  have h := List.all_eq_true.mp h1 c hc
  rcases Bool.eq_false_or_eq_true (isCode c) with hi | hi
  · exact h2 c (List.mem_filter.mpr ⟨hc, hi⟩)
  · simpa [hi] using h
set_option maxRecDepth 65536 in
theorem w_c0 : (Jvm.Cond.code x code maxLocals ret).before args0 about1 = true := code_word (m := ⟨1, 1⟩) (meth := k1m1) (c := k1c1) (by decide +kernel) rfl rfl rfl (by decide +kernel)
set_option maxRecDepth 65536 in
theorem w_c1 : (Jvm.Cond.code ({ cls := "java/util/ArrayList", name := "<init>", desc := "()V" } : Jvm.MethodName) jdk_38_method_2_code (1 : Nat) (Option.none : Option Jvm.ClassFile.FieldType)).before args0 about1 = true := code_word (m := ⟨11, 0⟩) (meth := k11m0) (c := k11c0) (by decide +kernel) rfl rfl rfl (by decide +kernel)
set_option maxRecDepth 65536 in
theorem w_c2 : (Jvm.Cond.code ({ cls := "java/util/AbstractList", name := "<init>", desc := "()V" } : Jvm.MethodName) jdk_39_method_1_code (1 : Nat) (Option.none : Option Jvm.ClassFile.FieldType)).before args0 about1 = true := code_word (m := ⟨7, 0⟩) (meth := k7m0) (c := k7c0) (by decide +kernel) rfl rfl rfl (by decide +kernel)
set_option maxRecDepth 65536 in
theorem w_c3 : (Jvm.Cond.code ({ cls := "java/util/AbstractCollection", name := "<init>", desc := "()V" } : Jvm.MethodName) jdk_22_method_1_code (1 : Nat) (Option.none : Option Jvm.ClassFile.FieldType)).before args0 about1 = true := code_word (m := ⟨4, 0⟩) (meth := k4m0) (c := k4c0) (by decide +kernel) rfl rfl rfl (by decide +kernel)
set_option maxRecDepth 65536 in
theorem w_c4 : (Jvm.Cond.code ({ cls := "java/lang/Object", name := "<init>", desc := "()V" } : Jvm.MethodName) object_method_1_code (1 : Nat) (Option.none : Option Jvm.ClassFile.FieldType)).before args0 about1 = true := code_word (m := ⟨0, 0⟩) (meth := k0m0) (c := k0c0) (by decide +kernel) rfl rfl rfl (by decide +kernel)
set_option maxRecDepth 65536 in
theorem w_c5 : (Jvm.Cond.code ({ cls := "java/util/ArrayList", name := "add", desc := "(Ljava/lang/Object;)Z" } : Jvm.MethodName) jdk_38_method_25_code (2 : Nat) (Option.some Jvm.ClassFile.FieldType.boolean)).before args0 about1 = true := code_word (m := ⟨11, 6⟩) (meth := k11m6) (c := k11c6) (by decide +kernel) rfl rfl rfl (by decide +kernel)
set_option maxRecDepth 65536 in
theorem w_c6 : (Jvm.Cond.code ({ cls := "java/util/ArrayList", name := "add", desc := "(Ljava/lang/Object;[Ljava/lang/Object;I)V" } : Jvm.MethodName) jdk_38_method_24_code (4 : Nat) (Option.none : Option Jvm.ClassFile.FieldType)).before args0 about1 = true := code_word (m := ⟨11, 5⟩) (meth := k11m5) (c := k11c5) (by decide +kernel) rfl rfl rfl (by decide +kernel)
set_option maxRecDepth 65536 in
theorem w_c7 : (Jvm.Cond.code ({ cls := "java/util/ArrayList", name := "grow", desc := "()[Ljava/lang/Object;" } : Jvm.MethodName) jdk_38_method_7_code (1 : Nat) (Option.some (Jvm.ClassFile.FieldType.array (Jvm.ClassFile.FieldType.object "java/lang/Object")))).before args0 about1 = true := code_word (m := ⟨11, 2⟩) (meth := k11m2) (c := k11c2) (by decide +kernel) rfl rfl rfl (by decide +kernel)
set_option maxRecDepth 65536 in
theorem w_c8 : (Jvm.Cond.code ({ cls := "java/util/ArrayList", name := "grow", desc := "(I)[Ljava/lang/Object;" } : Jvm.MethodName) jdk_38_method_6_code (4 : Nat) (Option.some (Jvm.ClassFile.FieldType.array (Jvm.ClassFile.FieldType.object "java/lang/Object")))).before args0 about1 = true := code_word (m := ⟨11, 1⟩) (meth := k11m1) (c := k11c1) (by decide +kernel) rfl rfl rfl (by decide +kernel)
set_option maxRecDepth 65536 in
theorem w_c9 : (Jvm.Cond.code ({ cls := "java/lang/Math", name := "max", desc := "(II)I" } : Jvm.MethodName) jdk_29_method_65_code (2 : Nat) (Option.some Jvm.ClassFile.FieldType.int)).before args0 about1 = true := code_word (m := ⟨15, 1⟩) (meth := k15m1) (c := k15c1) (by decide +kernel) rfl rfl rfl (by decide +kernel)
set_option maxRecDepth 65536 in
theorem w_c10 : (Jvm.Cond.code ({ cls := "com/example/makewhole/makewhole/mortality/MortalityTable", name := "<init>", desc := "(Ljava/lang/String;ILjava/util/List;)V" } : Jvm.MethodName) prog_36_method_1_code (4 : Nat) (Option.none : Option Jvm.ClassFile.FieldType)).before args0 about1 = true := code_word (m := ⟨16, 0⟩) (meth := k16m0) (c := k16c0) (by decide +kernel) rfl rfl rfl (by decide +kernel)
set_option maxRecDepth 65536 in
theorem w_c11 : (Jvm.Cond.code ({ cls := "com/example/makewhole/makewhole/mortality/MortalityTable", name := "<init>", desc := "(Ljava/lang/String;ILjava/util/List;Ljava/lang/String;Ljava/lang/String;)V" } : Jvm.MethodName) prog_36_method_2_code (6 : Nat) (Option.none : Option Jvm.ClassFile.FieldType)).before args0 about1 = true := code_word (m := ⟨16, 1⟩) (meth := k16m1) (c := k16c1) (by decide +kernel) rfl rfl rfl (by decide +kernel)
set_option maxRecDepth 65536 in
theorem w_c12 : (Jvm.Cond.code ({ cls := "java/util/List", name := "copyOf", desc := "(Ljava/util/Collection;)Ljava/util/List;" } : Jvm.MethodName) jdk_40_method_48_code (1 : Nat) (Option.some (Jvm.ClassFile.FieldType.object "java/util/List"))).before args0 about1 = true := code_word (m := ⟨6, 2⟩) (meth := k6m2) (c := k6c2) (by decide +kernel) rfl rfl rfl (by decide +kernel)
set_option maxRecDepth 65536 in
theorem w_c13 : (Jvm.Cond.code ({ cls := "java/util/ImmutableCollections", name := "listCopy", desc := "(Ljava/util/Collection;)Ljava/util/List;" } : Jvm.MethodName) jdk_56_method_3_code (2 : Nat) (Option.some (Jvm.ClassFile.FieldType.object "java/util/List"))).before args0 about1 = true := code_word (m := ⟨21, 1⟩) (meth := k21m1) (c := k21c1) (by decide +kernel) rfl rfl rfl (by decide +kernel)
set_option maxRecDepth 65536 in
theorem w_c14 : (Jvm.Cond.code ({ cls := "java/util/ArrayList", name := "isEmpty", desc := "()Z" } : Jvm.MethodName) jdk_38_method_9_code (1 : Nat) (Option.some Jvm.ClassFile.FieldType.boolean)).before args0 about1 = true := code_word (m := ⟨11, 3⟩) (meth := k11m3) (c := k11c3) (by decide +kernel) rfl rfl rfl (by decide +kernel)
set_option maxRecDepth 65536 in
theorem w_c15 : (Jvm.Cond.code ({ cls := "java/util/ArrayList", name := "toArray", desc := "()[Ljava/lang/Object;" } : Jvm.MethodName) jdk_38_method_16_code (1 : Nat) (Option.some (Jvm.ClassFile.FieldType.array (Jvm.ClassFile.FieldType.object "java/lang/Object")))).before args0 about1 = true := code_word (m := ⟨11, 4⟩) (meth := k11m4) (c := k11c4) (by decide +kernel) rfl rfl rfl (by decide +kernel)
set_option maxRecDepth 65536 in
theorem w_c16 : (Jvm.Cond.code ({ cls := "java/util/Arrays", name := "copyOf", desc := "([Ljava/lang/Object;I)[Ljava/lang/Object;" } : Jvm.MethodName) jdk_65_method_119_code (2 : Nat) (Option.some (Jvm.ClassFile.FieldType.array (Jvm.ClassFile.FieldType.object "java/lang/Object")))).before args0 about1 = true := code_word (m := ⟨26, 1⟩) (meth := k26m1) (c := k26c1) (by decide +kernel) rfl rfl rfl (by decide +kernel)
set_option maxRecDepth 65536 in
theorem w_c17 : (Jvm.Cond.code ({ cls := "java/util/Arrays", name := "copyOf", desc := "([Ljava/lang/Object;ILjava/lang/Class;)[Ljava/lang/Object;" } : Jvm.MethodName) jdk_65_method_120_code (4 : Nat) (Option.some (Jvm.ClassFile.FieldType.array (Jvm.ClassFile.FieldType.object "java/lang/Object")))).before args0 about1 = true := code_word (m := ⟨26, 2⟩) (meth := k26m2) (c := k26c2) (by decide +kernel) rfl rfl rfl (by decide +kernel)
set_option maxRecDepth 65536 in
theorem w_c18 : (Jvm.Cond.code ({ cls := "java/lang/Math", name := "min", desc := "(II)I" } : Jvm.MethodName) jdk_29_method_69_code (2 : Nat) (Option.some Jvm.ClassFile.FieldType.int)).before args0 about1 = true := code_word (m := ⟨15, 2⟩) (meth := k15m2) (c := k15c2) (by decide +kernel) rfl rfl rfl (by decide +kernel)
set_option maxRecDepth 65536 in
theorem w_c19 : (Jvm.Cond.code ({ cls := "java/util/List", name := "of", desc := "([Ljava/lang/Object;)Ljava/util/List;" } : Jvm.MethodName) jdk_40_method_47_code (2 : Nat) (Option.some (Jvm.ClassFile.FieldType.object "java/util/List"))).before args0 about1 = true := code_word (m := ⟨6, 1⟩) (meth := k6m1) (c := k6c1) (by decide +kernel) rfl rfl rfl (by decide +kernel)
set_option maxRecDepth 65536 in
theorem w_c20 : (Jvm.Cond.code ({ cls := "java/util/ImmutableCollections", name := "listFromArray", desc := "([Ljava/lang/Object;)Ljava/util/List;" } : Jvm.MethodName) jdk_56_method_4_code (3 : Nat) (Option.some (Jvm.ClassFile.FieldType.object "java/util/List"))).before args0 about1 = true := code_word (m := ⟨21, 2⟩) (meth := k21m2) (c := k21c2) (by decide +kernel) rfl rfl rfl (by decide +kernel)
set_option maxRecDepth 65536 in
theorem w_c21 : (Jvm.Cond.code ({ cls := "java/util/Objects", name := "requireNonNull", desc := "(Ljava/lang/Object;)Ljava/lang/Object;" } : Jvm.MethodName) jdk_31_method_10_code (1 : Nat) (Option.some (Jvm.ClassFile.FieldType.object "java/lang/Object"))).before args0 about1 = true := code_word (m := ⟨28, 1⟩) (meth := k28m1) (c := k28c1) (by decide +kernel) rfl rfl rfl (by decide +kernel)
set_option maxRecDepth 65536 in
theorem w_c22 : (Jvm.Cond.code ({ cls := "java/util/ImmutableCollections$ListN", name := "<init>", desc := "([Ljava/lang/Object;Z)V" } : Jvm.MethodName) jdk_45_method_1_code (3 : Nat) (Option.none : Option Jvm.ClassFile.FieldType)).before args0 about1 = true := code_word (m := ⟨25, 0⟩) (meth := k25m0) (c := k25c0) (by decide +kernel) rfl rfl rfl (by decide +kernel)
set_option maxRecDepth 65536 in
theorem w_c23 : (Jvm.Cond.code ({ cls := "java/util/ImmutableCollections$AbstractImmutableList", name := "<init>", desc := "()V" } : Jvm.MethodName) jdk_46_method_1_code (1 : Nat) (Option.none : Option Jvm.ClassFile.FieldType)).before args0 about1 = true := code_word (m := ⟨23, 0⟩) (meth := k23m0) (c := k23c0) (by decide +kernel) rfl rfl rfl (by decide +kernel)
set_option maxRecDepth 65536 in
theorem w_c24 : (Jvm.Cond.code ({ cls := "java/util/ImmutableCollections$AbstractImmutableCollection", name := "<init>", desc := "()V" } : Jvm.MethodName) jdk_47_method_1_code (1 : Nat) (Option.none : Option Jvm.ClassFile.FieldType)).before args0 about1 = true := code_word (m := ⟨22, 0⟩) (meth := k22m0) (c := k22c0) (by decide +kernel) rfl rfl rfl (by decide +kernel)
set_option maxRecDepth 65536 in
theorem w_c25 : (Jvm.Cond.code ({ cls := "com/example/makewhole/makewhole/mortality/MortalityTable", name := "getLastAge", desc := "()I" } : Jvm.MethodName) prog_36_method_9_code (1 : Nat) (Option.some Jvm.ClassFile.FieldType.int)).before args0 about1 = true := code_word (m := ⟨16, 3⟩) (meth := k16m3) (c := k16c3) (by decide +kernel) rfl rfl rfl (by decide +kernel)
set_option maxRecDepth 65536 in
theorem w_c26 : (Jvm.Cond.code ({ cls := "java/util/ImmutableCollections$ListN", name := "size", desc := "()I" } : Jvm.MethodName) jdk_45_method_3_code (1 : Nat) (Option.some Jvm.ClassFile.FieldType.int)).before args0 about1 = true := code_word (m := ⟨25, 1⟩) (meth := k25m1) (c := k25c1) (by decide +kernel) rfl rfl rfl (by decide +kernel)
set_option maxRecDepth 65536 in
theorem w_c27 : (Jvm.Cond.code ({ cls := "com/example/makewhole/makewhole/mortality/MortalityTable", name := "getFirstAge", desc := "()I" } : Jvm.MethodName) prog_36_method_8_code (1 : Nat) (Option.some Jvm.ClassFile.FieldType.int)).before args0 about1 = true := code_word (m := ⟨16, 2⟩) (meth := k16m2) (c := k16c2) (by decide +kernel) rfl rfl rfl (by decide +kernel)
set_option maxRecDepth 65536 in
theorem w_c28 : (Jvm.Cond.code ({ cls := "java/util/ImmutableCollections$List12", name := "<init>", desc := "(Ljava/lang/Object;Ljava/lang/Object;)V" } : Jvm.MethodName) jdk_44_method_2_code (3 : Nat) (Option.none : Option Jvm.ClassFile.FieldType)).before args0 about1 = true := code_word (m := ⟨24, 1⟩) (meth := k24m1) (c := k24c1) (by decide +kernel) rfl rfl rfl (by decide +kernel)
set_option maxRecDepth 65536 in
theorem w_c29 : (Jvm.Cond.code ({ cls := "java/util/ImmutableCollections$List12", name := "size", desc := "()I" } : Jvm.MethodName) jdk_44_method_3_code (1 : Nat) (Option.some Jvm.ClassFile.FieldType.int)).before args0 about1 = true := code_word (m := ⟨24, 2⟩) (meth := k24m2) (c := k24c2) (by decide +kernel) rfl rfl rfl (by decide +kernel)
set_option maxRecDepth 65536 in
theorem w_c30 : (Jvm.Cond.code ({ cls := "java/util/ImmutableCollections$List12", name := "<init>", desc := "(Ljava/lang/Object;)V" } : Jvm.MethodName) jdk_44_method_1_code (2 : Nat) (Option.none : Option Jvm.ClassFile.FieldType)).before args0 about1 = true := code_word (m := ⟨24, 0⟩) (meth := k24m0) (c := k24c0) (by decide +kernel) rfl rfl rfl (by decide +kernel)
def codes1 : List Jvm.Cond := [Jvm.Cond.code x code maxLocals ret, Jvm.Cond.code ({ cls := "java/util/ArrayList", name := "<init>", desc := "()V" } : Jvm.MethodName) jdk_38_method_2_code (1 : Nat) (Option.none : Option Jvm.ClassFile.FieldType), Jvm.Cond.code ({ cls := "java/util/AbstractList", name := "<init>", desc := "()V" } : Jvm.MethodName) jdk_39_method_1_code (1 : Nat) (Option.none : Option Jvm.ClassFile.FieldType), Jvm.Cond.code ({ cls := "java/util/AbstractCollection", name := "<init>", desc := "()V" } : Jvm.MethodName) jdk_22_method_1_code (1 : Nat) (Option.none : Option Jvm.ClassFile.FieldType), Jvm.Cond.code ({ cls := "java/lang/Object", name := "<init>", desc := "()V" } : Jvm.MethodName) object_method_1_code (1 : Nat) (Option.none : Option Jvm.ClassFile.FieldType), Jvm.Cond.code ({ cls := "java/util/ArrayList", name := "add", desc := "(Ljava/lang/Object;)Z" } : Jvm.MethodName) jdk_38_method_25_code (2 : Nat) (Option.some Jvm.ClassFile.FieldType.boolean), Jvm.Cond.code ({ cls := "java/util/ArrayList", name := "add", desc := "(Ljava/lang/Object;[Ljava/lang/Object;I)V" } : Jvm.MethodName) jdk_38_method_24_code (4 : Nat) (Option.none : Option Jvm.ClassFile.FieldType), Jvm.Cond.code ({ cls := "java/util/ArrayList", name := "grow", desc := "()[Ljava/lang/Object;" } : Jvm.MethodName) jdk_38_method_7_code (1 : Nat) (Option.some (Jvm.ClassFile.FieldType.array (Jvm.ClassFile.FieldType.object "java/lang/Object"))), Jvm.Cond.code ({ cls := "java/util/ArrayList", name := "grow", desc := "(I)[Ljava/lang/Object;" } : Jvm.MethodName) jdk_38_method_6_code (4 : Nat) (Option.some (Jvm.ClassFile.FieldType.array (Jvm.ClassFile.FieldType.object "java/lang/Object"))), Jvm.Cond.code ({ cls := "java/lang/Math", name := "max", desc := "(II)I" } : Jvm.MethodName) jdk_29_method_65_code (2 : Nat) (Option.some Jvm.ClassFile.FieldType.int), Jvm.Cond.code ({ cls := "com/example/makewhole/makewhole/mortality/MortalityTable", name := "<init>", desc := "(Ljava/lang/String;ILjava/util/List;)V" } : Jvm.MethodName) prog_36_method_1_code (4 : Nat) (Option.none : Option Jvm.ClassFile.FieldType), Jvm.Cond.code ({ cls := "com/example/makewhole/makewhole/mortality/MortalityTable", name := "<init>", desc := "(Ljava/lang/String;ILjava/util/List;Ljava/lang/String;Ljava/lang/String;)V" } : Jvm.MethodName) prog_36_method_2_code (6 : Nat) (Option.none : Option Jvm.ClassFile.FieldType), Jvm.Cond.code ({ cls := "java/util/List", name := "copyOf", desc := "(Ljava/util/Collection;)Ljava/util/List;" } : Jvm.MethodName) jdk_40_method_48_code (1 : Nat) (Option.some (Jvm.ClassFile.FieldType.object "java/util/List")), Jvm.Cond.code ({ cls := "java/util/ImmutableCollections", name := "listCopy", desc := "(Ljava/util/Collection;)Ljava/util/List;" } : Jvm.MethodName) jdk_56_method_3_code (2 : Nat) (Option.some (Jvm.ClassFile.FieldType.object "java/util/List")), Jvm.Cond.code ({ cls := "java/util/ArrayList", name := "isEmpty", desc := "()Z" } : Jvm.MethodName) jdk_38_method_9_code (1 : Nat) (Option.some Jvm.ClassFile.FieldType.boolean), Jvm.Cond.code ({ cls := "java/util/ArrayList", name := "toArray", desc := "()[Ljava/lang/Object;" } : Jvm.MethodName) jdk_38_method_16_code (1 : Nat) (Option.some (Jvm.ClassFile.FieldType.array (Jvm.ClassFile.FieldType.object "java/lang/Object"))), Jvm.Cond.code ({ cls := "java/util/Arrays", name := "copyOf", desc := "([Ljava/lang/Object;I)[Ljava/lang/Object;" } : Jvm.MethodName) jdk_65_method_119_code (2 : Nat) (Option.some (Jvm.ClassFile.FieldType.array (Jvm.ClassFile.FieldType.object "java/lang/Object"))), Jvm.Cond.code ({ cls := "java/util/Arrays", name := "copyOf", desc := "([Ljava/lang/Object;ILjava/lang/Class;)[Ljava/lang/Object;" } : Jvm.MethodName) jdk_65_method_120_code (4 : Nat) (Option.some (Jvm.ClassFile.FieldType.array (Jvm.ClassFile.FieldType.object "java/lang/Object"))), Jvm.Cond.code ({ cls := "java/lang/Math", name := "min", desc := "(II)I" } : Jvm.MethodName) jdk_29_method_69_code (2 : Nat) (Option.some Jvm.ClassFile.FieldType.int), Jvm.Cond.code ({ cls := "java/util/List", name := "of", desc := "([Ljava/lang/Object;)Ljava/util/List;" } : Jvm.MethodName) jdk_40_method_47_code (2 : Nat) (Option.some (Jvm.ClassFile.FieldType.object "java/util/List")), Jvm.Cond.code ({ cls := "java/util/ImmutableCollections", name := "listFromArray", desc := "([Ljava/lang/Object;)Ljava/util/List;" } : Jvm.MethodName) jdk_56_method_4_code (3 : Nat) (Option.some (Jvm.ClassFile.FieldType.object "java/util/List")), Jvm.Cond.code ({ cls := "java/util/Objects", name := "requireNonNull", desc := "(Ljava/lang/Object;)Ljava/lang/Object;" } : Jvm.MethodName) jdk_31_method_10_code (1 : Nat) (Option.some (Jvm.ClassFile.FieldType.object "java/lang/Object")), Jvm.Cond.code ({ cls := "java/util/ImmutableCollections$ListN", name := "<init>", desc := "([Ljava/lang/Object;Z)V" } : Jvm.MethodName) jdk_45_method_1_code (3 : Nat) (Option.none : Option Jvm.ClassFile.FieldType), Jvm.Cond.code ({ cls := "java/util/ImmutableCollections$AbstractImmutableList", name := "<init>", desc := "()V" } : Jvm.MethodName) jdk_46_method_1_code (1 : Nat) (Option.none : Option Jvm.ClassFile.FieldType), Jvm.Cond.code ({ cls := "java/util/ImmutableCollections$AbstractImmutableCollection", name := "<init>", desc := "()V" } : Jvm.MethodName) jdk_47_method_1_code (1 : Nat) (Option.none : Option Jvm.ClassFile.FieldType), Jvm.Cond.code ({ cls := "com/example/makewhole/makewhole/mortality/MortalityTable", name := "getLastAge", desc := "()I" } : Jvm.MethodName) prog_36_method_9_code (1 : Nat) (Option.some Jvm.ClassFile.FieldType.int), Jvm.Cond.code ({ cls := "java/util/ImmutableCollections$ListN", name := "size", desc := "()I" } : Jvm.MethodName) jdk_45_method_3_code (1 : Nat) (Option.some Jvm.ClassFile.FieldType.int), Jvm.Cond.code ({ cls := "com/example/makewhole/makewhole/mortality/MortalityTable", name := "getFirstAge", desc := "()I" } : Jvm.MethodName) prog_36_method_8_code (1 : Nat) (Option.some Jvm.ClassFile.FieldType.int), Jvm.Cond.code ({ cls := "java/util/ImmutableCollections$List12", name := "<init>", desc := "(Ljava/lang/Object;Ljava/lang/Object;)V" } : Jvm.MethodName) jdk_44_method_2_code (3 : Nat) (Option.none : Option Jvm.ClassFile.FieldType), Jvm.Cond.code ({ cls := "java/util/ImmutableCollections$List12", name := "size", desc := "()I" } : Jvm.MethodName) jdk_44_method_3_code (1 : Nat) (Option.some Jvm.ClassFile.FieldType.int), Jvm.Cond.code ({ cls := "java/util/ImmutableCollections$List12", name := "<init>", desc := "(Ljava/lang/Object;)V" } : Jvm.MethodName) jdk_44_method_1_code (2 : Nat) (Option.none : Option Jvm.ClassFile.FieldType)]
set_option maxRecDepth 65536 in
theorem codes_eq : words1.filter isCode = codes1 := rfl
theorem w_codes : ∀ c ∈ words1.filter isCode, c.before args0 about1 = true := by
  rw [codes_eq]
  intro c hc
  simp only [codes1, List.mem_cons, List.not_mem_nil, or_false] at hc
  rcases hc with rfl | rfl | rfl | rfl | rfl | rfl | rfl | rfl | rfl | rfl | rfl | rfl | rfl | rfl | rfl | rfl | rfl | rfl | rfl | rfl | rfl | rfl | rfl | rfl | rfl | rfl | rfl | rfl | rfl | rfl | rfl
  · exact w_c0
  · exact w_c1
  · exact w_c2
  · exact w_c3
  · exact w_c4
  · exact w_c5
  · exact w_c6
  · exact w_c7
  · exact w_c8
  · exact w_c9
  · exact w_c10
  · exact w_c11
  · exact w_c12
  · exact w_c13
  · exact w_c14
  · exact w_c15
  · exact w_c16
  · exact w_c17
  · exact w_c18
  · exact w_c19
  · exact w_c20
  · exact w_c21
  · exact w_c22
  · exact w_c23
  · exact w_c24
  · exact w_c25
  · exact w_c26
  · exact w_c27
  · exact w_c28
  · exact w_c29
  · exact w_c30
set_option maxRecDepth 65536 in
theorem w_t1 : (words1.take 24).all (fun c => isCode c || c.before args0 about1) = true := by decide +kernel
set_option maxRecDepth 65536 in
theorem w_t2 : ((words1.drop 24).take 24).all (fun c => isCode c || c.before args0 about1) = true := by decide +kernel
set_option maxRecDepth 65536 in
theorem w_t3 : (((words1.drop 24).drop 24).take 24).all (fun c => isCode c || c.before args0 about1) = true := by decide +kernel
set_option maxRecDepth 65536 in
theorem w_t4 : ((((words1.drop 24).drop 24).drop 24).take 24).all (fun c => isCode c || c.before args0 about1) = true := by decide +kernel
set_option maxRecDepth 65536 in
theorem w_t5 : (((((words1.drop 24).drop 24).drop 24).drop 24).take 24).all (fun c => isCode c || c.before args0 about1) = true := by decide +kernel
set_option maxRecDepth 65536 in
theorem w_t6 : ((((((words1.drop 24).drop 24).drop 24).drop 24).drop 24).take 24).all (fun c => isCode c || c.before args0 about1) = true := by decide +kernel
set_option maxRecDepth 65536 in
theorem w_t7 : (((((((words1.drop 24).drop 24).drop 24).drop 24).drop 24).drop 24).take 24).all (fun c => isCode c || c.before args0 about1) = true := by decide +kernel
set_option maxRecDepth 65536 in
theorem w_t8 : ((((((((words1.drop 24).drop 24).drop 24).drop 24).drop 24).drop 24).drop 24).take 24).all (fun c => isCode c || c.before args0 about1) = true := by decide +kernel
set_option maxRecDepth 65536 in
theorem w_t9 : (((((((((words1.drop 24).drop 24).drop 24).drop 24).drop 24).drop 24).drop 24).drop 24).take 24).all (fun c => isCode c || c.before args0 about1) = true := by decide +kernel
set_option maxRecDepth 65536 in
theorem w_t10 : (((((((((words1.drop 24).drop 24).drop 24).drop 24).drop 24).drop 24).drop 24).drop 24).drop 24).all (fun c => isCode c || c.before args0 about1) = true := by decide +kernel
theorem w_tables : (allAtoms (Jvm.Cond.code x code maxLocals ret :: tables_1)).before args0 about1 = true := by
  rw [allAtoms_all]
  show words1.all (fun c => c.before args0 about1) = true
  refine all_split ?_ w_codes
  rw [← List.take_append_drop 24 words1, List.all_append, w_t1, ← List.take_append_drop 24 (words1.drop 24), List.all_append, w_t2, ← List.take_append_drop 24 ((words1.drop 24).drop 24), List.all_append, w_t3, ← List.take_append_drop 24 (((words1.drop 24).drop 24).drop 24), List.all_append, w_t4, ← List.take_append_drop 24 ((((words1.drop 24).drop 24).drop 24).drop 24), List.all_append, w_t5, ← List.take_append_drop 24 (((((words1.drop 24).drop 24).drop 24).drop 24).drop 24), List.all_append, w_t6, ← List.take_append_drop 24 ((((((words1.drop 24).drop 24).drop 24).drop 24).drop 24).drop 24), List.all_append, w_t7, ← List.take_append_drop 24 (((((((words1.drop 24).drop 24).drop 24).drop 24).drop 24).drop 24).drop 24), List.all_append, w_t8, ← List.take_append_drop 24 ((((((((words1.drop 24).drop 24).drop 24).drop 24).drop 24).drop 24).drop 24).drop 24), List.all_append, w_t9, w_t10]
  rfl
set_option maxRecDepth 65536 in
theorem w_rest : rest_1_c.before args0 about1 = true := by decide +kernel
set_option maxRecDepth 65536 in
theorem w_case : (Jvm.Cond.and given_1 narrow_1).before args0 about1 = true := by decide +kernel
theorem w_applies : (headSpec (Jvm.Cond.code x code maxLocals ret :: tables_1) room_1).applies x e0.platform about1 = true :=
  (Spec.applies_iff w_frames).mpr ⟨w_running, w_runnable, w_alone, w_named, w_hears, w_ripe, w_room, w_tables⟩
theorem atStart : AtStart classFile x code maxLocals ret World_1 tables_1 room_1 Calls_1 rest_1 Pre_1 launch0 p0 e0 about1 theMethod args0 below0 :=
  ⟨lists_1, trivial, launch0.admits_env _ _ _, launch0.least_env, fairChoices_fair.cas, fairChoices_fair.clock, w_frames, w_args, w_heap, w_applies, ⟨⟨34, k34, 14, by decide +kernel, rfl, rfl, _, rfl, rfl⟩, trivial⟩, w_rest, w_case⟩
end start1
theorem witness_1 : WitnessClaimed_1 := ⟨start1.p0, start1.e0, start1.about1, start1.theMethod, start1.args0, start1.below0, start1.atStart⟩
end Jvm.Pilot.@@N@@
