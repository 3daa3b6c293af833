import JvmDerived
import JvmDerived.Pilot.@@N@@Statement
import JvmDerived.Pilot.@@N@@Code
set_option linter.unusedVariables false
set_option linter.unusedSimpArgs false
namespace Jvm.RoadKit
open Sem ClassFile Op Lib Jvm.Stand Jvm.Free Jvm.LawKit
section OwnKit
/-- the run from S comes to an end that P allows -/
def Gl (tb : Tables) (e : Env) (below : List Frame) (P : Outcome → State → Prop) (S : State) : Prop := ∃ s₂ o, Steps tb e below S s₂ ∧ s₂.status = .running ∧ Ended s₂ below o ∧ P o s₂
variable {tb : Tables} {p : Program} {l : Launch} {e : Env} {R : Room} {s : State} {m : MethodId} {args : Array Value} {below : List Frame} {meth : Method} {c : Code} {T : State} {locs : List Loc} {cells slots : Nat} {P : Outcome → State → Prop} {S S' : State}
theorem Gl.st (h : ∀ t, Steps tb e below S' t → Steps tb e below S t) (k : Gl tb e below P S') : Gl tb e below P S := by
  obtain ⟨s₂, o, h1, h2⟩ := k; exact ⟨s₂, o, h _ h1, h2⟩
theorem Gl.to (h : Steps tb e below S S') (k : Gl tb e below P S') : Gl tb e below P S := Gl.st (fun _ q => h.trans q) k
theorem Gl.cast {g g' : JFrame} (q : g = g') (k : Gl tb e below P (T.setTop g')) : Gl tb e below P (T.setTop g) := q ▸ k
abbrev EndN (s : State) (Q : Option Value → Heap → List Loc → Prop) (kc ks : Nat) : Outcome → State → Prop := fun o s₂ => ∃ v L, o = .returned v ∧ Q v s₂.heap L ∧ FrameEnd s o s₂ L kc ks
abbrev EndW (s : State) (Q : Option Value → Heap → List Loc → Prop) (kc ks : Nat) : Outcome → State → Prop := fun o s₂ => ∃ v L, o = .returned v ∧ Q v s₂.heap L ∧ ReturnedEndW s o s₂ L kc ks
variable {Q : Option Value → Heap → List Loc → Prop} {kc ks : Nat}
theorem Gl.fin (X : Stand p l e R s m args below meth c T locs cells slots) {v : Option Value} (hv : meth.sig.returnType = none → v = none) (hlk : meth.locks = false) (hc : cells ≤ kc) (hs : slots ≤ ks) (hQ : Q v T.heap locs)
    (k : ∀ fs, (∀ (f : JFrame) (acts : List Action), f.method = m → f.locked = none → f.entered = [] → (doReturn e (T.setTop f) acts v).1 = T.setFrames fs) → Steps p.tables e below S (T.setFrames fs)) : Gl p.tables e below (EndN s Q kc ks) S := by
  obtain ⟨fs, hr, hrun, hended, hW, hsame⟩ := X.leave hv hlk
  exact ⟨_, _, k fs hr, hrun, hended, v, locs, rfl, hQ, ⟨_, rfl⟩, hW, hsame.mono hc hs⟩
theorem Gl.finW {vm₁ : Vm} {n : Nat} (X : Stand p l e R (s.setVm vm₁) m args below meth c T locs cells slots) (hS : s.Since vm₁ n) (hn : n ≤ T.heap.size) {v : Option Value} (hv : meth.sig.returnType = none → v = none) (hlk : meth.locks = false) (hc : cells ≤ kc) (hs : slots ≤ ks) (hQ : Q v T.heap locs)
    (k : ∀ fs, (∀ (f : JFrame) (acts : List Action), f.method = m → f.locked = none → f.entered = [] → (doReturn e (T.setTop f) acts v).1 = T.setFrames fs) → Steps p.tables e below S (T.setFrames fs)) : Gl p.tables e below (EndW s Q kc ks) S := by
  obtain ⟨fs, hr, hrun, hended, h1, h2, h3, hsame⟩ := X.leaveW hS hn hv hlk
  exact ⟨_, _, k fs hr, hrun, hended, v, locs, rfl, hQ, h1, h2, h3, hsame.mono hc hs⟩
variable {pc : Nat} {Ls : Array Slot} {rest : List Value}
theorem nov {meth : Method} {t : FieldType} {v : Option Value} (h : meth.sig.returnType = some t) : meth.sig.returnType = none → v = none := fun q => by rw [h] at q; cases q
theorem narR {t : FieldType} {w : Value} (hw : w.isRef = true) (ht : t.isReference = true) : narrow t w = w := by
  rcases ref_cases hw with rfl | ⟨a, rfl⟩ <;> cases t <;> first | rfl | (simp [FieldType.isReference] at ht)
theorem fitR {t : FieldType} {w : Value} (hw : w.isRef = true) (ht : t.isReference = true) : fits t w = true := by
  rcases ref_cases hw with rfl | ⟨a, rfl⟩ <;> cases t <;> first | rfl | (simp [FieldType.isReference] at ht)
theorem refc {w : Value} (hw : w.isRef = true) : w.category = 1 := by
  rcases ref_cases hw with rfl | ⟨a, rfl⟩ <;> rfl
theorem lt_ne32 {u w : Int32} (h : u < w) : ¬ u = w := fun q => by rw [q] at h; exact Int32.lt_irrefl h
theorem lt_ne32' {u w : Int32} (h : w < u) : ¬ u = w := fun q => lt_ne32 h q.symm
theorem tri32 {u w : Int32} (h1 : ¬ u < w) (h2 : ¬ w < u) : u = w := by
  rw [Int32.lt_iff_toInt_lt] at h1 h2
  exact Int32.toInt_inj.mp (by omega)
theorem alc0 {P : Int32 → Prop} : ∀ x ∈ ([] : List Int32), P x := fun _ q => nomatch q
theorem alcS {P : Int32 → Prop} {y : Int32} {L : List Int32} (q : P y) (r : ∀ x ∈ L, P x) : ∀ x ∈ y :: L, P x := fun x z => (List.mem_cons.mp z).elim (fun u => u ▸ q) (r x)
theorem up255 (cs : List Int32) (h : ∀ c ∈ cs, ¬ c < 0 ∧ ¬ (255 : Int32) < c) : ∀ c ∈ cs, ¬ c < 0 ∧ ¬ (65535 : Int32) < c := fun c hc => ⟨(h c hc).1, fun q => (h c hc).2 (by rw [Int32.lt_iff_toInt_lt] at q ⊢; have e1 : (65535 : Int32).toInt = 65535 := rfl; have e2 : (255 : Int32).toInt = 255 := rfl; omega)⟩
theorem Gl.retN (X : Stand p l e R s m args below meth c T locs cells slots) (hx : p.tables.exec = Jvm.exec) {z : Int32} {t : FieldType} (hret : meth.sig.returnType = some t) (ht : t = .boolean ∨ t = .byte ∨ t = .char ∨ t = .short) (hd : decode c.code pc = .ok (.ireturn, 1)) (hlk : meth.locks = false) (hc : cells ≤ kc) (hs : slots ≤ ks) (hQ : Q (some (.int (nar t z))) T.heap locs) : Gl p.tables e below (EndN s Q kc ks) (T.setTop (mkF m pc Ls (.int z :: rest))) :=
  Gl.fin X (nov hret) hlk hc hs hQ fun _ hr => Jvm.RoadKit.retN X hx hret ht hd hr
theorem retIo (X : Stand p l e R s m args below meth c T locs cells slots) (hx : p.tables.exec = Jvm.exec) {z : Int32} (hret : meth.sig.returnType = some .int) (hd : decode c.code pc = .ok (.ireturn, 1)) {fs : List Frame}
    (hl : ∀ (f : JFrame) (acts : List Action), f.method = m → f.locked = none → f.entered = [] → (doReturn e (T.setTop f) acts (some (.int z))).1 = T.setFrames fs) : Steps p.tables e below (T.setTop (mkF m pc Ls (.int z :: rest))) (T.setFrames fs) :=
  retOut X hx hret rfl (Or.inl ⟨rfl, Or.inl rfl, _, rfl⟩) hd hl
theorem Gl.retI (X : Stand p l e R s m args below meth c T locs cells slots) (hx : p.tables.exec = Jvm.exec) {z : Int32} (hret : meth.sig.returnType = some .int) (hd : decode c.code pc = .ok (.ireturn, 1)) (hlk : meth.locks = false) (hc : cells ≤ kc) (hs : slots ≤ ks) (hQ : Q (some (.int z)) T.heap locs) : Gl p.tables e below (EndN s Q kc ks) (T.setTop (mkF m pc Ls (.int z :: rest))) :=
  Gl.fin X (nov hret) hlk hc hs hQ fun _ hr => retIo X hx hret hd hr
theorem Gl.retJ (X : Stand p l e R s m args below meth c T locs cells slots) (hx : p.tables.exec = Jvm.exec) {z : Int64} (hret : meth.sig.returnType = some .long) (hd : decode c.code pc = .ok (.lreturn, 1)) (hlk : meth.locks = false) (hc : cells ≤ kc) (hs : slots ≤ ks) (hQ : Q (some (.long z)) T.heap locs) : Gl p.tables e below (EndN s Q kc ks) (T.setTop (mkF m pc Ls (.long z :: rest))) :=
  Gl.fin X (nov hret) hlk hc hs hQ fun _ hr => retOut X hx hret rfl (Or.inr (Or.inl ⟨rfl, rfl, _, rfl⟩)) hd hr
theorem Gl.retA (X : Stand p l e R s m args below meth c T locs cells slots) (hx : p.tables.exec = Jvm.exec) {w : Value} {t : FieldType} (hret : meth.sig.returnType = some t) (ht : t.isReference = true) (hw : w.isRef = true) (hd : decode c.code pc = .ok (.areturn, 1)) (hlk : meth.locks = false) (hc : cells ≤ kc) (hs : slots ≤ ks) (hQ : Q (some w) T.heap locs) : Gl p.tables e below (EndN s Q kc ks) (T.setTop (mkF m pc Ls (w :: rest))) :=
  Gl.fin X (nov hret) hlk hc hs hQ fun _ hr => retOut X hx hret (narR hw ht) (Or.inr (Or.inr (Or.inr (Or.inr ⟨rfl, ht, hw⟩)))) hd hr
theorem Gl.ret0 (X : Stand p l e R s m args below meth c T locs cells slots) (hx : p.tables.exec = Jvm.exec) (hret : meth.sig.returnType = none) (hd : decode c.code pc = .ok (.return_, 1)) (hlk : meth.locks = false) (hc : cells ≤ kc) (hs : slots ≤ ks) (hQ : Q none T.heap locs) : Gl p.tables e below (EndN s Q kc ks) (T.setTop (mkF m pc Ls [])) :=
  Gl.fin X (fun _ => rfl) hlk hc hs hQ fun _ hr => X.returnOut hx hret hd hr
variable {vm₁ : Vm} {n : Nat}
theorem Gl.retNW (X : Stand p l e R (s.setVm vm₁) m args below meth c T locs cells slots) (hx : p.tables.exec = Jvm.exec) (hS : s.Since vm₁ n) (hn : n ≤ T.heap.size) {z : Int32} {t : FieldType} (hret : meth.sig.returnType = some t) (ht : t = .boolean ∨ t = .byte ∨ t = .char ∨ t = .short) (hd : decode c.code pc = .ok (.ireturn, 1)) (hlk : meth.locks = false) (hc : cells ≤ kc) (hs : slots ≤ ks) (hQ : Q (some (.int (nar t z))) T.heap locs) : Gl p.tables e below (EndW s Q kc ks) (T.setTop (mkF m pc Ls (.int z :: rest))) :=
  Gl.finW X hS hn (nov hret) hlk hc hs hQ fun _ hr => Jvm.RoadKit.retN X hx hret ht hd hr
theorem Gl.retIW (X : Stand p l e R (s.setVm vm₁) m args below meth c T locs cells slots) (hx : p.tables.exec = Jvm.exec) (hS : s.Since vm₁ n) (hn : n ≤ T.heap.size) {z : Int32} (hret : meth.sig.returnType = some .int) (hd : decode c.code pc = .ok (.ireturn, 1)) (hlk : meth.locks = false) (hc : cells ≤ kc) (hs : slots ≤ ks) (hQ : Q (some (.int z)) T.heap locs) : Gl p.tables e below (EndW s Q kc ks) (T.setTop (mkF m pc Ls (.int z :: rest))) :=
  Gl.finW X hS hn (nov hret) hlk hc hs hQ fun _ hr => retIo X hx hret hd hr
theorem Gl.retAW (X : Stand p l e R (s.setVm vm₁) m args below meth c T locs cells slots) (hx : p.tables.exec = Jvm.exec) (hS : s.Since vm₁ n) (hn : n ≤ T.heap.size) {w : Value} {t : FieldType} (hret : meth.sig.returnType = some t) (ht : t.isReference = true) (hw : w.isRef = true) (hd : decode c.code pc = .ok (.areturn, 1)) (hlk : meth.locks = false) (hc : cells ≤ kc) (hs : slots ≤ ks) (hQ : Q (some w) T.heap locs) : Gl p.tables e below (EndW s Q kc ks) (T.setTop (mkF m pc Ls (w :: rest))) :=
  Gl.finW X hS hn (nov hret) hlk hc hs hQ fun _ hr => retOut X hx hret (narR hw ht) (Or.inr (Or.inr (Or.inr (Or.inr ⟨rfl, ht, hw⟩)))) hd hr
theorem Gl.ret0W (X : Stand p l e R (s.setVm vm₁) m args below meth c T locs cells slots) (hx : p.tables.exec = Jvm.exec) (hS : s.Since vm₁ n) (hn : n ≤ T.heap.size) (hret : meth.sig.returnType = none) (hd : decode c.code pc = .ok (.return_, 1)) (hlk : meth.locks = false) (hc : cells ≤ kc) (hs : slots ≤ ks) (hQ : Q none T.heap locs) : Gl p.tables e below (EndW s Q kc ks) (T.setTop (mkF m pc Ls [])) :=
  Gl.finW X hS hn (fun _ => rfl) hlk hc hs hQ fun _ hr => X.returnOut hx hret hd hr
abbrev EndH (s : State) (Z : State) (EL : List (String × Nat)) (Q : Option Value → Heap → List Loc → Prop) (kc ks : Nat) : Outcome → State → Prop := fun o s₂ => ∃ v L, o = .returned v ∧ Q v s₂.heap L ∧ CHr Z EL s.vm s.heap s₂.vm s₂.heap ∧ ReturnedEndW s o s₂ L kc ks
variable {Z : State} {EL : List (String × Nat)}
theorem Gl.finH (X : Stand p l e R (s.setVm vm₁) m args below meth c T locs cells slots) (hS : s.Since vm₁ n) (hn : n ≤ T.heap.size) (hC : CHr Z EL s.vm s.heap T.vm T.heap) {v : Option Value} (hv : meth.sig.returnType = none → v = none) (hlk : meth.locks = false) (hc : cells ≤ kc) (hs : slots ≤ ks) (hQ : Q v T.heap locs)
    (k : ∀ fs, (∀ (f : JFrame) (acts : List Action), f.method = m → f.locked = none → f.entered = [] → (doReturn e (T.setTop f) acts v).1 = T.setFrames fs) → Steps p.tables e below S (T.setFrames fs)) : Gl p.tables e below (EndH s Z EL Q kc ks) S := by
  obtain ⟨fs, hr, hrun, hended, h1, h2, h3, hsame⟩ := X.leaveW hS hn hv hlk
  exact ⟨_, _, k fs hr, hrun, hended, v, locs, rfl, hQ, hC, h1, h2, h3, hsame.mono hc hs⟩
theorem Gl.retNH (X : Stand p l e R (s.setVm vm₁) m args below meth c T locs cells slots) (hx : p.tables.exec = Jvm.exec) (hS : s.Since vm₁ n) (hn : n ≤ T.heap.size) (hC : CHr Z EL s.vm s.heap T.vm T.heap) {z : Int32} {t : FieldType} (hret : meth.sig.returnType = some t) (ht : t = .boolean ∨ t = .byte ∨ t = .char ∨ t = .short) (hd : decode c.code pc = .ok (.ireturn, 1)) (hlk : meth.locks = false) (hc : cells ≤ kc) (hs : slots ≤ ks) (hQ : Q (some (.int (nar t z))) T.heap locs) : Gl p.tables e below (EndH s Z EL Q kc ks) (T.setTop (mkF m pc Ls (.int z :: rest))) :=
  Gl.finH X hS hn hC (nov hret) hlk hc hs hQ fun _ hr => Jvm.RoadKit.retN X hx hret ht hd hr
theorem Gl.retIH (X : Stand p l e R (s.setVm vm₁) m args below meth c T locs cells slots) (hx : p.tables.exec = Jvm.exec) (hS : s.Since vm₁ n) (hn : n ≤ T.heap.size) (hC : CHr Z EL s.vm s.heap T.vm T.heap) {z : Int32} (hret : meth.sig.returnType = some .int) (hd : decode c.code pc = .ok (.ireturn, 1)) (hlk : meth.locks = false) (hc : cells ≤ kc) (hs : slots ≤ ks) (hQ : Q (some (.int z)) T.heap locs) : Gl p.tables e below (EndH s Z EL Q kc ks) (T.setTop (mkF m pc Ls (.int z :: rest))) :=
  Gl.finH X hS hn hC (nov hret) hlk hc hs hQ fun _ hr => retIo X hx hret hd hr
theorem Gl.retAH (X : Stand p l e R (s.setVm vm₁) m args below meth c T locs cells slots) (hx : p.tables.exec = Jvm.exec) (hS : s.Since vm₁ n) (hn : n ≤ T.heap.size) (hC : CHr Z EL s.vm s.heap T.vm T.heap) {w : Value} {t : FieldType} (hret : meth.sig.returnType = some t) (ht : t.isReference = true) (hw : w.isRef = true) (hd : decode c.code pc = .ok (.areturn, 1)) (hlk : meth.locks = false) (hc : cells ≤ kc) (hs : slots ≤ ks) (hQ : Q (some w) T.heap locs) : Gl p.tables e below (EndH s Z EL Q kc ks) (T.setTop (mkF m pc Ls (w :: rest))) :=
  Gl.finH X hS hn hC (nov hret) hlk hc hs hQ fun _ hr => retOut X hx hret (narR hw ht) (Or.inr (Or.inr (Or.inr (Or.inr ⟨rfl, ht, hw⟩)))) hd hr
theorem Gl.ret0H (X : Stand p l e R (s.setVm vm₁) m args below meth c T locs cells slots) (hx : p.tables.exec = Jvm.exec) (hS : s.Since vm₁ n) (hn : n ≤ T.heap.size) (hC : CHr Z EL s.vm s.heap T.vm T.heap) (hret : meth.sig.returnType = none) (hd : decode c.code pc = .ok (.return_, 1)) (hlk : meth.locks = false) (hc : cells ≤ kc) (hs : slots ≤ ks) (hQ : Q none T.heap locs) : Gl p.tables e below (EndH s Z EL Q kc ks) (T.setTop (mkF m pc Ls [])) :=
  Gl.finH X hS hn hC (fun _ => rfl) hlk hc hs hQ fun _ hr => X.returnOut hx hret hd hr
theorem safe_nul {vm : Vm} {h : Heap} {x : Addr} (hal : Z.vm.Alike vm) (E : Exa Z h x "java/lang/String") (V : Fld Z h x "java/lang/String" "value" "[B" .null) : Safe Z EL vm h x := fun B => by
  obtain ⟨p, hp, u, a, hb, q, hqa, hS, hy⟩ := B
  obtain ⟨cS, ⟨⟨s1, s2, s3, ⟨cv, kv, iv, s4, s4'⟩, ⟨cc, kc, ic, s5, s5'⟩, s6, s7, s8, s9, s10, s11, s12, s13, s14, s15, s16⟩, hfS, hcS⟩, ⟨kS, k1, k2, k3⟩, hB, hbyt⟩ := hS
  rcases hy with rfl | rfl
  · obtain ⟨cell, cf, k, i, f, f1, f2, f3, f4, f5, f6, f7⟩ := V
    have e1 : cell = q.sC := Option.some.inj (f1.symm.trans s1)
    obtain ⟨kv', z4⟩ := ff_back (U := Wst Z vm h) hal s4
    cases f2.symm.trans z4
    rw [e1, s8] at f7
    cases f7
  · obtain ⟨cell, k, e1, e2, e3, e4, e5⟩ := E
    have e6 : cell = q.SA := Option.some.inj (e1.symm.trans s10)
    subst e6
    have hB' : Z.vm.findClass "[B" = some q.SA.cls := by rw [← hal.findClass]; exact hB
    obtain ⟨k1', a1, a2⟩ := Vm.findClass_spec e2
    obtain ⟨k2', b1, b2⟩ := Vm.findClass_spec hB'
    cases a1.symm.trans b1
    exact absurd (a2.symm.trans b2) (by decide)
/-- an object of a class whose superclass is the root is no instance of another class -/
theorem not_root {a0 : Array Value} {C O K : String} {n : Nat} (w : (Cond.superclass C O).before a0 Z = true) (wr : (Cond.noSuperclass O).before a0 Z = true) (wi : (Cond.instantiable K n).before a0 Z = true) (h1 : C ≠ K) (h2 : O ≠ K) : ∃ c t, Z.vm.findClass C = some c ∧ Z.vm.findClass K = some t ∧ Z.vm.assignable c t = false := by
  obtain ⟨t, kt, g1, g2, g3, g4, -⟩ := Cond.instantiable_spec wi
  obtain ⟨c, h0⟩ := found_sup w
  obtain ⟨p, k, kp, s1, s2, s3, s4, s5, s6, s7⟩ := Cond.superclass_spec h0 w
  obtain ⟨o, ko, o1, o2, o3, o4, o5⟩ := Cond.noSuperclass_spec wr
  have ne1 := ids_ne h0 g1 h1
  have ne2 := ids_ne o1 g1 h2
  have hi : kt.isInterface = false := by
    cases q : kt.isInterface with
    | false => rfl
    | true => rw [q] at g4; simp at g4
  have n0 : NS Z O K := ⟨o, t, o1, g1, fun fuel => by
    cases fuel with
    | zero => rfl
    | succ f => simp [Vm.isSubclassAux, ne2, o2, o3]⟩
  obtain ⟨c', t', a1, a2, n3⟩ := NS.step w n0 h1
  cases h0.symm.trans a1
  cases g1.symm.trans a2
  refine ⟨c, t, h0, g1, ?_⟩
  show Z.vm.assignableAux (255 + 1) c t = false
  simp [Vm.assignableAux, ne1, s2, g2, s5, g3, hi, Vm.isSubclass, n3]
end OwnKit
end Jvm.RoadKit
namespace Jvm.Pilot.@@N@@
open Jvm Jvm.ClassFile Sem Op Lib Jvm.Free Jvm.Stand Jvm.LawKit Jvm.RoadKit Bundle Jvm.Pilot.@@N@@.Jvm.D
theorem tw {a0 : Array Value} {Z : State} (hw : ∀ d ∈ tables_1, d.before a0 Z = true) (i : Nat) {d : Jvm.Cond} (h : tables_1[i]? = some d) : d.before a0 Z = true := hw d (List.mem_of_getElem? h)
theorem pn_com_example_rooted_tableau_rootedtableau_core_DependencySet : plainName "com/example/rooted_tableau/rootedtableau/core/DependencySet" = true := by first | (simp [plainName, overriddenIn]; done) | decide +kernel
theorem pn_com_example_rooted_tableau_rootedtableau_core_DependencySetOfPinLaw : plainName "com/example/rooted_tableau/rootedtableau/core/DependencySetOfPinLaw" = true := by first | (simp [plainName, overriddenIn]; done) | decide +kernel
theorem pn_java_util_Arrays : plainName "java/util/Arrays" = true := by first | (simp [plainName, overriddenIn]; done) | decide +kernel
theorem pd___I_V : parseMethodDescriptor "([I)V" = some ⟨[(.array .int)], none⟩ := by decide +kernel
theorem pd___IIII_I : parseMethodDescriptor "([IIII)I" = some ⟨[(.array .int), .int, .int, .int], some .int⟩ := by decide +kernel
theorem pd___II_I : parseMethodDescriptor "([II)I" = some ⟨[(.array .int), .int], some .int⟩ := by decide +kernel
theorem pd__I_Lcom_example_rooted_tableau_rootedtableau_core_DependencySet_ : parseMethodDescriptor "(I)Lcom/example/rooted_tableau/rootedtableau/core/DependencySet;" = some ⟨[.int], some (.object "com/example/rooted_tableau/rootedtableau/core/DependencySet")⟩ := by decide +kernel
theorem pd___Z : parseMethodDescriptor "()Z" = some ⟨[], some .boolean⟩ := by decide +kernel
theorem pd___I : parseMethodDescriptor "()I" = some ⟨[], some .int⟩ := by decide +kernel
theorem d2_0 : decode prog_13_method_1_code 0 = .ok (.aload_n 0, 1) := by decide +kernel
theorem d2_1 : decode prog_13_method_1_code 1 = .ok (.invokespecial 1, 3) := by decide +kernel
theorem d2_4 : decode prog_13_method_1_code 4 = .ok (.aload_n 0, 1) := by decide +kernel
theorem d2_5 : decode prog_13_method_1_code 5 = .ok (.aload_n 1, 1) := by decide +kernel
theorem d2_6 : decode prog_13_method_1_code 6 = .ok (.putfield 7, 3) := by decide +kernel
theorem d2_9 : decode prog_13_method_1_code 9 = .ok (.return_, 1) := by decide +kernel
theorem ef_ini (m : MethodId) (a : Addr) (t : Addr) : entryFrame m #[(.ref a), (.ref t)] 2 = mkF m 0 #[.val (.ref a), .val (.ref t)] [] := by first | (simp [entryFrame, mkF, argsToLocals, Value.category]; done) | rfl
def Q_ini (Z : State) (a : Addr) (t : Addr) (o1 : Value) (h0 : Heap) (n0 : Nat) (v : Option Value) (h : Heap) (L : List Loc) : Prop := (v = none ∧ Fr n0 L ∧ Keep h0 h [a] ∧ Exa Z h a "com/example/rooted_tableau/rootedtableau/core/DependencySet" ∧ Fld Z h a "com/example/rooted_tableau/rootedtableau/core/DependencySet" "levels" "[I" (.ref t))
set_option maxRecDepth 65536 in
set_option maxHeartbeats 40000000 in
theorem rm_ini (l : Launch) (Z : State) (a0 : Array Value) (hw : ∀ d ∈ tables_1, d.before a0 Z = true) (ws : List Jvm.Cond) (a : Addr) (t : Addr) (o1 : Value) (h0 : Heap) (n0 : Nat) (Z0 : n0 ≤ h0.size) (pf0 : Exa Z h0 a "com/example/rooted_tableau/rootedtableau/core/DependencySet") (pf1 : Fld Z h0 a "com/example/rooted_tableau/rootedtableau/core/DependencySet" "levels" "[I" o1) (ga : n0 ≤ a) :
    MetFree l (⟨"com/example/rooted_tableau/rootedtableau/core/DependencySet", "<init>", "([I)V"⟩ : MethodName) (head1 (Jvm.Cond.code (⟨"com/example/rooted_tableau/rootedtableau/core/DependencySet", "<init>", "([I)V"⟩ : MethodName) prog_13_method_1_code 2 none :: ws) ({ frames := 1, cells := 0, slots := 0, locals := 12 } : Room)) (fun aa U => aa = #[(.ref a), (.ref t)] ∧ Z.Warmed39 U.vm ∧ U.heap = h0) (fun _ _ _ _ _ => True) (fun _ U o U' => ∃ v L, o = .returned v ∧ Q_ini Z a t o1 h0 n0 v U'.heap L ∧ FrameEnd U o U' L ({ frames := 1, cells := 0, slots := 0, locals := 12 } : Room).cells ({ frames := 1, cells := 0, slots := 0, locals := 12 } : Room).slots) := by
  refine MetFree.of_bodySF (plainFor_of_name pn_com_example_rooted_tableau_rootedtableau_core_DependencySet) hisR ?_
  intro p e s m args below meth c s₁ Bd hml0 hP hK
  obtain ⟨rfl, hZ, hh⟩ := hP
  have hx := Bd.exec
  have hby := Bd.bytes
  have hlk : meth.locks = false := BodyLoose.notSynchronized Bd
  have hml : c.maxLocals = 2 := hml0
  have hown : s.vm.findClass "com/example/rooted_tableau/rootedtableau/core/DependencySet" = some m.cls := findClass_of_methodNamed Bd.named
  have hnm := (name_of_methodNamed Bd.named Bd.method).1
  have X0 : Stand p l e ({ frames := 1, cells := 0, slots := 0, locals := 12 } : Room) s m #[(.ref a), (.ref t)] below meth c s₁ [] 0 0 := Stand.of_body Bd
  have e0 : s₁.heap = h0 := by rw [← hh, Bd.state]; rfl
  have N0 := Fr.nil n0
  show Gl p.tables e below (EndN s (Q_ini Z a t o1 h0 n0) ({ frames := 1, cells := 0, slots := 0, locals := 12 } : Room).cells ({ frames := 1, cells := 0, slots := 0, locals := 12 } : Room).slots) _
  refine Gl.cast (ef_ini m a t) ?_
  show Gl p.tables e below _ (s₁.setTop (mkF m 0 #[.val (.ref a), .val (.ref t)] []))
  refine Gl.st (fun _ kq => XS.aloadN X0.here hx rfl (hb hby d2_0) rfl rfl kq) ?_
  show Gl p.tables e below _ (s₁.setTop (mkF m 1 #[.val (.ref a), .val (.ref t)] [(.ref a)]))
  obtain ⟨T1, X1, e1, st1⟩ := initO X0 hx hZ hown (tw hw 10 rfl) (tw hw 11 rfl) (tw hw 12 rfl) e0 (g := (mkF m 1 #[.val (.ref a), .val (.ref t)] [(.ref a)])) rfl (by rw [hml]; rfl) rfl (hb hby d2_1) (by decide) (W := 0) (by show 2 * 0 + _ ≤ _; exact Nat.le_of_eq rfl) (by decide)
  refine Gl.st st1 ?_
  show Gl p.tables e below _ (T1.setTop (mkF m 4 #[.val (.ref a), .val (.ref t)] []))
  refine Gl.st (fun _ kq => XS.aloadN X1.here hx rfl (hb hby d2_4) rfl rfl kq) ?_
  show Gl p.tables e below _ (T1.setTop (mkF m 5 #[.val (.ref a), .val (.ref t)] [(.ref a)]))
  refine Gl.st (fun _ kq => XS.aloadN X1.here hx rfl (hb hby d2_5) rfl rfl kq) ?_
  show Gl p.tables e below _ (T1.setTop (mkF m 6 #[.val (.ref a), .val (.ref t)] [(.ref t), (.ref a)]))
  obtain ⟨T2, h2, X2, e2, W2, st2⟩ := putF X1 hx hZ hown (host := "") (Or.inl (tw hw 13 rfl)) Via.refl e1 pf1 pf0 (Or.inr ⟨(tw hw 14 rfl), rfl, hnm⟩) (tw hw 5 rfl) (ty := (.array .int)) (by decide) rfl rfl (g := (mkF m 6 #[.val (.ref a), .val (.ref t)] [(.ref t), (.ref a)])) rfl rfl (hb hby d2_6)
  refine Gl.st st2 ?_
  have F2 : Fld Z h2 a "com/example/rooted_tableau/rootedtableau/core/DependencySet" "levels" "[I" (.ref t) := Fld.same W2 pf1
  have N2 := Fr.snoc X2 N0 ga
  show Gl p.tables e below _ (T2.setTop (mkF m 9 #[.val (.ref a), .val (.ref t)] []))
  have K3 : Keep h0 h2 [a] := ((Keep.refl h0 [a]).wr W2 (Or.inl (List.mem_of_getElem? (i := 0) rfl)))
  have f4 : Exa Z h2 a "com/example/rooted_tableau/rootedtableau/core/DependencySet" := (pf0.wr W2)
  exact Gl.ret0 X2 hx Bd.returns (hb hby d2_9) hlk (by decide) (by decide) (by rw [e2]; exact ⟨rfl, N2, K3, f4, F2⟩)
theorem d1_0 : decode prog_13_method_2_code 0 = .ok (.new 8, 3) := by decide +kernel
theorem d1_3 : decode prog_13_method_2_code 3 = .ok (.dup, 1) := by decide +kernel
theorem d1_4 : decode prog_13_method_2_code 4 = .ok (.iconst 1, 1) := by decide +kernel
theorem d1_5 : decode prog_13_method_2_code 5 = .ok (.newarray .int, 2) := by decide +kernel
theorem d1_7 : decode prog_13_method_2_code 7 = .ok (.dup, 1) := by decide +kernel
theorem d1_8 : decode prog_13_method_2_code 8 = .ok (.iconst 0, 1) := by decide +kernel
theorem d1_9 : decode prog_13_method_2_code 9 = .ok (.iload_n 0, 1) := by decide +kernel
theorem d1_10 : decode prog_13_method_2_code 10 = .ok (.iastore, 1) := by decide +kernel
theorem d1_11 : decode prog_13_method_2_code 11 = .ok (.invokespecial 13, 3) := by decide +kernel
theorem d1_14 : decode prog_13_method_2_code 14 = .ok (.areturn, 1) := by decide +kernel
theorem ef_of (m : MethodId) (w : Int32) : entryFrame m #[(.int w)] 1 = mkF m 0 #[.val (.int w)] [] := by first | (simp [entryFrame, mkF, argsToLocals, Value.category]; done) | rfl
def Q_of (Z : State) (w : Int32) (h0 : Heap) (n0 : Nat) (v : Option Value) (h : Heap) (L : List Loc) : Prop := (∃ a : Addr, ∃ t : Addr, ∃ k : ClassId, v = some (.ref a) ∧ Fr n0 L ∧ Keep h0 h [] ∧ Exa Z h a "com/example/rooted_tableau/rootedtableau/core/DependencySet" ∧ Fld Z h a "com/example/rooted_tableau/rootedtableau/core/DependencySet" "levels" "[I" (.ref t) ∧ Arv Z h t k .int (1 : Int32) [(.int w)] (.int 0) ∧ h0.size ≤ a ∧ h0.size ≤ t)
set_option maxRecDepth 65536 in
set_option maxHeartbeats 40000000 in
theorem rm_of (l : Launch) (Z : State) (a0 : Array Value) (hw : ∀ d ∈ tables_1, d.before a0 Z = true) (ws : List Jvm.Cond) (w : Int32) (h0 : Heap) (n0 : Nat) (Z0 : n0 ≤ h0.size) :
    MetFree l (⟨"com/example/rooted_tableau/rootedtableau/core/DependencySet", "of", "(I)Lcom/example/rooted_tableau/rootedtableau/core/DependencySet;"⟩ : MethodName) (head1 (Jvm.Cond.code (⟨"com/example/rooted_tableau/rootedtableau/core/DependencySet", "of", "(I)Lcom/example/rooted_tableau/rootedtableau/core/DependencySet;"⟩ : MethodName) prog_13_method_2_code 1 (some (.object "com/example/rooted_tableau/rootedtableau/core/DependencySet")) :: ws) ({ frames := 2, cells := 2, slots := 2, locals := 26 } : Room)) (fun aa U => aa = #[(.int w)] ∧ Z.Warmed39 U.vm ∧ U.heap = h0) (fun _ _ _ _ _ => True) (fun _ U o U' => ∃ v L, o = .returned v ∧ Q_of Z w h0 n0 v U'.heap L ∧ FrameEnd U o U' L ({ frames := 2, cells := 2, slots := 2, locals := 26 } : Room).cells ({ frames := 2, cells := 2, slots := 2, locals := 26 } : Room).slots) := by
  refine MetFree.of_bodySF (plainFor_of_name pn_com_example_rooted_tableau_rootedtableau_core_DependencySet) hisR ?_
  intro p e s m args below meth c s₁ Bd hml0 hP hK
  obtain ⟨rfl, hZ, hh⟩ := hP
  have hx := Bd.exec
  have hby := Bd.bytes
  have hlk : meth.locks = false := BodyLoose.notSynchronized Bd
  have hml : c.maxLocals = 1 := hml0
  have hown : s.vm.findClass "com/example/rooted_tableau/rootedtableau/core/DependencySet" = some m.cls := findClass_of_methodNamed Bd.named
  have hnm := (name_of_methodNamed Bd.named Bd.method).1
  have X0 : Stand p l e ({ frames := 2, cells := 2, slots := 2, locals := 26 } : Room) s m #[(.int w)] below meth c s₁ [] 0 0 := Stand.of_body Bd
  have e0 : s₁.heap = h0 := by rw [← hh, Bd.state]; rfl
  have N0 := Fr.nil n0
  show Gl p.tables e below (EndN s (Q_of Z w h0 n0) ({ frames := 2, cells := 2, slots := 2, locals := 26 } : Room).cells ({ frames := 2, cells := 2, slots := 2, locals := 26 } : Room).slots) _
  refine Gl.cast (ef_of m w) ?_
  show Gl p.tables e below _ (s₁.setTop (mkF m 0 #[.val (.int w)] []))
  obtain ⟨T1, h1, X1, e1, E1, A1, D1, U1, st1⟩ := newO X0 hx hZ hown (tw hw 4 rfl) (tw hw 5 rfl) (tw hw 2 rfl) e0 (g := (mkF m 0 #[.val (.int w)] [])) rfl (hb hby d1_0) (by decide) (by decide)
  obtain ⟨b1, g1⟩ : ∃ z, z = h0.size := ⟨_, rfl⟩
  rw [← g1] at A1 D1 U1 st1
  refine Gl.st st1 ?_
  have g2 : n0 ≤ b1 := Nat.le_trans Z0 (Nat.le_of_eq g1.symm)
  have s3 : h0.size ≤ b1 := Nat.le_trans (Nat.le_refl _) (Nat.le_of_eq g1.symm)
  have F1_14 : Fld Z h1 b1 "com/example/rooted_tableau/rootedtableau/core/DependencySet" "levels" "[I" .null := D1 (Or.inr (tw hw 14 rfl)) (ty := (.array .int)) (by decide)
  show Gl p.tables e below _ (T1.setTop (mkF m 3 #[.val (.int w)] [(.ref b1)]))
  refine Gl.st (fun _ kq => XS.dup X1.here hx rfl (hb hby d1_3) rfl rfl kq) ?_
  show Gl p.tables e below _ (T1.setTop (mkF m 4 #[.val (.int w)] [(.ref b1), (.ref b1)]))
  refine Gl.st (fun _ kq => XS.iconst X1.here hx rfl (hb hby d1_4) kq) ?_
  show Gl p.tables e below _ (T1.setTop (mkF m 5 #[.val (.int w)] [(.int 1), (.ref b1), (.ref b1)]))
  obtain ⟨T4, h4, k4, X4, e4, E4, A4, st4⟩ := newP X1 hx hZ (tw hw 6 rfl) e1 (g := (mkF m 5 #[.val (.int w)] [(.int 1), (.ref b1), (.ref b1)])) rfl (hb hby d1_5) rfl (by decide) (cap := 1) (by decide) (by decide) (by decide) (by decide)
  obtain ⟨b4, g4⟩ : ∃ z, z = h1.size := ⟨_, rfl⟩
  rw [← g4] at A4 st4
  refine Gl.st st4 ?_
  have g5 : n0 ≤ b4 := Nat.le_trans (Nat.le_trans Z0 E1.1) (Nat.le_of_eq g4.symm)
  have s6 : h0.size ≤ b4 := Nat.le_trans (Nat.le_trans (Nat.le_refl _) E1.1) (Nat.le_of_eq g4.symm)
  have V4 : Arv Z h4 b4 k4 .int (1 : Int32) [(.int 0)] (.int 0) := (Arv.new A4 (by decide)).pad (pad_rep [] (.int 0) 1)
  show Gl p.tables e below _ (T4.setTop (mkF m 7 #[.val (.int w)] [(.ref b4), (.ref b1), (.ref b1)]))
  refine Gl.st (fun _ kq => XS.dup X4.here hx rfl (hb hby d1_7) rfl rfl kq) ?_
  show Gl p.tables e below _ (T4.setTop (mkF m 8 #[.val (.int w)] [(.ref b4), (.ref b4), (.ref b1), (.ref b1)]))
  refine Gl.st (fun _ kq => XS.iconst X4.here hx rfl (hb hby d1_8) kq) ?_
  show Gl p.tables e below _ (T4.setTop (mkF m 9 #[.val (.int w)] [(.int 0), (.ref b4), (.ref b4), (.ref b1), (.ref b1)]))
  refine Gl.st (fun _ kq => XS.iloadN X4.here hx rfl (hb hby d1_9) rfl kq) ?_
  show Gl p.tables e below _ (T4.setTop (mkF m 10 #[.val (.int w)] [(.int w), (.int 0), (.ref b4), (.ref b4), (.ref b1), (.ref b1)]))
  obtain ⟨c7, a7, q7, S7, M7, H7, G7⟩ := id V4
  obtain ⟨T7, h7, X7, e7, W7, st7⟩ := stI X4 hx hZ e4 a7 (j := (0 : Int32)) (inb_of S7 ⟨by decide, by decide⟩) (g := (mkF m 10 #[.val (.int w)] [(.int w), (.int 0), (.ref b4), (.ref b4), (.ref b1), (.ref b1)])) rfl rfl (hb hby d1_10)
  refine Gl.st st7 ?_
  have V7 : Arv Z h7 b4 k4 .int (1 : Int32) [(.int w)] (.int 0) := Arv.set a7 q7 S7 M7 H7 G7 rfl W7 0 rfl (Nat.le_of_ble_eq_true rfl)
  have N7 := Fr.snoc X7 N0 g5
  show Gl p.tables e below _ (T7.setTop (mkF m 11 #[.val (.int w)] [(.ref b4), (.ref b1), (.ref b1)]))
  have f8 : Exa Z h7 b1 "com/example/rooted_tableau/rootedtableau/core/DependencySet" := ((A1.ext E4).wr W7)
  have ne9 : b1 ≠ b4 := Nat.ne_of_lt (Nat.lt_of_lt_of_le A1.lt (Nat.le_of_eq g4.symm))
  have f10 : Fld Z h7 b1 "com/example/rooted_tableau/rootedtableau/core/DependencySet" "levels" "[I" .null := ((F1_14.ext E4).other W7 (Or.inl ne9))
  obtain ⟨_, _, ⟨T11, L11, k11, n11⟩, -, X11, ⟨Lc11, hQ11, l11, y11, z11⟩, st11⟩ := X7.specialBack hx (y := (⟨"com/example/rooted_tableau/rootedtableau/core/DependencySet", "<init>", "([I)V"⟩ : MethodName)) rfl hown (mvT hZ (tw hw 7 rfl)) (mvT hZ (tw hw 8 rfl)) (mvT hZ (tw hw 9 rfl)) (by decide) (backOf (W := 1) (rm_ini l Z a0 hw [] (b1) (b4) (.null) h7 n0 (Nat.le_trans (Nat.le_trans (Nat.le_trans Z0 E1.1) E4.1) (Keep.of_wr W7).1) f8 f10 g2) hZ (tw hw 9 rfl) (tw hw 2 rfl) (by decide) (by decide)) (g := (mkF m 11 #[.val (.int w)] [(.ref b4), (.ref b1), (.ref b1)])) rfl (by rw [hml]; rfl) (Steps.refl _) (a := b1) (argsL := [(.ref b4)]) (rest := [(.ref b1)]) (lenOf pd___I_V rfl) rfl (by show 2 * 0 + _ ≤ _; exact Nat.le_of_eq rfl) (hb hby d1_11) (fun _ _ => ⟨rfl, e7, (by decide : 2 + 0 ≤ _), (by decide : 2 + 0 ≤ _)⟩)
  dsimp only [Pt.U, Pt.locs, Pt.cells, Pt.slots] at X11 l11 y11 z11 st11 hQ11
  subst l11 y11 z11
  obtain ⟨rfl, N11, K11, q11_0, q11_1⟩ := hQ11
  have M11 := Fr.app N7 N11
  refine Gl.to st11 ?_
  show Gl p.tables e below _ (T11.setTop (mkF m 14 #[.val (.int w)] [(.ref b1)]))
  show Gl p.tables e below _ (T11.setTop (mkF m 14 #[.val (.int w)] [(.ref b1)]))
  have K12 : Keep h0 T11.heap [] := (((((Keep.refl h0 []).ext E1).ext E4).wr W7 (Or.inr s6)).trans K11 (allS (Or.inr s3) all0))
  have f13 : Arv Z T11.heap b4 k4 .int (1 : Int32) [(.int w)] (.int 0) := (V7.keep K11 (ninS (Ne.symm ne9) nin0))
  exact Gl.retA X11 hx Bd.returns rfl rfl (hb hby d1_14) hlk (by decide) (by decide) ⟨b1, b4, k4, rfl, M11, K12, q11_0, q11_1, f13, s3, s6⟩
theorem d4_0 : decode prog_13_method_3_code 0 = .ok (.aload_n 0, 1) := by decide +kernel
theorem d4_1 : decode prog_13_method_3_code 1 = .ok (.getfield 7, 3) := by decide +kernel
theorem d4_4 : decode prog_13_method_3_code 4 = .ok (.arraylength, 1) := by decide +kernel
theorem d4_5 : decode prog_13_method_3_code 5 = .ok (.ifCond .ne 7, 3) := by decide +kernel
theorem d4_8 : decode prog_13_method_3_code 8 = .ok (.iconst 1, 1) := by decide +kernel
theorem d4_9 : decode prog_13_method_3_code 9 = .ok (.goto 4, 3) := by decide +kernel
theorem d4_12 : decode prog_13_method_3_code 12 = .ok (.iconst 0, 1) := by decide +kernel
theorem d4_13 : decode prog_13_method_3_code 13 = .ok (.ireturn, 1) := by decide +kernel
theorem ef_ie (m : MethodId) (a : Addr) : entryFrame m #[(.ref a)] 1 = mkF m 0 #[.val (.ref a)] [] := by first | (simp [entryFrame, mkF, argsToLocals, Value.category]; done) | rfl
def Q_ie (Z : State) (a : Addr) (t : Addr) (k : ClassId) (n : Int32) (vs : List Value) (h0 : Heap) (n0 : Nat) (v : Option Value) (h : Heap) (L : List Loc) : Prop := (v = some (.int 1) ∧ Fr n0 L ∧ h = h0 ∧ n = (0 : Int32)) ∨ (v = some (.int 0) ∧ Fr n0 L ∧ h = h0 ∧ ¬ (n = (0 : Int32)))
set_option maxRecDepth 65536 in
set_option maxHeartbeats 40000000 in
theorem rm_ie (l : Launch) (Z : State) (a0 : Array Value) (hw : ∀ d ∈ tables_1, d.before a0 Z = true) (ws : List Jvm.Cond) (a : Addr) (t : Addr) (k : ClassId) (n : Int32) (vs : List Value) (h0 : Heap) (n0 : Nat) (Z0 : n0 ≤ h0.size) (pf0 : Fld Z h0 a "com/example/rooted_tableau/rootedtableau/core/DependencySet" "levels" "[I" (.ref t)) (pf1 : Arv Z h0 t k .int n vs (.int 0)) :
    MetFree l (⟨"com/example/rooted_tableau/rootedtableau/core/DependencySet", "isEmpty", "()Z"⟩ : MethodName) (head1 (Jvm.Cond.code (⟨"com/example/rooted_tableau/rootedtableau/core/DependencySet", "isEmpty", "()Z"⟩ : MethodName) prog_13_method_3_code 1 (some .boolean) :: ws) ({ frames := 0, cells := 0, slots := 0, locals := 0 } : Room)) (fun aa U => aa = #[(.ref a)] ∧ Z.Warmed39 U.vm ∧ U.heap = h0) (fun _ _ _ _ _ => True) (fun _ U o U' => ∃ v L, o = .returned v ∧ Q_ie Z a t k n vs h0 n0 v U'.heap L ∧ FrameEnd U o U' L ({ frames := 0, cells := 0, slots := 0, locals := 0 } : Room).cells ({ frames := 0, cells := 0, slots := 0, locals := 0 } : Room).slots) := by
  refine MetFree.of_bodySF (plainFor_of_name pn_com_example_rooted_tableau_rootedtableau_core_DependencySet) hisR ?_
  intro p e s m args below meth c s₁ Bd hml0 hP hK
  obtain ⟨rfl, hZ, hh⟩ := hP
  have hx := Bd.exec
  have hby := Bd.bytes
  have hlk : meth.locks = false := BodyLoose.notSynchronized Bd
  have hml : c.maxLocals = 1 := hml0
  have hown : s.vm.findClass "com/example/rooted_tableau/rootedtableau/core/DependencySet" = some m.cls := findClass_of_methodNamed Bd.named
  have hnm := (name_of_methodNamed Bd.named Bd.method).1
  have X0 : Stand p l e ({ frames := 0, cells := 0, slots := 0, locals := 0 } : Room) s m #[(.ref a)] below meth c s₁ [] 0 0 := Stand.of_body Bd
  have e0 : s₁.heap = h0 := by rw [← hh, Bd.state]; rfl
  have N0 := Fr.nil n0
  show Gl p.tables e below (EndN s (Q_ie Z a t k n vs h0 n0) ({ frames := 0, cells := 0, slots := 0, locals := 0 } : Room).cells ({ frames := 0, cells := 0, slots := 0, locals := 0 } : Room).slots) _
  refine Gl.cast (ef_ie m a) ?_
  show Gl p.tables e below _ (s₁.setTop (mkF m 0 #[.val (.ref a)] []))
  refine Gl.st (fun _ kq => XS.aloadN X0.here hx rfl (hb hby d4_0) rfl rfl kq) ?_
  show Gl p.tables e below _ (s₁.setTop (mkF m 1 #[.val (.ref a)] [(.ref a)]))
  obtain ⟨T1, X1, e1, st1⟩ := getF X0 hx hZ hown (host := "") (Or.inl (tw hw 13 rfl)) Via.refl e0 pf0 (g := (mkF m 1 #[.val (.ref a)] [(.ref a)])) rfl rfl (hb hby d4_1)
  refine Gl.st st1 ?_
  show Gl p.tables e below _ (T1.setTop (mkF m 4 #[.val (.ref a)] [(.ref t)]))
  obtain ⟨c2, a2, q2, S2, M2, H2, G2⟩ := id pf1
  refine Gl.st (fun _ kq => X1.arraylength hx (by rw [e1]; exact a2.1) (State.isArrayOf_alike hZ.alike a2.2.1) (g := (mkF m 4 #[.val (.ref a)] [(.ref t)])) rfl rfl (hb hby d4_4) _ kq) ?_
  rw [len_of S2 M2]
  show Gl p.tables e below _ (T1.setTop (mkF m 5 #[.val (.ref a)] [(.int n)]))
  by_cases hc3 : n = (0 : Int32)
  · refine Gl.st (fun _ kq => XS.ifNo X1.here hx rfl (hb hby d4_5) rfl ((if0 _ _).trans (teq (hc3 : n = (0 : Int32))).2) kq) ?_
    show Gl p.tables e below _ (T1.setTop (mkF m 8 #[.val (.ref a)] []))
    refine Gl.st (fun _ kq => XS.iconst X1.here hx rfl (hb hby d4_8) kq) ?_
    show Gl p.tables e below _ (T1.setTop (mkF m 9 #[.val (.ref a)] [(.int 1)]))
    refine Gl.st (fun _ kq => XS.goto X1.here hx rfl (pc0 := 9) (pc' := 13) rfl (hb hby d4_9) (by decide) (by decide) kq) ?_
    show Gl p.tables e below _ (T1.setTop (mkF m 13 #[.val (.ref a)] [(.int 1)]))
    exact Gl.retN X1 hx (t := .boolean) Bd.returns (by simp) (hb hby d4_13) hlk (by decide) (by decide) (by rw [e1]; exact (Or.inl ⟨rfl, N0, rfl, hc3⟩))
  · refine Gl.st (fun _ kq => XS.ifYes X1.here hx rfl (pc0 := 5) (pc' := 12) rfl (hb hby d4_5) rfl ((if0 _ _).trans (feq (hc3 : ¬ (n = (0 : Int32)))).2) (by decide) (by decide) kq) ?_
    show Gl p.tables e below _ (T1.setTop (mkF m 12 #[.val (.ref a)] []))
    refine Gl.st (fun _ kq => XS.iconst X1.here hx rfl (hb hby d4_12) kq) ?_
    show Gl p.tables e below _ (T1.setTop (mkF m 13 #[.val (.ref a)] [(.int 0)]))
    exact Gl.retN X1 hx (t := .boolean) Bd.returns (by simp) (hb hby d4_13) hlk (by decide) (by decide) (by rw [e1]; exact (Or.inr (⟨rfl, N0, rfl, hc3⟩)))
theorem d5_0 : decode prog_13_method_4_code 0 = .ok (.aload_n 0, 1) := by decide +kernel
theorem d5_1 : decode prog_13_method_4_code 1 = .ok (.getfield 7, 3) := by decide +kernel
theorem d5_4 : decode prog_13_method_4_code 4 = .ok (.aload_n 0, 1) := by decide +kernel
theorem d5_5 : decode prog_13_method_4_code 5 = .ok (.getfield 7, 3) := by decide +kernel
theorem d5_8 : decode prog_13_method_4_code 8 = .ok (.arraylength, 1) := by decide +kernel
theorem d5_9 : decode prog_13_method_4_code 9 = .ok (.iconst 1, 1) := by decide +kernel
theorem d5_10 : decode prog_13_method_4_code 10 = .ok (.isub, 1) := by decide +kernel
theorem d5_11 : decode prog_13_method_4_code 11 = .ok (.iaload, 1) := by decide +kernel
theorem d5_12 : decode prog_13_method_4_code 12 = .ok (.ireturn, 1) := by decide +kernel
theorem ef_ml (m : MethodId) (a : Addr) : entryFrame m #[(.ref a)] 1 = mkF m 0 #[.val (.ref a)] [] := by first | (simp [entryFrame, mkF, argsToLocals, Value.category]; done) | rfl
def Q_ml (Z : State) (a : Addr) (t : Addr) (k : ClassId) (w : Int32) (h0 : Heap) (n0 : Nat) (v : Option Value) (h : Heap) (L : List Loc) : Prop := (v = some (.int w) ∧ Fr n0 L ∧ h = h0)
set_option maxRecDepth 65536 in
set_option maxHeartbeats 40000000 in
theorem rm_ml (l : Launch) (Z : State) (a0 : Array Value) (hw : ∀ d ∈ tables_1, d.before a0 Z = true) (ws : List Jvm.Cond) (a : Addr) (t : Addr) (k : ClassId) (w : Int32) (h0 : Heap) (n0 : Nat) (Z0 : n0 ≤ h0.size) (pf0 : Fld Z h0 a "com/example/rooted_tableau/rootedtableau/core/DependencySet" "levels" "[I" (.ref t)) (pf1 : Arv Z h0 t k .int (1 : Int32) [(.int w)] (.int 0)) :
    MetFree l (⟨"com/example/rooted_tableau/rootedtableau/core/DependencySet", "maxLevel", "()I"⟩ : MethodName) (head1 (Jvm.Cond.code (⟨"com/example/rooted_tableau/rootedtableau/core/DependencySet", "maxLevel", "()I"⟩ : MethodName) prog_13_method_4_code 1 (some .int) :: ws) ({ frames := 0, cells := 0, slots := 0, locals := 0 } : Room)) (fun aa U => aa = #[(.ref a)] ∧ Z.Warmed39 U.vm ∧ U.heap = h0) (fun _ _ _ _ _ => True) (fun _ U o U' => ∃ v L, o = .returned v ∧ Q_ml Z a t k w h0 n0 v U'.heap L ∧ FrameEnd U o U' L ({ frames := 0, cells := 0, slots := 0, locals := 0 } : Room).cells ({ frames := 0, cells := 0, slots := 0, locals := 0 } : Room).slots) := by
  refine MetFree.of_bodySF (plainFor_of_name pn_com_example_rooted_tableau_rootedtableau_core_DependencySet) hisR ?_
  intro p e s m args below meth c s₁ Bd hml0 hP hK
  obtain ⟨rfl, hZ, hh⟩ := hP
  have hx := Bd.exec
  have hby := Bd.bytes
  have hlk : meth.locks = false := BodyLoose.notSynchronized Bd
  have hml : c.maxLocals = 1 := hml0
  have hown : s.vm.findClass "com/example/rooted_tableau/rootedtableau/core/DependencySet" = some m.cls := findClass_of_methodNamed Bd.named
  have hnm := (name_of_methodNamed Bd.named Bd.method).1
  have X0 : Stand p l e ({ frames := 0, cells := 0, slots := 0, locals := 0 } : Room) s m #[(.ref a)] below meth c s₁ [] 0 0 := Stand.of_body Bd
  have e0 : s₁.heap = h0 := by rw [← hh, Bd.state]; rfl
  have N0 := Fr.nil n0
  show Gl p.tables e below (EndN s (Q_ml Z a t k w h0 n0) ({ frames := 0, cells := 0, slots := 0, locals := 0 } : Room).cells ({ frames := 0, cells := 0, slots := 0, locals := 0 } : Room).slots) _
  refine Gl.cast (ef_ml m a) ?_
  show Gl p.tables e below _ (s₁.setTop (mkF m 0 #[.val (.ref a)] []))
  refine Gl.st (fun _ kq => XS.aloadN X0.here hx rfl (hb hby d5_0) rfl rfl kq) ?_
  show Gl p.tables e below _ (s₁.setTop (mkF m 1 #[.val (.ref a)] [(.ref a)]))
  obtain ⟨T1, X1, e1, st1⟩ := getF X0 hx hZ hown (host := "") (Or.inl (tw hw 13 rfl)) Via.refl e0 pf0 (g := (mkF m 1 #[.val (.ref a)] [(.ref a)])) rfl rfl (hb hby d5_1)
  refine Gl.st st1 ?_
  show Gl p.tables e below _ (T1.setTop (mkF m 4 #[.val (.ref a)] [(.ref t)]))
  refine Gl.st (fun _ kq => XS.aloadN X1.here hx rfl (hb hby d5_4) rfl rfl kq) ?_
  show Gl p.tables e below _ (T1.setTop (mkF m 5 #[.val (.ref a)] [(.ref a), (.ref t)]))
  obtain ⟨T2, X2, e2, st2⟩ := getF X1 hx hZ hown (host := "") (Or.inl (tw hw 13 rfl)) Via.refl e1 pf0 (g := (mkF m 5 #[.val (.ref a)] [(.ref a), (.ref t)])) rfl rfl (hb hby d5_5)
  refine Gl.st st2 ?_
  show Gl p.tables e below _ (T2.setTop (mkF m 8 #[.val (.ref a)] [(.ref t), (.ref t)]))
  obtain ⟨c3, a3, q3, S3, M3, H3, G3⟩ := id pf1
  refine Gl.st (fun _ kq => X2.arraylength hx (by rw [e2]; exact a3.1) (State.isArrayOf_alike hZ.alike a3.2.1) (g := (mkF m 8 #[.val (.ref a)] [(.ref t), (.ref t)])) rfl rfl (hb hby d5_8) _ kq) ?_
  rw [len_of S3 M3]
  show Gl p.tables e below _ (T2.setTop (mkF m 9 #[.val (.ref a)] [(.int 1), (.ref t)]))
  refine Gl.st (fun _ kq => XS.iconst X2.here hx rfl (hb hby d5_9) kq) ?_
  show Gl p.tables e below _ (T2.setTop (mkF m 10 #[.val (.ref a)] [(.int 1), (.int 1), (.ref t)]))
  refine Gl.st (fun _ kq => XS.isub X2.here hx rfl (hb hby d5_10) rfl kq) ?_
  show Gl p.tables e below _ (T2.setTop (mkF m 11 #[.val (.ref a)] [(.int 0), (.ref t)]))
  obtain ⟨c4, a4, q4, S4, M4, H4, G4⟩ := id pf1
  refine Gl.st (fun _ kq => X2.iaload hx (j := (0 : Int32)) (v := (.int w)) (by rw [e2]; exact a4.1) (State.isArrayOf_alike hZ.alike a4.2.1) a4.2.2 (inb_of S4 ⟨by decide, by decide⟩) (Has.at H4 (inb_of S4 ⟨by decide, by decide⟩) rfl) (g := (mkF m 11 #[.val (.ref a)] [(.int 0), (.ref t)])) rfl rfl (hb hby d5_11) _ kq) ?_
  show Gl p.tables e below _ (T2.setTop (mkF m 12 #[.val (.ref a)] [(.int w)]))
  exact Gl.retI X2 hx Bd.returns (hb hby d5_12) hlk (by decide) (by decide) (by rw [e2]; exact ⟨rfl, N0, rfl⟩)
theorem d8_0 : decode jdk_65_method_59_code 0 = .ok (.iload_n 1, 1) := by decide +kernel
theorem d8_1 : decode jdk_65_method_59_code 1 = .ok (.istore 4, 2) := by decide +kernel
theorem d8_3 : decode jdk_65_method_59_code 3 = .ok (.iload_n 2, 1) := by decide +kernel
theorem d8_4 : decode jdk_65_method_59_code 4 = .ok (.iconst 1, 1) := by decide +kernel
theorem d8_5 : decode jdk_65_method_59_code 5 = .ok (.isub, 1) := by decide +kernel
theorem d8_6 : decode jdk_65_method_59_code 6 = .ok (.istore 5, 2) := by decide +kernel
theorem d8_8 : decode jdk_65_method_59_code 8 = .ok (.iload 4, 2) := by decide +kernel
theorem d8_10 : decode jdk_65_method_59_code 10 = .ok (.iload 5, 2) := by decide +kernel
theorem d8_12 : decode jdk_65_method_59_code 12 = .ok (.if_icmp .gt 54, 3) := by decide +kernel
theorem d8_15 : decode jdk_65_method_59_code 15 = .ok (.iload 4, 2) := by decide +kernel
theorem d8_17 : decode jdk_65_method_59_code 17 = .ok (.iload 5, 2) := by decide +kernel
theorem d8_19 : decode jdk_65_method_59_code 19 = .ok (.iadd, 1) := by decide +kernel
theorem d8_20 : decode jdk_65_method_59_code 20 = .ok (.iconst 1, 1) := by decide +kernel
theorem d8_21 : decode jdk_65_method_59_code 21 = .ok (.iushr, 1) := by decide +kernel
theorem d8_22 : decode jdk_65_method_59_code 22 = .ok (.istore 6, 2) := by decide +kernel
theorem d8_24 : decode jdk_65_method_59_code 24 = .ok (.aload_n 0, 1) := by decide +kernel
theorem d8_25 : decode jdk_65_method_59_code 25 = .ok (.iload 6, 2) := by decide +kernel
theorem d8_27 : decode jdk_65_method_59_code 27 = .ok (.iaload, 1) := by decide +kernel
theorem d8_28 : decode jdk_65_method_59_code 28 = .ok (.istore 7, 2) := by decide +kernel
theorem d8_30 : decode jdk_65_method_59_code 30 = .ok (.iload 7, 2) := by decide +kernel
theorem d8_32 : decode jdk_65_method_59_code 32 = .ok (.iload_n 3, 1) := by decide +kernel
theorem d8_33 : decode jdk_65_method_59_code 33 = .ok (.if_icmp .ge 12, 3) := by decide +kernel
theorem d8_36 : decode jdk_65_method_59_code 36 = .ok (.iload 6, 2) := by decide +kernel
theorem d8_38 : decode jdk_65_method_59_code 38 = .ok (.iconst 1, 1) := by decide +kernel
theorem d8_39 : decode jdk_65_method_59_code 39 = .ok (.iadd, 1) := by decide +kernel
theorem d8_40 : decode jdk_65_method_59_code 40 = .ok (.istore 4, 2) := by decide +kernel
theorem d8_42 : decode jdk_65_method_59_code 42 = .ok (.goto 21, 3) := by decide +kernel
theorem d8_45 : decode jdk_65_method_59_code 45 = .ok (.iload 7, 2) := by decide +kernel
theorem d8_47 : decode jdk_65_method_59_code 47 = .ok (.iload_n 3, 1) := by decide +kernel
theorem d8_48 : decode jdk_65_method_59_code 48 = .ok (.if_icmp .le 12, 3) := by decide +kernel
theorem d8_51 : decode jdk_65_method_59_code 51 = .ok (.iload 6, 2) := by decide +kernel
theorem d8_53 : decode jdk_65_method_59_code 53 = .ok (.iconst 1, 1) := by decide +kernel
theorem d8_54 : decode jdk_65_method_59_code 54 = .ok (.isub, 1) := by decide +kernel
theorem d8_55 : decode jdk_65_method_59_code 55 = .ok (.istore 5, 2) := by decide +kernel
theorem d8_57 : decode jdk_65_method_59_code 57 = .ok (.goto 6, 3) := by decide +kernel
theorem d8_60 : decode jdk_65_method_59_code 60 = .ok (.iload 6, 2) := by decide +kernel
theorem d8_62 : decode jdk_65_method_59_code 62 = .ok (.ireturn, 1) := by decide +kernel
theorem d8_63 : decode jdk_65_method_59_code 63 = .ok (.goto (-55), 3) := by decide +kernel
theorem d8_66 : decode jdk_65_method_59_code 66 = .ok (.iload 4, 2) := by decide +kernel
theorem d8_68 : decode jdk_65_method_59_code 68 = .ok (.iconst 1, 1) := by decide +kernel
theorem d8_69 : decode jdk_65_method_59_code 69 = .ok (.iadd, 1) := by decide +kernel
theorem d8_70 : decode jdk_65_method_59_code 70 = .ok (.ineg, 1) := by decide +kernel
theorem d8_71 : decode jdk_65_method_59_code 71 = .ok (.ireturn, 1) := by decide +kernel
theorem ef_b0 (m : MethodId) (t : Addr) (x : Int32) : entryFrame m #[(.ref t), (.int 0), (.int 1), (.int x)] 8 = mkF m 0 #[.val (.ref t), .val (.int 0), .val (.int 1), .val (.int x), .unset, .unset, .unset, .unset] [] := by first | (simp [entryFrame, mkF, argsToLocals, Value.category]; done) | rfl
def Q_b0 (Z : State) (t : Addr) (k : ClassId) (w : Int32) (x : Int32) (h0 : Heap) (n0 : Nat) (v : Option Value) (h : Heap) (L : List Loc) : Prop := (v = some (.int 0) ∧ Fr n0 L ∧ h = h0 ∧ ¬ (w < x) ∧ ¬ (x < w)) ∨ (v = some (.int (-2)) ∧ Fr n0 L ∧ h = h0 ∧ w < x) ∨ (v = some (.int (-1)) ∧ Fr n0 L ∧ h = h0 ∧ x < w)
set_option maxRecDepth 65536 in
set_option maxHeartbeats 40000000 in
theorem rm_b0 (l : Launch) (Z : State) (a0 : Array Value) (hw : ∀ d ∈ tables_1, d.before a0 Z = true) (ws : List Jvm.Cond) (t : Addr) (k : ClassId) (w : Int32) (x : Int32) (h0 : Heap) (n0 : Nat) (Z0 : n0 ≤ h0.size) (pf0 : Arv Z h0 t k .int (1 : Int32) [(.int w)] (.int 0)) :
    MetFree l (⟨"java/util/Arrays", "binarySearch0", "([IIII)I"⟩ : MethodName) (head1 (Jvm.Cond.code (⟨"java/util/Arrays", "binarySearch0", "([IIII)I"⟩ : MethodName) jdk_65_method_59_code 8 (some .int) :: ws) ({ frames := 0, cells := 0, slots := 0, locals := 0 } : Room)) (fun aa U => aa = #[(.ref t), (.int 0), (.int 1), (.int x)] ∧ Z.Warmed39 U.vm ∧ U.heap = h0) (fun _ _ _ _ _ => True) (fun _ U o U' => ∃ v L, o = .returned v ∧ Q_b0 Z t k w x h0 n0 v U'.heap L ∧ FrameEnd U o U' L ({ frames := 0, cells := 0, slots := 0, locals := 0 } : Room).cells ({ frames := 0, cells := 0, slots := 0, locals := 0 } : Room).slots) := by
  refine MetFree.of_bodySF (plainFor_of_name pn_java_util_Arrays) hisR ?_
  intro p e s m args below meth c s₁ Bd hml0 hP hK
  obtain ⟨rfl, hZ, hh⟩ := hP
  have hx := Bd.exec
  have hby := Bd.bytes
  have hlk : meth.locks = false := BodyLoose.notSynchronized Bd
  have hml : c.maxLocals = 8 := hml0
  have hown : s.vm.findClass "java/util/Arrays" = some m.cls := findClass_of_methodNamed Bd.named
  have hnm := (name_of_methodNamed Bd.named Bd.method).1
  have X0 : Stand p l e ({ frames := 0, cells := 0, slots := 0, locals := 0 } : Room) s m #[(.ref t), (.int 0), (.int 1), (.int x)] below meth c s₁ [] 0 0 := Stand.of_body Bd
  have e0 : s₁.heap = h0 := by rw [← hh, Bd.state]; rfl
  have N0 := Fr.nil n0
  show Gl p.tables e below (EndN s (Q_b0 Z t k w x h0 n0) ({ frames := 0, cells := 0, slots := 0, locals := 0 } : Room).cells ({ frames := 0, cells := 0, slots := 0, locals := 0 } : Room).slots) _
  refine Gl.cast (ef_b0 m t x) ?_
  show Gl p.tables e below _ (s₁.setTop (mkF m 0 #[.val (.ref t), .val (.int 0), .val (.int 1), .val (.int x), .unset, .unset, .unset, .unset] []))
  refine Gl.st (fun _ kq => XS.iloadN X0.here hx rfl (hb hby d8_0) rfl kq) ?_
  show Gl p.tables e below _ (s₁.setTop (mkF m 1 #[.val (.ref t), .val (.int 0), .val (.int 1), .val (.int x), .unset, .unset, .unset, .unset] [(.int 0)]))
  refine Gl.st (fun _ kq => XS.istore X0.here hx rfl (hb hby d8_1) rfl (l' := #[.val (.ref t), .val (.int 0), .val (.int 1), .val (.int x), .val (.int 0), .unset, .unset, .unset]) rfl kq) ?_
  show Gl p.tables e below _ (s₁.setTop (mkF m 3 #[.val (.ref t), .val (.int 0), .val (.int 1), .val (.int x), .val (.int 0), .unset, .unset, .unset] []))
  refine Gl.st (fun _ kq => XS.iloadN X0.here hx rfl (hb hby d8_3) rfl kq) ?_
  show Gl p.tables e below _ (s₁.setTop (mkF m 4 #[.val (.ref t), .val (.int 0), .val (.int 1), .val (.int x), .val (.int 0), .unset, .unset, .unset] [(.int 1)]))
  refine Gl.st (fun _ kq => XS.iconst X0.here hx rfl (hb hby d8_4) kq) ?_
  show Gl p.tables e below _ (s₁.setTop (mkF m 5 #[.val (.ref t), .val (.int 0), .val (.int 1), .val (.int x), .val (.int 0), .unset, .unset, .unset] [(.int 1), (.int 1)]))
  refine Gl.st (fun _ kq => XS.isub X0.here hx rfl (hb hby d8_5) rfl kq) ?_
  show Gl p.tables e below _ (s₁.setTop (mkF m 6 #[.val (.ref t), .val (.int 0), .val (.int 1), .val (.int x), .val (.int 0), .unset, .unset, .unset] [(.int 0)]))
  refine Gl.st (fun _ kq => XS.istore X0.here hx rfl (hb hby d8_6) rfl (l' := #[.val (.ref t), .val (.int 0), .val (.int 1), .val (.int x), .val (.int 0), .val (.int 0), .unset, .unset]) rfl kq) ?_
  show Gl p.tables e below _ (s₁.setTop (mkF m 8 #[.val (.ref t), .val (.int 0), .val (.int 1), .val (.int x), .val (.int 0), .val (.int 0), .unset, .unset] []))
  refine Gl.st (fun _ kq => XS.iload X0.here hx rfl (hb hby d8_8) rfl kq) ?_
  show Gl p.tables e below _ (s₁.setTop (mkF m 10 #[.val (.ref t), .val (.int 0), .val (.int 1), .val (.int x), .val (.int 0), .val (.int 0), .unset, .unset] [(.int 0)]))
  refine Gl.st (fun _ kq => XS.iload X0.here hx rfl (hb hby d8_10) rfl kq) ?_
  show Gl p.tables e below _ (s₁.setTop (mkF m 12 #[.val (.ref t), .val (.int 0), .val (.int 1), .val (.int x), .val (.int 0), .val (.int 0), .unset, .unset] [(.int 0), (.int 0)]))
  refine Gl.st (fun _ kq => XS.icmpNo X0.here hx rfl (hb hby d8_12) rfl (flt ((by decide) : ¬ ((0 : Int32) < (0 : Int32)))).2.2.1 kq) ?_
  show Gl p.tables e below _ (s₁.setTop (mkF m 15 #[.val (.ref t), .val (.int 0), .val (.int 1), .val (.int x), .val (.int 0), .val (.int 0), .unset, .unset] []))
  refine Gl.st (fun _ kq => XS.iload X0.here hx rfl (hb hby d8_15) rfl kq) ?_
  show Gl p.tables e below _ (s₁.setTop (mkF m 17 #[.val (.ref t), .val (.int 0), .val (.int 1), .val (.int x), .val (.int 0), .val (.int 0), .unset, .unset] [(.int 0)]))
  refine Gl.st (fun _ kq => XS.iload X0.here hx rfl (hb hby d8_17) rfl kq) ?_
  show Gl p.tables e below _ (s₁.setTop (mkF m 19 #[.val (.ref t), .val (.int 0), .val (.int 1), .val (.int x), .val (.int 0), .val (.int 0), .unset, .unset] [(.int 0), (.int 0)]))
  refine Gl.st (fun _ kq => XS.iadd X0.here hx rfl (hb hby d8_19) rfl kq) ?_
  show Gl p.tables e below _ (s₁.setTop (mkF m 20 #[.val (.ref t), .val (.int 0), .val (.int 1), .val (.int x), .val (.int 0), .val (.int 0), .unset, .unset] [(.int 0)]))
  refine Gl.st (fun _ kq => XS.iconst X0.here hx rfl (hb hby d8_20) kq) ?_
  show Gl p.tables e below _ (s₁.setTop (mkF m 21 #[.val (.ref t), .val (.int 0), .val (.int 1), .val (.int x), .val (.int 0), .val (.int 0), .unset, .unset] [(.int 1), (.int 0)]))
  refine Gl.st (fun _ kq => XS.iushr X0.here hx rfl (hb hby d8_21) rfl kq) ?_
  show Gl p.tables e below _ (s₁.setTop (mkF m 22 #[.val (.ref t), .val (.int 0), .val (.int 1), .val (.int x), .val (.int 0), .val (.int 0), .unset, .unset] [(.int 0)]))
  refine Gl.st (fun _ kq => XS.istore X0.here hx rfl (hb hby d8_22) rfl (l' := #[.val (.ref t), .val (.int 0), .val (.int 1), .val (.int x), .val (.int 0), .val (.int 0), .val (.int 0), .unset]) rfl kq) ?_
  show Gl p.tables e below _ (s₁.setTop (mkF m 24 #[.val (.ref t), .val (.int 0), .val (.int 1), .val (.int x), .val (.int 0), .val (.int 0), .val (.int 0), .unset] []))
  refine Gl.st (fun _ kq => XS.aloadN X0.here hx rfl (hb hby d8_24) rfl rfl kq) ?_
  show Gl p.tables e below _ (s₁.setTop (mkF m 25 #[.val (.ref t), .val (.int 0), .val (.int 1), .val (.int x), .val (.int 0), .val (.int 0), .val (.int 0), .unset] [(.ref t)]))
  refine Gl.st (fun _ kq => XS.iload X0.here hx rfl (hb hby d8_25) rfl kq) ?_
  show Gl p.tables e below _ (s₁.setTop (mkF m 27 #[.val (.ref t), .val (.int 0), .val (.int 1), .val (.int x), .val (.int 0), .val (.int 0), .val (.int 0), .unset] [(.int 0), (.ref t)]))
  obtain ⟨c1, a1, q1, S1, M1, H1, G1⟩ := id pf0
  refine Gl.st (fun _ kq => X0.iaload hx (j := (0 : Int32)) (v := (.int w)) (by rw [e0]; exact a1.1) (State.isArrayOf_alike hZ.alike a1.2.1) a1.2.2 (inb_of S1 ⟨by decide, by decide⟩) (Has.at H1 (inb_of S1 ⟨by decide, by decide⟩) rfl) (g := (mkF m 27 #[.val (.ref t), .val (.int 0), .val (.int 1), .val (.int x), .val (.int 0), .val (.int 0), .val (.int 0), .unset] [(.int 0), (.ref t)])) rfl rfl (hb hby d8_27) _ kq) ?_
  show Gl p.tables e below _ (s₁.setTop (mkF m 28 #[.val (.ref t), .val (.int 0), .val (.int 1), .val (.int x), .val (.int 0), .val (.int 0), .val (.int 0), .unset] [(.int w)]))
  refine Gl.st (fun _ kq => XS.istore X0.here hx rfl (hb hby d8_28) rfl (l' := #[.val (.ref t), .val (.int 0), .val (.int 1), .val (.int x), .val (.int 0), .val (.int 0), .val (.int 0), .val (.int w)]) rfl kq) ?_
  show Gl p.tables e below _ (s₁.setTop (mkF m 30 #[.val (.ref t), .val (.int 0), .val (.int 1), .val (.int x), .val (.int 0), .val (.int 0), .val (.int 0), .val (.int w)] []))
  refine Gl.st (fun _ kq => XS.iload X0.here hx rfl (hb hby d8_30) rfl kq) ?_
  show Gl p.tables e below _ (s₁.setTop (mkF m 32 #[.val (.ref t), .val (.int 0), .val (.int 1), .val (.int x), .val (.int 0), .val (.int 0), .val (.int 0), .val (.int w)] [(.int w)]))
  refine Gl.st (fun _ kq => XS.iloadN X0.here hx rfl (hb hby d8_32) rfl kq) ?_
  show Gl p.tables e below _ (s₁.setTop (mkF m 33 #[.val (.ref t), .val (.int 0), .val (.int 1), .val (.int x), .val (.int 0), .val (.int 0), .val (.int 0), .val (.int w)] [(.int x), (.int w)]))
  by_cases hc2 : w < x
  · refine Gl.st (fun _ kq => XS.icmpNo X0.here hx rfl (hb hby d8_33) rfl (tlt (hc2 : w < x)).2.1 kq) ?_
    show Gl p.tables e below _ (s₁.setTop (mkF m 36 #[.val (.ref t), .val (.int 0), .val (.int 1), .val (.int x), .val (.int 0), .val (.int 0), .val (.int 0), .val (.int w)] []))
    refine Gl.st (fun _ kq => XS.iload X0.here hx rfl (hb hby d8_36) rfl kq) ?_
    show Gl p.tables e below _ (s₁.setTop (mkF m 38 #[.val (.ref t), .val (.int 0), .val (.int 1), .val (.int x), .val (.int 0), .val (.int 0), .val (.int 0), .val (.int w)] [(.int 0)]))
    refine Gl.st (fun _ kq => XS.iconst X0.here hx rfl (hb hby d8_38) kq) ?_
    show Gl p.tables e below _ (s₁.setTop (mkF m 39 #[.val (.ref t), .val (.int 0), .val (.int 1), .val (.int x), .val (.int 0), .val (.int 0), .val (.int 0), .val (.int w)] [(.int 1), (.int 0)]))
    refine Gl.st (fun _ kq => XS.iadd X0.here hx rfl (hb hby d8_39) rfl kq) ?_
    show Gl p.tables e below _ (s₁.setTop (mkF m 40 #[.val (.ref t), .val (.int 0), .val (.int 1), .val (.int x), .val (.int 0), .val (.int 0), .val (.int 0), .val (.int w)] [(.int 1)]))
    refine Gl.st (fun _ kq => XS.istore X0.here hx rfl (hb hby d8_40) rfl (l' := #[.val (.ref t), .val (.int 0), .val (.int 1), .val (.int x), .val (.int 1), .val (.int 0), .val (.int 0), .val (.int w)]) rfl kq) ?_
    show Gl p.tables e below _ (s₁.setTop (mkF m 42 #[.val (.ref t), .val (.int 0), .val (.int 1), .val (.int x), .val (.int 1), .val (.int 0), .val (.int 0), .val (.int w)] []))
    refine Gl.st (fun _ kq => XS.goto X0.here hx rfl (pc0 := 42) (pc' := 63) rfl (hb hby d8_42) (by decide) (by decide) kq) ?_
    show Gl p.tables e below _ (s₁.setTop (mkF m 63 #[.val (.ref t), .val (.int 0), .val (.int 1), .val (.int x), .val (.int 1), .val (.int 0), .val (.int 0), .val (.int w)] []))
    refine Gl.st (fun _ kq => XS.goto X0.here hx rfl (pc0 := 63) (pc' := 8) rfl (hb hby d8_63) (by decide) (by decide) kq) ?_
    show Gl p.tables e below _ (s₁.setTop (mkF m 8 #[.val (.ref t), .val (.int 0), .val (.int 1), .val (.int x), .val (.int 1), .val (.int 0), .val (.int 0), .val (.int w)] []))
    refine Gl.st (fun _ kq => XS.iload X0.here hx rfl (hb hby d8_8) rfl kq) ?_
    show Gl p.tables e below _ (s₁.setTop (mkF m 10 #[.val (.ref t), .val (.int 0), .val (.int 1), .val (.int x), .val (.int 1), .val (.int 0), .val (.int 0), .val (.int w)] [(.int 1)]))
    refine Gl.st (fun _ kq => XS.iload X0.here hx rfl (hb hby d8_10) rfl kq) ?_
    show Gl p.tables e below _ (s₁.setTop (mkF m 12 #[.val (.ref t), .val (.int 0), .val (.int 1), .val (.int x), .val (.int 1), .val (.int 0), .val (.int 0), .val (.int w)] [(.int 0), (.int 1)]))
    refine Gl.st (fun _ kq => XS.icmpYes X0.here hx rfl (pc0 := 12) (pc' := 66) rfl (hb hby d8_12) rfl (tlt ((by decide) : (0 : Int32) < (1 : Int32))).2.2.1 (by decide) (by decide) kq) ?_
    show Gl p.tables e below _ (s₁.setTop (mkF m 66 #[.val (.ref t), .val (.int 0), .val (.int 1), .val (.int x), .val (.int 1), .val (.int 0), .val (.int 0), .val (.int w)] []))
    refine Gl.st (fun _ kq => XS.iload X0.here hx rfl (hb hby d8_66) rfl kq) ?_
    show Gl p.tables e below _ (s₁.setTop (mkF m 68 #[.val (.ref t), .val (.int 0), .val (.int 1), .val (.int x), .val (.int 1), .val (.int 0), .val (.int 0), .val (.int w)] [(.int 1)]))
    refine Gl.st (fun _ kq => XS.iconst X0.here hx rfl (hb hby d8_68) kq) ?_
    show Gl p.tables e below _ (s₁.setTop (mkF m 69 #[.val (.ref t), .val (.int 0), .val (.int 1), .val (.int x), .val (.int 1), .val (.int 0), .val (.int 0), .val (.int w)] [(.int 1), (.int 1)]))
    refine Gl.st (fun _ kq => XS.iadd X0.here hx rfl (hb hby d8_69) rfl kq) ?_
    show Gl p.tables e below _ (s₁.setTop (mkF m 70 #[.val (.ref t), .val (.int 0), .val (.int 1), .val (.int x), .val (.int 1), .val (.int 0), .val (.int 0), .val (.int w)] [(.int 2)]))
    refine Gl.st (fun _ kq => XS.ineg X0.here hx rfl (hb hby d8_70) rfl kq) ?_
    show Gl p.tables e below _ (s₁.setTop (mkF m 71 #[.val (.ref t), .val (.int 0), .val (.int 1), .val (.int x), .val (.int 1), .val (.int 0), .val (.int 0), .val (.int w)] [(.int (-2))]))
    exact Gl.retI X0 hx Bd.returns (hb hby d8_71) hlk (by decide) (by decide) (by rw [e0]; exact (Or.inr (Or.inl ⟨rfl, N0, rfl, hc2⟩)))
  · refine Gl.st (fun _ kq => XS.icmpYes X0.here hx rfl (pc0 := 33) (pc' := 45) rfl (hb hby d8_33) rfl (flt (hc2 : ¬ (w < x))).2.1 (by decide) (by decide) kq) ?_
    show Gl p.tables e below _ (s₁.setTop (mkF m 45 #[.val (.ref t), .val (.int 0), .val (.int 1), .val (.int x), .val (.int 0), .val (.int 0), .val (.int 0), .val (.int w)] []))
    refine Gl.st (fun _ kq => XS.iload X0.here hx rfl (hb hby d8_45) rfl kq) ?_
    show Gl p.tables e below _ (s₁.setTop (mkF m 47 #[.val (.ref t), .val (.int 0), .val (.int 1), .val (.int x), .val (.int 0), .val (.int 0), .val (.int 0), .val (.int w)] [(.int w)]))
    refine Gl.st (fun _ kq => XS.iloadN X0.here hx rfl (hb hby d8_47) rfl kq) ?_
    show Gl p.tables e below _ (s₁.setTop (mkF m 48 #[.val (.ref t), .val (.int 0), .val (.int 1), .val (.int x), .val (.int 0), .val (.int 0), .val (.int 0), .val (.int w)] [(.int x), (.int w)]))
    by_cases hc3 : x < w
    · refine Gl.st (fun _ kq => XS.icmpNo X0.here hx rfl (hb hby d8_48) rfl (tlt (hc3 : x < w)).2.2.2 kq) ?_
      show Gl p.tables e below _ (s₁.setTop (mkF m 51 #[.val (.ref t), .val (.int 0), .val (.int 1), .val (.int x), .val (.int 0), .val (.int 0), .val (.int 0), .val (.int w)] []))
      refine Gl.st (fun _ kq => XS.iload X0.here hx rfl (hb hby d8_51) rfl kq) ?_
      show Gl p.tables e below _ (s₁.setTop (mkF m 53 #[.val (.ref t), .val (.int 0), .val (.int 1), .val (.int x), .val (.int 0), .val (.int 0), .val (.int 0), .val (.int w)] [(.int 0)]))
      refine Gl.st (fun _ kq => XS.iconst X0.here hx rfl (hb hby d8_53) kq) ?_
      show Gl p.tables e below _ (s₁.setTop (mkF m 54 #[.val (.ref t), .val (.int 0), .val (.int 1), .val (.int x), .val (.int 0), .val (.int 0), .val (.int 0), .val (.int w)] [(.int 1), (.int 0)]))
      refine Gl.st (fun _ kq => XS.isub X0.here hx rfl (hb hby d8_54) rfl kq) ?_
      show Gl p.tables e below _ (s₁.setTop (mkF m 55 #[.val (.ref t), .val (.int 0), .val (.int 1), .val (.int x), .val (.int 0), .val (.int 0), .val (.int 0), .val (.int w)] [(.int (-1))]))
      refine Gl.st (fun _ kq => XS.istore X0.here hx rfl (hb hby d8_55) rfl (l' := #[.val (.ref t), .val (.int 0), .val (.int 1), .val (.int x), .val (.int 0), .val (.int (-1)), .val (.int 0), .val (.int w)]) rfl kq) ?_
      show Gl p.tables e below _ (s₁.setTop (mkF m 57 #[.val (.ref t), .val (.int 0), .val (.int 1), .val (.int x), .val (.int 0), .val (.int (-1)), .val (.int 0), .val (.int w)] []))
      refine Gl.st (fun _ kq => XS.goto X0.here hx rfl (pc0 := 57) (pc' := 63) rfl (hb hby d8_57) (by decide) (by decide) kq) ?_
      show Gl p.tables e below _ (s₁.setTop (mkF m 63 #[.val (.ref t), .val (.int 0), .val (.int 1), .val (.int x), .val (.int 0), .val (.int (-1)), .val (.int 0), .val (.int w)] []))
      refine Gl.st (fun _ kq => XS.goto X0.here hx rfl (pc0 := 63) (pc' := 8) rfl (hb hby d8_63) (by decide) (by decide) kq) ?_
      show Gl p.tables e below _ (s₁.setTop (mkF m 8 #[.val (.ref t), .val (.int 0), .val (.int 1), .val (.int x), .val (.int 0), .val (.int (-1)), .val (.int 0), .val (.int w)] []))
      refine Gl.st (fun _ kq => XS.iload X0.here hx rfl (hb hby d8_8) rfl kq) ?_
      show Gl p.tables e below _ (s₁.setTop (mkF m 10 #[.val (.ref t), .val (.int 0), .val (.int 1), .val (.int x), .val (.int 0), .val (.int (-1)), .val (.int 0), .val (.int w)] [(.int 0)]))
      refine Gl.st (fun _ kq => XS.iload X0.here hx rfl (hb hby d8_10) rfl kq) ?_
      show Gl p.tables e below _ (s₁.setTop (mkF m 12 #[.val (.ref t), .val (.int 0), .val (.int 1), .val (.int x), .val (.int 0), .val (.int (-1)), .val (.int 0), .val (.int w)] [(.int (-1)), (.int 0)]))
      refine Gl.st (fun _ kq => XS.icmpYes X0.here hx rfl (pc0 := 12) (pc' := 66) rfl (hb hby d8_12) rfl (tlt ((by decide) : (-1 : Int32) < (0 : Int32))).2.2.1 (by decide) (by decide) kq) ?_
      show Gl p.tables e below _ (s₁.setTop (mkF m 66 #[.val (.ref t), .val (.int 0), .val (.int 1), .val (.int x), .val (.int 0), .val (.int (-1)), .val (.int 0), .val (.int w)] []))
      refine Gl.st (fun _ kq => XS.iload X0.here hx rfl (hb hby d8_66) rfl kq) ?_
      show Gl p.tables e below _ (s₁.setTop (mkF m 68 #[.val (.ref t), .val (.int 0), .val (.int 1), .val (.int x), .val (.int 0), .val (.int (-1)), .val (.int 0), .val (.int w)] [(.int 0)]))
      refine Gl.st (fun _ kq => XS.iconst X0.here hx rfl (hb hby d8_68) kq) ?_
      show Gl p.tables e below _ (s₁.setTop (mkF m 69 #[.val (.ref t), .val (.int 0), .val (.int 1), .val (.int x), .val (.int 0), .val (.int (-1)), .val (.int 0), .val (.int w)] [(.int 1), (.int 0)]))
      refine Gl.st (fun _ kq => XS.iadd X0.here hx rfl (hb hby d8_69) rfl kq) ?_
      show Gl p.tables e below _ (s₁.setTop (mkF m 70 #[.val (.ref t), .val (.int 0), .val (.int 1), .val (.int x), .val (.int 0), .val (.int (-1)), .val (.int 0), .val (.int w)] [(.int 1)]))
      refine Gl.st (fun _ kq => XS.ineg X0.here hx rfl (hb hby d8_70) rfl kq) ?_
      show Gl p.tables e below _ (s₁.setTop (mkF m 71 #[.val (.ref t), .val (.int 0), .val (.int 1), .val (.int x), .val (.int 0), .val (.int (-1)), .val (.int 0), .val (.int w)] [(.int (-1))]))
      exact Gl.retI X0 hx Bd.returns (hb hby d8_71) hlk (by decide) (by decide) (by rw [e0]; exact (Or.inr (Or.inr (⟨rfl, N0, rfl, hc3⟩))))
    · refine Gl.st (fun _ kq => XS.icmpYes X0.here hx rfl (pc0 := 48) (pc' := 60) rfl (hb hby d8_48) rfl (flt (hc3 : ¬ (x < w))).2.2.2 (by decide) (by decide) kq) ?_
      show Gl p.tables e below _ (s₁.setTop (mkF m 60 #[.val (.ref t), .val (.int 0), .val (.int 1), .val (.int x), .val (.int 0), .val (.int 0), .val (.int 0), .val (.int w)] []))
      refine Gl.st (fun _ kq => XS.iload X0.here hx rfl (hb hby d8_60) rfl kq) ?_
      show Gl p.tables e below _ (s₁.setTop (mkF m 62 #[.val (.ref t), .val (.int 0), .val (.int 1), .val (.int x), .val (.int 0), .val (.int 0), .val (.int 0), .val (.int w)] [(.int 0)]))
      exact Gl.retI X0 hx Bd.returns (hb hby d8_62) hlk (by decide) (by decide) (by rw [e0]; exact (Or.inl ⟨rfl, N0, rfl, hc2, hc3⟩))
theorem d7_0 : decode jdk_65_method_57_code 0 = .ok (.aload_n 0, 1) := by decide +kernel
theorem d7_1 : decode jdk_65_method_57_code 1 = .ok (.iconst 0, 1) := by decide +kernel
theorem d7_2 : decode jdk_65_method_57_code 2 = .ok (.aload_n 0, 1) := by decide +kernel
theorem d7_3 : decode jdk_65_method_57_code 3 = .ok (.arraylength, 1) := by decide +kernel
theorem d7_4 : decode jdk_65_method_57_code 4 = .ok (.iload_n 1, 1) := by decide +kernel
theorem d7_5 : decode jdk_65_method_57_code 5 = .ok (.invokestatic 209, 3) := by decide +kernel
theorem d7_8 : decode jdk_65_method_57_code 8 = .ok (.ireturn, 1) := by decide +kernel
theorem ef_bs (m : MethodId) (t : Addr) (x : Int32) : entryFrame m #[(.ref t), (.int x)] 2 = mkF m 0 #[.val (.ref t), .val (.int x)] [] := by first | (simp [entryFrame, mkF, argsToLocals, Value.category]; done) | rfl
def Q_bs (Z : State) (t : Addr) (k : ClassId) (w : Int32) (x : Int32) (h0 : Heap) (n0 : Nat) (v : Option Value) (h : Heap) (L : List Loc) : Prop := (v = some (.int 0) ∧ Fr n0 L ∧ h = h0 ∧ ¬ (w < x) ∧ ¬ (x < w)) ∨ (v = some (.int (-2)) ∧ Fr n0 L ∧ h = h0 ∧ w < x) ∨ (v = some (.int (-1)) ∧ Fr n0 L ∧ h = h0 ∧ x < w)
set_option maxRecDepth 65536 in
set_option maxHeartbeats 40000000 in
theorem rm_bs (l : Launch) (Z : State) (a0 : Array Value) (hw : ∀ d ∈ tables_1, d.before a0 Z = true) (ws : List Jvm.Cond) (t : Addr) (k : ClassId) (w : Int32) (x : Int32) (h0 : Heap) (n0 : Nat) (Z0 : n0 ≤ h0.size) (pf0 : Arv Z h0 t k .int (1 : Int32) [(.int w)] (.int 0)) :
    MetFree l (⟨"java/util/Arrays", "binarySearch", "([II)I"⟩ : MethodName) (head1 (Jvm.Cond.code (⟨"java/util/Arrays", "binarySearch", "([II)I"⟩ : MethodName) jdk_65_method_57_code 2 (some .int) :: ws) ({ frames := 1, cells := 0, slots := 0, locals := 19 } : Room)) (fun aa U => aa = #[(.ref t), (.int x)] ∧ Z.Warmed39 U.vm ∧ U.heap = h0) (fun _ _ _ _ _ => True) (fun _ U o U' => ∃ v L, o = .returned v ∧ Q_bs Z t k w x h0 n0 v U'.heap L ∧ FrameEnd U o U' L ({ frames := 1, cells := 0, slots := 0, locals := 19 } : Room).cells ({ frames := 1, cells := 0, slots := 0, locals := 19 } : Room).slots) := by
  refine MetFree.of_bodySF (plainFor_of_name pn_java_util_Arrays) hisR ?_
  intro p e s m args below meth c s₁ Bd hml0 hP hK
  obtain ⟨rfl, hZ, hh⟩ := hP
  have hx := Bd.exec
  have hby := Bd.bytes
  have hlk : meth.locks = false := BodyLoose.notSynchronized Bd
  have hml : c.maxLocals = 2 := hml0
  have hown : s.vm.findClass "java/util/Arrays" = some m.cls := findClass_of_methodNamed Bd.named
  have hnm := (name_of_methodNamed Bd.named Bd.method).1
  have X0 : Stand p l e ({ frames := 1, cells := 0, slots := 0, locals := 19 } : Room) s m #[(.ref t), (.int x)] below meth c s₁ [] 0 0 := Stand.of_body Bd
  have e0 : s₁.heap = h0 := by rw [← hh, Bd.state]; rfl
  have N0 := Fr.nil n0
  show Gl p.tables e below (EndN s (Q_bs Z t k w x h0 n0) ({ frames := 1, cells := 0, slots := 0, locals := 19 } : Room).cells ({ frames := 1, cells := 0, slots := 0, locals := 19 } : Room).slots) _
  refine Gl.cast (ef_bs m t x) ?_
  show Gl p.tables e below _ (s₁.setTop (mkF m 0 #[.val (.ref t), .val (.int x)] []))
  refine Gl.st (fun _ kq => XS.aloadN X0.here hx rfl (hb hby d7_0) rfl rfl kq) ?_
  show Gl p.tables e below _ (s₁.setTop (mkF m 1 #[.val (.ref t), .val (.int x)] [(.ref t)]))
  refine Gl.st (fun _ kq => XS.iconst X0.here hx rfl (hb hby d7_1) kq) ?_
  show Gl p.tables e below _ (s₁.setTop (mkF m 2 #[.val (.ref t), .val (.int x)] [(.int 0), (.ref t)]))
  refine Gl.st (fun _ kq => XS.aloadN X0.here hx rfl (hb hby d7_2) rfl rfl kq) ?_
  show Gl p.tables e below _ (s₁.setTop (mkF m 3 #[.val (.ref t), .val (.int x)] [(.ref t), (.int 0), (.ref t)]))
  obtain ⟨c1, a1, q1, S1, M1, H1, G1⟩ := id pf0
  refine Gl.st (fun _ kq => X0.arraylength hx (by rw [e0]; exact a1.1) (State.isArrayOf_alike hZ.alike a1.2.1) (g := (mkF m 3 #[.val (.ref t), .val (.int x)] [(.ref t), (.int 0), (.ref t)])) rfl rfl (hb hby d7_3) _ kq) ?_
  rw [len_of S1 M1]
  show Gl p.tables e below _ (s₁.setTop (mkF m 4 #[.val (.ref t), .val (.int x)] [(.int 1), (.int 0), (.ref t)]))
  refine Gl.st (fun _ kq => XS.iloadN X0.here hx rfl (hb hby d7_4) rfl kq) ?_
  show Gl p.tables e below _ (s₁.setTop (mkF m 5 #[.val (.ref t), .val (.int x)] [(.int x), (.int 1), (.int 0), (.ref t)]))
  obtain ⟨_, _, ⟨T2, L2, k2, n2⟩, -, X2, ⟨Lc2, hQ2, l2, y2, z2⟩, st2⟩ := Jvm.LawKit.callS X0 hx (y := (⟨"java/util/Arrays", "binarySearch0", "([IIII)I"⟩ : MethodName)) hown (mvT hZ (tw hw 34 rfl)) (mvT hZ (tw hw 35 rfl)) (mvT hZ (tw hw 32 rfl)) (mvT hZ (tw hw 36 rfl)) (by decide) (backOf (W := 0) (rm_b0 l Z a0 hw [] (t) (k) (w) (x) h0 n0 Z0 pf0) hZ (tw hw 36 rfl) (tw hw 32 rfl) (by decide) (by decide)) (g := (mkF m 5 #[.val (.ref t), .val (.int x)] [(.int x), (.int 1), (.int 0), (.ref t)])) rfl (by rw [hml]; rfl) (argsL := [(.ref t), (.int 0), (.int 1), (.int x)]) (rest := []) (lenOf pd___IIII_I rfl) rfl (by show 2 * 0 + _ ≤ _; exact Nat.le_of_eq rfl) (hb hby d7_5) (fun _ _ => ⟨rfl, e0, (by decide : 0 + 0 ≤ _), (by decide : 0 + 0 ≤ _)⟩)
  dsimp only [Pt.U, Pt.locs, Pt.cells, Pt.slots] at X2 l2 y2 z2 st2 hQ2
  subst l2 y2 z2
  rcases hQ2 with ⟨rfl, N2, e2, y2_0, y2_1⟩ | ⟨rfl, N2, e2, y2_0⟩ | ⟨rfl, N2, e2, y2_0⟩
  · have M2 := Fr.app N0 N2
    refine Gl.st st2 ?_
    show Gl p.tables e below _ (T2.setTop (mkF m 8 #[.val (.ref t), .val (.int x)] [(.int 0)]))
    exact Gl.retI X2 hx Bd.returns (hb hby d7_8) hlk (by decide) (by decide) (by rw [e2]; exact (Or.inl ⟨rfl, M2, rfl, y2_0, y2_1⟩))
  · have M2 := Fr.app N0 N2
    refine Gl.st st2 ?_
    show Gl p.tables e below _ (T2.setTop (mkF m 8 #[.val (.ref t), .val (.int x)] [(.int (-2))]))
    exact Gl.retI X2 hx Bd.returns (hb hby d7_8) hlk (by decide) (by decide) (by rw [e2]; exact (Or.inr (Or.inl ⟨rfl, M2, rfl, y2_0⟩)))
  · have M2 := Fr.app N0 N2
    refine Gl.st st2 ?_
    show Gl p.tables e below _ (T2.setTop (mkF m 8 #[.val (.ref t), .val (.int x)] [(.int (-1))]))
    exact Gl.retI X2 hx Bd.returns (hb hby d7_8) hlk (by decide) (by decide) (by rw [e2]; exact (Or.inr (Or.inr (⟨rfl, M2, rfl, y2_0⟩))))
theorem d6_0 : decode prog_13_method_6_code 0 = .ok (.aload_n 0, 1) := by decide +kernel
theorem d6_1 : decode prog_13_method_6_code 1 = .ok (.getfield 7, 3) := by decide +kernel
theorem d6_4 : decode prog_13_method_6_code 4 = .ok (.iload_n 1, 1) := by decide +kernel
theorem d6_5 : decode prog_13_method_6_code 5 = .ok (.invokestatic 22, 3) := by decide +kernel
theorem d6_8 : decode prog_13_method_6_code 8 = .ok (.istore_n 2, 1) := by decide +kernel
theorem d6_9 : decode prog_13_method_6_code 9 = .ok (.iload_n 2, 1) := by decide +kernel
theorem d6_10 : decode prog_13_method_6_code 10 = .ok (.ifCond .ge 5, 3) := by decide +kernel
theorem d6_13 : decode prog_13_method_6_code 13 = .ok (.aload_n 0, 1) := by decide +kernel
theorem d6_14 : decode prog_13_method_6_code 14 = .ok (.areturn, 1) := by decide +kernel
theorem d6_15 : decode prog_13_method_6_code 15 = .ok (.aload_n 0, 1) := by decide +kernel
theorem d6_16 : decode prog_13_method_6_code 16 = .ok (.getfield 7, 3) := by decide +kernel
theorem d6_19 : decode prog_13_method_6_code 19 = .ok (.arraylength, 1) := by decide +kernel
theorem d6_20 : decode prog_13_method_6_code 20 = .ok (.iconst 1, 1) := by decide +kernel
theorem d6_21 : decode prog_13_method_6_code 21 = .ok (.isub, 1) := by decide +kernel
theorem d6_22 : decode prog_13_method_6_code 22 = .ok (.newarray .int, 2) := by decide +kernel
theorem d6_24 : decode prog_13_method_6_code 24 = .ok (.astore_n 3, 1) := by decide +kernel
theorem d6_25 : decode prog_13_method_6_code 25 = .ok (.aload_n 0, 1) := by decide +kernel
theorem d6_26 : decode prog_13_method_6_code 26 = .ok (.getfield 7, 3) := by decide +kernel
theorem d6_29 : decode prog_13_method_6_code 29 = .ok (.iconst 0, 1) := by decide +kernel
theorem d6_30 : decode prog_13_method_6_code 30 = .ok (.aload_n 3, 1) := by decide +kernel
theorem d6_31 : decode prog_13_method_6_code 31 = .ok (.iconst 0, 1) := by decide +kernel
theorem d6_32 : decode prog_13_method_6_code 32 = .ok (.iload_n 2, 1) := by decide +kernel
theorem d6_33 : decode prog_13_method_6_code 33 = .ok (.invokestatic 26, 3) := by decide +kernel
theorem d6_36 : decode prog_13_method_6_code 36 = .ok (.aload_n 0, 1) := by decide +kernel
theorem d6_37 : decode prog_13_method_6_code 37 = .ok (.getfield 7, 3) := by decide +kernel
theorem d6_40 : decode prog_13_method_6_code 40 = .ok (.iload_n 2, 1) := by decide +kernel
theorem d6_41 : decode prog_13_method_6_code 41 = .ok (.iconst 1, 1) := by decide +kernel
theorem d6_42 : decode prog_13_method_6_code 42 = .ok (.iadd, 1) := by decide +kernel
theorem d6_43 : decode prog_13_method_6_code 43 = .ok (.aload_n 3, 1) := by decide +kernel
theorem d6_44 : decode prog_13_method_6_code 44 = .ok (.iload_n 2, 1) := by decide +kernel
theorem d6_45 : decode prog_13_method_6_code 45 = .ok (.aload_n 3, 1) := by decide +kernel
theorem d6_46 : decode prog_13_method_6_code 46 = .ok (.arraylength, 1) := by decide +kernel
theorem d6_47 : decode prog_13_method_6_code 47 = .ok (.iload_n 2, 1) := by decide +kernel
theorem d6_48 : decode prog_13_method_6_code 48 = .ok (.isub, 1) := by decide +kernel
theorem d6_49 : decode prog_13_method_6_code 49 = .ok (.invokestatic 26, 3) := by decide +kernel
theorem d6_52 : decode prog_13_method_6_code 52 = .ok (.aload_n 3, 1) := by decide +kernel
theorem d6_53 : decode prog_13_method_6_code 53 = .ok (.arraylength, 1) := by decide +kernel
theorem d6_54 : decode prog_13_method_6_code 54 = .ok (.ifCond .ne 9, 3) := by decide +kernel
theorem d6_57 : decode prog_13_method_6_code 57 = .ok (.getstatic 32, 3) := by decide +kernel
theorem d6_60 : decode prog_13_method_6_code 60 = .ok (.goto 11, 3) := by decide +kernel
theorem d6_71 : decode prog_13_method_6_code 71 = .ok (.areturn, 1) := by decide +kernel
theorem ef_wo (m : MethodId) (a : Addr) (x : Int32) : entryFrame m #[(.ref a), (.int x)] 4 = mkF m 0 #[.val (.ref a), .val (.int x), .unset, .unset] [] := by first | (simp [entryFrame, mkF, argsToLocals, Value.category]; done) | rfl
def Q_wo (Z : State) (a : Addr) (t : Addr) (k : ClassId) (w : Int32) (x : Int32) (em : Addr) (h0 : Heap) (n0 : Nat) (v : Option Value) (h : Heap) (L : List Loc) : Prop := (v = some (.ref em) ∧ Fr n0 L ∧ Keep h0 h [] ∧ ¬ (w < x) ∧ ¬ (x < w)) ∨ (v = some (.ref a) ∧ Fr n0 L ∧ h = h0 ∧ w < x) ∨ (v = some (.ref a) ∧ Fr n0 L ∧ h = h0 ∧ x < w)
set_option maxRecDepth 65536 in
set_option maxHeartbeats 40000000 in
theorem rm_wo (l : Launch) (Z : State) (a0 : Array Value) (hw : ∀ d ∈ tables_1, d.before a0 Z = true) (ws : List Jvm.Cond) (a : Addr) (t : Addr) (k : ClassId) (w : Int32) (x : Int32) (em : Addr) (h0 : Heap) (n0 : Nat) (Z0 : n0 ≤ h0.size) (pf0 : Fld Z h0 a "com/example/rooted_tableau/rootedtableau/core/DependencySet" "levels" "[I" (.ref t)) (pf1 : Arv Z h0 t k .int (1 : Int32) [(.int w)] (.int 0)) (pf2 : Old Z n0 h0) (OE : Sta Z Z.heap "com/example/rooted_tableau/rootedtableau/core/DependencySet" "EMPTY" "Lcom/example/rooted_tableau/rootedtableau/core/DependencySet;" (.ref em)) :
    MetFree l (⟨"com/example/rooted_tableau/rootedtableau/core/DependencySet", "without", "(I)Lcom/example/rooted_tableau/rootedtableau/core/DependencySet;"⟩ : MethodName) (head1 (Jvm.Cond.code (⟨"com/example/rooted_tableau/rootedtableau/core/DependencySet", "without", "(I)Lcom/example/rooted_tableau/rootedtableau/core/DependencySet;"⟩ : MethodName) prog_13_method_6_code 4 (some (.object "com/example/rooted_tableau/rootedtableau/core/DependencySet")) :: ws) ({ frames := 2, cells := 1, slots := 0, locals := 32 } : Room)) (fun aa U => aa = #[(.ref a), (.int x)] ∧ Z.Warmed39 U.vm ∧ U.heap = h0) (fun _ _ _ _ _ => True) (fun _ U o U' => ∃ v L, o = .returned v ∧ Q_wo Z a t k w x em h0 n0 v U'.heap L ∧ FrameEnd U o U' L ({ frames := 2, cells := 1, slots := 0, locals := 32 } : Room).cells ({ frames := 2, cells := 1, slots := 0, locals := 32 } : Room).slots) := by
  refine MetFree.of_bodySF (plainFor_of_name pn_com_example_rooted_tableau_rootedtableau_core_DependencySet) hisR ?_
  intro p e s m args below meth c s₁ Bd hml0 hP hK
  obtain ⟨rfl, hZ, hh⟩ := hP
  have hx := Bd.exec
  have hby := Bd.bytes
  have hlk : meth.locks = false := BodyLoose.notSynchronized Bd
  have hml : c.maxLocals = 4 := hml0
  have hown : s.vm.findClass "com/example/rooted_tableau/rootedtableau/core/DependencySet" = some m.cls := findClass_of_methodNamed Bd.named
  have hnm := (name_of_methodNamed Bd.named Bd.method).1
  have X0 : Stand p l e ({ frames := 2, cells := 1, slots := 0, locals := 32 } : Room) s m #[(.ref a), (.int x)] below meth c s₁ [] 0 0 := Stand.of_body Bd
  have e0 : s₁.heap = h0 := by rw [← hh, Bd.state]; rfl
  have N0 := Fr.nil n0
  show Gl p.tables e below (EndN s (Q_wo Z a t k w x em h0 n0) ({ frames := 2, cells := 1, slots := 0, locals := 32 } : Room).cells ({ frames := 2, cells := 1, slots := 0, locals := 32 } : Room).slots) _
  refine Gl.cast (ef_wo m a x) ?_
  show Gl p.tables e below _ (s₁.setTop (mkF m 0 #[.val (.ref a), .val (.int x), .unset, .unset] []))
  refine Gl.st (fun _ kq => XS.aloadN X0.here hx rfl (hb hby d6_0) rfl rfl kq) ?_
  show Gl p.tables e below _ (s₁.setTop (mkF m 1 #[.val (.ref a), .val (.int x), .unset, .unset] [(.ref a)]))
  obtain ⟨T1, X1, e1, st1⟩ := getF X0 hx hZ hown (host := "") (Or.inl (tw hw 13 rfl)) Via.refl e0 pf0 (g := (mkF m 1 #[.val (.ref a), .val (.int x), .unset, .unset] [(.ref a)])) rfl rfl (hb hby d6_1)
  refine Gl.st st1 ?_
  show Gl p.tables e below _ (T1.setTop (mkF m 4 #[.val (.ref a), .val (.int x), .unset, .unset] [(.ref t)]))
  refine Gl.st (fun _ kq => XS.iloadN X1.here hx rfl (hb hby d6_4) rfl kq) ?_
  show Gl p.tables e below _ (T1.setTop (mkF m 5 #[.val (.ref a), .val (.int x), .unset, .unset] [(.int x), (.ref t)]))
  obtain ⟨_, _, ⟨T2, L2, k2, n2⟩, -, X2, ⟨Lc2, hQ2, l2, y2, z2⟩, st2⟩ := Jvm.LawKit.callS X1 hx (y := (⟨"java/util/Arrays", "binarySearch", "([II)I"⟩ : MethodName)) hown (mvT hZ (tw hw 30 rfl)) (mvT hZ (tw hw 31 rfl)) (mvT hZ (tw hw 32 rfl)) (mvT hZ (tw hw 33 rfl)) (by decide) (backOf (W := 0) (rm_bs l Z a0 hw [] (t) (k) (w) (x) h0 n0 Z0 pf1) hZ (tw hw 33 rfl) (tw hw 32 rfl) (by decide) (by decide)) (g := (mkF m 5 #[.val (.ref a), .val (.int x), .unset, .unset] [(.int x), (.ref t)])) rfl (by rw [hml]; rfl) (argsL := [(.ref t), (.int x)]) (rest := []) (lenOf pd___II_I rfl) rfl (by show 2 * 0 + _ ≤ _; exact Nat.le_of_eq rfl) (hb hby d6_5) (fun _ _ => ⟨rfl, e1, (by decide : 0 + 0 ≤ _), (by decide : 0 + 0 ≤ _)⟩)
  dsimp only [Pt.U, Pt.locs, Pt.cells, Pt.slots] at X2 l2 y2 z2 st2 hQ2
  subst l2 y2 z2
  rcases hQ2 with ⟨rfl, N2, e2, y2_0, y2_1⟩ | ⟨rfl, N2, e2, y2_0⟩ | ⟨rfl, N2, e2, y2_0⟩
  · have M2 := Fr.app N0 N2
    refine Gl.st st2 ?_
    show Gl p.tables e below _ (T2.setTop (mkF m 8 #[.val (.ref a), .val (.int x), .unset, .unset] [(.int 0)]))
    refine Gl.st (fun _ kq => XS.istoreN X2.here hx rfl (hb hby d6_8) rfl (l' := #[.val (.ref a), .val (.int x), .val (.int 0), .unset]) rfl kq) ?_
    show Gl p.tables e below _ (T2.setTop (mkF m 9 #[.val (.ref a), .val (.int x), .val (.int 0), .unset] []))
    refine Gl.st (fun _ kq => XS.iloadN X2.here hx rfl (hb hby d6_9) rfl kq) ?_
    show Gl p.tables e below _ (T2.setTop (mkF m 10 #[.val (.ref a), .val (.int x), .val (.int 0), .unset] [(.int 0)]))
    refine Gl.st (fun _ kq => XS.ifYes X2.here hx rfl (pc0 := 10) (pc' := 15) rfl (hb hby d6_10) rfl ((if0 _ _).trans (flt ((by decide) : ¬ ((0 : Int32) < (0 : Int32)))).2.1) (by decide) (by decide) kq) ?_
    show Gl p.tables e below _ (T2.setTop (mkF m 15 #[.val (.ref a), .val (.int x), .val (.int 0), .unset] []))
    refine Gl.st (fun _ kq => XS.aloadN X2.here hx rfl (hb hby d6_15) rfl rfl kq) ?_
    show Gl p.tables e below _ (T2.setTop (mkF m 16 #[.val (.ref a), .val (.int x), .val (.int 0), .unset] [(.ref a)]))
    obtain ⟨T3, X3, e3, st3⟩ := getF X2 hx hZ hown (host := "") (Or.inl (tw hw 13 rfl)) Via.refl e2 pf0 (g := (mkF m 16 #[.val (.ref a), .val (.int x), .val (.int 0), .unset] [(.ref a)])) rfl rfl (hb hby d6_16)
    refine Gl.st st3 ?_
    show Gl p.tables e below _ (T3.setTop (mkF m 19 #[.val (.ref a), .val (.int x), .val (.int 0), .unset] [(.ref t)]))
    obtain ⟨c4, a4, q4, S4, M4, H4, G4⟩ := id pf1
    refine Gl.st (fun _ kq => X3.arraylength hx (by rw [e3]; exact a4.1) (State.isArrayOf_alike hZ.alike a4.2.1) (g := (mkF m 19 #[.val (.ref a), .val (.int x), .val (.int 0), .unset] [(.ref t)])) rfl rfl (hb hby d6_19) _ kq) ?_
    rw [len_of S4 M4]
    show Gl p.tables e below _ (T3.setTop (mkF m 20 #[.val (.ref a), .val (.int x), .val (.int 0), .unset] [(.int 1)]))
    refine Gl.st (fun _ kq => XS.iconst X3.here hx rfl (hb hby d6_20) kq) ?_
    show Gl p.tables e below _ (T3.setTop (mkF m 21 #[.val (.ref a), .val (.int x), .val (.int 0), .unset] [(.int 1), (.int 1)]))
    refine Gl.st (fun _ kq => XS.isub X3.here hx rfl (hb hby d6_21) rfl kq) ?_
    show Gl p.tables e below _ (T3.setTop (mkF m 22 #[.val (.ref a), .val (.int x), .val (.int 0), .unset] [(.int 0)]))
    obtain ⟨T5, h5, k5, X5, e5, E5, A5, st5⟩ := newP X3 hx hZ (tw hw 6 rfl) e3 (g := (mkF m 22 #[.val (.ref a), .val (.int x), .val (.int 0), .unset] [(.int 0)])) rfl (hb hby d6_22) rfl (by decide) (cap := 0) (by decide) (by decide) (by decide) (by decide)
    obtain ⟨b5, g5⟩ : ∃ z, z = h0.size := ⟨_, rfl⟩
    rw [← g5] at A5 st5
    refine Gl.st st5 ?_
    have g6 : n0 ≤ b5 := Nat.le_trans Z0 (Nat.le_of_eq g5.symm)
    have s7 : h0.size ≤ b5 := Nat.le_trans (Nat.le_refl _) (Nat.le_of_eq g5.symm)
    have V5 : Arv Z h5 b5 k5 .int (0 : Int32) [] (.int 0) := (Arv.new A5 (by decide)).pad (pad_rep [] (.int 0) 0)
    show Gl p.tables e below _ (T5.setTop (mkF m 24 #[.val (.ref a), .val (.int x), .val (.int 0), .unset] [(.ref b5)]))
    refine Gl.st (fun _ kq => XS.astoreN X5.here hx rfl (hb hby d6_24) rfl rfl (l' := #[.val (.ref a), .val (.int x), .val (.int 0), .val (.ref b5)]) rfl kq) ?_
    show Gl p.tables e below _ (T5.setTop (mkF m 25 #[.val (.ref a), .val (.int x), .val (.int 0), .val (.ref b5)] []))
    refine Gl.st (fun _ kq => XS.aloadN X5.here hx rfl (hb hby d6_25) rfl rfl kq) ?_
    show Gl p.tables e below _ (T5.setTop (mkF m 26 #[.val (.ref a), .val (.int x), .val (.int 0), .val (.ref b5)] [(.ref a)]))
    have f8 : Fld Z h5 a "com/example/rooted_tableau/rootedtableau/core/DependencySet" "levels" "[I" (.ref t) := (pf0.ext E5)
    obtain ⟨T9, X9, e9, st9⟩ := getF X5 hx hZ hown (host := "") (Or.inl (tw hw 13 rfl)) Via.refl e5 f8 (g := (mkF m 26 #[.val (.ref a), .val (.int x), .val (.int 0), .val (.ref b5)] [(.ref a)])) rfl rfl (hb hby d6_26)
    refine Gl.st st9 ?_
    show Gl p.tables e below _ (T9.setTop (mkF m 29 #[.val (.ref a), .val (.int x), .val (.int 0), .val (.ref b5)] [(.ref t)]))
    refine Gl.st (fun _ kq => XS.iconst X9.here hx rfl (hb hby d6_29) kq) ?_
    show Gl p.tables e below _ (T9.setTop (mkF m 30 #[.val (.ref a), .val (.int x), .val (.int 0), .val (.ref b5)] [(.int 0), (.ref t)]))
    refine Gl.st (fun _ kq => XS.aloadN X9.here hx rfl (hb hby d6_30) rfl rfl kq) ?_
    show Gl p.tables e below _ (T9.setTop (mkF m 31 #[.val (.ref a), .val (.int x), .val (.int 0), .val (.ref b5)] [(.ref b5), (.int 0), (.ref t)]))
    refine Gl.st (fun _ kq => XS.iconst X9.here hx rfl (hb hby d6_31) kq) ?_
    show Gl p.tables e below _ (T9.setTop (mkF m 32 #[.val (.ref a), .val (.int x), .val (.int 0), .val (.ref b5)] [(.int 0), (.ref b5), (.int 0), (.ref t)]))
    refine Gl.st (fun _ kq => XS.iloadN X9.here hx rfl (hb hby d6_32) rfl kq) ?_
    show Gl p.tables e below _ (T9.setTop (mkF m 33 #[.val (.ref a), .val (.int x), .val (.int 0), .val (.ref b5)] [(.int 0), (.int 0), (.ref b5), (.int 0), (.ref t)]))
    have f10 : Arv Z h5 t k .int (1 : Int32) [(.int w)] (.int 0) := (pf1.ext E5)
    obtain ⟨T11, h11, L11, X11, e11, N11, K11, V11, st11⟩ := cpA X9 hx hZ hown (tw hw 37 rfl) (tw hw 40 rfl) (tw hw 38 rfl) (tw hw 39 rfl) e9 f10 V5 (us := []) (sp := (0 : Int32)) (dp := (0 : Int32)) (nn := (0 : Int32)) (Or.inl ⟨rfl, rfl⟩) (by decide) (by decide) (by decide) (by decide) (by decide) rfl (by decide) M2 g6 (g := (mkF m 33 #[.val (.ref a), .val (.int x), .val (.int 0), .val (.ref b5)] [(.int 0), (.int 0), (.ref b5), (.int 0), (.ref t)])) rfl (by rw [hml]; rfl) rfl (hb hby d6_33) (by decide) (W := 0) (by show 2 * 0 + _ ≤ _; exact Nat.le_of_eq rfl) (by decide)
    refine Gl.st st11 ?_
    have V11 : Arv Z h11 b5 k5 .int (0 : Int32) [] (.int 0) := V11
    show Gl p.tables e below _ (T11.setTop (mkF m 36 #[.val (.ref a), .val (.int x), .val (.int 0), .val (.ref b5)] []))
    refine Gl.st (fun _ kq => XS.aloadN X11.here hx rfl (hb hby d6_36) rfl rfl kq) ?_
    show Gl p.tables e below _ (T11.setTop (mkF m 37 #[.val (.ref a), .val (.int x), .val (.int 0), .val (.ref b5)] [(.ref a)]))
    have ne12 : a ≠ b5 := Nat.ne_of_lt (Nat.lt_of_lt_of_le pf0.lt (Nat.le_of_eq g5.symm))
    have f13 : Fld Z h11 a "com/example/rooted_tableau/rootedtableau/core/DependencySet" "levels" "[I" (.ref t) := (f8.keep K11 (ninS ne12 nin0))
    obtain ⟨T14, X14, e14, st14⟩ := getF X11 hx hZ hown (host := "") (Or.inl (tw hw 13 rfl)) Via.refl e11 f13 (g := (mkF m 37 #[.val (.ref a), .val (.int x), .val (.int 0), .val (.ref b5)] [(.ref a)])) rfl rfl (hb hby d6_37)
    refine Gl.st st14 ?_
    show Gl p.tables e below _ (T14.setTop (mkF m 40 #[.val (.ref a), .val (.int x), .val (.int 0), .val (.ref b5)] [(.ref t)]))
    refine Gl.st (fun _ kq => XS.iloadN X14.here hx rfl (hb hby d6_40) rfl kq) ?_
    show Gl p.tables e below _ (T14.setTop (mkF m 41 #[.val (.ref a), .val (.int x), .val (.int 0), .val (.ref b5)] [(.int 0), (.ref t)]))
    refine Gl.st (fun _ kq => XS.iconst X14.here hx rfl (hb hby d6_41) kq) ?_
    show Gl p.tables e below _ (T14.setTop (mkF m 42 #[.val (.ref a), .val (.int x), .val (.int 0), .val (.ref b5)] [(.int 1), (.int 0), (.ref t)]))
    refine Gl.st (fun _ kq => XS.iadd X14.here hx rfl (hb hby d6_42) rfl kq) ?_
    show Gl p.tables e below _ (T14.setTop (mkF m 43 #[.val (.ref a), .val (.int x), .val (.int 0), .val (.ref b5)] [(.int 1), (.ref t)]))
    refine Gl.st (fun _ kq => XS.aloadN X14.here hx rfl (hb hby d6_43) rfl rfl kq) ?_
    show Gl p.tables e below _ (T14.setTop (mkF m 44 #[.val (.ref a), .val (.int x), .val (.int 0), .val (.ref b5)] [(.ref b5), (.int 1), (.ref t)]))
    refine Gl.st (fun _ kq => XS.iloadN X14.here hx rfl (hb hby d6_44) rfl kq) ?_
    show Gl p.tables e below _ (T14.setTop (mkF m 45 #[.val (.ref a), .val (.int x), .val (.int 0), .val (.ref b5)] [(.int 0), (.ref b5), (.int 1), (.ref t)]))
    refine Gl.st (fun _ kq => XS.aloadN X14.here hx rfl (hb hby d6_45) rfl rfl kq) ?_
    show Gl p.tables e below _ (T14.setTop (mkF m 46 #[.val (.ref a), .val (.int x), .val (.int 0), .val (.ref b5)] [(.ref b5), (.int 0), (.ref b5), (.int 1), (.ref t)]))
    obtain ⟨c15, a15, q15, S15, M15, H15, G15⟩ := id V11
    refine Gl.st (fun _ kq => X14.arraylength hx (by rw [e14]; exact a15.1) (State.isArrayOf_alike hZ.alike a15.2.1) (g := (mkF m 46 #[.val (.ref a), .val (.int x), .val (.int 0), .val (.ref b5)] [(.ref b5), (.int 0), (.ref b5), (.int 1), (.ref t)])) rfl rfl (hb hby d6_46) _ kq) ?_
    rw [len_of S15 M15]
    show Gl p.tables e below _ (T14.setTop (mkF m 47 #[.val (.ref a), .val (.int x), .val (.int 0), .val (.ref b5)] [(.int 0), (.int 0), (.ref b5), (.int 1), (.ref t)]))
    refine Gl.st (fun _ kq => XS.iloadN X14.here hx rfl (hb hby d6_47) rfl kq) ?_
    show Gl p.tables e below _ (T14.setTop (mkF m 48 #[.val (.ref a), .val (.int x), .val (.int 0), .val (.ref b5)] [(.int 0), (.int 0), (.int 0), (.ref b5), (.int 1), (.ref t)]))
    refine Gl.st (fun _ kq => XS.isub X14.here hx rfl (hb hby d6_48) rfl kq) ?_
    show Gl p.tables e below _ (T14.setTop (mkF m 49 #[.val (.ref a), .val (.int x), .val (.int 0), .val (.ref b5)] [(.int 0), (.int 0), (.ref b5), (.int 1), (.ref t)]))
    have ne16 : t ≠ b5 := Nat.ne_of_lt (Nat.lt_of_lt_of_le pf1.lt (Nat.le_of_eq g5.symm))
    have f17 : Arv Z h11 t k .int (1 : Int32) [(.int w)] (.int 0) := (f10.keep K11 (ninS ne16 nin0))
    obtain ⟨T18, h18, L18, X18, e18, N18, K18, V18, st18⟩ := cpA X14 hx hZ hown (tw hw 37 rfl) (tw hw 40 rfl) (tw hw 38 rfl) (tw hw 39 rfl) e14 f17 V11 (us := []) (sp := (1 : Int32)) (dp := (0 : Int32)) (nn := (0 : Int32)) (Or.inl ⟨rfl, rfl⟩) (by decide) (by decide) (by decide) (by decide) (by decide) rfl (by decide) N11 g6 (g := (mkF m 49 #[.val (.ref a), .val (.int x), .val (.int 0), .val (.ref b5)] [(.int 0), (.int 0), (.ref b5), (.int 1), (.ref t)])) rfl (by rw [hml]; rfl) rfl (hb hby d6_49) (by decide) (W := 0) (by show 2 * 0 + _ ≤ _; exact Nat.le_of_eq rfl) (by decide)
    refine Gl.st st18 ?_
    have V18 : Arv Z h18 b5 k5 .int (0 : Int32) [] (.int 0) := V18
    show Gl p.tables e below _ (T18.setTop (mkF m 52 #[.val (.ref a), .val (.int x), .val (.int 0), .val (.ref b5)] []))
    refine Gl.st (fun _ kq => XS.aloadN X18.here hx rfl (hb hby d6_52) rfl rfl kq) ?_
    show Gl p.tables e below _ (T18.setTop (mkF m 53 #[.val (.ref a), .val (.int x), .val (.int 0), .val (.ref b5)] [(.ref b5)]))
    obtain ⟨c19, a19, q19, S19, M19, H19, G19⟩ := id V18
    refine Gl.st (fun _ kq => X18.arraylength hx (by rw [e18]; exact a19.1) (State.isArrayOf_alike hZ.alike a19.2.1) (g := (mkF m 53 #[.val (.ref a), .val (.int x), .val (.int 0), .val (.ref b5)] [(.ref b5)])) rfl rfl (hb hby d6_53) _ kq) ?_
    rw [len_of S19 M19]
    show Gl p.tables e below _ (T18.setTop (mkF m 54 #[.val (.ref a), .val (.int x), .val (.int 0), .val (.ref b5)] [(.int 0)]))
    refine Gl.st (fun _ kq => XS.ifNo X18.here hx rfl (hb hby d6_54) rfl ((if0 _ _).trans (teq ((by decide) : (0 : Int32) = (0 : Int32))).2) kq) ?_
    show Gl p.tables e below _ (T18.setTop (mkF m 57 #[.val (.ref a), .val (.int x), .val (.int 0), .val (.ref b5)] []))
    have f20 : Old Z n0 h18 := (((pf2.ext E5).keep K11 (allS g6 all0)).keep K18 (allS g6 all0))
    obtain ⟨T21, X21, e21, st21⟩ := getS2 X18 hx hZ hown (host := "") (Or.inl (tw hw 41 rfl)) Via.refl e18 (OE.ext f20.2) (g := (mkF m 57 #[.val (.ref a), .val (.int x), .val (.int 0), .val (.ref b5)] [])) rfl (hb hby d6_57)
    refine Gl.st st21 ?_
    show Gl p.tables e below _ (T21.setTop (mkF m 60 #[.val (.ref a), .val (.int x), .val (.int 0), .val (.ref b5)] [(.ref em)]))
    refine Gl.st (fun _ kq => XS.goto X21.here hx rfl (pc0 := 60) (pc' := 71) rfl (hb hby d6_60) (by decide) (by decide) kq) ?_
    show Gl p.tables e below _ (T21.setTop (mkF m 71 #[.val (.ref a), .val (.int x), .val (.int 0), .val (.ref b5)] [(.ref em)]))
    have K22 : Keep h0 h18 [] := ((((Keep.refl h0 []).ext E5).trans K11 (allS (Or.inr s7) all0)).trans K18 (allS (Or.inr s7) all0))
    exact Gl.retA X21 hx Bd.returns rfl rfl (hb hby d6_71) hlk (by decide) (by decide) (by rw [e21]; exact (Or.inl ⟨rfl, N18, K22, y2_0, y2_1⟩))
  · have M2 := Fr.app N0 N2
    refine Gl.st st2 ?_
    show Gl p.tables e below _ (T2.setTop (mkF m 8 #[.val (.ref a), .val (.int x), .unset, .unset] [(.int (-2))]))
    refine Gl.st (fun _ kq => XS.istoreN X2.here hx rfl (hb hby d6_8) rfl (l' := #[.val (.ref a), .val (.int x), .val (.int (-2)), .unset]) rfl kq) ?_
    show Gl p.tables e below _ (T2.setTop (mkF m 9 #[.val (.ref a), .val (.int x), .val (.int (-2)), .unset] []))
    refine Gl.st (fun _ kq => XS.iloadN X2.here hx rfl (hb hby d6_9) rfl kq) ?_
    show Gl p.tables e below _ (T2.setTop (mkF m 10 #[.val (.ref a), .val (.int x), .val (.int (-2)), .unset] [(.int (-2))]))
    refine Gl.st (fun _ kq => XS.ifNo X2.here hx rfl (hb hby d6_10) rfl ((if0 _ _).trans (tlt ((by decide) : (-2 : Int32) < (0 : Int32))).2.1) kq) ?_
    show Gl p.tables e below _ (T2.setTop (mkF m 13 #[.val (.ref a), .val (.int x), .val (.int (-2)), .unset] []))
    refine Gl.st (fun _ kq => XS.aloadN X2.here hx rfl (hb hby d6_13) rfl rfl kq) ?_
    show Gl p.tables e below _ (T2.setTop (mkF m 14 #[.val (.ref a), .val (.int x), .val (.int (-2)), .unset] [(.ref a)]))
    exact Gl.retA X2 hx Bd.returns rfl rfl (hb hby d6_14) hlk (by decide) (by decide) (by rw [e2]; exact (Or.inr (Or.inl ⟨rfl, M2, rfl, y2_0⟩)))
  · have M2 := Fr.app N0 N2
    refine Gl.st st2 ?_
    show Gl p.tables e below _ (T2.setTop (mkF m 8 #[.val (.ref a), .val (.int x), .unset, .unset] [(.int (-1))]))
    refine Gl.st (fun _ kq => XS.istoreN X2.here hx rfl (hb hby d6_8) rfl (l' := #[.val (.ref a), .val (.int x), .val (.int (-1)), .unset]) rfl kq) ?_
    show Gl p.tables e below _ (T2.setTop (mkF m 9 #[.val (.ref a), .val (.int x), .val (.int (-1)), .unset] []))
    refine Gl.st (fun _ kq => XS.iloadN X2.here hx rfl (hb hby d6_9) rfl kq) ?_
    show Gl p.tables e below _ (T2.setTop (mkF m 10 #[.val (.ref a), .val (.int x), .val (.int (-1)), .unset] [(.int (-1))]))
    refine Gl.st (fun _ kq => XS.ifNo X2.here hx rfl (hb hby d6_10) rfl ((if0 _ _).trans (tlt ((by decide) : (-1 : Int32) < (0 : Int32))).2.1) kq) ?_
    show Gl p.tables e below _ (T2.setTop (mkF m 13 #[.val (.ref a), .val (.int x), .val (.int (-1)), .unset] []))
    refine Gl.st (fun _ kq => XS.aloadN X2.here hx rfl (hb hby d6_13) rfl rfl kq) ?_
    show Gl p.tables e below _ (T2.setTop (mkF m 14 #[.val (.ref a), .val (.int x), .val (.int (-1)), .unset] [(.ref a)]))
    exact Gl.retA X2 hx Bd.returns rfl rfl (hb hby d6_14) hlk (by decide) (by decide) (by rw [e2]; exact (Or.inr (Or.inr (⟨rfl, M2, rfl, y2_0⟩))))
theorem ef_law (m : MethodId) (p0 : Int32) (p1 : Int32) : entryFrame m #[(.int p0), (.int p1)] maxLocals = mkF m 0 #[.val (.int p0), .val (.int p1), .unset, .unset] [] := by first | (simp [entryFrame, mkF, argsToLocals, Value.category, maxLocals]; done) | rfl
def Q_law (Z : State) (p0 : Int32) (p1 : Int32) (em : Addr) (te : Addr) (ke : ClassId) (h0 : Heap) (n0 : Nat) (v : Option Value) (h : Heap) (L : List Loc) : Prop := (v = some (.int 1) ∧ Fr n0 L)
set_option maxRecDepth 65536 in
set_option maxHeartbeats 40000000 in
theorem rm_law (l : Launch) (Z : State) (a0 : Array Value) (hw : ∀ d ∈ tables_1, d.before a0 Z = true) (ws : List Jvm.Cond) (p0 : Int32) (p1 : Int32) (em : Addr) (te : Addr) (ke : ClassId) (h0 : Heap) (n0 : Nat) (Z0 : n0 ≤ h0.size) (pf0 : Exa Z h0 em "com/example/rooted_tableau/rootedtableau/core/DependencySet") (pf1 : Fld Z h0 em "com/example/rooted_tableau/rootedtableau/core/DependencySet" "levels" "[I" (.ref te)) (pf2 : Arv Z h0 te ke .int (0 : Int32) [] (.int 0)) (pf3 : Old Z n0 h0) (OE : Sta Z Z.heap "com/example/rooted_tableau/rootedtableau/core/DependencySet" "EMPTY" "Lcom/example/rooted_tableau/rootedtableau/core/DependencySet;" (.ref em)) :
    MetFree l x (head1 (Jvm.Cond.code x code maxLocals ret :: ws) room_1) (fun aa U => aa = #[(.int p0), (.int p1)] ∧ Z.Warmed39 U.vm ∧ U.heap = h0) (fun _ _ _ _ _ => True) (fun _ U o U' => ∃ v L, o = .returned v ∧ Q_law Z p0 p1 em te ke h0 n0 v U'.heap L ∧ FrameEnd U o U' L room_1.cells room_1.slots) := by
  refine MetFree.of_bodySF (plainFor_of_name pn_com_example_rooted_tableau_rootedtableau_core_DependencySetOfPinLaw) hisR ?_
  intro p e s m args below meth c s₁ Bd hml0 hP hK
  obtain ⟨rfl, hZ, hh⟩ := hP
  have hx := Bd.exec
  have hby := Bd.bytes
  have hlk : meth.locks = false := BodyLoose.notSynchronized Bd
  have hml : c.maxLocals = 4 := hml0
  have hown : s.vm.findClass "com/example/rooted_tableau/rootedtableau/core/DependencySetOfPinLaw" = some m.cls := findClass_of_methodNamed Bd.named
  have hnm := (name_of_methodNamed Bd.named Bd.method).1
  have X0 : Stand p l e room_1 s m #[(.int p0), (.int p1)] below meth c s₁ [] 0 0 := Stand.of_body Bd
  have e0 : s₁.heap = h0 := by rw [← hh, Bd.state]; rfl
  have N0 := Fr.nil n0
  show Gl p.tables e below (EndN s (Q_law Z p0 p1 em te ke h0 n0) room_1.cells room_1.slots) _
  refine Gl.cast (ef_law m p0 p1) ?_
  show Gl p.tables e below _ (s₁.setTop (mkF m 0 #[.val (.int p0), .val (.int p1), .unset, .unset] []))
  refine Gl.st (fun _ kq => XS.iloadN X0.here hx rfl (hb hby at_0) rfl kq) ?_
  show Gl p.tables e below _ (s₁.setTop (mkF m 1 #[.val (.int p0), .val (.int p1), .unset, .unset] [(.int p0)]))
  obtain ⟨_, _, ⟨T4, L4, k4, n4⟩, -, X4, ⟨Lc4, hQ4, l4, y4, z4⟩, st4⟩ := Jvm.LawKit.callS X0 hx (y := (⟨"com/example/rooted_tableau/rootedtableau/core/DependencySet", "of", "(I)Lcom/example/rooted_tableau/rootedtableau/core/DependencySet;"⟩ : MethodName)) hown (mvT hZ (tw hw 0 rfl)) (mvT hZ (tw hw 1 rfl)) (mvT hZ (tw hw 2 rfl)) (mvT hZ (tw hw 3 rfl)) (by decide) (backOf (W := 0) (rm_of l Z a0 hw [] (p0) h0 n0 Z0 ) hZ (tw hw 3 rfl) (tw hw 2 rfl) (by decide) (by decide)) (g := (mkF m 1 #[.val (.int p0), .val (.int p1), .unset, .unset] [(.int p0)])) rfl (by rw [hml]; rfl) (argsL := [(.int p0)]) (rest := []) (lenOf pd__I_Lcom_example_rooted_tableau_rootedtableau_core_DependencySet_ rfl) rfl (by show 2 * 0 + _ ≤ _; exact Nat.le_of_eq rfl) (hb hby at_1) (fun _ _ => ⟨rfl, e0, (by decide : 0 + 2 ≤ _), (by decide : 0 + 2 ≤ _)⟩)
  dsimp only [Pt.U, Pt.locs, Pt.cells, Pt.slots] at X4 l4 y4 z4 st4 hQ4
  subst l4 y4 z4
  obtain ⟨v1, v2, v3, rfl, N4, K4, q4_0, q4_1, q4_2, y4_0, y4_1⟩ := hQ4
  have M4 := Fr.app N0 N4
  have g5 : n0 ≤ v1 := Nat.le_trans Z0 y4_0
  have s6 : h0.size ≤ v1 := Nat.le_trans (Nat.le_refl _) y4_0
  have g7 : n0 ≤ v2 := Nat.le_trans Z0 y4_1
  have s8 : h0.size ≤ v2 := Nat.le_trans (Nat.le_refl _) y4_1
  refine Gl.st st4 ?_
  show Gl p.tables e below _ (T4.setTop (mkF m 4 #[.val (.int p0), .val (.int p1), .unset, .unset] [(.ref v1)]))
  show Gl p.tables e below _ (T4.setTop (mkF m 4 #[.val (.int p0), .val (.int p1), .unset, .unset] [(.ref v1)]))
  refine Gl.st (fun _ kq => XS.astoreN X4.here hx rfl (hb hby at_4) rfl rfl (l' := #[.val (.int p0), .val (.int p1), .val (.ref v1), .unset]) rfl kq) ?_
  show Gl p.tables e below _ (T4.setTop (mkF m 5 #[.val (.int p0), .val (.int p1), .val (.ref v1), .unset] []))
  refine Gl.st (fun _ kq => XS.aloadN X4.here hx rfl (hb hby at_5) rfl rfl kq) ?_
  show Gl p.tables e below _ (T4.setTop (mkF m 6 #[.val (.int p0), .val (.int p1), .val (.ref v1), .unset] [(.ref v1)]))
  obtain ⟨cq9, kq9, q9a, q9b, q9c⟩ := isOf hZ rfl q4_0
  obtain ⟨_, _, ⟨T9, L9, k9, n9⟩, -, X9, ⟨Lc9, hQ9, l9, y9, z9⟩, st9⟩ := X4.virtualBack hx (y := (⟨"com/example/rooted_tableau/rootedtableau/core/DependencySet", "isEmpty", "()Z"⟩ : MethodName)) (z := (⟨"com/example/rooted_tableau/rootedtableau/core/DependencySet", "isEmpty", "()Z"⟩ : MethodName)) hown (mvT hZ (tw hw 15 rfl)) (mvT hZ (tw hw 16 rfl)) (notFace_of_selects (args := #[]) (mvT hZ (tw hw 18 rfl))) (mvT hZ (tw hw 18 rfl)) (mvT hZ (tw hw 17 rfl)) (by decide) (backOf (W := 0) (rm_ie l Z a0 hw [] (v1) (v2) (v3) ((1 : Int32)) ([(.int p0)]) T4.heap n0 (Nat.le_trans Z0 K4.1) q4_1 q4_2) hZ (tw hw 19 rfl) (tw hw 2 rfl) (by decide) (by decide)) q9a q9c (g := (mkF m 6 #[.val (.int p0), .val (.int p1), .val (.ref v1), .unset] [(.ref v1)])) rfl (by rw [hml]; rfl) (Steps.refl _) (argsL := []) (rest := []) (lenOf pd___Z rfl) rfl (by show 2 * 0 + _ ≤ _; exact Nat.le_of_eq rfl) (hb hby at_6) (fun _ _ => ⟨rfl, rfl, (by decide : 2 + 0 ≤ _), (by decide : 2 + 0 ≤ _)⟩)
  dsimp only [Pt.U, Pt.locs, Pt.cells, Pt.slots] at X9 l9 y9 z9 st9 hQ9
  subst l9 y9 z9
  rcases hQ9 with ⟨rfl, N9, e9, y9_0⟩ | ⟨rfl, N9, e9, y9_0⟩
  · exact absurd y9_0 (by decide)
  · have M9 := Fr.app M4 N9
    refine Gl.to st9 ?_
    show Gl p.tables e below _ (T9.setTop (mkF m 9 #[.val (.int p0), .val (.int p1), .val (.ref v1), .unset] [(.int 0)]))
    refine Gl.st (fun _ kq => XS.ifYes X9.here hx rfl (pc0 := 9) (pc' := 14) rfl (hb hby at_9) rfl ((if0 _ _).trans (teq ((by decide) : (0 : Int32) = (0 : Int32))).1) (by decide) (by decide) kq) ?_
    show Gl p.tables e below _ (T9.setTop (mkF m 14 #[.val (.int p0), .val (.int p1), .val (.ref v1), .unset] []))
    refine Gl.st (fun _ kq => XS.aloadN X9.here hx rfl (hb hby at_14) rfl rfl kq) ?_
    show Gl p.tables e below _ (T9.setTop (mkF m 15 #[.val (.int p0), .val (.int p1), .val (.ref v1), .unset] [(.ref v1)]))
    obtain ⟨cq10, kq10, q10a, q10b, q10c⟩ := isOf hZ e9 q4_0
    obtain ⟨_, _, ⟨T10, L10, k10, n10⟩, -, X10, ⟨Lc10, hQ10, l10, y10, z10⟩, st10⟩ := X9.virtualBack hx (y := (⟨"com/example/rooted_tableau/rootedtableau/core/DependencySet", "maxLevel", "()I"⟩ : MethodName)) (z := (⟨"com/example/rooted_tableau/rootedtableau/core/DependencySet", "maxLevel", "()I"⟩ : MethodName)) hown (mvT hZ (tw hw 20 rfl)) (mvT hZ (tw hw 21 rfl)) (notFace_of_selects (args := #[]) (mvT hZ (tw hw 23 rfl))) (mvT hZ (tw hw 23 rfl)) (mvT hZ (tw hw 22 rfl)) (by decide) (backOf (W := 0) (rm_ml l Z a0 hw [] (v1) (v2) (v3) (p0) T4.heap n0 (Nat.le_trans Z0 K4.1) q4_1 q4_2) hZ (tw hw 24 rfl) (tw hw 2 rfl) (by decide) (by decide)) q10a q10c (g := (mkF m 15 #[.val (.int p0), .val (.int p1), .val (.ref v1), .unset] [(.ref v1)])) rfl (by rw [hml]; rfl) (Steps.refl _) (argsL := []) (rest := []) (lenOf pd___I rfl) rfl (by show 2 * 0 + _ ≤ _; exact Nat.le_of_eq rfl) (hb hby at_15) (fun _ _ => ⟨rfl, e9, (by decide : 2 + 0 ≤ _), (by decide : 2 + 0 ≤ _)⟩)
    dsimp only [Pt.U, Pt.locs, Pt.cells, Pt.slots] at X10 l10 y10 z10 st10 hQ10
    subst l10 y10 z10
    obtain ⟨rfl, N10, e10⟩ := hQ10
    have M10 := Fr.app M9 N10
    refine Gl.to st10 ?_
    show Gl p.tables e below _ (T10.setTop (mkF m 18 #[.val (.int p0), .val (.int p1), .val (.ref v1), .unset] [(.int p0)]))
    show Gl p.tables e below _ (T10.setTop (mkF m 18 #[.val (.int p0), .val (.int p1), .val (.ref v1), .unset] [(.int p0)]))
    refine Gl.st (fun _ kq => XS.iloadN X10.here hx rfl (hb hby at_18) rfl kq) ?_
    show Gl p.tables e below _ (T10.setTop (mkF m 19 #[.val (.int p0), .val (.int p1), .val (.ref v1), .unset] [(.int p0), (.int p0)]))
    refine Gl.st (fun _ kq => XS.icmpYes X10.here hx rfl (pc0 := 19) (pc' := 24) rfl (hb hby at_19) rfl (teq (rfl : p0 = p0)).1 (by decide) (by decide) kq) ?_
    show Gl p.tables e below _ (T10.setTop (mkF m 24 #[.val (.int p0), .val (.int p1), .val (.ref v1), .unset] []))
    refine Gl.st (fun _ kq => XS.aloadN X10.here hx rfl (hb hby at_24) rfl rfl kq) ?_
    show Gl p.tables e below _ (T10.setTop (mkF m 25 #[.val (.int p0), .val (.int p1), .val (.ref v1), .unset] [(.ref v1)]))
    refine Gl.st (fun _ kq => XS.iloadN X10.here hx rfl (hb hby at_25) rfl kq) ?_
    show Gl p.tables e below _ (T10.setTop (mkF m 26 #[.val (.int p0), .val (.int p1), .val (.ref v1), .unset] [(.int p0), (.ref v1)]))
    have f11 : Old Z n0 T4.heap := (pf3.keep K4 all0)
    obtain ⟨cq12, kq12, q12a, q12b, q12c⟩ := isOf hZ e10 q4_0
    obtain ⟨_, _, ⟨T12, L12, k12, n12⟩, -, X12, ⟨Lc12, hQ12, l12, y12, z12⟩, st12⟩ := X10.virtualBack hx (y := (⟨"com/example/rooted_tableau/rootedtableau/core/DependencySet", "without", "(I)Lcom/example/rooted_tableau/rootedtableau/core/DependencySet;"⟩ : MethodName)) (z := (⟨"com/example/rooted_tableau/rootedtableau/core/DependencySet", "without", "(I)Lcom/example/rooted_tableau/rootedtableau/core/DependencySet;"⟩ : MethodName)) hown (mvT hZ (tw hw 25 rfl)) (mvT hZ (tw hw 26 rfl)) (notFace_of_selects (args := #[]) (mvT hZ (tw hw 28 rfl))) (mvT hZ (tw hw 28 rfl)) (mvT hZ (tw hw 27 rfl)) (by decide) (backOf (W := 0) (rm_wo l Z a0 hw [] (v1) (v2) (v3) (p0) (p0) (em) T4.heap n0 (Nat.le_trans Z0 K4.1) q4_1 q4_2 f11 OE) hZ (tw hw 29 rfl) (tw hw 2 rfl) (by decide) (by decide)) q12a q12c (g := (mkF m 26 #[.val (.int p0), .val (.int p1), .val (.ref v1), .unset] [(.int p0), (.ref v1)])) rfl (by rw [hml]; rfl) (Steps.refl _) (argsL := [(.int p0)]) (rest := []) (lenOf pd__I_Lcom_example_rooted_tableau_rootedtableau_core_DependencySet_ rfl) rfl (by show 2 * 0 + _ ≤ _; exact Nat.le_of_eq rfl) (hb hby at_26) (fun _ _ => ⟨rfl, e10, (by decide : 2 + 1 ≤ _), (by decide : 2 + 0 ≤ _)⟩)
    dsimp only [Pt.U, Pt.locs, Pt.cells, Pt.slots] at X12 l12 y12 z12 st12 hQ12
    subst l12 y12 z12
    rcases hQ12 with ⟨rfl, N12, K12, y12_0, y12_1⟩ | ⟨rfl, N12, e12, y12_0⟩ | ⟨rfl, N12, e12, y12_0⟩
    · have M12 := Fr.app M10 N12
      refine Gl.to st12 ?_
      show Gl p.tables e below _ (T12.setTop (mkF m 29 #[.val (.int p0), .val (.int p1), .val (.ref v1), .unset] [(.ref em)]))
      have f13 : Fld Z T12.heap em "com/example/rooted_tableau/rootedtableau/core/DependencySet" "levels" "[I" (.ref te) := ((pf1.keep K4 nin0).keep K12 nin0)
      have f14 : Arv Z T12.heap te ke .int (0 : Int32) [] (.int 0) := ((pf2.keep K4 nin0).keep K12 nin0)
      have f16 : Exa Z T12.heap em "com/example/rooted_tableau/rootedtableau/core/DependencySet" := ((pf0.keep K4).keep K12)
      obtain ⟨cq15, kq15, q15a, q15b, q15c⟩ := isOf hZ rfl f16
      obtain ⟨_, _, ⟨T15, L15, k15, n15⟩, -, X15, ⟨Lc15, hQ15, l15, y15, z15⟩, st15⟩ := X12.virtualBack hx (y := (⟨"com/example/rooted_tableau/rootedtableau/core/DependencySet", "isEmpty", "()Z"⟩ : MethodName)) (z := (⟨"com/example/rooted_tableau/rootedtableau/core/DependencySet", "isEmpty", "()Z"⟩ : MethodName)) hown (mvT hZ (tw hw 15 rfl)) (mvT hZ (tw hw 16 rfl)) (notFace_of_selects (args := #[]) (mvT hZ (tw hw 18 rfl))) (mvT hZ (tw hw 18 rfl)) (mvT hZ (tw hw 17 rfl)) (by decide) (backOf (W := 0) (rm_ie l Z a0 hw [] (em) (te) (ke) ((0 : Int32)) ([]) T12.heap n0 (Nat.le_trans (Nat.le_trans Z0 K4.1) K12.1) f13 f14) hZ (tw hw 19 rfl) (tw hw 2 rfl) (by decide) (by decide)) q15a q15c (g := (mkF m 29 #[.val (.int p0), .val (.int p1), .val (.ref v1), .unset] [(.ref em)])) rfl (by rw [hml]; rfl) (Steps.refl _) (argsL := []) (rest := []) (lenOf pd___Z rfl) rfl (by show 2 * 0 + _ ≤ _; exact Nat.le_of_eq rfl) (hb hby at_29) (fun _ _ => ⟨rfl, rfl, (by decide : 3 + 0 ≤ _), (by decide : 2 + 0 ≤ _)⟩)
      dsimp only [Pt.U, Pt.locs, Pt.cells, Pt.slots] at X15 l15 y15 z15 st15 hQ15
      subst l15 y15 z15
      rcases hQ15 with ⟨rfl, N15, e15, y15_0⟩ | ⟨rfl, N15, e15, y15_0⟩
      · have M15 := Fr.app M12 N15
        refine Gl.to st15 ?_
        show Gl p.tables e below _ (T15.setTop (mkF m 32 #[.val (.int p0), .val (.int p1), .val (.ref v1), .unset] [(.int 1)]))
        refine Gl.st (fun _ kq => XS.ifYes X15.here hx rfl (pc0 := 32) (pc' := 37) rfl (hb hby at_32) rfl ((if0 _ _).trans (feq ((by decide) : ¬ ((1 : Int32) = (0 : Int32)))).2) (by decide) (by decide) kq) ?_
        show Gl p.tables e below _ (T15.setTop (mkF m 37 #[.val (.int p0), .val (.int p1), .val (.ref v1), .unset] []))
        refine Gl.st (fun _ kq => XS.aloadN X15.here hx rfl (hb hby at_37) rfl rfl kq) ?_
        show Gl p.tables e below _ (T15.setTop (mkF m 38 #[.val (.int p0), .val (.int p1), .val (.ref v1), .unset] [(.ref v1)]))
        refine Gl.st (fun _ kq => XS.iloadN X15.here hx rfl (hb hby at_38) rfl kq) ?_
        show Gl p.tables e below _ (T15.setTop (mkF m 39 #[.val (.int p0), .val (.int p1), .val (.ref v1), .unset] [(.int p1), (.ref v1)]))
        have f17 : Fld Z T12.heap v1 "com/example/rooted_tableau/rootedtableau/core/DependencySet" "levels" "[I" (.ref v2) := (q4_1.keep K12 nin0)
        have f18 : Arv Z T12.heap v2 v3 .int (1 : Int32) [(.int p0)] (.int 0) := (q4_2.keep K12 nin0)
        have f19 : Old Z n0 T12.heap := (f11.keep K12 all0)
        have f21 : Exa Z T12.heap v1 "com/example/rooted_tableau/rootedtableau/core/DependencySet" := (q4_0.keep K12)
        obtain ⟨cq20, kq20, q20a, q20b, q20c⟩ := isOf hZ e15 f21
        obtain ⟨_, _, ⟨T20, L20, k20, n20⟩, -, X20, ⟨Lc20, hQ20, l20, y20, z20⟩, st20⟩ := X15.virtualBack hx (y := (⟨"com/example/rooted_tableau/rootedtableau/core/DependencySet", "without", "(I)Lcom/example/rooted_tableau/rootedtableau/core/DependencySet;"⟩ : MethodName)) (z := (⟨"com/example/rooted_tableau/rootedtableau/core/DependencySet", "without", "(I)Lcom/example/rooted_tableau/rootedtableau/core/DependencySet;"⟩ : MethodName)) hown (mvT hZ (tw hw 25 rfl)) (mvT hZ (tw hw 26 rfl)) (notFace_of_selects (args := #[]) (mvT hZ (tw hw 28 rfl))) (mvT hZ (tw hw 28 rfl)) (mvT hZ (tw hw 27 rfl)) (by decide) (backOf (W := 0) (rm_wo l Z a0 hw [] (v1) (v2) (v3) (p0) (p1) (em) T12.heap n0 (Nat.le_trans (Nat.le_trans Z0 K4.1) K12.1) f17 f18 f19 OE) hZ (tw hw 29 rfl) (tw hw 2 rfl) (by decide) (by decide)) q20a q20c (g := (mkF m 39 #[.val (.int p0), .val (.int p1), .val (.ref v1), .unset] [(.int p1), (.ref v1)])) rfl (by rw [hml]; rfl) (Steps.refl _) (argsL := [(.int p1)]) (rest := []) (lenOf pd__I_Lcom_example_rooted_tableau_rootedtableau_core_DependencySet_ rfl) rfl (by show 2 * 0 + _ ≤ _; exact Nat.le_of_eq rfl) (hb hby at_39) (fun _ _ => ⟨rfl, e15, (by decide : 3 + 1 ≤ _), (by decide : 2 + 0 ≤ _)⟩)
        dsimp only [Pt.U, Pt.locs, Pt.cells, Pt.slots] at X20 l20 y20 z20 st20 hQ20
        subst l20 y20 z20
        rcases hQ20 with ⟨rfl, N20, K20, y20_0, y20_1⟩ | ⟨rfl, N20, e20, y20_0⟩ | ⟨rfl, N20, e20, y20_0⟩
        · have M20 := Fr.app M15 N20
          refine Gl.to st20 ?_
          show Gl p.tables e below _ (T20.setTop (mkF m 42 #[.val (.int p0), .val (.int p1), .val (.ref v1), .unset] [(.ref em)]))
          refine Gl.st (fun _ kq => XS.astoreN X20.here hx rfl (hb hby at_42) rfl rfl (l' := #[.val (.int p0), .val (.int p1), .val (.ref v1), .val (.ref em)]) rfl kq) ?_
          show Gl p.tables e below _ (T20.setTop (mkF m 43 #[.val (.int p0), .val (.int p1), .val (.ref v1), .val (.ref em)] []))
          refine Gl.st (fun _ kq => XS.iloadN X20.here hx rfl (hb hby at_43) rfl kq) ?_
          show Gl p.tables e below _ (T20.setTop (mkF m 44 #[.val (.int p0), .val (.int p1), .val (.ref v1), .val (.ref em)] [(.int p0)]))
          refine Gl.st (fun _ kq => XS.iloadN X20.here hx rfl (hb hby at_44) rfl kq) ?_
          show Gl p.tables e below _ (T20.setTop (mkF m 45 #[.val (.int p0), .val (.int p1), .val (.ref v1), .val (.ref em)] [(.int p1), (.int p0)]))
          refine Gl.st (fun _ kq => XS.icmpNo X20.here hx rfl (hb hby at_45) rfl (teq ((tri32 y20_0 y20_1) : p0 = p1)).2 kq) ?_
          show Gl p.tables e below _ (T20.setTop (mkF m 48 #[.val (.int p0), .val (.int p1), .val (.ref v1), .val (.ref em)] []))
          refine Gl.st (fun _ kq => XS.aloadN X20.here hx rfl (hb hby at_48) rfl rfl kq) ?_
          show Gl p.tables e below _ (T20.setTop (mkF m 49 #[.val (.int p0), .val (.int p1), .val (.ref v1), .val (.ref em)] [(.ref em)]))
          have f22 : Fld Z T20.heap em "com/example/rooted_tableau/rootedtableau/core/DependencySet" "levels" "[I" (.ref te) := (f13.keep K20 nin0)
          have f23 : Arv Z T20.heap te ke .int (0 : Int32) [] (.int 0) := (f14.keep K20 nin0)
          have f25 : Exa Z T20.heap em "com/example/rooted_tableau/rootedtableau/core/DependencySet" := (f16.keep K20)
          obtain ⟨cq24, kq24, q24a, q24b, q24c⟩ := isOf hZ rfl f25
          obtain ⟨_, _, ⟨T24, L24, k24, n24⟩, -, X24, ⟨Lc24, hQ24, l24, y24, z24⟩, st24⟩ := X20.virtualBack hx (y := (⟨"com/example/rooted_tableau/rootedtableau/core/DependencySet", "isEmpty", "()Z"⟩ : MethodName)) (z := (⟨"com/example/rooted_tableau/rootedtableau/core/DependencySet", "isEmpty", "()Z"⟩ : MethodName)) hown (mvT hZ (tw hw 15 rfl)) (mvT hZ (tw hw 16 rfl)) (notFace_of_selects (args := #[]) (mvT hZ (tw hw 18 rfl))) (mvT hZ (tw hw 18 rfl)) (mvT hZ (tw hw 17 rfl)) (by decide) (backOf (W := 0) (rm_ie l Z a0 hw [] (em) (te) (ke) ((0 : Int32)) ([]) T20.heap n0 (Nat.le_trans (Nat.le_trans (Nat.le_trans Z0 K4.1) K12.1) K20.1) f22 f23) hZ (tw hw 19 rfl) (tw hw 2 rfl) (by decide) (by decide)) q24a q24c (g := (mkF m 49 #[.val (.int p0), .val (.int p1), .val (.ref v1), .val (.ref em)] [(.ref em)])) rfl (by rw [hml]; rfl) (Steps.refl _) (argsL := []) (rest := []) (lenOf pd___Z rfl) rfl (by show 2 * 0 + _ ≤ _; exact Nat.le_of_eq rfl) (hb hby at_49) (fun _ _ => ⟨rfl, rfl, (by decide : 4 + 0 ≤ _), (by decide : 2 + 0 ≤ _)⟩)
          dsimp only [Pt.U, Pt.locs, Pt.cells, Pt.slots] at X24 l24 y24 z24 st24 hQ24
          subst l24 y24 z24
          rcases hQ24 with ⟨rfl, N24, e24, y24_0⟩ | ⟨rfl, N24, e24, y24_0⟩
          · have M24 := Fr.app M20 N24
            refine Gl.to st24 ?_
            show Gl p.tables e below _ (T24.setTop (mkF m 52 #[.val (.int p0), .val (.int p1), .val (.ref v1), .val (.ref em)] [(.int 1)]))
            exact Gl.retN X24 hx (t := .boolean) Bd.returns (by simp) (hb hby at_52) hlk (by decide) (by decide) (by rw [e24]; exact ⟨rfl, M24⟩)
          · exact absurd rfl y24_0
        · have M20 := Fr.app M15 N20
          refine Gl.to st20 ?_
          show Gl p.tables e below _ (T20.setTop (mkF m 42 #[.val (.int p0), .val (.int p1), .val (.ref v1), .unset] [(.ref v1)]))
          refine Gl.st (fun _ kq => XS.astoreN X20.here hx rfl (hb hby at_42) rfl rfl (l' := #[.val (.int p0), .val (.int p1), .val (.ref v1), .val (.ref v1)]) rfl kq) ?_
          show Gl p.tables e below _ (T20.setTop (mkF m 43 #[.val (.int p0), .val (.int p1), .val (.ref v1), .val (.ref v1)] []))
          refine Gl.st (fun _ kq => XS.iloadN X20.here hx rfl (hb hby at_43) rfl kq) ?_
          show Gl p.tables e below _ (T20.setTop (mkF m 44 #[.val (.int p0), .val (.int p1), .val (.ref v1), .val (.ref v1)] [(.int p0)]))
          refine Gl.st (fun _ kq => XS.iloadN X20.here hx rfl (hb hby at_44) rfl kq) ?_
          show Gl p.tables e below _ (T20.setTop (mkF m 45 #[.val (.int p0), .val (.int p1), .val (.ref v1), .val (.ref v1)] [(.int p1), (.int p0)]))
          refine Gl.st (fun _ kq => XS.icmpYes X20.here hx rfl (pc0 := 45) (pc' := 53) rfl (hb hby at_45) rfl (feq ((lt_ne32 y20_0) : ¬ (p0 = p1))).2 (by decide) (by decide) kq) ?_
          show Gl p.tables e below _ (T20.setTop (mkF m 53 #[.val (.int p0), .val (.int p1), .val (.ref v1), .val (.ref v1)] []))
          refine Gl.st (fun _ kq => XS.aloadN X20.here hx rfl (hb hby at_53) rfl rfl kq) ?_
          show Gl p.tables e below _ (T20.setTop (mkF m 54 #[.val (.int p0), .val (.int p1), .val (.ref v1), .val (.ref v1)] [(.ref v1)]))
          obtain ⟨cq26, kq26, q26a, q26b, q26c⟩ := isOf hZ e20 f21
          obtain ⟨_, _, ⟨T26, L26, k26, n26⟩, -, X26, ⟨Lc26, hQ26, l26, y26, z26⟩, st26⟩ := X20.virtualBack hx (y := (⟨"com/example/rooted_tableau/rootedtableau/core/DependencySet", "isEmpty", "()Z"⟩ : MethodName)) (z := (⟨"com/example/rooted_tableau/rootedtableau/core/DependencySet", "isEmpty", "()Z"⟩ : MethodName)) hown (mvT hZ (tw hw 15 rfl)) (mvT hZ (tw hw 16 rfl)) (notFace_of_selects (args := #[]) (mvT hZ (tw hw 18 rfl))) (mvT hZ (tw hw 18 rfl)) (mvT hZ (tw hw 17 rfl)) (by decide) (backOf (W := 0) (rm_ie l Z a0 hw [] (v1) (v2) (v3) ((1 : Int32)) ([(.int p0)]) T12.heap n0 (Nat.le_trans (Nat.le_trans Z0 K4.1) K12.1) f17 f18) hZ (tw hw 19 rfl) (tw hw 2 rfl) (by decide) (by decide)) q26a q26c (g := (mkF m 54 #[.val (.int p0), .val (.int p1), .val (.ref v1), .val (.ref v1)] [(.ref v1)])) rfl (by rw [hml]; rfl) (Steps.refl _) (argsL := []) (rest := []) (lenOf pd___Z rfl) rfl (by show 2 * 0 + _ ≤ _; exact Nat.le_of_eq rfl) (hb hby at_54) (fun _ _ => ⟨rfl, e20, (by decide : 4 + 0 ≤ _), (by decide : 2 + 0 ≤ _)⟩)
          dsimp only [Pt.U, Pt.locs, Pt.cells, Pt.slots] at X26 l26 y26 z26 st26 hQ26
          subst l26 y26 z26
          rcases hQ26 with ⟨rfl, N26, e26, y26_0⟩ | ⟨rfl, N26, e26, y26_0⟩
          · exact absurd y26_0 (by decide)
          · have M26 := Fr.app M20 N26
            refine Gl.to st26 ?_
            show Gl p.tables e below _ (T26.setTop (mkF m 57 #[.val (.int p0), .val (.int p1), .val (.ref v1), .val (.ref v1)] [(.int 0)]))
            refine Gl.st (fun _ kq => XS.ifNo X26.here hx rfl (hb hby at_57) rfl ((if0 _ _).trans (teq ((by decide) : (0 : Int32) = (0 : Int32))).2) kq) ?_
            show Gl p.tables e below _ (T26.setTop (mkF m 60 #[.val (.int p0), .val (.int p1), .val (.ref v1), .val (.ref v1)] []))
            refine Gl.st (fun _ kq => XS.aloadN X26.here hx rfl (hb hby at_60) rfl rfl kq) ?_
            show Gl p.tables e below _ (T26.setTop (mkF m 61 #[.val (.int p0), .val (.int p1), .val (.ref v1), .val (.ref v1)] [(.ref v1)]))
            obtain ⟨cq27, kq27, q27a, q27b, q27c⟩ := isOf hZ e26 f21
            obtain ⟨_, _, ⟨T27, L27, k27, n27⟩, -, X27, ⟨Lc27, hQ27, l27, y27, z27⟩, st27⟩ := X26.virtualBack hx (y := (⟨"com/example/rooted_tableau/rootedtableau/core/DependencySet", "maxLevel", "()I"⟩ : MethodName)) (z := (⟨"com/example/rooted_tableau/rootedtableau/core/DependencySet", "maxLevel", "()I"⟩ : MethodName)) hown (mvT hZ (tw hw 20 rfl)) (mvT hZ (tw hw 21 rfl)) (notFace_of_selects (args := #[]) (mvT hZ (tw hw 23 rfl))) (mvT hZ (tw hw 23 rfl)) (mvT hZ (tw hw 22 rfl)) (by decide) (backOf (W := 0) (rm_ml l Z a0 hw [] (v1) (v2) (v3) (p0) T12.heap n0 (Nat.le_trans (Nat.le_trans Z0 K4.1) K12.1) f17 f18) hZ (tw hw 24 rfl) (tw hw 2 rfl) (by decide) (by decide)) q27a q27c (g := (mkF m 61 #[.val (.int p0), .val (.int p1), .val (.ref v1), .val (.ref v1)] [(.ref v1)])) rfl (by rw [hml]; rfl) (Steps.refl _) (argsL := []) (rest := []) (lenOf pd___I rfl) rfl (by show 2 * 0 + _ ≤ _; exact Nat.le_of_eq rfl) (hb hby at_61) (fun _ _ => ⟨rfl, e26, (by decide : 4 + 0 ≤ _), (by decide : 2 + 0 ≤ _)⟩)
            dsimp only [Pt.U, Pt.locs, Pt.cells, Pt.slots] at X27 l27 y27 z27 st27 hQ27
            subst l27 y27 z27
            obtain ⟨rfl, N27, e27⟩ := hQ27
            have M27 := Fr.app M26 N27
            refine Gl.to st27 ?_
            show Gl p.tables e below _ (T27.setTop (mkF m 64 #[.val (.int p0), .val (.int p1), .val (.ref v1), .val (.ref v1)] [(.int p0)]))
            show Gl p.tables e below _ (T27.setTop (mkF m 64 #[.val (.int p0), .val (.int p1), .val (.ref v1), .val (.ref v1)] [(.int p0)]))
            refine Gl.st (fun _ kq => XS.iloadN X27.here hx rfl (hb hby at_64) rfl kq) ?_
            show Gl p.tables e below _ (T27.setTop (mkF m 65 #[.val (.int p0), .val (.int p1), .val (.ref v1), .val (.ref v1)] [(.int p0), (.int p0)]))
            refine Gl.st (fun _ kq => XS.icmpNo X27.here hx rfl (hb hby at_65) rfl (teq (rfl : p0 = p0)).2 kq) ?_
            show Gl p.tables e below _ (T27.setTop (mkF m 68 #[.val (.int p0), .val (.int p1), .val (.ref v1), .val (.ref v1)] []))
            refine Gl.st (fun _ kq => XS.iconst X27.here hx rfl (hb hby at_68) kq) ?_
            show Gl p.tables e below _ (T27.setTop (mkF m 69 #[.val (.int p0), .val (.int p1), .val (.ref v1), .val (.ref v1)] [(.int 1)]))
            refine Gl.st (fun _ kq => XS.goto X27.here hx rfl (pc0 := 69) (pc' := 73) rfl (hb hby at_69) (by decide) (by decide) kq) ?_
            show Gl p.tables e below _ (T27.setTop (mkF m 73 #[.val (.int p0), .val (.int p1), .val (.ref v1), .val (.ref v1)] [(.int 1)]))
            exact Gl.retN X27 hx (t := .boolean) Bd.returns (by simp) (hb hby at_73) hlk (by decide) (by decide) (by rw [e27]; exact ⟨rfl, M27⟩)
        · have M20 := Fr.app M15 N20
          refine Gl.to st20 ?_
          show Gl p.tables e below _ (T20.setTop (mkF m 42 #[.val (.int p0), .val (.int p1), .val (.ref v1), .unset] [(.ref v1)]))
          refine Gl.st (fun _ kq => XS.astoreN X20.here hx rfl (hb hby at_42) rfl rfl (l' := #[.val (.int p0), .val (.int p1), .val (.ref v1), .val (.ref v1)]) rfl kq) ?_
          show Gl p.tables e below _ (T20.setTop (mkF m 43 #[.val (.int p0), .val (.int p1), .val (.ref v1), .val (.ref v1)] []))
          refine Gl.st (fun _ kq => XS.iloadN X20.here hx rfl (hb hby at_43) rfl kq) ?_
          show Gl p.tables e below _ (T20.setTop (mkF m 44 #[.val (.int p0), .val (.int p1), .val (.ref v1), .val (.ref v1)] [(.int p0)]))
          refine Gl.st (fun _ kq => XS.iloadN X20.here hx rfl (hb hby at_44) rfl kq) ?_
          show Gl p.tables e below _ (T20.setTop (mkF m 45 #[.val (.int p0), .val (.int p1), .val (.ref v1), .val (.ref v1)] [(.int p1), (.int p0)]))
          refine Gl.st (fun _ kq => XS.icmpYes X20.here hx rfl (pc0 := 45) (pc' := 53) rfl (hb hby at_45) rfl (feq ((lt_ne32' y20_0) : ¬ (p0 = p1))).2 (by decide) (by decide) kq) ?_
          show Gl p.tables e below _ (T20.setTop (mkF m 53 #[.val (.int p0), .val (.int p1), .val (.ref v1), .val (.ref v1)] []))
          refine Gl.st (fun _ kq => XS.aloadN X20.here hx rfl (hb hby at_53) rfl rfl kq) ?_
          show Gl p.tables e below _ (T20.setTop (mkF m 54 #[.val (.int p0), .val (.int p1), .val (.ref v1), .val (.ref v1)] [(.ref v1)]))
          obtain ⟨cq28, kq28, q28a, q28b, q28c⟩ := isOf hZ e20 f21
          obtain ⟨_, _, ⟨T28, L28, k28, n28⟩, -, X28, ⟨Lc28, hQ28, l28, y28, z28⟩, st28⟩ := X20.virtualBack hx (y := (⟨"com/example/rooted_tableau/rootedtableau/core/DependencySet", "isEmpty", "()Z"⟩ : MethodName)) (z := (⟨"com/example/rooted_tableau/rootedtableau/core/DependencySet", "isEmpty", "()Z"⟩ : MethodName)) hown (mvT hZ (tw hw 15 rfl)) (mvT hZ (tw hw 16 rfl)) (notFace_of_selects (args := #[]) (mvT hZ (tw hw 18 rfl))) (mvT hZ (tw hw 18 rfl)) (mvT hZ (tw hw 17 rfl)) (by decide) (backOf (W := 0) (rm_ie l Z a0 hw [] (v1) (v2) (v3) ((1 : Int32)) ([(.int p0)]) T12.heap n0 (Nat.le_trans (Nat.le_trans Z0 K4.1) K12.1) f17 f18) hZ (tw hw 19 rfl) (tw hw 2 rfl) (by decide) (by decide)) q28a q28c (g := (mkF m 54 #[.val (.int p0), .val (.int p1), .val (.ref v1), .val (.ref v1)] [(.ref v1)])) rfl (by rw [hml]; rfl) (Steps.refl _) (argsL := []) (rest := []) (lenOf pd___Z rfl) rfl (by show 2 * 0 + _ ≤ _; exact Nat.le_of_eq rfl) (hb hby at_54) (fun _ _ => ⟨rfl, e20, (by decide : 4 + 0 ≤ _), (by decide : 2 + 0 ≤ _)⟩)
          dsimp only [Pt.U, Pt.locs, Pt.cells, Pt.slots] at X28 l28 y28 z28 st28 hQ28
          subst l28 y28 z28
          rcases hQ28 with ⟨rfl, N28, e28, y28_0⟩ | ⟨rfl, N28, e28, y28_0⟩
          · exact absurd y28_0 (by decide)
          · have M28 := Fr.app M20 N28
            refine Gl.to st28 ?_
            show Gl p.tables e below _ (T28.setTop (mkF m 57 #[.val (.int p0), .val (.int p1), .val (.ref v1), .val (.ref v1)] [(.int 0)]))
            refine Gl.st (fun _ kq => XS.ifNo X28.here hx rfl (hb hby at_57) rfl ((if0 _ _).trans (teq ((by decide) : (0 : Int32) = (0 : Int32))).2) kq) ?_
            show Gl p.tables e below _ (T28.setTop (mkF m 60 #[.val (.int p0), .val (.int p1), .val (.ref v1), .val (.ref v1)] []))
            refine Gl.st (fun _ kq => XS.aloadN X28.here hx rfl (hb hby at_60) rfl rfl kq) ?_
            show Gl p.tables e below _ (T28.setTop (mkF m 61 #[.val (.int p0), .val (.int p1), .val (.ref v1), .val (.ref v1)] [(.ref v1)]))
            obtain ⟨cq29, kq29, q29a, q29b, q29c⟩ := isOf hZ e28 f21
            obtain ⟨_, _, ⟨T29, L29, k29, n29⟩, -, X29, ⟨Lc29, hQ29, l29, y29, z29⟩, st29⟩ := X28.virtualBack hx (y := (⟨"com/example/rooted_tableau/rootedtableau/core/DependencySet", "maxLevel", "()I"⟩ : MethodName)) (z := (⟨"com/example/rooted_tableau/rootedtableau/core/DependencySet", "maxLevel", "()I"⟩ : MethodName)) hown (mvT hZ (tw hw 20 rfl)) (mvT hZ (tw hw 21 rfl)) (notFace_of_selects (args := #[]) (mvT hZ (tw hw 23 rfl))) (mvT hZ (tw hw 23 rfl)) (mvT hZ (tw hw 22 rfl)) (by decide) (backOf (W := 0) (rm_ml l Z a0 hw [] (v1) (v2) (v3) (p0) T12.heap n0 (Nat.le_trans (Nat.le_trans Z0 K4.1) K12.1) f17 f18) hZ (tw hw 24 rfl) (tw hw 2 rfl) (by decide) (by decide)) q29a q29c (g := (mkF m 61 #[.val (.int p0), .val (.int p1), .val (.ref v1), .val (.ref v1)] [(.ref v1)])) rfl (by rw [hml]; rfl) (Steps.refl _) (argsL := []) (rest := []) (lenOf pd___I rfl) rfl (by show 2 * 0 + _ ≤ _; exact Nat.le_of_eq rfl) (hb hby at_61) (fun _ _ => ⟨rfl, e28, (by decide : 4 + 0 ≤ _), (by decide : 2 + 0 ≤ _)⟩)
            dsimp only [Pt.U, Pt.locs, Pt.cells, Pt.slots] at X29 l29 y29 z29 st29 hQ29
            subst l29 y29 z29
            obtain ⟨rfl, N29, e29⟩ := hQ29
            have M29 := Fr.app M28 N29
            refine Gl.to st29 ?_
            show Gl p.tables e below _ (T29.setTop (mkF m 64 #[.val (.int p0), .val (.int p1), .val (.ref v1), .val (.ref v1)] [(.int p0)]))
            show Gl p.tables e below _ (T29.setTop (mkF m 64 #[.val (.int p0), .val (.int p1), .val (.ref v1), .val (.ref v1)] [(.int p0)]))
            refine Gl.st (fun _ kq => XS.iloadN X29.here hx rfl (hb hby at_64) rfl kq) ?_
            show Gl p.tables e below _ (T29.setTop (mkF m 65 #[.val (.int p0), .val (.int p1), .val (.ref v1), .val (.ref v1)] [(.int p0), (.int p0)]))
            refine Gl.st (fun _ kq => XS.icmpNo X29.here hx rfl (hb hby at_65) rfl (teq (rfl : p0 = p0)).2 kq) ?_
            show Gl p.tables e below _ (T29.setTop (mkF m 68 #[.val (.int p0), .val (.int p1), .val (.ref v1), .val (.ref v1)] []))
            refine Gl.st (fun _ kq => XS.iconst X29.here hx rfl (hb hby at_68) kq) ?_
            show Gl p.tables e below _ (T29.setTop (mkF m 69 #[.val (.int p0), .val (.int p1), .val (.ref v1), .val (.ref v1)] [(.int 1)]))
            refine Gl.st (fun _ kq => XS.goto X29.here hx rfl (pc0 := 69) (pc' := 73) rfl (hb hby at_69) (by decide) (by decide) kq) ?_
            show Gl p.tables e below _ (T29.setTop (mkF m 73 #[.val (.int p0), .val (.int p1), .val (.ref v1), .val (.ref v1)] [(.int 1)]))
            exact Gl.retN X29 hx (t := .boolean) Bd.returns (by simp) (hb hby at_73) hlk (by decide) (by decide) (by rw [e29]; exact ⟨rfl, M29⟩)
      · exact absurd rfl y15_0
    · exact absurd y12_0 Int32.lt_irrefl
    · exact absurd y12_0 Int32.lt_irrefl
set_option maxRecDepth 65536 in
set_option maxHeartbeats 40000000 in
theorem comes_1 {Post : Tables → Env → Array Value → State → Outcome → State → Prop} (hpost : ∀ tb e args s v u, (limb_1_1.after args s (.returned v) u = true ∧ limb_1_2.after args s (.returned v) u = true ∧ True) → FrameEnd s (.returned v) u (Jvm.fieldLocs frame_1_writes args s ++ Jvm.arrayLocs frame_1_arrays args s ++ Jvm.staticLocs frame_1_statics s) 16 128 → Post tb e args s (.returned v) u) :
    ArmFor flags0 classFile x code maxLocals ret World_1 tables_1 room_1 Calls_1 rest_1 Pre_1 Post := by
  intro l hfl _ _ p e ha hc hk s m args below hf hA hF happ hP
  obtain ⟨hcalls, hrest, hpre⟩ := hP
  obtain ⟨-, -, -, hnamed, -, -, -, hat⟩ := (Spec.applies_iff hf).mp happ
  obtain ⟨hg, hn⟩ := and_e (Cond.before_iff.mp (show (Jvm.Cond.and given_1 narrow_1).before args s = true from hpre))
  obtain ⟨hcnt, g0⟩ := and_e hg
  obtain ⟨u0, g1⟩ := and_e g0
  have u1 := g1
  obtain ⟨w0, w1, rfl⟩ : ∃ w0 w1 : Value, args = #[w0, w1] := by
    have hs : args.size = 2 := by simpa [Cond.value, given_1] using hcnt
    obtain ⟨L⟩ := args
    match L, hs with
    | [w0, w1], _ => exact ⟨w0, w1, rfl⟩
  have hw := fun d (hd : d ∈ tables_1) => atoms_spec (ws := Jvm.Cond.code x code maxLocals ret :: tables_1) hat d (List.mem_cons_of_mem _ hd)
  have hfit : Fit s := fun {y c} hc i hi => by
    obtain ⟨ha, rfl⟩ := Array.getElem?_eq_some_iff.mp hc
    have q := List.all_eq_true.mp ((Array.all_eq_true_iff_forall_mem.mp hF) _ (Array.getElem_mem ha)) i (List.mem_range.mpr hi)
    simpa [Array.getElem?_eq_getElem hi] using q
  obtain ⟨i0, ei0⟩ := is_v u0
  obtain rfl : w0 = (.int i0) := Option.some.inj ei0
  obtain ⟨i1, ei1⟩ := is_v u1
  obtain rfl : w1 = (.int i1) := Option.some.inj ei1
  obtain ⟨n1, n2⟩ := and_e hn
  obtain ⟨n3, n4⟩ := and_e n2
  obtain ⟨em, eem⟩ := exa_v n1
  have Eem : Exa s s.heap em "com/example/rooted_tableau/rootedtableau/core/DependencySet" := Exa.start eem n1
  have Sem : Sta s s.heap "com/example/rooted_tableau/rootedtableau/core/DependencySet" "EMPTY" "Lcom/example/rooted_tableau/rootedtableau/core/DependencySet;" (.ref em) := Sta.start eem (Or.inr ⟨tw hw 2 rfl, tw hw 42 rfl⟩)
  obtain ⟨te, ete⟩ := arr_v n3
  have Fem : Fld s s.heap em "com/example/rooted_tableau/rootedtableau/core/DependencySet" "levels" "[I" (.ref te) := Fld.start (by rw [← fld_at eem]; exact ete)
  obtain ⟨cl, Ate⟩ := Arr.start ete n3
  have elen := eqv_i (y := 0) rfl n4
  have hat0 : s.arrayAt? te = some cl := Ate.fin (Vm.Alike.refl _)
  have h31 : cl.slots.size < 2 ^ 31 := SBG.length_lt ete hat0 elen
  have ez : cl.slots.size.toInt32 = (0 : Int32) := Value.int.inj (Option.some.inj ((len_f ete hat0 h31).symm.trans elen))
  have Vte : Arv s s.heap te cl.cls .int (0 : Int32) [] (.int 0) := Arv.start hfit Ate h31 ez (by decide) (by decide) trivial
  obtain ⟨n, o, h1, h2, h3, _, L, rfl, ⟨rfl, N⟩, hq⟩ := rm_law l s _ hw tables_1 i0 i1 em te cl.cls s.heap s.heap.size (Nat.le_refl _) Eem Fem Vte (Old.start s) Sem p e ha hc hk s m _ below hf ((Spec.applies_iff_loose hf).mp happ).1 ⟨rfl, State.Warmed39.refl s, rfl⟩ trivial
  refine ⟨n, _, h1, h2, h3, hpost _ _ _ _ _ _ ⟨Cond.after_iff.mpr rfl, Cond.after_iff.mpr (eq_i res_at (Term.int_eval (1)) rfl), trivial⟩ ⟨hq.1, hq.2.1, (hq.2.2.sift fun y hy => Or.inr (N y hy)).mono (by decide) (by decide)⟩⟩
theorem main_1_1 : Claimed_1_1 := comes_1 fun _ _ _ _ _ _ h hF => ⟨h.1, hF⟩
theorem main_1_2 : Claimed_1_2 := comes_1 fun _ _ _ _ _ _ h hF => ⟨h.2.1, hF⟩
end Jvm.Pilot.@@N@@
namespace Jvm.Pilot.@@N@@
open Jvm Jvm.ClassFile Sem Op Lib Jvm.Free Jvm.Stand Jvm.Pilot.@@N@@.Jvm.D
/-! MADE BY PROGRAM (witnessworld.py) out of the Statement's table words and the real class files: 11 classes; the members and pool entries that the words name. The judged class is class 1, her method 1. -/
namespace start1
open Jvm.ClassFile
def u (s : String) : CpInfo := .utf8 (stringToUtf16 s)
/-- a pool by its gaps: so many unusable entries, then the entry; so many at the end -/
def gap : Nat → List CpInfo → List CpInfo
  | 0, r => r
  | n + 1, r => .unusable :: gap n r
def poolList (es : List (Nat × CpInfo)) (last : Nat) : List CpInfo := es.foldr (fun e r => gap e.1 (e.2 :: r)) (gap last [])
def pool (es : List (Nat × CpInfo)) (last : Nat) : Array CpInfo := ⟨poolList es last⟩
def fileOf (pool : Array CpInfo) (this : Nat) (attrs : Array Attribute := #[]) (ms : Array MethodInfo := #[]) (fl : Nat := 33) (sup : Nat := 0) (ifs : Array Nat := #[]) (fds : Array FieldInfo := #[]) : ClassFile where
  minorVersion := 0
  majorVersion := 65
  constantPool := pool
  accessFlags := fl
  thisClass := this
  superClass := sup
  interfaces := ifs
  fields := fds
  methods := ms
  attributes := attrs
def plain (name : String) (sup : Option ClassId) : Class where
  name := name
  kind := .ordinary
  loader := none
  accessFlags := 33
  super := sup
  interfaces := #[]
  cf := none
  fields := #[]
  methods := #[]
  instanceTypes := #[]
  staticTypes := #[]
  resolved := #[]
  callSites := []
  init := .initialized
  statics := none
  mirror := none

def pool0 : Array CpInfo := pool [(5, u "<init>"), (0, u "()V"), (1, .class_ 10), (1, u "java/lang/Object")] 113

def k0c0 : Code := { maxStack := 0, maxLocals := 1, code := object_method_1_code, exceptionTable := #[], attributes := #[] }
def k0m0 : Method := { name := "<init>", desc := "()V", sig := { parameters := [], returnType := none }, accessFlags := 1, code := some k0c0 }
/-- java/lang/Object -/
def k0 : Class := { plain "java/lang/Object" none with
  accessFlags := 33
  interfaces := #[]
  cf := some (fileOf pool0 8 #[] #[{ accessFlags := 1, nameIndex := 5, descriptorIndex := 6, attributes := #[] }] 33 0 #[] #[])
  fields := #[]
  methods := #[k0m0]
  instanceTypes := #[]
  staticTypes := #[]
  resolved := Array.replicate 124 none
  statics := none }

def pool1 : Array CpInfo := pool [(2, .class_ 4), (1, u "java/lang/Object"), (0, u "<init>"), (0, u "()V"), (0, .methodref 8 9), (0, .class_ 10), (0, .nameAndType 11 12), (0, u "com/example/rooted_tableau/rootedtableau/core/DependencySet"), (0, u "of"), (0, u "(I)Lcom/example/rooted_tableau/rootedtableau/core/DependencySet;"), (0, .methodref 8 14), (0, .nameAndType 15 16), (0, u "isEmpty"), (0, u "()Z"), (0, .methodref 8 18), (0, .nameAndType 19 20), (0, u "maxLevel"), (0, u "()I"), (0, .methodref 8 22), (0, .nameAndType 23 12), (0, u "without"), (0, .class_ 25), (0, u "com/example/rooted_tableau/rootedtableau/core/DependencySetOfPinLaw"), (2, u "law"), (0, u "(II)Z")] 3

def k1m0 : Method := { name := "<init>", desc := "()V", sig := { parameters := [], returnType := none }, accessFlags := 1, code := none }
def k1c1 : Code := { maxStack := 2, maxLocals := 4, code := code, exceptionTable := #[], attributes := #[] }
def k1m1 : Method := { name := "law", desc := "(II)Z", sig := { parameters := [.int, .int], returnType := some .boolean }, accessFlags := 9, code := some k1c1 }
/-- com/example/rooted_tableau/rootedtableau/core/DependencySetOfPinLaw -/
def k1 : Class := { plain "com/example/rooted_tableau/rootedtableau/core/DependencySetOfPinLaw" (some 0) with
  accessFlags := 49
  interfaces := #[]
  cf := some (fileOf pool1 24 #[] #[{ accessFlags := 1, nameIndex := 5, descriptorIndex := 6, attributes := #[] }, { accessFlags := 9, nameIndex := 28, descriptorIndex := 29, attributes := #[] }] 49 2 #[] #[])
  fields := #[]
  methods := #[k1m0, k1m1]
  instanceTypes := #[]
  staticTypes := #[]
  resolved := Array.replicate 33 none
  statics := none }

def pool2 : Array CpInfo := pool [(1, .methodref 2 3), (0, .class_ 4), (0, .nameAndType 5 6), (0, u "java/lang/Object"), (0, u "<init>"), (0, u "()V"), (0, .fieldref 8 9), (0, .class_ 10), (0, .nameAndType 11 12), (0, u "com/example/rooted_tableau/rootedtableau/core/DependencySet"), (0, u "levels"), (0, u "[I"), (0, .methodref 8 14), (0, .nameAndType 5 15), (0, u "([I)V"), (1, .class_ 19), (1, u "java/util/Arrays"), (2, .methodref 17 23), (0, .nameAndType 24 25), (0, u "binarySearch"), (0, u "([II)I"), (0, .methodref 27 28), (0, .class_ 29), (0, .nameAndType 30 31), (0, u "java/lang/System"), (0, u "arraycopy"), (0, u "(Ljava/lang/Object;ILjava/lang/Object;II)V"), (0, .fieldref 8 33), (0, .nameAndType 34 35), (0, u "EMPTY"), (0, u "Lcom/example/rooted_tableau/rootedtableau/core/DependencySet;"), (6, u "of"), (0, u "(I)Lcom/example/rooted_tableau/rootedtableau/core/DependencySet;"), (0, u "isEmpty"), (0, u "()Z"), (1, u "maxLevel"), (0, u "()I"), (3, u "without")] 4

def k2c0 : Code := { maxStack := 2, maxLocals := 2, code := prog_13_method_1_code, exceptionTable := #[], attributes := #[] }
def k2m0 : Method := { name := "<init>", desc := "([I)V", sig := { parameters := [(.array .int)], returnType := none }, accessFlags := 2, code := some k2c0 }
def k2c1 : Code := { maxStack := 6, maxLocals := 1, code := prog_13_method_2_code, exceptionTable := #[], attributes := #[] }
def k2m1 : Method := { name := "of", desc := "(I)Lcom/example/rooted_tableau/rootedtableau/core/DependencySet;", sig := { parameters := [.int], returnType := some (.object "com/example/rooted_tableau/rootedtableau/core/DependencySet") }, accessFlags := 8, code := some k2c1 }
def k2c2 : Code := { maxStack := 1, maxLocals := 1, code := prog_13_method_3_code, exceptionTable := #[], attributes := #[] }
def k2m2 : Method := { name := "isEmpty", desc := "()Z", sig := { parameters := [], returnType := some .boolean }, accessFlags := 0, code := some k2c2 }
def k2c3 : Code := { maxStack := 3, maxLocals := 1, code := prog_13_method_4_code, exceptionTable := #[], attributes := #[] }
def k2m3 : Method := { name := "maxLevel", desc := "()I", sig := { parameters := [], returnType := some .int }, accessFlags := 0, code := some k2c3 }
def k2c4 : Code := { maxStack := 6, maxLocals := 4, code := prog_13_method_6_code, exceptionTable := #[], attributes := #[] }
def k2m4 : Method := { name := "without", desc := "(I)Lcom/example/rooted_tableau/rootedtableau/core/DependencySet;", sig := { parameters := [.int], returnType := some (.object "com/example/rooted_tableau/rootedtableau/core/DependencySet") }, accessFlags := 0, code := some k2c4 }
/-- com/example/rooted_tableau/rootedtableau/core/DependencySet -/
def k2 : Class := { plain "com/example/rooted_tableau/rootedtableau/core/DependencySet" (some 0) with
  accessFlags := 48
  interfaces := #[]
  cf := some (fileOf pool2 8 #[] #[{ accessFlags := 2, nameIndex := 5, descriptorIndex := 15, attributes := #[] }, { accessFlags := 8, nameIndex := 42, descriptorIndex := 43, attributes := #[] }, { accessFlags := 0, nameIndex := 44, descriptorIndex := 45, attributes := #[] }, { accessFlags := 0, nameIndex := 47, descriptorIndex := 48, attributes := #[] }, { accessFlags := 0, nameIndex := 52, descriptorIndex := 43, attributes := #[] }] 48 2 #[] #[{ accessFlags := 24, nameIndex := 34, descriptorIndex := 35, attributes := #[] }, { accessFlags := 18, nameIndex := 11, descriptorIndex := 12, attributes := #[] }])
  fields := #[{ name := "EMPTY", type := (.object "com/example/rooted_tableau/rootedtableau/core/DependencySet"), accessFlags := 24, slot := 0, constantValue := 0 }, { name := "levels", type := (.array .int), accessFlags := 18, slot := 0, constantValue := 0 }]
  methods := #[k2m0, k2m1, k2m2, k2m3, k2m4]
  instanceTypes := #[(.array .int)]
  staticTypes := #[(.object "com/example/rooted_tableau/rootedtableau/core/DependencySet")]
  resolved := Array.replicate 57 none
  statics := some 0 }

def pool3 : Array CpInfo := pool [(2, .class_ 4), (1, u "java/lang/Object"), (0, u "<init>"), (0, u "()V"), (7, .class_ 16), (1, u "java/util/Arrays"), (57, .class_ 76), (1, u "java/util/Arrays$NaturalOrder"), (36, .class_ 115), (1, u "java/util/Arrays$LegacyMergeSort"), (1, u "Z"), (89, u "binarySearch0"), (1, .methodref 14 210), (0, .nameAndType 207 211), (0, u "([IIII)I"), (163, .class_ 376), (0, u "java/util/Arrays$ArrayList"), (68, u "$assertionsDisabled"), (269, u "MIN_ARRAY_SORT_GRAN"), (0, u "I"), (2, u "INSERTIONSORT_THRESHOLD"), (74, u "binarySearch"), (4, u "([II)I"), (175, .class_ 976), (0, u "java/util/Arrays$ArrayItr")] 52

def k3m0 : Method := { name := "<init>", desc := "()V", sig := { parameters := [], returnType := none }, accessFlags := 2, code := none }
def k3c1 : Code := { maxStack := 4, maxLocals := 2, code := jdk_65_method_57_code, exceptionTable := #[], attributes := #[] }
def k3m1 : Method := { name := "binarySearch", desc := "([II)I", sig := { parameters := [(.array .int), .int], returnType := some .int }, accessFlags := 9, code := some k3c1 }
def k3c2 : Code := { maxStack := 2, maxLocals := 8, code := jdk_65_method_59_code, exceptionTable := #[], attributes := #[] }
def k3m2 : Method := { name := "binarySearch0", desc := "([IIII)I", sig := { parameters := [(.array .int), .int, .int, .int], returnType := some .int }, accessFlags := 10, code := some k3c2 }
/-- java/util/Arrays -/
def k3 : Class := { plain "java/util/Arrays" (some 0) with
  accessFlags := 49
  interfaces := #[]
  cf := some (fileOf pool3 14 #[.nestMembers #[975, 375, 113, 74]] #[{ accessFlags := 2, nameIndex := 5, descriptorIndex := 6, attributes := #[] }, { accessFlags := 9, nameIndex := 794, descriptorIndex := 799, attributes := #[] }, { accessFlags := 10, nameIndex := 207, descriptorIndex := 211, attributes := #[] }] 49 2 #[] #[{ accessFlags := 26, nameIndex := 715, descriptorIndex := 716, attributes := #[] }, { accessFlags := 26, nameIndex := 719, descriptorIndex := 716, attributes := #[] }, { accessFlags := 4120, nameIndex := 445, descriptorIndex := 117, attributes := #[] }])
  fields := #[{ name := "MIN_ARRAY_SORT_GRAN", type := .int, accessFlags := 26, slot := 0, constantValue := 0 }, { name := "INSERTIONSORT_THRESHOLD", type := .int, accessFlags := 26, slot := 1, constantValue := 0 }, { name := "$assertionsDisabled", type := .boolean, accessFlags := 4120, slot := 2, constantValue := 0 }]
  methods := #[k3m0, k3m1, k3m2]
  instanceTypes := #[]
  staticTypes := #[.int, .int, .boolean]
  resolved := Array.replicate 1029 none
  statics := none }

def pool4 : Array CpInfo := pool [(2, .class_ 4), (1, u "java/lang/Object"), (0, u "<init>"), (0, u "()V"), (1, .class_ 10), (1, u "java/lang/System"), (0, u "allowSecurityManager"), (0, u "I"), (16, u "cons"), (0, u "Ljava/io/Console;"), (77, .class_ 110), (1, u "java/lang/System$CallersHolder"), (43, u "initialErrStream"), (0, u "Ljava/io/PrintStream;"), (19, u "security"), (0, u "Ljava/lang/SecurityManager;"), (31, .class_ 209), (0, u "java/lang/System$1"), (7, u "props"), (0, u "Ljava/util/Properties;"), (2, u "lineSeparator"), (0, u "Ljava/lang/String;"), (96, .class_ 321), (1, u "java/lang/System$LoggerFinder"), (5, .class_ 328), (0, u "java/lang/System$Logger"), (67, u "err"), (2, u "out"), (91, u "notSupportedJnuEncoding"), (15, u "in"), (17, u "initialIn"), (0, u "Ljava/io/InputStream;"), (35, u "bootLayer"), (0, u "Ljava/lang/ModuleLayer;"), (99, .class_ 664), (0, u "java/lang/System$2"), (9, u "NEVER"), (2, u "MAYBE"), (49, u "arraycopy"), (0, u "(Ljava/lang/Object;ILjava/lang/Object;II)V"), (72, .class_ 802), (0, u "java/lang/System$Logger$Level")] 31

def k4m0 : Method := { name := "<init>", desc := "()V", sig := { parameters := [], returnType := none }, accessFlags := 2, code := none }
def k4m1 : Method := { name := "arraycopy", desc := "(Ljava/lang/Object;ILjava/lang/Object;II)V", sig := { parameters := [(.object "java/lang/Object"), .int, (.object "java/lang/Object"), .int, .int], returnType := none }, accessFlags := 265, code := none }
/-- java/lang/System -/
def k4 : Class := { plain "java/lang/System" (some 0) with
  accessFlags := 49
  interfaces := #[]
  cf := some (fileOf pool4 8 #[.nestMembers #[319, 327, 801, 108, 663, 208]] #[{ accessFlags := 2, nameIndex := 5, descriptorIndex := 6, attributes := #[] }, { accessFlags := 265, nameIndex := 727, descriptorIndex := 728, attributes := #[] }] 49 2 #[] #[{ accessFlags := 25, nameIndex := 507, descriptorIndex := 526, attributes := #[] }, { accessFlags := 25, nameIndex := 399, descriptorIndex := 155, attributes := #[] }, { accessFlags := 25, nameIndex := 396, descriptorIndex := 155, attributes := #[] }, { accessFlags := 10, nameIndex := 525, descriptorIndex := 526, attributes := #[] }, { accessFlags := 26, nameIndex := 674, descriptorIndex := 12, attributes := #[] }, { accessFlags := 26, nameIndex := 677, descriptorIndex := 12, attributes := #[] }, { accessFlags := 10, nameIndex := 11, descriptorIndex := 12, attributes := #[] }, { accessFlags := 74, nameIndex := 175, descriptorIndex := 176, attributes := #[] }, { accessFlags := 10, nameIndex := 491, descriptorIndex := 222, attributes := #[] }, { accessFlags := 74, nameIndex := 29, descriptorIndex := 30, attributes := #[] }, { accessFlags := 74, nameIndex := 154, descriptorIndex := 155, attributes := #[] }, { accessFlags := 10, nameIndex := 217, descriptorIndex := 218, attributes := #[] }, { accessFlags := 10, nameIndex := 221, descriptorIndex := 222, attributes := #[] }, { accessFlags := 8, nameIndex := 562, descriptorIndex := 563, attributes := #[] }])
  fields := #[{ name := "in", type := (.object "java/io/InputStream"), accessFlags := 25, slot := 0, constantValue := 0 }, { name := "out", type := (.object "java/io/PrintStream"), accessFlags := 25, slot := 1, constantValue := 0 }, { name := "err", type := (.object "java/io/PrintStream"), accessFlags := 25, slot := 2, constantValue := 0 }, { name := "initialIn", type := (.object "java/io/InputStream"), accessFlags := 10, slot := 3, constantValue := 0 }, { name := "NEVER", type := .int, accessFlags := 26, slot := 4, constantValue := 0 }, { name := "MAYBE", type := .int, accessFlags := 26, slot := 5, constantValue := 0 }, { name := "allowSecurityManager", type := .int, accessFlags := 10, slot := 6, constantValue := 0 }, { name := "security", type := (.object "java/lang/SecurityManager"), accessFlags := 74, slot := 7, constantValue := 0 }, { name := "notSupportedJnuEncoding", type := (.object "java/lang/String"), accessFlags := 10, slot := 8, constantValue := 0 }, { name := "cons", type := (.object "java/io/Console"), accessFlags := 74, slot := 9, constantValue := 0 }, { name := "initialErrStream", type := (.object "java/io/PrintStream"), accessFlags := 74, slot := 10, constantValue := 0 }, { name := "props", type := (.object "java/util/Properties"), accessFlags := 10, slot := 11, constantValue := 0 }, { name := "lineSeparator", type := (.object "java/lang/String"), accessFlags := 10, slot := 12, constantValue := 0 }, { name := "bootLayer", type := (.object "java/lang/ModuleLayer"), accessFlags := 8, slot := 13, constantValue := 0 }]
  methods := #[k4m0, k4m1]
  instanceTypes := #[]
  staticTypes := #[(.object "java/io/InputStream"), (.object "java/io/PrintStream"), (.object "java/io/PrintStream"), (.object "java/io/InputStream"), .int, .int, .int, (.object "java/lang/SecurityManager"), (.object "java/lang/String"), (.object "java/io/Console"), (.object "java/io/PrintStream"), (.object "java/util/Properties"), (.object "java/lang/String"), (.object "java/lang/ModuleLayer")]
  resolved := Array.replicate 834 none
  statics := none }

def pool5 : Array CpInfo := pool [(1, u "java/lang/Cloneable"), (0, .class_ 1), (0, u "java/lang/Object"), (0, .class_ 3)] 3

/-- java/lang/Cloneable -/
def k5 : Class := { plain "java/lang/Cloneable" (some 0) with
  accessFlags := 1537
  interfaces := #[]
  cf := some (fileOf pool5 2 #[] #[] 1537 4 #[] #[])
  fields := #[]
  methods := #[]
  instanceTypes := #[]
  staticTypes := #[]
  resolved := Array.replicate 8 none
  statics := none }

def pool6 : Array CpInfo := pool [(1, u "java/io/Serializable"), (0, .class_ 1), (0, u "java/lang/Object"), (0, .class_ 3)] 3

/-- java/io/Serializable -/
def k6 : Class := { plain "java/io/Serializable" (some 0) with
  accessFlags := 1537
  interfaces := #[]
  cf := some (fileOf pool6 2 #[] #[] 1537 4 #[] #[])
  fields := #[]
  methods := #[]
  instanceTypes := #[]
  staticTypes := #[]
  resolved := Array.replicate 8 none
  statics := none }

/-- the primitive byte -/
def k7 : Class := { plain "byte" none with kind := .primitive 'B', accessFlags := 0x411 }
/-- [B -/
def k8 : Class := { plain "[B" (some 0) with kind := .array 7 .byte, interfaces := #[5, 6], accessFlags := 1041 }

/-- the primitive int -/
def k9 : Class := { plain "int" none with kind := .primitive 'I', accessFlags := 0x411 }
/-- [I -/
def k10 : Class := { plain "[I" (some 0) with kind := .array 9 .int, interfaces := #[5, 6], accessFlags := 1041 }

def heap : Heap := #[{ cls := 2, slots := #[.ref 2], vm := .statics 2 },
  { cls := 10, slots := #[], vm := .none },
  { cls := 2, slots := #[.ref 1], vm := .none }]
def classes : Array Class := #[k0, k1, k2, k3, k4, k5, k6, k7, k8, k9, k10]
def interned : List (Array UInt16 × Addr) := []
def slotsUsed : Nat := 2
def theMethod : MethodId := ⟨1, 1⟩
def args0 : Array Value := #[.int 5, .int 7]
def aboutOver (below : List Frame) : State where
  vm := { classes := classes, interned := interned.toArray }
  heap := heap
  slotsUsed := slotsUsed
  threads := #[{ frames := .invoking theMethod args0 :: below }]
def below0 : List Frame := [.native { method := ⟨0, 0⟩, args := #[] }]
def about1 : State := aboutOver below0
def p0 : Program := .bare "" "" ""
def e0 : Env := launch0.env 0 0 0
theorem w_frames : about1.frames = Frame.invoking theMethod args0 :: below0 := rfl
set_option maxRecDepth 65536 in
theorem w_args : argsFit about1.vm theMethod args0 = true := by decide +kernel
set_option maxRecDepth 65536 in
theorem w_heap : heapFits about1 = true := by decide +kernel
set_option maxRecDepth 65536 in
theorem w_runnable : about1.curStatus? = some .runnable := by decide +kernel
set_option maxRecDepth 65536 in
theorem w_alone : about1.alone = true := by decide +kernel
set_option maxRecDepth 65536 in
theorem w_named : about1.methodNamed? x = some theMethod := by decide +kernel
set_option maxRecDepth 65536 in
theorem w_hears : about1.hears theMethod below0 = true := by decide +kernel
set_option maxRecDepth 65536 in
theorem w_ripe : about1.ripe theMethod args0 below0 = true := by decide +kernel
theorem w_running : about1.status = .running := rfl
set_option maxRecDepth 65536 in
theorem w_room : about1.hasRoom e0.platform room_1 = true :=
  launch0.hasRoom_least _ room_1 (by decide +kernel) (by decide +kernel) (by decide +kernel) (by decide +kernel) (by decide +kernel) (by decide +kernel)
theorem allAtoms_all (ts : List Jvm.Cond) (a : Array Jvm.Value) (st : Jvm.State) : (allAtoms ts).before a st = ts.all (fun c => c.before a st) := by
  induction ts with
  | nil => rfl
  | cons c t ih =>
    show (Jvm.Cond.and c (allAtoms t)).before a st = _
    rw [Jvm.Cond.before_and, ih, List.all_cons]
def words1 : List Jvm.Cond := Jvm.Cond.code x code maxLocals ret :: tables_1
/-- a 'code' word, met by the world's own term for the bytes: nothing is compared byte by byte -/
theorem code_word {y : MethodName} {bytes : ByteArray} {mx : Nat} {rt : Option FieldType} {a : Array Value} {s : State} {m : MethodId} {meth : Method} {c : Code} (h1 : s.methodNamed? y = some m) (h2 : s.vm.method? m = some meth) (h3 : meth.code = some c) (h4 : c.code = bytes)
    (h5 : (c.maxLocals == mx && c.exceptionTable.isEmpty && decide (c.maxStack ≤ mostOperands) && decide (meth.sig.returnType = rt) && !meth.locks && decide (parseMethodDescriptor y.desc = some meth.sig)) = true) : (Jvm.Cond.code y bytes mx rt).before a s = true := by
  simp only [Bool.and_eq_true, beq_iff_eq, Bool.not_eq_true', decide_eq_true_eq] at h5
  obtain ⟨⟨⟨⟨⟨g1, g2⟩, g3⟩, g4⟩, g5⟩, g6⟩ := h5
  simp [Cond.before, Cond.holds, Cond.value, h1, h2, h3, h4, g1, g2, g3, g4, g5, g6]
def isCode : Jvm.Cond → Bool
  | .code _ _ _ _ => true
  | _ => false
theorem all_split {L : List Jvm.Cond} {P : Jvm.Cond → Bool} (h1 : L.all (fun c => isCode c || P c) = true) (h2 : ∀ c ∈ L.filter isCode, P c = true) : L.all P = true := by
  refine List.all_eq_true.mpr fun c hc => ?_
  have h := List.all_eq_true.mp h1 c hc
  rcases Bool.eq_false_or_eq_true (isCode c) with hi | hi
  · exact h2 c (List.mem_filter.mpr ⟨hc, hi⟩)
  · simpa [hi] using h
set_option maxRecDepth 65536 in
theorem w_c0 : (Jvm.Cond.code x code maxLocals ret).before args0 about1 = true := code_word (m := ⟨1, 1⟩) (meth := k1m1) (c := k1c1) (by decide +kernel) rfl rfl rfl (by decide +kernel)
set_option maxRecDepth 65536 in
theorem w_c1 : (Jvm.Cond.code ({ cls := "com/example/rooted_tableau/rootedtableau/core/DependencySet", name := "of", desc := "(I)Lcom/example/rooted_tableau/rootedtableau/core/DependencySet;" } : Jvm.MethodName) prog_13_method_2_code (1 : Nat) (Option.some (Jvm.ClassFile.FieldType.object "com/example/rooted_tableau/rootedtableau/core/DependencySet"))).before args0 about1 = true := code_word (m := ⟨2, 1⟩) (meth := k2m1) (c := k2c1) (by decide +kernel) rfl rfl rfl (by decide +kernel)
set_option maxRecDepth 65536 in
theorem w_c2 : (Jvm.Cond.code ({ cls := "com/example/rooted_tableau/rootedtableau/core/DependencySet", name := "<init>", desc := "([I)V" } : Jvm.MethodName) prog_13_method_1_code (2 : Nat) (Option.none : Option Jvm.ClassFile.FieldType)).before args0 about1 = true := code_word (m := ⟨2, 0⟩) (meth := k2m0) (c := k2c0) (by decide +kernel) rfl rfl rfl (by decide +kernel)
set_option maxRecDepth 65536 in
theorem w_c3 : (Jvm.Cond.code ({ cls := "java/lang/Object", name := "<init>", desc := "()V" } : Jvm.MethodName) object_method_1_code (1 : Nat) (Option.none : Option Jvm.ClassFile.FieldType)).before args0 about1 = true := code_word (m := ⟨0, 0⟩) (meth := k0m0) (c := k0c0) (by decide +kernel) rfl rfl rfl (by decide +kernel)
set_option maxRecDepth 65536 in
theorem w_c4 : (Jvm.Cond.code ({ cls := "com/example/rooted_tableau/rootedtableau/core/DependencySet", name := "isEmpty", desc := "()Z" } : Jvm.MethodName) prog_13_method_3_code (1 : Nat) (Option.some Jvm.ClassFile.FieldType.boolean)).before args0 about1 = true := code_word (m := ⟨2, 2⟩) (meth := k2m2) (c := k2c2) (by decide +kernel) rfl rfl rfl (by decide +kernel)
set_option maxRecDepth 65536 in
theorem w_c5 : (Jvm.Cond.code ({ cls := "com/example/rooted_tableau/rootedtableau/core/DependencySet", name := "maxLevel", desc := "()I" } : Jvm.MethodName) prog_13_method_4_code (1 : Nat) (Option.some Jvm.ClassFile.FieldType.int)).before args0 about1 = true := code_word (m := ⟨2, 3⟩) (meth := k2m3) (c := k2c3) (by decide +kernel) rfl rfl rfl (by decide +kernel)
set_option maxRecDepth 65536 in
theorem w_c6 : (Jvm.Cond.code ({ cls := "com/example/rooted_tableau/rootedtableau/core/DependencySet", name := "without", desc := "(I)Lcom/example/rooted_tableau/rootedtableau/core/DependencySet;" } : Jvm.MethodName) prog_13_method_6_code (4 : Nat) (Option.some (Jvm.ClassFile.FieldType.object "com/example/rooted_tableau/rootedtableau/core/DependencySet"))).before args0 about1 = true := code_word (m := ⟨2, 4⟩) (meth := k2m4) (c := k2c4) (by decide +kernel) rfl rfl rfl (by decide +kernel)
set_option maxRecDepth 65536 in
theorem w_c7 : (Jvm.Cond.code ({ cls := "java/util/Arrays", name := "binarySearch", desc := "([II)I" } : Jvm.MethodName) jdk_65_method_57_code (2 : Nat) (Option.some Jvm.ClassFile.FieldType.int)).before args0 about1 = true := code_word (m := ⟨3, 1⟩) (meth := k3m1) (c := k3c1) (by decide +kernel) rfl rfl rfl (by decide +kernel)
set_option maxRecDepth 65536 in
theorem w_c8 : (Jvm.Cond.code ({ cls := "java/util/Arrays", name := "binarySearch0", desc := "([IIII)I" } : Jvm.MethodName) jdk_65_method_59_code (8 : Nat) (Option.some Jvm.ClassFile.FieldType.int)).before args0 about1 = true := code_word (m := ⟨3, 2⟩) (meth := k3m2) (c := k3c2) (by decide +kernel) rfl rfl rfl (by decide +kernel)
def codes1 : List Jvm.Cond := [Jvm.Cond.code x code maxLocals ret, Jvm.Cond.code ({ cls := "com/example/rooted_tableau/rootedtableau/core/DependencySet", name := "of", desc := "(I)Lcom/example/rooted_tableau/rootedtableau/core/DependencySet;" } : Jvm.MethodName) prog_13_method_2_code (1 : Nat) (Option.some (Jvm.ClassFile.FieldType.object "com/example/rooted_tableau/rootedtableau/core/DependencySet")), Jvm.Cond.code ({ cls := "com/example/rooted_tableau/rootedtableau/core/DependencySet", name := "<init>", desc := "([I)V" } : Jvm.MethodName) prog_13_method_1_code (2 : Nat) (Option.none : Option Jvm.ClassFile.FieldType), Jvm.Cond.code ({ cls := "java/lang/Object", name := "<init>", desc := "()V" } : Jvm.MethodName) object_method_1_code (1 : Nat) (Option.none : Option Jvm.ClassFile.FieldType), Jvm.Cond.code ({ cls := "com/example/rooted_tableau/rootedtableau/core/DependencySet", name := "isEmpty", desc := "()Z" } : Jvm.MethodName) prog_13_method_3_code (1 : Nat) (Option.some Jvm.ClassFile.FieldType.boolean), Jvm.Cond.code ({ cls := "com/example/rooted_tableau/rootedtableau/core/DependencySet", name := "maxLevel", desc := "()I" } : Jvm.MethodName) prog_13_method_4_code (1 : Nat) (Option.some Jvm.ClassFile.FieldType.int), Jvm.Cond.code ({ cls := "com/example/rooted_tableau/rootedtableau/core/DependencySet", name := "without", desc := "(I)Lcom/example/rooted_tableau/rootedtableau/core/DependencySet;" } : Jvm.MethodName) prog_13_method_6_code (4 : Nat) (Option.some (Jvm.ClassFile.FieldType.object "com/example/rooted_tableau/rootedtableau/core/DependencySet")), Jvm.Cond.code ({ cls := "java/util/Arrays", name := "binarySearch", desc := "([II)I" } : Jvm.MethodName) jdk_65_method_57_code (2 : Nat) (Option.some Jvm.ClassFile.FieldType.int), Jvm.Cond.code ({ cls := "java/util/Arrays", name := "binarySearch0", desc := "([IIII)I" } : Jvm.MethodName) jdk_65_method_59_code (8 : Nat) (Option.some Jvm.ClassFile.FieldType.int)]
set_option maxRecDepth 65536 in
theorem codes_eq : words1.filter isCode = codes1 := rfl
theorem w_codes : ∀ c ∈ words1.filter isCode, c.before args0 about1 = true := by
  rw [codes_eq]
  intro c hc
  simp only [codes1, List.mem_cons, List.not_mem_nil, or_false] at hc
  rcases hc with rfl | rfl | rfl | rfl | rfl | rfl | rfl | rfl | rfl
  · exact w_c0
  · exact w_c1
  · exact w_c2
  · exact w_c3
  · exact w_c4
  · exact w_c5
  · exact w_c6
  · exact w_c7
  · exact w_c8
set_option maxRecDepth 65536 in
theorem w_t1 : (words1.take 24).all (fun c => isCode c || c.before args0 about1) = true := by decide +kernel
set_option maxRecDepth 65536 in
theorem w_t2 : (words1.drop 24).all (fun c => isCode c || c.before args0 about1) = true := by decide +kernel
theorem w_tables : (allAtoms (Jvm.Cond.code x code maxLocals ret :: tables_1)).before args0 about1 = true := by
  rw [allAtoms_all]
  show words1.all (fun c => c.before args0 about1) = true
  refine all_split ?_ w_codes
  rw [← List.take_append_drop 24 words1, List.all_append, w_t1, w_t2]
  rfl
set_option maxRecDepth 65536 in
theorem w_case : (Jvm.Cond.and given_1 narrow_1).before args0 about1 = true := by decide +kernel
theorem w_applies : (headSpec (Jvm.Cond.code x code maxLocals ret :: tables_1) room_1).applies x e0.platform about1 = true :=
  (Spec.applies_iff w_frames).mpr ⟨w_running, w_runnable, w_alone, w_named, w_hears, w_ripe, w_room, w_tables⟩
theorem atStart : AtStart classFile x code maxLocals ret World_1 tables_1 room_1 Calls_1 rest_1 Pre_1 launch0 p0 e0 about1 theMethod args0 below0 :=
  ⟨lists_1, trivial, launch0.admits_env _ _ _, launch0.least_env, fairChoices_fair.cas, fairChoices_fair.clock, w_frames, w_args, w_heap, w_applies, trivial, trivial, w_case⟩
end start1
theorem witness_1 : WitnessClaimed_1 := ⟨start1.p0, start1.e0, start1.about1, start1.theMethod, start1.args0, start1.below0, start1.atStart⟩
end Jvm.Pilot.@@N@@
