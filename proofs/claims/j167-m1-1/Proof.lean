import JvmDerived
import JvmDerived.Pilot.@@N@@Statement
import JvmDerived.Pilot.@@N@@Code
set_option linter.unusedVariables false
set_option linter.unusedSimpArgs false
namespace Jvm.RoadKit
open Sem ClassFile Op Lib Jvm.Stand Jvm.Free Jvm.LawKit
section OwnKit
/-- the run from S comes to an end that P allows -/
def Gl (tb : Tables) (e : Env) (below : List Frame) (P : Outcome → State → Prop) (S : State) : Prop := ∃ s₂ o, Steps tb e below S s₂ ∧ s₂.status = .running ∧ Ended s₂ below o ∧ P o s₂
variable {tb : Tables} {p : Program} {l : Launch} {e : Env} {R : Room} {s : State} {m : MethodId} {args : Array Value} {below : List Frame} {meth : Method} {c : Code} {T : State} {locs : List Loc} {cells slots : Nat} {P : Outcome → State → Prop} {S S' : State}
theorem Gl.st (h : ∀ t, Steps tb e below S' t → Steps tb e below S t) (k : Gl tb e below P S') : Gl tb e below P S := by
  obtain ⟨s₂, o, h1, h2⟩ := k; exact ⟨s₂, o, h _ h1, h2⟩
theorem Gl.to (h : Steps tb e below S S') (k : Gl tb e below P S') : Gl tb e below P S := Gl.st (fun _ q => h.trans q) k
theorem Gl.cast {g g' : JFrame} (q : g = g') (k : Gl tb e below P (T.setTop g')) : Gl tb e below P (T.setTop g) := q ▸ k
abbrev EndN (s : State) (Q : Option Value → Heap → List Loc → Prop) (kc ks : Nat) : Outcome → State → Prop := fun o s₂ => ∃ v L, o = .returned v ∧ Q v s₂.heap L ∧ FrameEnd s o s₂ L kc ks
abbrev EndW (s : State) (Q : Option Value → Heap → List Loc → Prop) (kc ks : Nat) : Outcome → State → Prop := fun o s₂ => ∃ v L, o = .returned v ∧ Q v s₂.heap L ∧ ReturnedEndW s o s₂ L kc ks
variable {Q : Option Value → Heap → List Loc → Prop} {kc ks : Nat}
theorem Gl.fin (X : Stand p l e R s m args below meth c T locs cells slots) {v : Option Value} (hv : meth.sig.returnType = none → v = none) (hlk : meth.locks = false) (hc : cells ≤ kc) (hs : slots ≤ ks) (hQ : Q v T.heap locs)
    (k : ∀ fs, (∀ (f : JFrame) (acts : List Action), f.method = m → f.locked = none → f.entered = [] → (doReturn e (T.setTop f) acts v).1 = T.setFrames fs) → Steps p.tables e below S (T.setFrames fs)) : Gl p.tables e below (EndN s Q kc ks) S := by
  obtain ⟨fs, hr, hrun, hended, hW, hsame⟩ := X.leave hv hlk
  exact ⟨_, _, k fs hr, hrun, hended, v, locs, rfl, hQ, ⟨_, rfl⟩, hW, hsame.mono hc hs⟩
theorem Gl.finW {vm₁ : Vm} {n : Nat} (X : Stand p l e R (s.setVm vm₁) m args below meth c T locs cells slots) (hS : s.Since vm₁ n) (hn : n ≤ T.heap.size) {v : Option Value} (hv : meth.sig.returnType = none → v = none) (hlk : meth.locks = false) (hc : cells ≤ kc) (hs : slots ≤ ks) (hQ : Q v T.heap locs)
    (k : ∀ fs, (∀ (f : JFrame) (acts : List Action), f.method = m → f.locked = none → f.entered = [] → (doReturn e (T.setTop f) acts v).1 = T.setFrames fs) → Steps p.tables e below S (T.setFrames fs)) : Gl p.tables e below (EndW s Q kc ks) S := by
  obtain ⟨fs, hr, hrun, hended, h1, h2, h3, hsame⟩ := X.leaveW hS hn hv hlk
  exact ⟨_, _, k fs hr, hrun, hended, v, locs, rfl, hQ, h1, h2, h3, hsame.mono hc hs⟩
variable {pc : Nat} {Ls : Array Slot} {rest : List Value}
theorem nov {meth : Method} {t : FieldType} {v : Option Value} (h : meth.sig.returnType = some t) : meth.sig.returnType = none → v = none := fun q => by rw [h] at q; cases q
theorem narR {t : FieldType} {w : Value} (hw : w.isRef = true) (ht : t.isReference = true) : narrow t w = w := by
  rcases ref_cases hw with rfl | ⟨a, rfl⟩ <;> cases t <;> first | rfl | (simp [FieldType.isReference] at ht)
theorem fitR {t : FieldType} {w : Value} (hw : w.isRef = true) (ht : t.isReference = true) : fits t w = true := by
  rcases ref_cases hw with rfl | ⟨a, rfl⟩ <;> cases t <;> first | rfl | (simp [FieldType.isReference] at ht)
theorem refc {w : Value} (hw : w.isRef = true) : w.category = 1 := by
  rcases ref_cases hw with rfl | ⟨a, rfl⟩ <;> rfl
theorem lt_ne32 {u w : Int32} (h : u < w) : ¬ u = w := fun q => by rw [q] at h; exact Int32.lt_irrefl h
theorem lt_ne32' {u w : Int32} (h : w < u) : ¬ u = w := fun q => lt_ne32 h q.symm
theorem tri32 {u w : Int32} (h1 : ¬ u < w) (h2 : ¬ w < u) : u = w := by
  rw [Int32.lt_iff_toInt_lt] at h1 h2
  exact Int32.toInt_inj.mp (by omega)
theorem alc0 {P : Int32 → Prop} : ∀ x ∈ ([] : List Int32), P x := fun _ q => nomatch q
theorem alcS {P : Int32 → Prop} {y : Int32} {L : List Int32} (q : P y) (r : ∀ x ∈ L, P x) : ∀ x ∈ y :: L, P x := fun x z => (List.mem_cons.mp z).elim (fun u => u ▸ q) (r x)
theorem up255 (cs : List Int32) (h : ∀ c ∈ cs, ¬ c < 0 ∧ ¬ (255 : Int32) < c) : ∀ c ∈ cs, ¬ c < 0 ∧ ¬ (65535 : Int32) < c := fun c hc => ⟨(h c hc).1, fun q => (h c hc).2 (by rw [Int32.lt_iff_toInt_lt] at q ⊢; have e1 : (65535 : Int32).toInt = 65535 := rfl; have e2 : (255 : Int32).toInt = 255 := rfl; omega)⟩
theorem Gl.retN (X : Stand p l e R s m args below meth c T locs cells slots) (hx : p.tables.exec = Jvm.exec) {z : Int32} {t : FieldType} (hret : meth.sig.returnType = some t) (ht : t = .boolean ∨ t = .byte ∨ t = .char ∨ t = .short) (hd : decode c.code pc = .ok (.ireturn, 1)) (hlk : meth.locks = false) (hc : cells ≤ kc) (hs : slots ≤ ks) (hQ : Q (some (.int (nar t z))) T.heap locs) : Gl p.tables e below (EndN s Q kc ks) (T.setTop (mkF m pc Ls (.int z :: rest))) :=
  Gl.fin X (nov hret) hlk hc hs hQ fun _ hr => Jvm.RoadKit.retN X hx hret ht hd hr
theorem retIo (X : Stand p l e R s m args below meth c T locs cells slots) (hx : p.tables.exec = Jvm.exec) {z : Int32} (hret : meth.sig.returnType = some .int) (hd : decode c.code pc = .ok (.ireturn, 1)) {fs : List Frame}
    (hl : ∀ (f : JFrame) (acts : List Action), f.method = m → f.locked = none → f.entered = [] → (doReturn e (T.setTop f) acts (some (.int z))).1 = T.setFrames fs) : Steps p.tables e below (T.setTop (mkF m pc Ls (.int z :: rest))) (T.setFrames fs) :=
  retOut X hx hret rfl (Or.inl ⟨rfl, Or.inl rfl, _, rfl⟩) hd hl
theorem Gl.retI (X : Stand p l e R s m args below meth c T locs cells slots) (hx : p.tables.exec = Jvm.exec) {z : Int32} (hret : meth.sig.returnType = some .int) (hd : decode c.code pc = .ok (.ireturn, 1)) (hlk : meth.locks = false) (hc : cells ≤ kc) (hs : slots ≤ ks) (hQ : Q (some (.int z)) T.heap locs) : Gl p.tables e below (EndN s Q kc ks) (T.setTop (mkF m pc Ls (.int z :: rest))) :=
  Gl.fin X (nov hret) hlk hc hs hQ fun _ hr => retIo X hx hret hd hr
theorem Gl.retJ (X : Stand p l e R s m args below meth c T locs cells slots) (hx : p.tables.exec = Jvm.exec) {z : Int64} (hret : meth.sig.returnType = some .long) (hd : decode c.code pc = .ok (.lreturn, 1)) (hlk : meth.locks = false) (hc : cells ≤ kc) (hs : slots ≤ ks) (hQ : Q (some (.long z)) T.heap locs) : Gl p.tables e below (EndN s Q kc ks) (T.setTop (mkF m pc Ls (.long z :: rest))) :=
  Gl.fin X (nov hret) hlk hc hs hQ fun _ hr => retOut X hx hret rfl (Or.inr (Or.inl ⟨rfl, rfl, _, rfl⟩)) hd hr
theorem Gl.retA (X : Stand p l e R s m args below meth c T locs cells slots) (hx : p.tables.exec = Jvm.exec) {w : Value} {t : FieldType} (hret : meth.sig.returnType = some t) (ht : t.isReference = true) (hw : w.isRef = true) (hd : decode c.code pc = .ok (.areturn, 1)) (hlk : meth.locks = false) (hc : cells ≤ kc) (hs : slots ≤ ks) (hQ : Q (some w) T.heap locs) : Gl p.tables e below (EndN s Q kc ks) (T.setTop (mkF m pc Ls (w :: rest))) :=
  Gl.fin X (nov hret) hlk hc hs hQ fun _ hr => retOut X hx hret (narR hw ht) (Or.inr (Or.inr (Or.inr (Or.inr ⟨rfl, ht, hw⟩)))) hd hr
theorem Gl.ret0 (X : Stand p l e R s m args below meth c T locs cells slots) (hx : p.tables.exec = Jvm.exec) (hret : meth.sig.returnType = none) (hd : decode c.code pc = .ok (.return_, 1)) (hlk : meth.locks = false) (hc : cells ≤ kc) (hs : slots ≤ ks) (hQ : Q none T.heap locs) : Gl p.tables e below (EndN s Q kc ks) (T.setTop (mkF m pc Ls [])) :=
  Gl.fin X (fun _ => rfl) hlk hc hs hQ fun _ hr => X.returnOut hx hret hd hr
variable {vm₁ : Vm} {n : Nat}
theorem Gl.retNW (X : Stand p l e R (s.setVm vm₁) m args below meth c T locs cells slots) (hx : p.tables.exec = Jvm.exec) (hS : s.Since vm₁ n) (hn : n ≤ T.heap.size) {z : Int32} {t : FieldType} (hret : meth.sig.returnType = some t) (ht : t = .boolean ∨ t = .byte ∨ t = .char ∨ t = .short) (hd : decode c.code pc = .ok (.ireturn, 1)) (hlk : meth.locks = false) (hc : cells ≤ kc) (hs : slots ≤ ks) (hQ : Q (some (.int (nar t z))) T.heap locs) : Gl p.tables e below (EndW s Q kc ks) (T.setTop (mkF m pc Ls (.int z :: rest))) :=
  Gl.finW X hS hn (nov hret) hlk hc hs hQ fun _ hr => Jvm.RoadKit.retN X hx hret ht hd hr
theorem Gl.retIW (X : Stand p l e R (s.setVm vm₁) m args below meth c T locs cells slots) (hx : p.tables.exec = Jvm.exec) (hS : s.Since vm₁ n) (hn : n ≤ T.heap.size) {z : Int32} (hret : meth.sig.returnType = some .int) (hd : decode c.code pc = .ok (.ireturn, 1)) (hlk : meth.locks = false) (hc : cells ≤ kc) (hs : slots ≤ ks) (hQ : Q (some (.int z)) T.heap locs) : Gl p.tables e below (EndW s Q kc ks) (T.setTop (mkF m pc Ls (.int z :: rest))) :=
  Gl.finW X hS hn (nov hret) hlk hc hs hQ fun _ hr => retIo X hx hret hd hr
theorem Gl.retAW (X : Stand p l e R (s.setVm vm₁) m args below meth c T locs cells slots) (hx : p.tables.exec = Jvm.exec) (hS : s.Since vm₁ n) (hn : n ≤ T.heap.size) {w : Value} {t : FieldType} (hret : meth.sig.returnType = some t) (ht : t.isReference = true) (hw : w.isRef = true) (hd : decode c.code pc = .ok (.areturn, 1)) (hlk : meth.locks = false) (hc : cells ≤ kc) (hs : slots ≤ ks) (hQ : Q (some w) T.heap locs) : Gl p.tables e below (EndW s Q kc ks) (T.setTop (mkF m pc Ls (w :: rest))) :=
  Gl.finW X hS hn (nov hret) hlk hc hs hQ fun _ hr => retOut X hx hret (narR hw ht) (Or.inr (Or.inr (Or.inr (Or.inr ⟨rfl, ht, hw⟩)))) hd hr
theorem Gl.ret0W (X : Stand p l e R (s.setVm vm₁) m args below meth c T locs cells slots) (hx : p.tables.exec = Jvm.exec) (hS : s.Since vm₁ n) (hn : n ≤ T.heap.size) (hret : meth.sig.returnType = none) (hd : decode c.code pc = .ok (.return_, 1)) (hlk : meth.locks = false) (hc : cells ≤ kc) (hs : slots ≤ ks) (hQ : Q none T.heap locs) : Gl p.tables e below (EndW s Q kc ks) (T.setTop (mkF m pc Ls [])) :=
  Gl.finW X hS hn (fun _ => rfl) hlk hc hs hQ fun _ hr => X.returnOut hx hret hd hr
abbrev EndH (s : State) (Z : State) (EL : List (String × Nat)) (Q : Option Value → Heap → List Loc → Prop) (kc ks : Nat) : Outcome → State → Prop := fun o s₂ => ∃ v L, o = .returned v ∧ Q v s₂.heap L ∧ CHr Z EL s.vm s.heap s₂.vm s₂.heap ∧ ReturnedEndW s o s₂ L kc ks
variable {Z : State} {EL : List (String × Nat)}
theorem Gl.finH (X : Stand p l e R (s.setVm vm₁) m args below meth c T locs cells slots) (hS : s.Since vm₁ n) (hn : n ≤ T.heap.size) (hC : CHr Z EL s.vm s.heap T.vm T.heap) {v : Option Value} (hv : meth.sig.returnType = none → v = none) (hlk : meth.locks = false) (hc : cells ≤ kc) (hs : slots ≤ ks) (hQ : Q v T.heap locs)
    (k : ∀ fs, (∀ (f : JFrame) (acts : List Action), f.method = m → f.locked = none → f.entered = [] → (doReturn e (T.setTop f) acts v).1 = T.setFrames fs) → Steps p.tables e below S (T.setFrames fs)) : Gl p.tables e below (EndH s Z EL Q kc ks) S := by
  obtain ⟨fs, hr, hrun, hended, h1, h2, h3, hsame⟩ := X.leaveW hS hn hv hlk
  exact ⟨_, _, k fs hr, hrun, hended, v, locs, rfl, hQ, hC, h1, h2, h3, hsame.mono hc hs⟩
theorem Gl.retNH (X : Stand p l e R (s.setVm vm₁) m args below meth c T locs cells slots) (hx : p.tables.exec = Jvm.exec) (hS : s.Since vm₁ n) (hn : n ≤ T.heap.size) (hC : CHr Z EL s.vm s.heap T.vm T.heap) {z : Int32} {t : FieldType} (hret : meth.sig.returnType = some t) (ht : t = .boolean ∨ t = .byte ∨ t = .char ∨ t = .short) (hd : decode c.code pc = .ok (.ireturn, 1)) (hlk : meth.locks = false) (hc : cells ≤ kc) (hs : slots ≤ ks) (hQ : Q (some (.int (nar t z))) T.heap locs) : Gl p.tables e below (EndH s Z EL Q kc ks) (T.setTop (mkF m pc Ls (.int z :: rest))) :=
  Gl.finH X hS hn hC (nov hret) hlk hc hs hQ fun _ hr => Jvm.RoadKit.retN X hx hret ht hd hr
theorem Gl.retIH (X : Stand p l e R (s.setVm vm₁) m args below meth c T locs cells slots) (hx : p.tables.exec = Jvm.exec) (hS : s.Since vm₁ n) (hn : n ≤ T.heap.size) (hC : CHr Z EL s.vm s.heap T.vm T.heap) {z : Int32} (hret : meth.sig.returnType = some .int) (hd : decode c.code pc = .ok (.ireturn, 1)) (hlk : meth.locks = false) (hc : cells ≤ kc) (hs : slots ≤ ks) (hQ : Q (some (.int z)) T.heap locs) : Gl p.tables e below (EndH s Z EL Q kc ks) (T.setTop (mkF m pc Ls (.int z :: rest))) :=
  Gl.finH X hS hn hC (nov hret) hlk hc hs hQ fun _ hr => retIo X hx hret hd hr
theorem Gl.retAH (X : Stand p l e R (s.setVm vm₁) m args below meth c T locs cells slots) (hx : p.tables.exec = Jvm.exec) (hS : s.Since vm₁ n) (hn : n ≤ T.heap.size) (hC : CHr Z EL s.vm s.heap T.vm T.heap) {w : Value} {t : FieldType} (hret : meth.sig.returnType = some t) (ht : t.isReference = true) (hw : w.isRef = true) (hd : decode c.code pc = .ok (.areturn, 1)) (hlk : meth.locks = false) (hc : cells ≤ kc) (hs : slots ≤ ks) (hQ : Q (some w) T.heap locs) : Gl p.tables e below (EndH s Z EL Q kc ks) (T.setTop (mkF m pc Ls (w :: rest))) :=
  Gl.finH X hS hn hC (nov hret) hlk hc hs hQ fun _ hr => retOut X hx hret (narR hw ht) (Or.inr (Or.inr (Or.inr (Or.inr ⟨rfl, ht, hw⟩)))) hd hr
theorem Gl.ret0H (X : Stand p l e R (s.setVm vm₁) m args below meth c T locs cells slots) (hx : p.tables.exec = Jvm.exec) (hS : s.Since vm₁ n) (hn : n ≤ T.heap.size) (hC : CHr Z EL s.vm s.heap T.vm T.heap) (hret : meth.sig.returnType = none) (hd : decode c.code pc = .ok (.return_, 1)) (hlk : meth.locks = false) (hc : cells ≤ kc) (hs : slots ≤ ks) (hQ : Q none T.heap locs) : Gl p.tables e below (EndH s Z EL Q kc ks) (T.setTop (mkF m pc Ls [])) :=
  Gl.finH X hS hn hC (fun _ => rfl) hlk hc hs hQ fun _ hr => X.returnOut hx hret hd hr
theorem safe_nul {vm : Vm} {h : Heap} {x : Addr} (hal : Z.vm.Alike vm) (E : Exa Z h x "java/lang/String") (V : Fld Z h x "java/lang/String" "value" "[B" .null) : Safe Z EL vm h x := fun B => by
  obtain ⟨p, hp, u, a, hb, q, hqa, hS, hy⟩ := B
  obtain ⟨cS, ⟨⟨s1, s2, s3, ⟨cv, kv, iv, s4, s4'⟩, ⟨cc, kc, ic, s5, s5'⟩, s6, s7, s8, s9, s10, s11, s12, s13, s14, s15, s16⟩, hfS, hcS⟩, ⟨kS, k1, k2, k3⟩, hB, hbyt⟩ := hS
  rcases hy with rfl | rfl
  · obtain ⟨cell, cf, k, i, f, f1, f2, f3, f4, f5, f6, f7⟩ := V
    have e1 : cell = q.sC := Option.some.inj (f1.symm.trans s1)
    obtain ⟨kv', z4⟩ := ff_back (U := Wst Z vm h) hal s4
    cases f2.symm.trans z4
    rw [e1, s8] at f7
    cases f7
  · obtain ⟨cell, k, e1, e2, e3, e4, e5⟩ := E
    have e6 : cell = q.SA := Option.some.inj (e1.symm.trans s10)
    subst e6
    have hB' : Z.vm.findClass "[B" = some q.SA.cls := by rw [← hal.findClass]; exact hB
    obtain ⟨k1', a1, a2⟩ := Vm.findClass_spec e2
    obtain ⟨k2', b1, b2⟩ := Vm.findClass_spec hB'
    cases a1.symm.trans b1
    exact absurd (a2.symm.trans b2) (by decide)
/-- an object of a class whose superclass is the root is no instance of another class -/
theorem not_root {a0 : Array Value} {C O K : String} {n : Nat} (w : (Cond.superclass C O).before a0 Z = true) (wr : (Cond.noSuperclass O).before a0 Z = true) (wi : (Cond.instantiable K n).before a0 Z = true) (h1 : C ≠ K) (h2 : O ≠ K) : ∃ c t, Z.vm.findClass C = some c ∧ Z.vm.findClass K = some t ∧ Z.vm.assignable c t = false := by
  obtain ⟨t, kt, g1, g2, g3, g4, -⟩ := Cond.instantiable_spec wi
  obtain ⟨c, h0⟩ := found_sup w
  obtain ⟨p, k, kp, s1, s2, s3, s4, s5, s6, s7⟩ := Cond.superclass_spec h0 w
  obtain ⟨o, ko, o1, o2, o3, o4, o5⟩ := Cond.noSuperclass_spec wr
  have ne1 := ids_ne h0 g1 h1
  have ne2 := ids_ne o1 g1 h2
  have hi : kt.isInterface = false := by
    cases q : kt.isInterface with
    | false => rfl
    | true => rw [q] at g4; simp at g4
  have n0 : NS Z O K := ⟨o, t, o1, g1, fun fuel => by
    cases fuel with
    | zero => rfl
    | succ f => simp [Vm.isSubclassAux, ne2, o2, o3]⟩
  obtain ⟨c', t', a1, a2, n3⟩ := NS.step w n0 h1
  cases h0.symm.trans a1
  cases g1.symm.trans a2
  refine ⟨c, t, h0, g1, ?_⟩
  show Z.vm.assignableAux (255 + 1) c t = false
  simp [Vm.assignableAux, ne1, s2, g2, s5, g3, hi, Vm.isSubclass, n3]
end OwnKit
end Jvm.RoadKit
/- laws to paste: Road.backV, Road.eqW, Road.codOf (cut by pick.py; bodies as the Statement names them) -/
namespace Jvm.Pilot.@@N@@
namespace StrChars
open Jvm Sem ClassFile Op Lib Jvm.Stand Jvm.Free.XT Jvm.Free.ALB Jvm.Free.JM Jvm.Free
open Jvm.Lib.Cold (StaticIs)
/-- a char array whose places are chars -/
def Ch (a : Addr) (A : Cell) (U : State) : Prop := Arr .char a A U ∧ Typed .char A
theorem Ch.mv {a : Addr} {A : Cell} {U U' : State} (h : Ch a A U) (hal : U.vm.Alike U'.vm) (hh : U'.heap = U.heap) : Ch a A U' := ⟨h.1.mv hal hh, h.2⟩
theorem Ch.keep {a : Addr} {A : Cell} {U U' : State} (h : Ch a A U) (hal : U.vm.Alike U'.vm) (hk : U'.heap[a]? = some A) : Ch a A U' := ⟨h.1.keep hal hk, h.2⟩
/-- what place i of a char[]'s cell holds -/
def cv (A : Cell) (i : Nat) : Int32 := match A.slots[i]? with | some (.int x) => x | _ => 0
theorem Ch.get {a : Addr} {A : Cell} {U : State} (h : Ch a A U) {i : Nat} (hi : i < A.slots.size) : A.slots[i]? = some (.int (cv A i)) := by
  have e := Array.getElem?_eq_getElem hi
  have f := h.2 i _ e
  unfold cv; rw [e]
  generalize A.slots[i] = v at f
  cases v <;> simp [fits] at f ⊢
/-- the byte that i2b leaves of a char -/
def lo8 (x : Int32) : Int32 := x.toInt8.toInt32
theorem fits_lo8 (y : Int32) : fits .byte (.int (lo8 y)) = true := by
  have h1 := y.toInt8.le_toInt
  have h2 := y.toInt8.toInt_lt
  simp only [lo8, fits, Bool.and_eq_true, decide_eq_true_eq, Int32.le_iff_toInt_le, Int8.toInt_toInt32, show (-128 : Int32).toInt = -128 from by decide, show (127 : Int32).toInt = 127 from by decide]
  omega
/-- A' is A but that each place j of lo .. hi - 1 holds f j -/
def Laid (A A' : Cell) (lo hi : Nat) (f : Nat → Value) : Prop := A'.cls = A.cls ∧ A'.vm = A.vm ∧ A'.slots.size = A.slots.size ∧ ∀ i, A'.slots[i]? = if lo ≤ i ∧ i < hi then some (f i) else A.slots[i]?
theorem Laid.zero (A : Cell) (lo : Nat) (f : Nat → Value) : Laid A A lo (lo + 0) f := ⟨rfl, rfl, rfl, fun i => by rw [if_neg (by omega)]⟩
theorem Laid.step {A Ak : Cell} {lo k : Nat} {f : Nat → Value} {v : Value} (h : Laid A Ak lo k f) (hlo : lo ≤ k) (hk : k < Ak.slots.size) (hv : v = f k) : Laid A (Ak.setSlot k v) lo (k + 1) f := by
  refine ⟨h.1, h.2.1, by simpa [Cell.setSlot] using h.2.2.1, fun i => ?_⟩
  by_cases e : k = i
  · subst e; rw [Cell.slots_setSlot_self v hk, if_pos (by omega), hv]
  · rw [Cell.slots_setSlot_ne v e, h.2.2.2 i]
    by_cases q : lo ≤ i ∧ i < k
    · rw [if_pos q, if_pos (by omega)]
    · rw [if_neg q, if_neg (by omega)]
def U16 : String := "java/lang/StringUTF16"
namespace Cmp5
def yN : MethodName := ⟨"java/lang/StringUTF16", "compress", "([CI[BII)I"⟩
abbrev yB : ByteArray := jdk_52_method_21_code
theorem d0 : decode yB 0 = .ok (.iconst 0, 1) := by decide +kernel
theorem d1 : decode yB 1 = .ok (.istore 5, 2) := by decide +kernel
theorem d3 : decode yB 3 = .ok (.iload 5, 2) := by decide +kernel
theorem d5 : decode yB 5 = .ok (.iload 4, 2) := by decide +kernel
theorem d7 : decode yB 7 = .ok (.if_icmp (.ge) 37, 3) := by decide +kernel
theorem d10 : decode yB 10 = .ok (.aload_n 0, 1) := by decide +kernel
theorem d11 : decode yB 11 = .ok (.iload_n 1, 1) := by decide +kernel
theorem d12 : decode yB 12 = .ok (.caload, 1) := by decide +kernel
theorem d13 : decode yB 13 = .ok (.istore 6, 2) := by decide +kernel
theorem d15 : decode yB 15 = .ok (.iload 6, 2) := by decide +kernel
theorem d17 : decode yB 17 = .ok (.sipush 255, 3) := by decide +kernel
theorem d20 : decode yB 20 = .ok (.if_icmp (.le) 6, 3) := by decide +kernel
theorem d26 : decode yB 26 = .ok (.aload_n 2, 1) := by decide +kernel
theorem d27 : decode yB 27 = .ok (.iload_n 3, 1) := by decide +kernel
theorem d28 : decode yB 28 = .ok (.iload 6, 2) := by decide +kernel
theorem d30 : decode yB 30 = .ok (.i2b, 1) := by decide +kernel
theorem d31 : decode yB 31 = .ok (.bastore, 1) := by decide +kernel
theorem d32 : decode yB 32 = .ok (.iinc 1 1, 3) := by decide +kernel
theorem d35 : decode yB 35 = .ok (.iinc 3 1, 3) := by decide +kernel
theorem d38 : decode yB 38 = .ok (.iinc 5 1, 3) := by decide +kernel
theorem d41 : decode yB 41 = .ok (.goto (-38), 3) := by decide +kernel
theorem d44 : decode yB 44 = .ok (.iload 4, 2) := by decide +kernel
theorem d46 : decode yB 46 = .ok (.ireturn, 1) := by decide +kernel
def site : List Cond := []
def tab : Cond := tabOf yN yB 7 (some .int) site
def P (b : Addr) (A : Cell) (d : Addr) (B : Cell) (o q len : Nat) (args : Array Value) (s : State) : Prop := args = #[.ref b, .int (Int32.ofNat o), .ref d, .int (Int32.ofNat q), .int (Int32.ofNat len)] ∧ Ch b A s ∧ Arr .byte d B s ∧ b ≠ d ∧ o + len ≤ A.slots.size ∧ q + len ≤ B.slots.size ∧ ∀ i, i < len → ¬ 255 < cv A (o + i)
def E (b : Addr) (A : Cell) (d : Addr) (B : Cell) (o q len : Nat) (r : Option Value) (s u : State) : Prop := r = some (.int (Int32.ofNat len)) ∧ ∃ B', Put d B' s u ∧ Laid B B' q (q + len) (fun j => Value.int (lo8 (cv A (o + (j - q)))))
/-- no char of the range above 255: len; the places written hold each char's low byte -/
theorem law (l : Launch) (b : Addr) (A : Cell) (d : Addr) (B : Cell) (o q len : Nat) : Law l yN 5 5 0 0 yB 7 (some .int) site (P b A d B o q len) (E b A d B o q len) (copyLocs d q len) 0 0 := by
  refine Law.of_walk (plainFor_of_name (by decide +kernel)) (by decide +kernel) (by decide +kernel) (by decide) (fun _ _ h => by rw [h.1]; rfl) (fun _ U U' hal hh h => ⟨h.1, h.2.1.mv hal hh, h.2.2.1.mv hal hh, h.2.2.2⟩) (fun r U U' V V' h1 hal h2 h => ⟨h.1, h.2.elim fun B' q => ⟨B', q.1.mv h1 h2, q.2⟩⟩) ?_
  intro p e s m args below meth c s₁ X0 hexec hbytes hml hret hlk hnm hown hh0 W hP
  obtain ⟨rfl, hA, hB, hne, l1, l2, hp⟩ := hP
  have c1 : Steps p.tables e below (s₁.setTop (entryFrame m #[.ref b, .int (Int32.ofNat o), .ref d, .int (Int32.ofNat q), .int (Int32.ofNat len)] 7)) (s₁.setTop (mkF m 0 #[.val (.ref b), .val (.int (Int32.ofNat o)), .val (.ref d), .val (.int (Int32.ofNat q)), .val (.int (Int32.ofNat len)), .unset, .unset] [])) := entry rfl
  have hA0 := hA.1.mv X0.warmed.alike hh0
  have hB0 := hB.mv X0.warmed.alike hh0
  have a31 := hA.1.2.2.2
  have c2 : Steps p.tables e below (s₁.setTop (entryFrame m #[.ref b, .int (Int32.ofNat o), .ref d, .int (Int32.ofNat q), .int (Int32.ofNat len)] 7)) (s₁.setTop (mkF m 3 #[.val (.ref b), .val (.int (Int32.ofNat o)), .val (.ref d), .val (.int (Int32.ofNat q)), .val (.int (Int32.ofNat len)), .val (.int 0), .unset] [])) := c1.trans (by
    refine iconstV X0.here hexec rfl 0 (hb hbytes d0) (by decide) ?_
    refine XS.istore X0.here hexec rfl (hb hbytes d1) rfl rfl ?_
    exact Steps.refl _)
  have loop : ∀ (r i : Nat), i + r = len → ∀ (z : Slot), (z = .unset ∨ ∃ w, z = .val w ∧ w.category = 1) → ∀ (Tl : State) (Bk : Cell), Stand p l e { frames := 0, locals := 0, cells := 0, slots := 0 } s m #[.ref b, .int (Int32.ofNat o), .ref d, .int (Int32.ofNat q), .int (Int32.ofNat len)] below meth c Tl ([] ++ copyLocs d q i) 0 0 → Put d Bk s₁ Tl → Laid B Bk q (q + i) (fun j => Value.int (lo8 (cv A (o + (j - q))))) →
      Steps p.tables e below (s₁.setTop (entryFrame m #[.ref b, .int (Int32.ofNat o), .ref d, .int (Int32.ofNat q), .int (Int32.ofNat len)] 7)) (Tl.setTop (mkF m 3 #[.val (.ref b), .val (.int (Int32.ofNat (o + i))), .val (.ref d), .val (.int (Int32.ofNat (q + i))), .val (.int (Int32.ofNat len)), .val (.int (Int32.ofNat i)), z] [])) → ∃ (T' : State) (B' : Cell) (z' : Slot), Stand p l e { frames := 0, locals := 0, cells := 0, slots := 0 } s m #[.ref b, .int (Int32.ofNat o), .ref d, .int (Int32.ofNat q), .int (Int32.ofNat len)] below meth c T' ([] ++ copyLocs d q len) 0 0 ∧ Put d B' s₁ T' ∧ Laid B B' q (q + len) (fun j => Value.int (lo8 (cv A (o + (j - q))))) ∧
      Steps p.tables e below (s₁.setTop (entryFrame m #[.ref b, .int (Int32.ofNat o), .ref d, .int (Int32.ofNat q), .int (Int32.ofNat len)] 7)) (T'.setTop (mkF m 3 #[.val (.ref b), .val (.int (Int32.ofNat (o + len))), .val (.ref d), .val (.int (Int32.ofNat (q + len))), .val (.int (Int32.ofNat len)), .val (.int (Int32.ofNat len)), z'] [])) := by
    intro r
    induction r with
    | zero =>
      intro i hi z hz Tl Bk Xl pl fl cl
      have hil : i = len := by omega
      rw [hil] at Xl fl cl
      exact ⟨Tl, Bk, z, Xl, pl, fl, cl⟩
    | succ r ih =>
      intro i hi z hz Tl Bk Xl pl fl cl
      have all := X0.warmed.alike.symm.trans Xl.warmed.alike
      have hAl := hA0.keep all (pl.other hne hA0.1)
      have hBk := hB0.like all pl.1 fl.1 fl.2.1 fl.2.2.1
      have hlt : q + i < Bk.slots.size := by rw [fl.2.2.1]; omega
      have c3 : Steps p.tables e below (s₁.setTop (entryFrame m #[.ref b, .int (Int32.ofNat o), .ref d, .int (Int32.ofNat q), .int (Int32.ofNat len)] 7)) (Tl.setTop (mkF m 12 #[.val (.ref b), .val (.int (Int32.ofNat (o + i))), .val (.ref d), .val (.int (Int32.ofNat (q + i))), .val (.int (Int32.ofNat len)), .val (.int (Int32.ofNat i)), z] [.int (Int32.ofNat (o + i)), .ref b])) := cl.trans (by
        refine XS.iload Xl.here hexec rfl (hb hbytes d3) rfl ?_
        refine XS.iload Xl.here hexec rfl (hb hbytes d5) rfl ?_
        refine XS.icmpNo Xl.here hexec rfl (hb hbytes d7) rfl (ii_ge_f (lt32 (by omega) (by omega))) ?_
        refine XS.aloadN Xl.here hexec rfl (hb hbytes d10) rfl rfl ?_
        refine XS.iloadN Xl.here hexec rfl (hb hbytes d11) rfl ?_
        exact Steps.refl _)
      have c4 : Steps p.tables e below (s₁.setTop (entryFrame m #[.ref b, .int (Int32.ofNat o), .ref d, .int (Int32.ofNat q), .int (Int32.ofNat len)] 7)) (Tl.setTop (mkF m 13 #[.val (.ref b), .val (.int (Int32.ofNat (o + i))), .val (.ref d), .val (.int (Int32.ofNat (q + i))), .val (.int (Int32.ofNat len)), .val (.int (Int32.ofNat i)), z] [.int (cv A (o + i))])) := c3.trans (by
        refine Xl.aget hexec hAl rfl (hA.get (i := o + i) (by omega)) rfl rfl (hb hbytes d12) ?_
        exact Steps.refl _)
      have c5 : Steps p.tables e below (s₁.setTop (entryFrame m #[.ref b, .int (Int32.ofNat o), .ref d, .int (Int32.ofNat q), .int (Int32.ofNat len)] 7)) (Tl.setTop (mkF m 15 #[.val (.ref b), .val (.int (Int32.ofNat (o + i))), .val (.ref d), .val (.int (Int32.ofNat (q + i))), .val (.int (Int32.ofNat len)), .val (.int (Int32.ofNat i)), .val (.int (cv A (o + i)))] [])) := c4.trans (by
        refine XS.istoreS Xl.here hexec rfl (hb hbytes d13) rfl rfl hz ?_
        exact Steps.refl _)
      have c6 : Steps p.tables e below (s₁.setTop (entryFrame m #[.ref b, .int (Int32.ofNat o), .ref d, .int (Int32.ofNat q), .int (Int32.ofNat len)] 7)) (Tl.setTop (mkF m 31 #[.val (.ref b), .val (.int (Int32.ofNat (o + i))), .val (.ref d), .val (.int (Int32.ofNat (q + i))), .val (.int (Int32.ofNat len)), .val (.int (Int32.ofNat i)), .val (.int (cv A (o + i)))] [.int (lo8 (cv A (o + i))), .int (Int32.ofNat (q + i)), .ref d])) := c5.trans (by
        refine XS.iload Xl.here hexec rfl (hb hbytes d15) rfl ?_
        refine sipushV Xl.here hexec rfl 255 (hb hbytes d17) (by decide) ?_
        refine XS.icmpYes Xl.here hexec rfl (pc0 := 20) rfl (hb hbytes d20) rfl (ii_le_t (hp i (by omega))) (by decide) rfl ?_
        refine XS.aloadN Xl.here hexec rfl (hb hbytes d26) rfl rfl ?_
        refine XS.iloadN Xl.here hexec rfl (hb hbytes d27) rfl ?_
        refine XS.iload Xl.here hexec rfl (hb hbytes d28) rfl ?_
        refine i2b Xl.here hexec rfl (hb hbytes d30) rfl ?_
        exact Steps.refl _)
      obtain ⟨T7, X7, p7, st7⟩ := Xl.aput hexec hBk rfl hlt rfl (fits_lo8 (cv A (o + i))) (g := (mkF m 31 #[.val (.ref b), .val (.int (Int32.ofNat (o + i))), .val (.ref d), .val (.int (Int32.ofNat (q + i))), .val (.int (Int32.ofNat len)), .val (.int (Int32.ofNat i)), .val (.int (cv A (o + i)))] [.int (lo8 (cv A (o + i))), .int (Int32.ofNat (q + i)), .ref d])) rfl (rest := []) rfl (hb hbytes d31)
      have c8 : Steps p.tables e below (s₁.setTop (entryFrame m #[.ref b, .int (Int32.ofNat o), .ref d, .int (Int32.ofNat q), .int (Int32.ofNat len)] 7)) (T7.setTop (mkF m 32 #[.val (.ref b), .val (.int (Int32.ofNat (o + i))), .val (.ref d), .val (.int (Int32.ofNat (q + i))), .val (.int (Int32.ofNat len)), .val (.int (Int32.ofNat i)), .val (.int (cv A (o + i)))] [])) := c6.trans (st7 _ (Steps.refl _))
      have c9 : Steps p.tables e below (s₁.setTop (entryFrame m #[.ref b, .int (Int32.ofNat o), .ref d, .int (Int32.ofNat q), .int (Int32.ofNat len)] 7)) (T7.setTop (mkF m 3 #[.val (.ref b), .val (.int (Int32.ofNat (o + i) + 1)), .val (.ref d), .val (.int (Int32.ofNat (q + i) + 1)), .val (.int (Int32.ofNat len)), .val (.int (Int32.ofNat i + 1)), .val (.int (cv A (o + i)))] [])) := c8.trans (by
        refine iincV X7.here hexec rfl 1 (hb hbytes d32) (by decide) rfl rfl ?_
        refine iincV X7.here hexec rfl 1 (hb hbytes d35) (by decide) rfl rfl ?_
        refine iincV X7.here hexec rfl 1 (hb hbytes d38) (by decide) rfl rfl ?_
        refine XS.goto X7.here hexec rfl (pc0 := 41) rfl (hb hbytes d41) (by decide) rfl ?_
        exact Steps.refl _)
      have c10 : Steps p.tables e below (s₁.setTop (entryFrame m #[.ref b, .int (Int32.ofNat o), .ref d, .int (Int32.ofNat q), .int (Int32.ofNat len)] 7)) (T7.setTop (mkF m 3 #[.val (.ref b), .val (.int (Int32.ofNat (o + (i + 1)))), .val (.ref d), .val (.int (Int32.ofNat (q + (i + 1)))), .val (.int (Int32.ofNat len)), .val (.int (Int32.ofNat (i + 1))), .val (.int (cv A (o + i)))] [])) := by
        have := c9
        rw [succ32, succ32, succ32] at this
        exact this
      exact ih (i + 1) (by omega) _ (Or.inr ⟨_, rfl, rfl⟩) T7 _ (by rw [copyLocs_step, ← List.append_assoc]; exact X7) (pl.trans p7) (fl.step (by omega) hlt (by simp)) c10
  obtain ⟨T9, B9, z9, X9, p9, f9, g9⟩ := loop len 0 (by omega) .unset (Or.inl rfl) s₁ B (by simpa [copyLocs] using X0) ⟨hB0.1, fun _ _ => rfl, rfl⟩ (Laid.zero _ _ _) c2
  have c11 : Steps p.tables e below (s₁.setTop (entryFrame m #[.ref b, .int (Int32.ofNat o), .ref d, .int (Int32.ofNat q), .int (Int32.ofNat len)] 7)) (T9.setTop (mkF m 46 #[.val (.ref b), .val (.int (Int32.ofNat (o + len))), .val (.ref d), .val (.int (Int32.ofNat (q + len))), .val (.int (Int32.ofNat len)), .val (.int (Int32.ofNat len)), z9] [.int (Int32.ofNat len)])) := g9.trans (by
    refine XS.iload X9.here hexec rfl (hb hbytes d3) rfl ?_
    refine XS.iload X9.here hexec rfl (hb hbytes d5) rfl ?_
    refine XS.icmpYes X9.here hexec rfl (pc0 := 7) rfl (hb hbytes d7) rfl (ii_ge_t (nlt32 (by omega) (Nat.le_refl _))) (by decide) rfl ?_
    refine XS.iload X9.here hexec rfl (hb hbytes d44) rfl ?_
    exact Steps.refl _)
  exact ⟨T9, some (.int (Int32.ofNat len)), _, _, _, X9, by simp, rfl, rfl, (fun h => by cases h), ⟨rfl, B9, p9.from hh0, f9⟩, fun fs hl => c11.trans (X9.ireturnOut hexec hret rfl (Or.inl rfl) (hb hbytes d46) hl)⟩
end Cmp5
namespace Cmp3
def yN : MethodName := ⟨"java/lang/StringUTF16", "compress", "([CII)[B"⟩
abbrev yB : ByteArray := jdk_52_method_16_code
theorem d0 : decode yB 0 = .ok (.iload_n 2, 1) := by decide +kernel
theorem d1 : decode yB 1 = .ok (.newarray .byte, 2) := by decide +kernel
theorem d3 : decode yB 3 = .ok (.astore_n 3, 1) := by decide +kernel
theorem d4 : decode yB 4 = .ok (.aload_n 0, 1) := by decide +kernel
theorem d5 : decode yB 5 = .ok (.iload_n 1, 1) := by decide +kernel
theorem d6 : decode yB 6 = .ok (.aload_n 3, 1) := by decide +kernel
theorem d7 : decode yB 7 = .ok (.iconst 0, 1) := by decide +kernel
theorem d8 : decode yB 8 = .ok (.iload_n 2, 1) := by decide +kernel
theorem d9 : decode yB 9 = .ok (.invokestatic 115, 3) := by decide +kernel
theorem d12 : decode yB 12 = .ok (.istore 4, 2) := by decide +kernel
theorem d14 : decode yB 14 = .ok (.iload 4, 2) := by decide +kernel
theorem d16 : decode yB 16 = .ok (.iload_n 2, 1) := by decide +kernel
theorem d17 : decode yB 17 = .ok (.if_icmp (.eq) 40, 3) := by decide +kernel
theorem d57 : decode yB 57 = .ok (.aload_n 3, 1) := by decide +kernel
theorem d58 : decode yB 58 = .ok (.areturn, 1) := by decide +kernel
def site : List Cond := [.arrayClass .byte, Cmp5.tab] ++ staticW U16 115 Cmp5.yN
def tab : Cond := tabOf yN yB 6 (some (.array .byte)) site
def P (b : Addr) (A : Cell) (o len : Nat) (args : Array Value) (s : State) : Prop := args = #[.ref b, .int (Int32.ofNat o), .int (Int32.ofNat len)] ∧ Ch b A s ∧ o + len ≤ A.slots.size ∧ len ≤ 536870912 ∧ ∀ i, i < len → ¬ 255 < cv A (o + i)
def E (b : Addr) (A : Cell) (o len : Nat) (r : Option Value) (s u : State) : Prop := NewArr .byte "[B" len (fun j => .int (lo8 (cv A (o + j)))) r s u ∧ u.heap.size = s.heap.size + 1
/-- no char of the range above 255: a new byte[] of their low bytes -/
theorem law (l : Launch) (b : Addr) (A : Cell) (o len : Nat) : Law l yN 3 3 1 18 yB 6 (some (.array .byte)) site (P b A o len) (E b A o len) [] 1 len := by
  refine Law.of_walk (plainFor_of_name (by decide +kernel)) (by decide +kernel) (by decide +kernel) (by decide) (fun _ _ h => by rw [h.1]; rfl) (fun _ U U' hal hh h => ⟨h.1, h.2.1.mv hal hh, h.2.2⟩) (fun r U U' V V' h1 hal h2 h => ⟨NewArr.mv r U U' V V' h1 hal h2 h.1, by rw [h1, h2]; exact h.2⟩) ?_
  intro p e s m args below meth c s₁ X0 hexec hbytes hml hret hlk hnm hown hh0 W hP
  obtain ⟨rfl, hA, l1, l2, hp⟩ := hP
  have a31 := hA.1.2.2.2
  have c1 : Steps p.tables e below (s₁.setTop (entryFrame m #[.ref b, .int (Int32.ofNat o), .int (Int32.ofNat len)] 6)) (s₁.setTop (mkF m 0 #[.val (.ref b), .val (.int (Int32.ofNat o)), .val (.int (Int32.ofNat len)), .unset, .unset, .unset] [])) := entry rfl
  have c2 : Steps p.tables e below (s₁.setTop (entryFrame m #[.ref b, .int (Int32.ofNat o), .int (Int32.ofNat len)] 6)) (s₁.setTop (mkF m 1 #[.val (.ref b), .val (.int (Int32.ofNat o)), .val (.int (Int32.ofNat len)), .unset, .unset, .unset] [.int (Int32.ofNat len)])) := c1.trans (by
    refine XS.iloadN X0.here hexec rfl (hb hbytes d0) rfl ?_
    exact Steps.refl _)
  obtain ⟨T3, B3, X3, ba3, bs3, bv3, bh3, bf3, st3⟩ := X0.anew hexec (atype := .byte) (wk W (.arrayClass .byte)) rfl (by show len * 1 ≤ _; omega) (by omega) (g := (mkF m 1 #[.val (.ref b), .val (.int (Int32.ofNat o)), .val (.int (Int32.ofNat len)), .unset, .unset, .unset] [.int (Int32.ofNat len)])) rfl (hb hbytes d1) (rest := []) rfl (Nat.le_refl _) (by show 0 + len ≤ len; omega)
  rw [hh0] at ba3 st3
  have kp3 : XT.Kept s T3 := (XT.Kept.of_eq hh0).push bh3
  have hA3 := hA.keep X3.warmed.alike (kp3 _ _ hA.1.1)
  have hne : b ≠ s.heap.size := hA.1.ne
  have c4 : Steps p.tables e below (s₁.setTop (entryFrame m #[.ref b, .int (Int32.ofNat o), .int (Int32.ofNat len)] 6)) (T3.setTop (mkF m 3 #[.val (.ref b), .val (.int (Int32.ofNat o)), .val (.int (Int32.ofNat len)), .unset, .unset, .unset] [.ref s.heap.size])) := c2.trans (st3 _ (Steps.refl _))
  have c5 : Steps p.tables e below (s₁.setTop (entryFrame m #[.ref b, .int (Int32.ofNat o), .int (Int32.ofNat len)] 6)) (T3.setTop (mkF m 9 #[.val (.ref b), .val (.int (Int32.ofNat o)), .val (.int (Int32.ofNat len)), .val (.ref s.heap.size), .unset, .unset] [.int (Int32.ofNat len), .int 0, .ref s.heap.size, .int (Int32.ofNat o), .ref b])) := c4.trans (by
    refine XS.astoreN X3.here hexec rfl (hb hbytes d3) rfl rfl rfl ?_
    refine XS.aloadN X3.here hexec rfl (hb hbytes d4) rfl rfl ?_
    refine XS.iloadN X3.here hexec rfl (hb hbytes d5) rfl ?_
    refine XS.aloadN X3.here hexec rfl (hb hbytes d6) rfl rfl ?_
    refine iconstV X3.here hexec rfl 0 (hb hbytes d7) (by decide) ?_
    refine XS.iloadN X3.here hexec rfl (hb hbytes d8) rfl ?_
    exact Steps.refl _)
  obtain ⟨v6, T6, X6, E6, g6⟩ := X3.callS hexec (Cmp5.law l b A s.heap.size B3 o 0 len) hown (wks W (staticW U16 115 Cmp5.yN)) (wk W Cmp5.tab) (W := 0) (Nat.le_of_ble_eq_true rfl) (Nat.le_of_ble_eq_true rfl) (Nat.le_refl _) (by show 0 + len + 0 ≤ len; omega) (g := (mkF m 9 #[.val (.ref b), .val (.int (Int32.ofNat o)), .val (.int (Int32.ofNat len)), .val (.ref s.heap.size), .unset, .unset] [.int (Int32.ofNat len), .int (Int32.ofNat 0), .ref s.heap.size, .int (Int32.ofNat o), .ref b])) rfl (by rw [hml]; rfl) c5 (argsL := [.ref b, .int (Int32.ofNat o), .ref s.heap.size, .int (Int32.ofNat 0), .int (Int32.ofNat len)]) (rest := []) rfl rfl (by show 2 * 0 + 0 ≤ _; decide) (hb hbytes d9) (⟨rfl, hA3, ba3, hne, l1, by rw [bs3]; simp, hp⟩)
  obtain ⟨rfl, B6, p6, f6⟩ := E6
  have c7 : Steps p.tables e below (s₁.setTop (entryFrame m #[.ref b, .int (Int32.ofNat o), .int (Int32.ofNat len)] 6)) (T6.setTop (mkF m 12 #[.val (.ref b), .val (.int (Int32.ofNat o)), .val (.int (Int32.ofNat len)), .val (.ref s.heap.size), .unset, .unset] [.int (Int32.ofNat len)])) := g6
  have c8 : Steps p.tables e below (s₁.setTop (entryFrame m #[.ref b, .int (Int32.ofNat o), .int (Int32.ofNat len)] 6)) (T6.setTop (mkF m 58 #[.val (.ref b), .val (.int (Int32.ofNat o)), .val (.int (Int32.ofNat len)), .val (.ref s.heap.size), .val (.int (Int32.ofNat len)), .unset] [.ref s.heap.size])) := c7.trans (by
    refine XS.istore X6.here hexec rfl (hb hbytes d12) rfl rfl ?_
    refine XS.iload X6.here hexec rfl (hb hbytes d14) rfl ?_
    refine XS.iloadN X6.here hexec rfl (hb hbytes d16) rfl ?_
    refine XS.icmpYes X6.here hexec rfl (pc0 := 17) rfl (hb hbytes d17) rfl (ii_eq_t rfl) (by decide) rfl ?_
    refine XS.aloadN X6.here hexec rfl (hb hbytes d57) rfl rfl ?_
    exact Steps.refl _)
  have X8 := X6.wide (L' := []) (cells' := 1) (slots' := len) (fun x hx hlt => by
    simp only [List.nil_append, copyLocs, List.mem_map, List.mem_range] at hx
    obtain ⟨i, -, rfl⟩ := hx
    exact absurd hlt (Nat.lt_irrefl _)) (Nat.le_refl _) (by omega)
  exact ⟨T6, some (.ref s.heap.size), _, _, _, X8, rfl, rfl, rfl, (fun h => by cases h), ⟨⟨rfl, B6, ba3.like (X3.warmed.alike.symm.trans X6.warmed.alike) p6.1 f6.1 f6.2.1 f6.2.2.1, f6.2.1.trans bv3, by rw [X6.warmed.alike.findClass, f6.1]; exact bf3, by rw [f6.2.2.1, bs3]; simp, fun j hj => by rw [f6.2.2.2 j, if_pos (by omega)]; rfl, kp3.put p6 (Nat.le_refl _)⟩, by rw [p6.2.2, bh3, hh0]; simp⟩, fun fs hl => c8.trans (X8.areturnOut hexec rfl hret rfl (hb hbytes d58) hl)⟩
end Cmp3
namespace CodL
def yN : MethodName := ⟨"java/lang/StringUTF16", "coderFromArrayLen", "([BI)B"⟩
abbrev yB : ByteArray := jdk_52_method_15_code
theorem d0 : decode yB 0 = .ok (.iload_n 1, 1) := by decide +kernel
theorem d1 : decode yB 1 = .ok (.aload_n 0, 1) := by decide +kernel
theorem d2 : decode yB 2 = .ok (.arraylength, 1) := by decide +kernel
theorem d3 : decode yB 3 = .ok (.isub, 1) := by decide +kernel
theorem d4 : decode yB 4 = .ok (.bipush 31, 2) := by decide +kernel
theorem d6 : decode yB 6 = .ok (.iushr, 1) := by decide +kernel
theorem d7 : decode yB 7 = .ok (.i2b, 1) := by decide +kernel
theorem d8 : decode yB 8 = .ok (.ireturn, 1) := by decide +kernel
def site : List Cond := []
def tab : Cond := tabOf yN yB 2 (some .byte) site
def P (d : Addr) (B : Cell) (args : Array Value) (s : State) : Prop := args = #[.ref d, .int (Int32.ofNat B.slots.size)] ∧ Arr .byte d B s
def E (r : Option Value) (s u : State) : Prop := XT.PureE (some (.int 0)) r s u
/-- an array as long as the number of chars: LATIN1 -/
theorem law (l : Launch) (d : Addr) (B : Cell) : Law l yN 2 2 0 0 yB 2 (some .byte) site (P d B) E [] 0 0 := by
  refine Law.of_walk (plainFor_of_name (by decide +kernel)) (by decide +kernel) (by decide +kernel) (by decide) (fun _ _ h => by rw [h.1]; rfl) (fun _ U U' hal hh h => ⟨h.1, h.2.mv hal hh⟩) (fun r U U' V V' h1 hal h2 h => XT.PureE.mv r U U' V V' h1 hal h2 h) ?_
  intro p e s m args below meth c s₁ X0 hexec hbytes hml hret hlk hnm hown hh0 W hP
  obtain ⟨rfl, hB⟩ := hP
  have hB0 := hB.mv X0.warmed.alike hh0
  have c1 : Steps p.tables e below (s₁.setTop (entryFrame m #[.ref d, .int (Int32.ofNat B.slots.size)] 2)) (s₁.setTop (mkF m 0 #[.val (.ref d), .val (.int (Int32.ofNat B.slots.size))] [])) := entry rfl
  have c2 : Steps p.tables e below (s₁.setTop (entryFrame m #[.ref d, .int (Int32.ofNat B.slots.size)] 2)) (s₁.setTop (mkF m 2 #[.val (.ref d), .val (.int (Int32.ofNat B.slots.size))] [.ref d, .int (Int32.ofNat B.slots.size)])) := c1.trans (by
    refine XS.iloadN X0.here hexec rfl (hb hbytes d0) rfl ?_
    refine XS.aloadN X0.here hexec rfl (hb hbytes d1) rfl rfl ?_
    exact Steps.refl _)
  have c3 : Steps p.tables e below (s₁.setTop (entryFrame m #[.ref d, .int (Int32.ofNat B.slots.size)] 2)) (s₁.setTop (mkF m 8 #[.val (.ref d), .val (.int (Int32.ofNat B.slots.size))] [.int (lo8 (ushr (Int32.ofNat B.slots.size - Int32.ofNat B.slots.size) 31))])) := c2.trans (by
    refine X0.alen hexec hB0 rfl rfl (hb hbytes d2) ?_
    refine XS.isub X0.here hexec rfl (hb hbytes d3) rfl ?_
    refine bipushV X0.here hexec rfl 31 (hb hbytes d4) (by decide) ?_
    refine iushr X0.here hexec rfl (hb hbytes d6) rfl ?_
    refine i2b X0.here hexec rfl (hb hbytes d7) rfl ?_
    exact Steps.refl _)
  have e0 : lo8 (ushr (Int32.ofNat B.slots.size - Int32.ofNat B.slots.size) 31) = 0 := by rw [Int32.sub_self]; decide
  rw [e0] at c3
  exact ⟨s₁, some (.int 0), _, _, _, X0, rfl, rfl, rfl, (fun h => by cases h), ⟨rfl, hh0⟩, fun fs hl => c3.trans (X0.ireturnOut hexec hret rfl (Or.inr (Or.inr (Or.inl rfl))) (hb hbytes d8) hl)⟩
end CodL
/-- the String at a is Latin-1 over a new byte[] (the heap's one new cell): the low bytes of the len chars of A from o on; every cell but a is kept -/
def Got (a : Addr) (D : Cell) (fV fC : Field) (A : Cell) (o len : Nat) (r : Option Value) (s u : State) : Prop := r = none ∧ ∃ D' V : Cell, Blank "java/lang/String" a D' u ∧ Same D D' [fV.slot, fC.slot] ∧ D'.slots[fV.slot]? = some (.ref s.heap.size) ∧ D'.slots[fC.slot]? = some (.int 0) ∧ Arr .byte s.heap.size V u ∧ V.vm = .none ∧ u.vm.findClass "[B" = some V.cls ∧ V.slots.size = len ∧ (∀ j, j < len → V.slots[j]? = some (.int (lo8 (cv A (o + j))))) ∧ (∀ (y : Addr) (c : Cell), y ≠ a → s.heap[y]? = some c → u.heap[y]? = some c) ∧ u.heap.size = s.heap.size + 1
theorem Got.mv {a : Addr} {D A : Cell} {fV fC : Field} {o len : Nat} : ∀ r (U U' V V' : State), U'.heap = U.heap → V.vm.Alike V'.vm → V'.heap = V.heap → Got a D fV fC A o len r U V → Got a D fV fC A o len r U' V' :=
  fun r U U' V V' h1 hal h2 ⟨e0, D', X, a1, a2, a3, a4, a5, a6, a7, a8, a9, a10, a11⟩ => ⟨e0, D', X, a1.mv hal h2, a2, by rw [h1]; exact a3, a4, by rw [h1]; exact a5.mv hal h2, a6, by rw [hal.findClass]; exact a7, a8, a9, by rw [h1, h2]; exact a10, by rw [h1, h2]; exact a11⟩
namespace New4
def yN : MethodName := ⟨"java/lang/String", "<init>", "([CIILjava/lang/Void;)V"⟩
abbrev yB : ByteArray := jdk_42_method_149_code
theorem d0 : decode yB 0 = .ok (.aload_n 0, 1) := by decide +kernel
theorem d1 : decode yB 1 = .ok (.invokespecial 1, 3) := by decide +kernel
theorem d4 : decode yB 4 = .ok (.iload_n 3, 1) := by decide +kernel
theorem d5 : decode yB 5 = .ok (.ifCond (.ne) 22, 3) := by decide +kernel
theorem d27 : decode yB 27 = .ok (.getstatic 38, 3) := by decide +kernel
theorem d30 : decode yB 30 = .ok (.ifCond (.eq) 28, 3) := by decide +kernel
theorem d33 : decode yB 33 = .ok (.aload_n 1, 1) := by decide +kernel
theorem d34 : decode yB 34 = .ok (.iload_n 2, 1) := by decide +kernel
theorem d35 : decode yB 35 = .ok (.iload_n 3, 1) := by decide +kernel
theorem d36 : decode yB 36 = .ok (.invokestatic 177, 3) := by decide +kernel
theorem d39 : decode yB 39 = .ok (.astore 5, 2) := by decide +kernel
theorem d41 : decode yB 41 = .ok (.aload_n 0, 1) := by decide +kernel
theorem d42 : decode yB 42 = .ok (.aload 5, 2) := by decide +kernel
theorem d44 : decode yB 44 = .ok (.iload_n 3, 1) := by decide +kernel
theorem d45 : decode yB 45 = .ok (.invokestatic 47, 3) := by decide +kernel
theorem d48 : decode yB 48 = .ok (.putfield 15, 3) := by decide +kernel
theorem d51 : decode yB 51 = .ok (.aload_n 0, 1) := by decide +kernel
theorem d52 : decode yB 52 = .ok (.aload 5, 2) := by decide +kernel
theorem d54 : decode yB 54 = .ok (.putfield 9, 3) := by decide +kernel
theorem d57 : decode yB 57 = .ok (.return_, 1) := by decide +kernel
def site : List Cond := [.fieldLink "java/lang/String" 38 "java/lang/String" "COMPACT_STRINGS" "Z", Cmp3.tab, CodL.tab, .laysFinal "java/lang/String" "java/lang/String" "value" "[B", .fieldLink "java/lang/String" 9 "java/lang/String" "value" "[B", .laysFinal "java/lang/String" "java/lang/String" "coder" "B", .fieldLink "java/lang/String" 15 "java/lang/String" "coder" "B"] ++ objW "java/lang/String" 1 ++ staticW "java/lang/String" 177 Cmp3.yN ++ staticW "java/lang/String" 47 CodL.yN
def tab : Cond := tabOf yN yB 6 none site
def P (a : Addr) (D : Cell) (fV fC : Field) (b : Addr) (A : Cell) (z : Int32) (o len : Nat) (args : Array Value) (s : State) : Prop := args = #[.ref a, .ref b, .int (Int32.ofNat o), .int (Int32.ofNat len), .null] ∧ Blank "java/lang/String" a D s ∧ Found "java/lang/String" "value" "[B" fV s ∧ Found "java/lang/String" "coder" "B" fC s ∧ Ch b A s ∧ StaticIs s "java/lang/String" "COMPACT_STRINGS" "Z" (.int z) ∧ ¬ z = 0 ∧ 0 < len ∧ o + len ≤ A.slots.size ∧ len ≤ 536870912 ∧ ∀ i, i < len → ¬ 255 < cv A (o + i)
def E (a : Addr) (D : Cell) (fV fC : Field) (A : Cell) (o len : Nat) (r : Option Value) (s u : State) : Prop := Got a D fV fC A o len r s u
/-- len > 0, no char of the range above 255: a Latin-1 String of their low bytes -/
theorem law (l : Launch) (a : Addr) (D : Cell) (fV fC : Field) (b : Addr) (A : Cell) (z : Int32) (o len : Nat) : Law l yN 5 4 2 35 yB 6 none site (P a D fV fC b A z o len) (E a D fV fC A o len) [⟨a, fC.slot⟩, ⟨a, fV.slot⟩] 1 len := by
  refine Law.of_walk (plainFor_of_name (by decide +kernel)) (by decide +kernel) (by decide +kernel) (by decide) (fun _ _ h => by rw [h.1]; rfl) (fun _ U U' hal hh h => ⟨h.1, h.2.1.mv hal hh, h.2.2.1.al hal, h.2.2.2.1.al hal, h.2.2.2.2.1.mv hal hh, h.2.2.2.2.2.1.there hal hh, h.2.2.2.2.2.2⟩) (fun r U U' V V' h1 hal h2 h => Got.mv r U U' V V' h1 hal h2 h) ?_
  intro p e s m args below meth c s₁ X0 hexec hbytes hml hret hlk hnm hown hh0 W hP
  obtain ⟨rfl, hB, f1, f2, hA, s1, hz, l0, l1, l2, hp⟩ := hP
  have a31 := hA.1.2.2.2
  have c1 : Steps p.tables e below (s₁.setTop (entryFrame m #[.ref a, .ref b, .int (Int32.ofNat o), .int (Int32.ofNat len), .null] 6)) (s₁.setTop (mkF m 0 #[.val (.ref a), .val (.ref b), .val (.int (Int32.ofNat o)), .val (.int (Int32.ofNat len)), .val .null, .unset] [])) := entry rfl
  have c2 : Steps p.tables e below (s₁.setTop (entryFrame m #[.ref a, .ref b, .int (Int32.ofNat o), .int (Int32.ofNat len), .null] 6)) (s₁.setTop (mkF m 1 #[.val (.ref a), .val (.ref b), .val (.int (Int32.ofNat o)), .val (.int (Int32.ofNat len)), .val .null, .unset] [.ref a])) := c1.trans (by
    refine XS.aloadN X0.here hexec rfl (hb hbytes d0) rfl rfl ?_
    exact Steps.refl _)
  obtain ⟨T3, X3, q3, st3⟩ := X0.oinit hexec hown (wks W (objW "java/lang/String" 1)) (g := (mkF m 1 #[.val (.ref a), .val (.ref b), .val (.int (Int32.ofNat o)), .val (.int (Int32.ofNat len)), .val .null, .unset] [.ref a])) rfl (by rw [hml]; rfl) (rest := []) rfl (hb hbytes d1) (W := 0) (by show 2 * 0 + 0 ≤ _; decide) (Nat.le_of_ble_eq_true rfl) (Nat.le_of_ble_eq_true rfl)
  have hh3 := q3.trans hh0
  have c4 : Steps p.tables e below (s₁.setTop (entryFrame m #[.ref a, .ref b, .int (Int32.ofNat o), .int (Int32.ofNat len), .null] 6)) (T3.setTop (mkF m 27 #[.val (.ref a), .val (.ref b), .val (.int (Int32.ofNat o)), .val (.int (Int32.ofNat len)), .val .null, .unset] [])) := (c2.trans (st3 _ (Steps.refl _))).trans (by
    refine XS.iloadN X3.here hexec rfl (hb hbytes d4) rfl ?_
    refine XS.ifYes X3.here hexec rfl (pc0 := 5) rfl (hb hbytes d5) rfl (i0_ne_t (nz32 (by omega) l0)) (by decide) rfl ?_
    exact Steps.refl _)
  obtain ⟨T5, X5, q5, st5⟩ := X3.sget hexec hown (wk W (.fieldLink "java/lang/String" 38 "java/lang/String" "COMPACT_STRINGS" "Z")) s1 (fun _ _ h => by rw [hh3]; exact h) (g := (mkF m 27 #[.val (.ref a), .val (.ref b), .val (.int (Int32.ofNat o)), .val (.int (Int32.ofNat len)), .val .null, .unset] [])) rfl (hb hbytes d27)
  have hh5 := q5.trans hh3
  have c6 : Steps p.tables e below (s₁.setTop (entryFrame m #[.ref a, .ref b, .int (Int32.ofNat o), .int (Int32.ofNat len), .null] 6)) (T5.setTop (mkF m 30 #[.val (.ref a), .val (.ref b), .val (.int (Int32.ofNat o)), .val (.int (Int32.ofNat len)), .val .null, .unset] [.int z])) := c4.trans (st5 _ (Steps.refl _))
  have c7 : Steps p.tables e below (s₁.setTop (entryFrame m #[.ref a, .ref b, .int (Int32.ofNat o), .int (Int32.ofNat len), .null] 6)) (T5.setTop (mkF m 36 #[.val (.ref a), .val (.ref b), .val (.int (Int32.ofNat o)), .val (.int (Int32.ofNat len)), .val .null, .unset] [.int (Int32.ofNat len), .int (Int32.ofNat o), .ref b])) := c6.trans (by
    refine XS.ifNo X5.here hexec rfl (hb hbytes d30) rfl (i0_eq_f hz) ?_
    refine XS.aloadN X5.here hexec rfl (hb hbytes d33) rfl rfl ?_
    refine XS.iloadN X5.here hexec rfl (hb hbytes d34) rfl ?_
    refine XS.iloadN X5.here hexec rfl (hb hbytes d35) rfl ?_
    exact Steps.refl _)
  obtain ⟨v8, T8, X8, E8, g8⟩ := X5.callS hexec (Cmp3.law l b A o len) hown (wks W (staticW "java/lang/String" 177 Cmp3.yN)) (wk W Cmp3.tab) (W := 0) (Nat.le_of_ble_eq_true rfl) (Nat.le_of_ble_eq_true rfl) (Nat.le_refl _) (by show 0 + len ≤ len; omega) (g := (mkF m 36 #[.val (.ref a), .val (.ref b), .val (.int (Int32.ofNat o)), .val (.int (Int32.ofNat len)), .val .null, .unset] [.int (Int32.ofNat len), .int (Int32.ofNat o), .ref b])) rfl (by rw [hml]; rfl) c7 (argsL := [.ref b, .int (Int32.ofNat o), .int (Int32.ofNat len)]) (rest := []) rfl rfl (by show 2 * 0 + 0 ≤ _; decide) (hb hbytes d36) (⟨rfl, hA.mv X5.warmed.alike hh5, l1, l2, hp⟩)
  obtain ⟨e8, z8⟩ := E8
  obtain ⟨rfl, N, n1, n2, n3, n4, n5, n6⟩ := NewArr.mv _ T5 s _ _ hh5.symm (Vm.Alike.refl _) rfl e8
  rw [hh5] at z8
  have hB1 := hB.keep X8.warmed.alike (n6 _ _ hB.1)
  have hne : s.heap.size ≠ a := (Nat.ne_of_lt (Array.getElem?_eq_some_iff.mp hB.1).1).symm
  have c9 : Steps p.tables e below (s₁.setTop (entryFrame m #[.ref a, .ref b, .int (Int32.ofNat o), .int (Int32.ofNat len), .null] 6)) (T8.setTop (mkF m 39 #[.val (.ref a), .val (.ref b), .val (.int (Int32.ofNat o)), .val (.int (Int32.ofNat len)), .val .null, .unset] [.ref s.heap.size])) := g8
  have c10 : Steps p.tables e below (s₁.setTop (entryFrame m #[.ref a, .ref b, .int (Int32.ofNat o), .int (Int32.ofNat len), .null] 6)) (T8.setTop (mkF m 45 #[.val (.ref a), .val (.ref b), .val (.int (Int32.ofNat o)), .val (.int (Int32.ofNat len)), .val .null, .val (.ref s.heap.size)] [.int (Int32.ofNat N.slots.size), .ref s.heap.size, .ref a])) := by
    have hc : Steps p.tables e below (s₁.setTop (entryFrame m #[.ref a, .ref b, .int (Int32.ofNat o), .int (Int32.ofNat len), .null] 6)) (T8.setTop (mkF m 45 #[.val (.ref a), .val (.ref b), .val (.int (Int32.ofNat o)), .val (.int (Int32.ofNat len)), .val .null, .val (.ref s.heap.size)] [.int (Int32.ofNat len), .ref s.heap.size, .ref a])) := c9.trans (by
      refine XS.astore X8.here hexec rfl (hb hbytes d39) rfl rfl rfl ?_
      refine XS.aloadN X8.here hexec rfl (hb hbytes d41) rfl rfl ?_
      refine XS.aload X8.here hexec rfl (hb hbytes d42) rfl rfl ?_
      refine XS.iloadN X8.here hexec rfl (hb hbytes d44) rfl ?_
      exact Steps.refl _)
    rw [n4]; exact hc
  obtain ⟨v11, T11, X11, E11, g11⟩ := X8.callS hexec (CodL.law l s.heap.size N) hown (wks W (staticW "java/lang/String" 47 CodL.yN)) (wk W CodL.tab) (W := 1) (Nat.le_of_ble_eq_true rfl) (Nat.le_of_ble_eq_true rfl) (Nat.le_refl _) (by show 0 + len + 0 ≤ len; omega) (g := (mkF m 45 #[.val (.ref a), .val (.ref b), .val (.int (Int32.ofNat o)), .val (.int (Int32.ofNat len)), .val .null, .val (.ref s.heap.size)] [.int (Int32.ofNat N.slots.size), .ref s.heap.size, .ref a])) rfl (by rw [hml]; rfl) c10 (argsL := [.ref s.heap.size, .int (Int32.ofNat N.slots.size)]) (rest := [.ref a]) rfl rfl (by show 2 * 0 + (1 + 0) ≤ _; decide) (hb hbytes d45) (⟨rfl, n1⟩)
  obtain ⟨rfl, q11⟩ := E11
  have hB11 := hB1.mv (X8.warmed.alike.symm.trans X11.warmed.alike) q11
  have c12 : Steps p.tables e below (s₁.setTop (entryFrame m #[.ref a, .ref b, .int (Int32.ofNat o), .int (Int32.ofNat len), .null] 6)) (T11.setTop (mkF m 48 #[.val (.ref a), .val (.ref b), .val (.int (Int32.ofNat o)), .val (.int (Int32.ofNat len)), .val .null, .val (.ref s.heap.size)] [.int 0, .ref a])) := g11
  obtain ⟨T13, X13, p13, bl13, sl13, st13⟩ := X11.finit hexec hown (wk W (.fieldLink "java/lang/String" 15 "java/lang/String" "coder" "B")) (Or.inr ⟨_, (wk W (.laysFinal "java/lang/String" "java/lang/String" "coder" "B"))⟩) (Or.inl ⟨rfl, hnm⟩) f2 (Or.inl rfl) hB11 (t := .byte) (by decide +kernel) rfl (g := (mkF m 48 #[.val (.ref a), .val (.ref b), .val (.int (Int32.ofNat o)), .val (.int (Int32.ofNat len)), .val .null, .val (.ref s.heap.size)] [.int 0, .ref a])) rfl (rest := []) rfl (hb hbytes d48)
  have c14 : Steps p.tables e below (s₁.setTop (entryFrame m #[.ref a, .ref b, .int (Int32.ofNat o), .int (Int32.ofNat len), .null] 6)) (T13.setTop (mkF m 54 #[.val (.ref a), .val (.ref b), .val (.int (Int32.ofNat o)), .val (.int (Int32.ofNat len)), .val .null, .val (.ref s.heap.size)] [.ref s.heap.size, .ref a])) := (c12.trans (st13 _ (Steps.refl _))).trans (by
    refine XS.aloadN X13.here hexec rfl (hb hbytes d51) rfl rfl ?_
    refine XS.aload X13.here hexec rfl (hb hbytes d52) rfl rfl ?_
    exact Steps.refl _)
  obtain ⟨T15, X15, p15, bl15, sl15, st15⟩ := X13.finit hexec hown (wk W (.fieldLink "java/lang/String" 9 "java/lang/String" "value" "[B")) (Or.inr ⟨_, (wk W (.laysFinal "java/lang/String" "java/lang/String" "value" "[B"))⟩) (Or.inl ⟨rfl, hnm⟩) f1 (Or.inl rfl) bl13 (t := (.array .byte)) (by decide +kernel) rfl (g := (mkF m 54 #[.val (.ref a), .val (.ref b), .val (.int (Int32.ofNat o)), .val (.int (Int32.ofNat len)), .val .null, .val (.ref s.heap.size)] [.ref s.heap.size, .ref a])) rfl (rest := []) rfl (hb hbytes d54)
  have c16 : Steps p.tables e below (s₁.setTop (entryFrame m #[.ref a, .ref b, .int (Int32.ofNat o), .int (Int32.ofNat len), .null] 6)) (T15.setTop (mkF m 57 #[.val (.ref a), .val (.ref b), .val (.int (Int32.ofNat o)), .val (.int (Int32.ofNat len)), .val .null, .val (.ref s.heap.size)] [])) := c14.trans (st15 _ (Steps.refl _))
  have ap := apart (Or.inr ⟨_, (wk W (.laysFinal "java/lang/String" "java/lang/String" "value" "[B"))⟩) (Or.inr ⟨_, (wk W (.laysFinal "java/lang/String" "java/lang/String" "coder" "B"))⟩) f1 f2 (t₁ := .array .byte) (t₂ := .byte) (by decide +kernel) (by decide +kernel) (by decide)
  have al := X8.warmed.alike.symm.trans X15.warmed.alike
  have n7 : T11.heap[s.heap.size]? = some N := by rw [q11]; exact n1.1
  exact ⟨T15, none, _, _, _, X15, by simp, rfl, by omega, (fun _ => rfl), ⟨rfl, _, N, bl15, ((Same.refl D _).set _ (by simp)).set _ (by simp), sl15, (Cell.slots_setSlot_ne _ ap).trans sl13, n1.keep al (p15.other hne (p13.other hne n7)), n2, by rw [al.findClass]; exact n3, n4, n5, fun y c h1 h2 => p15.other h1 (p13.other h1 (by rw [q11]; exact n6 y c h2)), by rw [p15.2.2, p13.2.2, q11]; exact z8⟩, fun fs hl => c16.trans (X15.returnOut hexec hret (hb hbytes d57) hl)⟩
end New4
namespace New1
def yN : MethodName := ⟨"java/lang/String", "<init>", "([C)V"⟩
abbrev yB : ByteArray := jdk_42_method_3_code
theorem d0 : decode yB 0 = .ok (.aload_n 0, 1) := by decide +kernel
theorem d1 : decode yB 1 = .ok (.aload_n 1, 1) := by decide +kernel
theorem d2 : decode yB 2 = .ok (.iconst 0, 1) := by decide +kernel
theorem d3 : decode yB 3 = .ok (.aload_n 1, 1) := by decide +kernel
theorem d4 : decode yB 4 = .ok (.arraylength, 1) := by decide +kernel
theorem d5 : decode yB 5 = .ok (.aconst_null, 1) := by decide +kernel
theorem d6 : decode yB 6 = .ok (.invokespecial 27, 3) := by decide +kernel
theorem d9 : decode yB 9 = .ok (.return_, 1) := by decide +kernel
def site : List Cond := [New4.tab] ++ initW "java/lang/String" 27 New4.yN
def tab : Cond := tabOf yN yB 2 none site
def P (a : Addr) (D : Cell) (fV fC : Field) (b : Addr) (A : Cell) (z : Int32) (args : Array Value) (s : State) : Prop := args = #[.ref a, .ref b] ∧ Blank "java/lang/String" a D s ∧ Found "java/lang/String" "value" "[B" fV s ∧ Found "java/lang/String" "coder" "B" fC s ∧ Ch b A s ∧ StaticIs s "java/lang/String" "COMPACT_STRINGS" "Z" (.int z) ∧ ¬ z = 0 ∧ 0 < A.slots.size ∧ A.slots.size ≤ 536870912 ∧ ∀ i, i < A.slots.size → ¬ 255 < cv A i
def E (a : Addr) (D : Cell) (fV fC : Field) (A : Cell) (r : Option Value) (s u : State) : Prop := Got a D fV fC A 0 A.slots.size r s u
/-- new String(chars), not empty, no char above 255: a Latin-1 String of their low bytes -/
theorem law (l : Launch) (a : Addr) (D : Cell) (fV fC : Field) (b : Addr) (A : Cell) (z : Int32) : Law l yN 2 1 3 52 yB 2 none site (P a D fV fC b A z) (E a D fV fC A) [⟨a, fC.slot⟩, ⟨a, fV.slot⟩] 1 A.slots.size := by
  refine Law.of_walk (plainFor_of_name (by decide +kernel)) (by decide +kernel) (by decide +kernel) (by decide) (fun _ _ h => by rw [h.1]; rfl) (fun _ U U' hal hh h => ⟨h.1, h.2.1.mv hal hh, h.2.2.1.al hal, h.2.2.2.1.al hal, h.2.2.2.2.1.mv hal hh, h.2.2.2.2.2.1.there hal hh, h.2.2.2.2.2.2⟩) (fun r U U' V V' h1 hal h2 h => Got.mv r U U' V V' h1 hal h2 h) ?_
  intro p e s m args below meth c s₁ X0 hexec hbytes hml hret hlk hnm hown hh0 W hP
  obtain ⟨rfl, hB, f1, f2, hA, s1, hz, l0, l2, hp⟩ := hP
  have c1 : Steps p.tables e below (s₁.setTop (entryFrame m #[.ref a, .ref b] 2)) (s₁.setTop (mkF m 0 #[.val (.ref a), .val (.ref b)] [])) := entry rfl
  have c2 : Steps p.tables e below (s₁.setTop (entryFrame m #[.ref a, .ref b] 2)) (s₁.setTop (mkF m 6 #[.val (.ref a), .val (.ref b)] [.null, .int (Int32.ofNat A.slots.size), .int 0, .ref b, .ref a])) := c1.trans (by
    refine XS.aloadN X0.here hexec rfl (hb hbytes d0) rfl rfl ?_
    refine XS.aloadN X0.here hexec rfl (hb hbytes d1) rfl rfl ?_
    refine iconstV X0.here hexec rfl 0 (hb hbytes d2) (by decide) ?_
    refine XS.aloadN X0.here hexec rfl (hb hbytes d3) rfl rfl ?_
    refine X0.alen hexec (hA.1.mv X0.warmed.alike hh0) rfl rfl (hb hbytes d4) ?_
    refine XS.aconstNull X0.here hexec rfl (hb hbytes d5) ?_
    exact Steps.refl _)
  obtain ⟨v3, T3, X3, E3, g3⟩ := X0.callN hexec (New4.law l a D fV fC b A z 0 A.slots.size) rfl hown (wks W (initW "java/lang/String" 27 New4.yN)) (W New4.tab (by simp only [site, List.mem_cons, List.mem_append, true_or, or_true])) (W := 0) (Nat.le_of_ble_eq_true rfl) (Nat.le_of_ble_eq_true rfl) (Nat.le_refl _) (by show 0 + A.slots.size ≤ A.slots.size; omega) (g := (mkF m 6 #[.val (.ref a), .val (.ref b)] [.null, .int (Int32.ofNat A.slots.size), .int (Int32.ofNat 0), .ref b, .ref a])) rfl (by rw [hml]; rfl) c2 (argsL := [.ref b, .int (Int32.ofNat 0), .int (Int32.ofNat A.slots.size), .null]) (rest := []) rfl rfl (by show 2 * 0 + 0 ≤ _; decide) (hb hbytes d6) (⟨rfl, hB.mv X0.warmed.alike hh0, f1.al X0.warmed.alike, f2.al X0.warmed.alike, hA.mv X0.warmed.alike hh0, s1.there X0.warmed.alike hh0, hz, l0, by omega, l2, fun i hi => by rw [Nat.zero_add]; exact hp i hi⟩)
  have e0 := Got.mv _ s₁ s _ _ hh0.symm (Vm.Alike.refl _) rfl E3
  obtain rfl := e0.1
  have c4 : Steps p.tables e below (s₁.setTop (entryFrame m #[.ref a, .ref b] 2)) (T3.setTop (mkF m 9 #[.val (.ref a), .val (.ref b)] [])) := g3
  exact ⟨T3, none, _, _, _, X3, by simp, rfl, by omega, (fun _ => rfl), e0, fun fs hl => c4.trans (X3.returnOut hexec hret (hb hbytes d9) hl)⟩
theorem pays {l : Launch} {R : Room} {p : Program} {e : Env} {below : List Frame} {s : State} {sargs : Array Value} {len W : Nat} (a : Addr) (D : Cell) (fV fC : Field) (b : Addr) (A : Cell) (z : Int32) (htab : tab.before sargs s = true) (hfr : 4 ≤ R.frames) (hlo : W + 65 ≤ R.locals) :
    Back l R p e below s sargs yN len W (fun A₁ a₁ => A₁.cells + 1 ≤ R.cells ∧ A₁.slots + A.slots.size ≤ R.slots ∧ P a D fV fC b A z a₁ A₁.U) (fun A₁ _ v₁ B₁ => E a D fV fC A v₁ A₁.U B₁.U ∧ B₁.locs = A₁.locs ++ [⟨a, fC.slot⟩, ⟨a, fV.slot⟩] ∧ B₁.cells = A₁.cells + 1 ∧ B₁.slots = A₁.slots + A.slots.size) :=
  (law l a D fV fC b A z).pays htab hfr (by omega)
end New1
/-- the byte, read back as charAt reads it, is the char -/
theorem lo8_mask {x : Int32} (h0 : ¬ x < 0) (h1 : ¬ 255 < x) : lo8 x &&& 255 = x := by
  have t : ∀ k : Fin 256, lo8 (Int32.ofNat k.val) &&& 255 = Int32.ofNat k.val := by decide +kernel
  rw [Int32.lt_iff_toInt_lt] at h0 h1
  have e0 : (0 : Int32).toInt = 0 := rfl
  have e1 : (255 : Int32).toInt = 255 := rfl
  obtain ⟨k, hk⟩ : ∃ k : Nat, x.toInt = k := ⟨x.toInt.toNat, by omega⟩
  have hx : x = Int32.ofNat k := Int32.toInt_inj.mp (by rw [hk, Int32.toInt_ofNat_small (by omega)])
  rw [hx]
  exact t ⟨k, by omega⟩
end StrChars
namespace StrChars.Road
open Jvm Sem ClassFile Op Lib Jvm.Stand Jvm.Free Jvm.Free.XT
open Jvm.Lib.Cold (StaticIs)
abbrev ST : String := "java/lang/String"
/-- every table word that New1's law asks, flat -/
abbrev words : List Jvm.Cond := [.code New1.yN New1.yB 2 none, .initialized ST, .methodLink ST 27 New4.yN, .instanceMethod New4.yN,
  .code New4.yN New4.yB 6 none, .fieldLink ST 38 ST "COMPACT_STRINGS" "Z", .laysFinal ST ST "value" "[B", .fieldLink ST 9 ST "value" "[B", .laysFinal ST ST "coder" "B", .fieldLink ST 15 ST "coder" "B",
  .methodLink ST 1 Lib.objectInit, .instanceMethod Lib.objectInit, .code Lib.objectInit ⟨#[0xb1]⟩ 1 none, .methodLink ST 177 Cmp3.yN, .static Cmp3.yN, .methodLink ST 47 CodL.yN, .static CodL.yN,
  .code Cmp3.yN Cmp3.yB 6 (some (.array .byte)), .initialized U16, .arrayClass .byte, .methodLink U16 115 Cmp5.yN, .static Cmp5.yN, .code Cmp5.yN Cmp5.yB 7 (some .int), .code CodL.yN CodL.yB 2 (some .byte)]
theorem tab_of {a : Array Value} {s : State} (h : ∀ w ∈ words, w.before a s = true) : New1.tab.before a s = true := by
  have h5 : Cmp5.tab.before a s = true := unparts (wk h (.code Cmp5.yN Cmp5.yB 7 (some .int))) (wks h (.initialized Cmp5.yN.cls :: Cmp5.site))
  have hc : CodL.tab.before a s = true := unparts (wk h (.code CodL.yN CodL.yB 2 (some .byte))) (wks h (.initialized CodL.yN.cls :: CodL.site))
  have q5 : ∀ w ∈ Cmp5.tab :: words, w.before a s = true := fun w hw => (List.mem_cons.mp hw).elim (fun e => e ▸ h5) (h w)
  have h3 : Cmp3.tab.before a s = true := unparts (wk q5 (.code Cmp3.yN Cmp3.yB 6 (some (.array .byte)))) (wks q5 (.initialized Cmp3.yN.cls :: Cmp3.site))
  have q3 : ∀ w ∈ Cmp3.tab :: CodL.tab :: words, w.before a s = true := fun w hw => (List.mem_cons.mp hw).elim (fun e => e ▸ h3) fun hw => (List.mem_cons.mp hw).elim (fun e => e ▸ hc) (h w)
  have h4 : New4.tab.before a s = true := unparts (wk q3 (.code New4.yN New4.yB 6 none)) (wks q3 (.initialized New4.yN.cls :: New4.site))
  have q4 : ∀ w ∈ New4.tab :: words, w.before a s = true := fun w hw => (List.mem_cons.mp hw).elim (fun e => e ▸ h4) (h w)
  exact unparts (wk q4 (.code New1.yN New1.yB 2 none)) (wks q4 (.initialized New1.yN.cls :: New1.site))
/-- the words ride from the start Z to the walk's own state -/
theorem moved {Z s : State} {a0 args : Array Value} (hZ : Z.Warmed39 s.vm) (hw : ∀ d ∈ words, d.before a0 Z = true) : ∀ d ∈ words, d.before args s = true := fun d hd => by
  have q := hw d hd
  have t : ∀ d ∈ words, d = .arrayClass .byte ∨ (d.onTables && d.keepsFace) = true := by decide +kernel
  rcases t d hd with rfl | t
  · exact RoadKit.mvA hZ q
  · exact RoadKit.mv hZ q t
/-- WHAT COMES BACK, over the tables of the start Z: h the heap at the call, h' behind it -/
def Q (Z : State) (x : Addr) (A : Cell) (h : Heap) (v : Option Value) (h' : Heap) (L : List Loc) : Prop := v = none ∧ (∀ y ∈ L, y.base = x) ∧ RoadKit.Keep h h' [x] ∧ h'.size = h.size + 1 ∧ RoadKit.Exa Z h' x ST ∧ RoadKit.Fld Z h' x ST "value" "[B" (.ref h.size) ∧ RoadKit.Fld Z h' x ST "coder" "B" (.int 0) ∧
  (∃ V : Cell, RoadKit.Arr Z h' h.size V .byte ∧ V.vm = .none ∧ Z.vm.findClass "[B" = some V.cls ∧ V.slots.size = A.slots.size ∧ ∀ j, j < A.slots.size → V.slots[j]? = some (.int (lo8 (cv A j)))) ∧
  ∀ (O n d : String) (w : Value), RoadKit.Fld Z h x O n d w → RoadKit.slotOf Z O n d ≠ RoadKit.slotOf Z ST "value" "[B" → RoadKit.slotOf Z O n d ≠ RoadKit.slotOf Z ST "coder" "B" → RoadKit.Fld Z h' x O n d w
/-- **new String(chars) AT A CALL, IN THE ROAD'S FORM**: for specialBack behind newO: x the fresh String, b the char[] with the cell A -/
theorem back {p : Program} {l : Launch} {e : Env} {R : Room} {s : State} {args : Array Value} {below : List Frame} {len W : Nat} {Z : State} {a0 : Array Value} {h : Heap} (hZ : Z.Warmed39 s.vm) (hw : ∀ d ∈ words, d.before a0 Z = true) {kI : Nat} (wi : (Jvm.Cond.instantiable ST kI).before a0 Z = true)
    {x b : Addr} {A : Cell} {z : Int32} {v0 c0 : Value} (E : RoadKit.Exa Z h x ST) (V : RoadKit.Fld Z h x ST "value" "[B" v0) (C : RoadKit.Fld Z h x ST "coder" "B" c0) (K : RoadKit.Arr Z h b A .char) (hty : Typed .char A) (S : RoadKit.Sta Z h ST "COMPACT_STRINGS" "Z" (.int z)) (hz : ¬ z = 0)
    (l0 : 0 < A.slots.size) (l2 : A.slots.size ≤ 536870912) (hp : ∀ i, i < A.slots.size → ¬ 255 < cv A i) (hfr : 4 ≤ R.frames) (hlo : W + 65 ≤ R.locals) :
    Back l R p e below s args New1.yN len W (fun P a => a = #[.ref x, .ref b] ∧ P.U.heap = h ∧ P.cells + 1 ≤ R.cells ∧ P.slots + A.slots.size ≤ R.slots)
      (fun P _ v B => ∃ L, Q Z x A h v B.U.heap L ∧ B.locs = P.locs ++ L ∧ B.cells = P.cells + 1 ∧ B.slots = P.slots + A.slots.size) := by
  intro m meth c P g ig mk a X hg hsize hdg hW hn hp'
  obtain ⟨rfl, rfl, r1, r2⟩ := hp'
  have al : Z.vm.Alike P.U.vm := hZ.alike.trans X.warmed.alike
  obtain ⟨D, cfV, kV, iV, fV, hD, gV, stV, knV, obV, asV, slV⟩ := id V
  obtain ⟨D', cfC, kC, iC, fC, hD', gC, stC, -, -, asC, slC⟩ := id C
  cases hD.symm.trans hD'
  obtain ⟨D2, kD, e1, e2, e3, e4, e5⟩ := id E
  cases hD.symm.trans e1
  obtain ⟨c2, k2, i1, i2, i3, -⟩ := Cond.instantiable_spec wi
  cases e2.symm.trans i1
  cases e3.symm.trans i2
  obtain ⟨kU, u1, u2⟩ := al.2.2 _ _ e3
  have hB : Blank ST x D P.U := ⟨hD, ⟨knV, fun q hq => by rw [hq] at obV; cases obV⟩, by rw [al.findClass]; exact e2, kU, u1, by rw [u2]; exact i3, by rw [u2]; exact e5 i3⟩
  have F1 : Found ST "value" "[B" fV P.U := ⟨SBG.found_only al ⟨cfV, kV, iV, gV⟩, stV⟩
  have F2 : Found ST "coder" "B" fC P.U := ⟨SBG.found_only al ⟨cfC, kC, iC, gC⟩, stC⟩
  have hA : Ch b A P.U := ⟨⟨K.1, State.isArrayOf_alike al K.2.1, K.2.2, by omega⟩, hty⟩
  have hS : StaticIs P.U ST "COMPACT_STRINGS" "Z" (.int z) := by
    obtain ⟨cfS, iS, kS, fS, st, cS, t1, t2, t3, t4, t5, t6, t7⟩ := S
    exact StaticIs.there (s := { Z with heap := P.U.heap }) ⟨cfS, iS, kS, fS, st, cS, t1, t2, t3, t4, t5, (fun q => by rw [q] at t6; cases t6), t7⟩ al rfl
  obtain ⟨v, B, X', ⟨⟨hv, E', V', q1, q2, q3, q4, q5, q6, q7, q8, q9, q10, q11⟩, hl, hc, hs⟩, st⟩ := New1.pays x D fV fC b A z (tab_of (moved hZ hw)) hfr hlo m meth c P g ig mk _ X hg hsize hdg hW hn ⟨r1, r2, rfl, hB, F1, F2, hA, hS, hz, l0, l2, hp⟩
  have al' : Z.vm.Alike B.U.vm := hZ.alike.trans X'.warmed.alike
  have hsz : E'.slots.size = D.slots.size := by
    obtain ⟨-, -, -, kB, w1, w2, w3⟩ := q1
    obtain ⟨kB', y1, y2⟩ := al'.2.2 _ _ e3
    rw [q2.2.1] at w1
    cases w1.symm.trans y1
    rw [w3, e5 i3, y2]
  refine ⟨v, B, X', ⟨_, ⟨hv, ?_, ⟨by omega, fun y cy hy hn' => q10 y cy (by simpa using hn') hy, fun y cy hy => ?_⟩, q11, ⟨E', _, q1.1, by rw [q2.2.1]; exact e2, by rw [q2.2.1]; exact e3, by rw [q2.1]; exact obV, fun _ => by rw [hsz]; exact e5 i3⟩,
    ⟨E', cfV, kV, iV, fV, q1.1, gV, stV, by rw [q2.1]; exact knV, by rw [q2.1]; exact obV, by rw [q2.2.1]; exact asV, q3⟩, ⟨E', cfC, kC, iC, fC, q1.1, gC, stC, by rw [q2.1]; exact knV, by rw [q2.1]; exact obV, by rw [q2.2.1]; exact asC, q4⟩,
    ⟨V', ⟨q5.1, State.isArrayOf_alike al'.symm q5.2.1, q5.2.2.1⟩, q6, by rw [← al'.findClass]; exact q7, q8, fun j hj => by have := q9 j hj; rwa [Nat.zero_add] at this⟩, fun O n d w F n1 n2 => ?_⟩, hl, hc, hs⟩, st⟩
  · intro y hy
    simp only [List.mem_cons, List.not_mem_nil, or_false] at hy
    rcases hy with rfl | rfl <;> rfl
  · by_cases q : y = x
    · subst q
      cases hD.symm.trans hy
      exact ⟨E', q1.1, q2.2.1, q2.1, hsz⟩
    · exact ⟨cy, q10 y cy q hy, rfl, rfl, rfl⟩
  · obtain ⟨D3, cf, k, i, f, g1, g2, g3, g4, g5, g6, g7⟩ := F
    cases hD.symm.trans g1
    simp only [RoadKit.slotOf, g2, gV, gC, Option.map_some, Option.getD_some] at n1 n2
    exact ⟨E', cf, k, i, f, q1.1, g2, g3, by rw [q2.1]; exact g4, by rw [q2.1]; exact g5, by rw [q2.2.1]; exact g6, by rw [q2.2.2 f.slot (by simp [n1, n2])]; exact g7⟩
end StrChars.Road
namespace StrChars.Road
open Jvm Sem ClassFile Op Lib Jvm.Stand Jvm.Free Jvm.Free.XT
/-- WHAT COMES BACK, the byte[] as a list of values -/
def QA (Z : State) (x : Addr) (zn : Int32) (cs : List Int32) (h : Heap) (v : Option Value) (h' : Heap) (L : List Loc) : Prop := v = none ∧ (∀ y ∈ L, y.base = x) ∧ RoadKit.Keep h h' [x] ∧ h'.size = h.size + 1 ∧ RoadKit.Exa Z h' x ST ∧ RoadKit.Fld Z h' x ST "value" "[B" (.ref h.size) ∧ RoadKit.Fld Z h' x ST "coder" "B" (.int 0) ∧
  (∃ kb, Z.vm.findClass "[B" = some kb ∧ RoadKit.Arv Z h' h.size kb .byte zn (cs.map fun c => .int (lo8 c)) (.int 0)) ∧
  ∀ (O n d : String) (w : Value), RoadKit.Fld Z h x O n d w → RoadKit.slotOf Z O n d ≠ RoadKit.slotOf Z ST "value" "[B" → RoadKit.slotOf Z O n d ≠ RoadKit.slotOf Z ST "coder" "B" → RoadKit.Fld Z h' x O n d w
/-- **new String(chars) AT A CALL, THE ARRAYS AS LISTS**: the char[] at b holds cs, not empty, no char above 255 -/
theorem backArv {p : Program} {l : Launch} {e : Env} {R : Room} {s : State} {args : Array Value} {below : List Frame} {len W : Nat} {Z : State} {a0 : Array Value} {h : Heap} (hZ : Z.Warmed39 s.vm) (hw : ∀ d ∈ words, d.before a0 Z = true) {kI : Nat} (wi : (Jvm.Cond.instantiable ST kI).before a0 Z = true)
    {x b : Addr} {k : ClassId} {zn z : Int32} {cs : List Int32} {dv v0 c0 : Value} (E : RoadKit.Exa Z h x ST) (V : RoadKit.Fld Z h x ST "value" "[B" v0) (C : RoadKit.Fld Z h x ST "coder" "B" c0) (K : RoadKit.Arv Z h b k .char zn (cs.map Value.int) dv) (S : RoadKit.Sta Z h ST "COMPACT_STRINGS" "Z" (.int z)) (hz : ¬ z = 0)
    (hlen : zn.toNatClampNeg = cs.length) (h0 : 0 < cs.length) (hbig : cs.length ≤ 536870912) (hall : ∀ c ∈ cs, ¬ 255 < c) (hfr : 4 ≤ R.frames) (hlo : W + 65 ≤ R.locals) :
    Back l R p e below s args New1.yN len W (fun P a => a = #[.ref x, .ref b] ∧ P.U.heap = h ∧ P.cells + 1 ≤ R.cells ∧ P.slots + cs.length ≤ R.slots)
      (fun P _ v B => ∃ L, QA Z x zn cs h v B.U.heap L ∧ B.locs = P.locs ++ L ∧ B.cells = P.cells + 1 ∧ B.slots = P.slots + cs.length) := by
  obtain ⟨A, K1, K2, K3, K4, K5, K6⟩ := K
  have e : A.slots.size = cs.length := K3.trans hlen
  have hat : ∀ (i : Nat) (hi : i < cs.length), A.slots[i]? = some (.int cs[i]) := fun i hi => by rw [K5 i (by omega)]; simp [List.getD_eq_getElem?_getD, hi]
  have hcv : ∀ (i : Nat) (hi : i < cs.length), cv A i = cs[i] := fun i hi => by unfold cv; rw [hat i hi]
  have hty : Typed .char A := fun i v hv => by
    have hi : i < A.slots.size := (Array.getElem?_eq_some_iff.mp hv).1
    have q := K5 i hi
    rw [hv] at q
    rw [Option.some.inj q]
    exact K6 i hi
  refine Back.mono (back hZ hw wi E V C K1 hty S hz (by omega) (by omega) (fun i hi => by rw [hcv i (by omega)]; exact hall _ (List.getElem_mem _)) hfr hlo) (fun P a hp => ⟨hp.1, hp.2.1, hp.2.2.1, by rw [e]; exact hp.2.2.2⟩) (fun P a v B hp hq => ?_)
  obtain ⟨L, ⟨q1, q2, q3, q4, q5, q6, q7, ⟨V', v1, v2, v3, v4, v5⟩, q9⟩, hl, hc, hs⟩ := hq
  refine ⟨L, ⟨q1, q2, q3, q4, q5, q6, q7, ⟨V'.cls, v3, V', v1, rfl, by rw [v4, e, hlen], K4, fun i hi => ?_, fun i hi => ?_⟩, q9⟩, hl, hc, by rw [hs, e]⟩
  · have hi' : i < cs.length := by omega
    rw [v5 i (by omega), hcv i hi']; simp [List.getD_eq_getElem?_getD, hi']
  · have hi' : i < cs.length := by omega
    simp only [List.getD_eq_getElem?_getD, List.getElem?_map, List.getElem?_eq_getElem hi', Option.map_some, Option.getD_some]
    exact fits_lo8 _
end StrChars.Road
namespace StrChars.Road
open Jvm Sem ClassFile Op Lib Jvm.Stand Jvm.Free Jvm.Free.XT
/-- WHAT COMES BACK, in the writer's own shape -/
def QV (Z : State) (x : Addr) (N : Int32) (bs : List Int32) (h : Heap) (n0 : Nat) (v : Option Value) (h' : Heap) (L : List Loc) : Prop := v = none ∧ RoadKit.Fr n0 L ∧ RoadKit.Keep h h' [x] ∧ RoadKit.Exa Z h' x ST ∧ RoadKit.Fld Z h' x ST "coder" "B" (.int 0) ∧
  ∃ (t : Addr) (kb : ClassId), n0 ≤ t ∧ h.size ≤ t ∧ ¬ t = x ∧ RoadKit.Fld Z h' x ST "value" "[B" (.ref t) ∧ RoadKit.Arv Z h' t kb .byte N (bs.map Value.int) (.int 0)
/-- **new String(chars) AT A CALL, FOR THE WRITER**: a char[] of n known ints, each 0 to 255 -/
theorem backV {p : Program} {l : Launch} {e : Env} {R : Room} {s : State} {args : Array Value} {below : List Frame} {len W : Nat} {Z : State} {a0 : Array Value} {h : Heap} (hZ : Z.Warmed39 s.vm) (hw : ∀ d ∈ words, d.before a0 Z = true) {kI : Nat} (wi : (Jvm.Cond.instantiable ST kI).before a0 Z = true)
    {x b : Addr} {kC : ClassId} {cs bs : List Int32} {d v0 c0 : Value} {z N : Int32} {n n0 : Nat} (hx0 : n0 ≤ x) (hh0 : n0 ≤ h.size) (E : RoadKit.Exa Z h x ST) (V : RoadKit.Fld Z h x ST "value" "[B" v0) (C : RoadKit.Fld Z h x ST "coder" "B" c0) (K : RoadKit.Arv Z h b kC .char N (cs.map Value.int) d) (S : RoadKit.Sta Z h ST "COMPACT_STRINGS" "Z" (.int z)) (hz : ¬ z = 0)
    (hn : cs.length = n) (hN : N = Int32.ofNat n) (l0 : 0 < n) (l2 : n ≤ 4000) (hp : ∀ c ∈ cs, ¬ c < 0 ∧ ¬ (255 : Int32) < c) (hb : bs = cs.map (fun c => c.toInt8.toInt32)) (hfr : 4 ≤ R.frames) (hlo : W + 65 ≤ R.locals) :
    Back l R p e below s args (⟨"java/lang/String", "<init>", "([C)V"⟩ : MethodName) len W (fun P a => a = #[.ref x, .ref b] ∧ P.U.heap = h ∧ P.cells + 1 ≤ R.cells ∧ P.slots + n ≤ R.slots)
      (fun P _ v B => ∃ L, QV Z x N bs h n0 v B.U.heap L ∧ B.locs = P.locs ++ L ∧ B.cells = P.cells + 1 ∧ B.slots = P.slots + n) := by
  subst hn hN hb
  refine Back.mono (backArv hZ hw wi E V C K S hz (n32 (by omega)) l0 (by omega) (fun c hc => (hp c hc).2) hfr hlo) (fun P a hp => hp) (fun P a v B hp hq => ?_)
  obtain ⟨L, ⟨q1, q2, q3, q4, q5, q6, q7, ⟨kb, v1, v2⟩, q9⟩, hl, hc, hs⟩ := hq
  exact ⟨L, ⟨q1, fun y hy => by rw [q2 y hy]; exact hx0, q3, q5, q7, h.size, kb, hh0, Nat.le_refl _, Nat.ne_of_gt E.lt, q6, by rw [List.map_map]; exact v2⟩, hl, hc, hs⟩
end StrChars.Road
namespace StrChars
open Jvm Sem ClassFile Op Lib Jvm.Stand Jvm.Free.XT Jvm.Free.ALB Jvm.Free.JM Jvm.Free
open Jvm.Lib.Cold (StaticIs)
def hi8 (x : Int32) : Int32 := lo8 (x >>> ((8 : Int32) &&& 31))
/-- what StringUTF16.getChar makes of two bytes -/
def pairCh (u v : Int32) : Int32 := (((u &&& 255) <<< ((0 : Int32) &&& 31)) ||| ((v &&& 255) <<< ((8 : Int32) &&& 31))).toUInt32.toUInt16.toUInt32.toInt32
theorem lo8_and (x : Int32) : (lo8 x &&& 255).toBitVec.toNat = x.toBitVec.toNat % 256 := by
  have h : (lo8 x).toBitVec = (x.toBitVec.signExtend 8).signExtend 32 := by rw [lo8, Int8.toBitVec_toInt32, Int32.toBitVec_toInt8]
  rw [Int32.toBitVec_and, BitVec.toNat_and, h]
  have e : ((x.toBitVec.signExtend 8).signExtend 32).toNat % 256 = x.toBitVec.toNat % 256 := by
    rw [BitVec.toNat_signExtend]
    have hlt := x.toBitVec.isLt
    simp only [BitVec.toNat_setWidth, BitVec.toNat_signExtend]
    split <;> split <;> omega
  rw [← e]
  exact Nat.and_two_pow_sub_one_eq_mod _ 8
theorem pair_says {c : Int32} (h0 : ¬ c < 0) (h1 : ¬ 65535 < c) : pairCh (lo8 c) (hi8 c) = c := by
  rw [Int32.lt_iff_toInt_lt] at h0 h1
  have e0 : (0 : Int32).toInt = 0 := rfl
  have e1 : (65535 : Int32).toInt = 65535 := rfl
  have hc : c.toInt = c.toBitVec.toNat := by
    have := c.toBitVec.isLt
    have e : c.toInt = c.toBitVec.toInt := rfl
    rw [e] at h0 h1
    rw [e]
    rw [BitVec.toInt_eq_toNat_cond] at h0 h1 ⊢
    split at h0 <;> split <;> omega
  have hn : c.toBitVec.toNat < 65536 := by omega
  have a1 := lo8_and c
  have a2 : (hi8 c &&& 255).toBitVec.toNat = c.toBitVec.toNat / 256 := by
    rw [hi8, lo8_and]
    have e : ((8 : Int32) &&& 31) = 8 := by decide
    rw [e, Int32.toBitVec_shiftRight]
    have e2 : ((8 : Int32).toBitVec.smod 32) = 8#32 := by decide
    rw [e2, BitVec.sshiftRight_eq', BitVec.toNat_sshiftRight_of_msb_false (by rw [BitVec.msb_eq_false_iff_two_mul_lt]; omega)]
    show c.toBitVec.toNat >>> 8 % 256 = _
    rw [Nat.shiftRight_eq_div_pow]
    omega
  unfold pairCh
  apply Int32.toBitVec_inj.mp
  apply BitVec.eq_of_toNat_eq
  have f0 : ((0 : Int32) &&& 31) = 0 := by decide
  have f8 : ((8 : Int32) &&& 31) = 8 := by decide
  rw [f0, f8]
  have g : (((lo8 c &&& 255) <<< (0 : Int32)) ||| ((hi8 c &&& 255) <<< (8 : Int32))).toBitVec.toNat = c.toBitVec.toNat := by
    rw [Int32.toBitVec_or, Int32.toBitVec_shiftLeft, Int32.toBitVec_shiftLeft]
    have s0 : ((0 : Int32).toBitVec.smod 32) = 0#32 := by decide
    have s8 : ((8 : Int32).toBitVec.smod 32) = 8#32 := by decide
    rw [s0, s8, BitVec.toNat_or]
    simp only [BitVec.shiftLeft_eq', BitVec.toNat_shiftLeft, a1, a2]
    show (c.toBitVec.toNat % 256) <<< 0 % 2 ^ 32 ||| (c.toBitVec.toNat / 256) <<< 8 % 2 ^ 32 = _
    rw [Nat.shiftLeft_zero, Nat.mod_eq_of_lt (show c.toBitVec.toNat % 256 < 2 ^ 32 by omega), Nat.mod_eq_of_lt (show (c.toBitVec.toNat / 256) <<< 8 < 2 ^ 32 by rw [Nat.shiftLeft_eq]; omega), Nat.or_comm, ← Nat.shiftLeft_add_eq_or_of_lt (by omega), Nat.shiftLeft_eq]
    omega
  show BitVec.toNat (((((lo8 c &&& 255) <<< (0 : Int32)) ||| ((hi8 c &&& 255) <<< (8 : Int32))).toBitVec.setWidth 16).setWidth 32) = _
  rw [BitVec.toNat_setWidth, BitVec.toNat_setWidth, g]
  omega
end StrChars
namespace StrChars
open Jvm Sem ClassFile Op Lib Jvm.Stand Jvm.Free.XT Jvm.Free.ALB Jvm.Free.JM Jvm.Free
open Jvm.Lib.Cold (StaticIs)
/-- the array's cell V codes the n chars f 0 .. f (n - 1) by the coder cd, as the JDK does: coder 1 just where some char is above 255 -/
def Cod (cd : Int32) (n : Nat) (f : Nat → Int32) (V : Cell) : Prop := (cd = 0 ∧ V.slots.size = n ∧ ∀ j, j < n → V.slots[j]? = some (.int (lo8 (f j))) ∧ ¬ 255 < f j) ∨ (cd = 1 ∧ V.slots.size = 2 * n ∧ (∀ j, j < n → V.slots[2 * j]? = some (.int (lo8 (f j))) ∧ V.slots[2 * j + 1]? = some (.int (hi8 (f j)))) ∧ ∃ j, j < n ∧ 255 < f j)
/-- **x is a String of the n chars f 0 .. f (n - 1)**, Latin-1 or UTF-16; its array at t has the cell V -/
def Txt (x t : Addr) (V : Cell) (cd : Int32) (n : Nat) (f : Nat → Int32) (U : State) : Prop := Exact "java/lang/String" x U ∧ Has x "java/lang/String" "value" "[B" (.ref t) U ∧ Has x "java/lang/String" "coder" "B" (.int cd) U ∧ XT.Arr .byte t V U ∧ Cod cd n f V ∧ ∀ j, j < n → ¬ f j < 0 ∧ ¬ 65535 < f j
theorem Txt.mv {x t : Addr} {V : Cell} {cd : Int32} {n : Nat} {f : Nat → Int32} {U U' : State} (h : Txt x t V cd n f U) (hal : U.vm.Alike U'.vm) (hh : U'.heap = U.heap) : Txt x t V cd n f U' := ⟨h.1.mv hal hh, h.2.1.mv hal hh, h.2.2.1.mv hal hh, h.2.2.2.1.mv hal hh, h.2.2.2.2⟩
end StrChars
namespace StrChars.Road
open Jvm Sem ClassFile Op Lib Jvm.Stand Jvm.Free Jvm.Free.XT
open Jvm.Lib.Cold (StaticIs)
theorem consq {a : Array Value} {s : State} {c : Jvm.Cond} {L : List Jvm.Cond} (h0 : c.before a s = true) (h : ∀ w ∈ L, w.before a s = true) : ∀ w ∈ c :: L, w.before a s = true := fun w hw => (List.mem_cons.mp hw).elim (fun e => e ▸ h0) (h w)
/-- the bytes of the chars cs, low before high -/
def wideBytes : List Int32 → List Value
  | [] => []
  | c :: cs => .int (lo8 c) :: .int (hi8 c) :: wideBytes cs
theorem wide_lo (d : Value) : ∀ (cs : List Int32) (j : Nat), j < cs.length → (wideBytes cs).getD (2 * j) d = .int (lo8 (cs.getD j 0))
  | [], j, h => absurd h (Nat.not_lt_zero j)
  | c :: cs, 0, _ => rfl
  | c :: cs, j + 1, h => by
    have q := wide_lo d cs j (by simpa using h)
    rw [show 2 * (j + 1) = 2 * j + 1 + 1 from by omega]
    simpa [wideBytes] using q
theorem wide_hi (d : Value) : ∀ (cs : List Int32) (j : Nat), j < cs.length → (wideBytes cs).getD (2 * j + 1) d = .int (hi8 (cs.getD j 0))
  | [], j, h => absurd h (Nat.not_lt_zero j)
  | c :: cs, 0, _ => rfl
  | c :: cs, j + 1, h => by
    have q := wide_hi d cs j (by simpa using h)
    rw [show 2 * (j + 1) + 1 = 2 * j + 1 + 1 + 1 from by omega]
    simpa [wideBytes] using q
theorem low_at (d : Value) (cs : List Int32) (j : Nat) (h : j < cs.length) : (cs.map fun c => Value.int (lo8 c)).getD j d = .int (lo8 (cs.getD j 0)) := by
  simp [List.getD_eq_getElem?_getD, h]
/-- an array of N2 bytes vs codes the chars cs by the coder cd -/
def CodA (cs : List Int32) (cd N2 : Int32) (vs : List Value) : Prop := (cd = 0 ∧ N2 = Int32.ofNat cs.length ∧ vs = (cs.map fun c => Value.int (lo8 c)) ∧ ∀ c ∈ cs, ¬ 255 < c) ∨ (cd = 1 ∧ N2 = Int32.ofNat (2 * cs.length) ∧ vs = wideBytes cs ∧ ∃ c ∈ cs, 255 < c)
theorem CodA.cod {cs : List Int32} {cd N2 : Int32} {vs : List Value} {V : Cell} (h : CodA cs cd N2 vs) (hn : 2 * cs.length < 2 ^ 31) (hs : V.slots.size = N2.toNatClampNeg) (hv : RoadKit.Has V vs (.int 0)) : Cod cd cs.length (fun j => cs.getD j 0) V := by
  rcases h with ⟨rfl, rfl, rfl, h⟩ | ⟨rfl, rfl, rfl, c, hc, hw⟩
  · rw [n32 (by omega)] at hs
    exact Or.inl ⟨rfl, hs, fun j hj => ⟨by rw [hv j (by omega), low_at _ _ _ hj], by
      have e : cs.getD j 0 = cs[j] := by simp [List.getD_eq_getElem?_getD, hj]
      show ¬ 255 < cs.getD j 0
      rw [e]; exact h _ (List.getElem_mem _)⟩⟩
  · rw [n32 (by omega)] at hs
    obtain ⟨j, hj, rfl⟩ := List.getElem_of_mem hc
    exact Or.inr ⟨rfl, hs, fun j hj => ⟨by rw [hv _ (by omega), wide_lo _ _ _ hj], by rw [hv _ (by omega), wide_hi _ _ _ hj]⟩, j, hj, by
      have e : cs.getD j 0 = cs[j] := by simp [List.getD_eq_getElem?_getD, hj]
      show 255 < cs.getD j 0
      rw [e]; exact hw⟩
/-- an object of exactly java/lang/String, its two fields found: as the laws ask it -/
theorem strObj {Z U : State} {a0 : Array Value} {kI : Nat} (wi : (Jvm.Cond.instantiable ST kI).before a0 Z = true) (al : Z.vm.Alike U.vm) {x : Addr} {v0 c0 : Value} (E : RoadKit.Exa Z U.heap x ST) (V : RoadKit.Fld Z U.heap x ST "value" "[B" v0) (C : RoadKit.Fld Z U.heap x ST "coder" "B" c0) :
    ∃ (D : Cell) (fV fC : Field), Blank ST x D U ∧ Found ST "value" "[B" fV U ∧ Found ST "coder" "B" fC U ∧ D.slots[fV.slot]? = some v0 ∧ D.slots[fC.slot]? = some c0 ∧ RoadKit.slotOf Z ST "value" "[B" = fV.slot ∧ RoadKit.slotOf Z ST "coder" "B" = fC.slot := by
  obtain ⟨D, cfV, kV, iV, fV, hD, gV, stV, knV, obV, asV, slV⟩ := V
  obtain ⟨D', cfC, kC, iC, fC, hD', gC, stC, -, -, asC, slC⟩ := C
  cases hD.symm.trans hD'
  obtain ⟨D2, kD, e1, e2, e3, e4, e5⟩ := E
  cases hD.symm.trans e1
  obtain ⟨c2, k2, i1, i2, i3, -⟩ := Cond.instantiable_spec wi
  cases e2.symm.trans i1
  cases e3.symm.trans i2
  obtain ⟨kU, u1, u2⟩ := al.2.2 _ _ e3
  exact ⟨D, fV, fC, ⟨hD, ⟨knV, fun q hq => by rw [hq] at obV; cases obV⟩, by rw [al.findClass]; exact e2, kU, u1, by rw [u2]; exact i3, by rw [u2]; exact e5 i3⟩, ⟨SBG.found_only al ⟨cfV, kV, iV, gV⟩, stV⟩, ⟨SBG.found_only al ⟨cfC, kC, iC, gC⟩, stC⟩, slV, slC, by simp [RoadKit.slotOf, gV], by simp [RoadKit.slotOf, gC]⟩
theorem sta_is {Z U : State} (al : Z.vm.Alike U.vm) {C n d : String} {v : Value} (S : RoadKit.Sta Z U.heap C n d v) : StaticIs U C n d v := by
  obtain ⟨cfS, iS, kS, fS, st, cS, t1, t2, t3, t4, t5, t6, t7⟩ := S
  exact StaticIs.there (s := { Z with heap := U.heap }) ⟨cfS, iS, kS, fS, st, cS, t1, t2, t3, t4, t5, (fun q => by rw [q] at t6; cases t6), t7⟩ al rfl
end StrChars.Road
namespace StrChars
open Jvm Sem ClassFile Op Lib Jvm.Stand Jvm.Free.XT Jvm.Free.ALB Jvm.Free.JM Jvm.Free
open Jvm.Lib.Cold (StaticIs)
/-- what place i of a byte[]'s cell holds -/
def yv (A : Cell) (i : Nat) : Int32 := match A.slots[i]? with | some (.int x) => x | _ => 0
theorem yv_get {a : Addr} {A : Cell} {U : State} (h : XT.Arr .byte a A U) (ht : Typed .byte A) {i : Nat} (hi : i < A.slots.size) : A.slots[i]? = some (.int (yv A i)) := by
  have e := Array.getElem?_eq_getElem hi
  have f := ht i _ e
  unfold yv; rw [e]
  generalize A.slots[i] = v at f
  cases v <;> simp [fits] at f ⊢
/-- the two arrays are equal, place for place -/
def EqC (A B : Cell) : Prop := A.slots.size = B.slots.size ∧ ∀ i, i < A.slots.size → yv A i = yv B i
/-- a boolean that says whether p -/
def Says01 (q : Prop) (r : Option Value) (s u : State) : Prop := ∃ v : Int32, r = some (.int v) ∧ u.heap = s.heap ∧ ((v = 1 ∧ q) ∨ (v = 0 ∧ ¬ q))
theorem Says01.mv {q : Prop} : ∀ r (U U' V V' : State), U'.heap = U.heap → V.vm.Alike V'.vm → V'.heap = V.heap → Says01 q r U V → Says01 q r U' V' :=
  fun r U U' V V' h1 _ h2 ⟨v, a, b, c⟩ => ⟨v, a, by rw [h1, h2]; exact b, c⟩
namespace LEq
def yN : MethodName := ⟨"java/lang/StringLatin1", "equals", "([B[B)Z"⟩
abbrev yB : ByteArray := jdk_43_method_13_code
theorem d0 : decode yB 0 = .ok (.aload_n 0, 1) := by decide +kernel
theorem d1 : decode yB 1 = .ok (.arraylength, 1) := by decide +kernel
theorem d2 : decode yB 2 = .ok (.aload_n 1, 1) := by decide +kernel
theorem d3 : decode yB 3 = .ok (.arraylength, 1) := by decide +kernel
theorem d4 : decode yB 4 = .ok (.if_icmp (.ne) 30, 3) := by decide +kernel
theorem d7 : decode yB 7 = .ok (.iconst 0, 1) := by decide +kernel
theorem d8 : decode yB 8 = .ok (.istore_n 2, 1) := by decide +kernel
theorem d9 : decode yB 9 = .ok (.iload_n 2, 1) := by decide +kernel
theorem d10 : decode yB 10 = .ok (.aload_n 0, 1) := by decide +kernel
theorem d11 : decode yB 11 = .ok (.arraylength, 1) := by decide +kernel
theorem d12 : decode yB 12 = .ok (.if_icmp (.ge) 20, 3) := by decide +kernel
theorem d15 : decode yB 15 = .ok (.aload_n 0, 1) := by decide +kernel
theorem d16 : decode yB 16 = .ok (.iload_n 2, 1) := by decide +kernel
theorem d17 : decode yB 17 = .ok (.baload, 1) := by decide +kernel
theorem d18 : decode yB 18 = .ok (.aload_n 1, 1) := by decide +kernel
theorem d19 : decode yB 19 = .ok (.iload_n 2, 1) := by decide +kernel
theorem d20 : decode yB 20 = .ok (.baload, 1) := by decide +kernel
theorem d21 : decode yB 21 = .ok (.if_icmp (.eq) 5, 3) := by decide +kernel
theorem d24 : decode yB 24 = .ok (.iconst 0, 1) := by decide +kernel
theorem d25 : decode yB 25 = .ok (.ireturn, 1) := by decide +kernel
theorem d26 : decode yB 26 = .ok (.iinc 2 1, 3) := by decide +kernel
theorem d29 : decode yB 29 = .ok (.goto (-20), 3) := by decide +kernel
theorem d32 : decode yB 32 = .ok (.iconst 1, 1) := by decide +kernel
theorem d33 : decode yB 33 = .ok (.ireturn, 1) := by decide +kernel
theorem d34 : decode yB 34 = .ok (.iconst 0, 1) := by decide +kernel
theorem d35 : decode yB 35 = .ok (.ireturn, 1) := by decide +kernel
def site : List Cond := []
def tab : Cond := tabOf yN yB 3 (some .boolean) site
def P (a : Addr) (A : Cell) (b : Addr) (B : Cell) (args : Array Value) (s : State) : Prop := args = #[.ref a, .ref b] ∧ XT.Arr .byte a A s ∧ Typed .byte A ∧ XT.Arr .byte b B s ∧ Typed .byte B
/-- whether two byte[] are equal, place for place -/
theorem law (l : Launch) (a : Addr) (A : Cell) (b : Addr) (B : Cell) : Law l yN 2 2 0 0 yB 3 (some .boolean) site (P a A b B) (Says01 (EqC A B)) [] 0 0 := by
  refine Law.of_walk (plainFor_of_name (by decide +kernel)) (by decide +kernel) (by decide +kernel) (by decide) (fun _ _ h => by rw [h.1]; rfl) (fun _ U U' hal hh h => ⟨h.1, h.2.1.mv hal hh, h.2.2.1, h.2.2.2.1.mv hal hh, h.2.2.2.2⟩) (fun r U U' V V' h1 hal h2 h => Says01.mv r U U' V V' h1 hal h2 h) ?_
  intro p e s m args below meth c s₁ X0 hexec hbytes hml hret hlk hnm hown hh0 W hP
  obtain ⟨rfl, hA, tA, hB, tB⟩ := hP
  have a31 := hA.2.2.2
  have b31 := hB.2.2.2
  have hA0 := hA.mv X0.warmed.alike hh0
  have hB0 := hB.mv X0.warmed.alike hh0
  have c1 : Steps p.tables e below (s₁.setTop (entryFrame m #[.ref a, .ref b] 3)) (s₁.setTop (mkF m 0 #[.val (.ref a), .val (.ref b), .unset] [])) := entry rfl
  have c2 : Steps p.tables e below (s₁.setTop (entryFrame m #[.ref a, .ref b] 3)) (s₁.setTop (mkF m 4 #[.val (.ref a), .val (.ref b), .unset] [.int (Int32.ofNat B.slots.size), .int (Int32.ofNat A.slots.size)])) := c1.trans (by
    refine XS.aloadN X0.here hexec rfl (hb hbytes d0) rfl rfl ?_
    refine X0.alen hexec hA0 rfl rfl (hb hbytes d1) ?_
    refine XS.aloadN X0.here hexec rfl (hb hbytes d2) rfl rfl ?_
    refine X0.alen hexec hB0 rfl rfl (hb hbytes d3) ?_
    exact Steps.refl _)
  by_cases hs : A.slots.size = B.slots.size
  · have c3 : Steps p.tables e below (s₁.setTop (entryFrame m #[.ref a, .ref b] 3)) (s₁.setTop (mkF m 9 #[.val (.ref a), .val (.ref b), .val (.int 0)] [])) := c2.trans (by
      refine XS.icmpNo X0.here hexec rfl (hb hbytes d4) rfl (ii_ne_f (by rw [hs])) ?_
      refine iconstV X0.here hexec rfl 0 (hb hbytes d7) (by decide) ?_
      refine XS.istoreN X0.here hexec rfl (hb hbytes d8) rfl rfl ?_
      exact Steps.refl _)
    have loop : ∀ (r i : Nat), i + r = A.slots.size → (∀ j, j < i → yv A j = yv B j) → Steps p.tables e below (s₁.setTop (entryFrame m #[.ref a, .ref b] 3)) (s₁.setTop (mkF m 9 #[.val (.ref a), .val (.ref b), .val (.int (Int32.ofNat i))] [])) → ∃ (pc : Nat) (Ls : Array Slot) (v : Int32), (pc = 25 ∨ pc = 33) ∧ ((v = 1 ∧ EqC A B) ∨ (v = 0 ∧ ¬ EqC A B)) ∧ Steps p.tables e below (s₁.setTop (entryFrame m #[.ref a, .ref b] 3)) (s₁.setTop (mkF m pc Ls [.int v])) := by
      intro r
      induction r with
      | zero =>
        intro i hi he cl
        exact ⟨33, _, 1, Or.inr rfl, Or.inl ⟨rfl, hs, fun j hj => he j (by omega)⟩, cl.trans (by
          refine XS.iloadN X0.here hexec rfl (hb hbytes d9) rfl ?_
          refine XS.aloadN X0.here hexec rfl (hb hbytes d10) rfl rfl ?_
          refine X0.alen hexec hA0 rfl rfl (hb hbytes d11) ?_
          refine XS.icmpYes X0.here hexec rfl (pc0 := 12) rfl (hb hbytes d12) rfl (ii_ge_t (nlt32 (by omega) (by omega))) (by decide) rfl ?_
          refine iconstV X0.here hexec rfl 1 (hb hbytes d32) (by decide) ?_
          exact Steps.refl _)⟩
      | succ r ih =>
        intro i hi he cl
        have c4 : Steps p.tables e below (s₁.setTop (entryFrame m #[.ref a, .ref b] 3)) (s₁.setTop (mkF m 21 #[.val (.ref a), .val (.ref b), .val (.int (Int32.ofNat i))] [.int (yv B i), .int (yv A i)])) := cl.trans (by
          refine XS.iloadN X0.here hexec rfl (hb hbytes d9) rfl ?_
          refine XS.aloadN X0.here hexec rfl (hb hbytes d10) rfl rfl ?_
          refine X0.alen hexec hA0 rfl rfl (hb hbytes d11) ?_
          refine XS.icmpNo X0.here hexec rfl (hb hbytes d12) rfl (ii_ge_f (lt32 (by omega) (by omega))) ?_
          refine XS.aloadN X0.here hexec rfl (hb hbytes d15) rfl rfl ?_
          refine XS.iloadN X0.here hexec rfl (hb hbytes d16) rfl ?_
          refine X0.aget hexec hA0 rfl (yv_get hA tA (i := i) (by omega)) rfl rfl (hb hbytes d17) ?_
          refine XS.aloadN X0.here hexec rfl (hb hbytes d18) rfl rfl ?_
          refine XS.iloadN X0.here hexec rfl (hb hbytes d19) rfl ?_
          refine X0.aget hexec hB0 rfl (yv_get hB tB (i := i) (by omega)) rfl rfl (hb hbytes d20) ?_
          exact Steps.refl _)
        by_cases hv : yv A i = yv B i
        · have c5 : Steps p.tables e below (s₁.setTop (entryFrame m #[.ref a, .ref b] 3)) (s₁.setTop (mkF m 9 #[.val (.ref a), .val (.ref b), .val (.int (Int32.ofNat i + 1))] [])) := c4.trans (by
            refine XS.icmpYes X0.here hexec rfl (pc0 := 21) rfl (hb hbytes d21) rfl (ii_eq_t hv) (by decide) rfl ?_
            refine iincV X0.here hexec rfl 1 (hb hbytes d26) (by decide) rfl rfl ?_
            refine XS.goto X0.here hexec rfl (pc0 := 29) rfl (hb hbytes d29) (by decide) rfl ?_
            exact Steps.refl _)
          rw [succ32] at c5
          exact ih (i + 1) (by omega) (fun j hj => by
            by_cases e : j = i
            · rw [e]; exact hv
            · exact he j (by omega)) c5
        · exact ⟨25, _, 0, Or.inl rfl, Or.inr ⟨rfl, fun q => hv (q.2 i (by omega))⟩, c4.trans (by
            refine XS.icmpNo X0.here hexec rfl (hb hbytes d21) rfl (ii_eq_f hv) ?_
            refine iconstV X0.here hexec rfl 0 (hb hbytes d24) (by decide) ?_
            exact Steps.refl _)⟩
    obtain ⟨pc, Ls, v, hpc, hv, cz⟩ := loop A.slots.size 0 (by omega) (fun j hj => absurd hj (Nat.not_lt_zero j)) c3
    have nv : narrow .boolean (.int v) = .int v := by rcases hv with ⟨rfl, -⟩ | ⟨rfl, -⟩ <;> rfl
    rcases hpc with rfl | rfl
    · exact ⟨s₁, some (.int v), _, _, _, X0, rfl, rfl, rfl, (fun h => by cases h), ⟨v, rfl, hh0, hv⟩, fun fs hl => cz.trans (X0.ireturnOut hexec hret nv (Or.inr (Or.inl rfl)) (hb hbytes d25) hl)⟩
    · exact ⟨s₁, some (.int v), _, _, _, X0, rfl, rfl, rfl, (fun h => by cases h), ⟨v, rfl, hh0, hv⟩, fun fs hl => cz.trans (X0.ireturnOut hexec hret nv (Or.inr (Or.inl rfl)) (hb hbytes d33) hl)⟩
  · have c3 : Steps p.tables e below (s₁.setTop (entryFrame m #[.ref a, .ref b] 3)) (s₁.setTop (mkF m 35 #[.val (.ref a), .val (.ref b), .unset] [.int 0])) := c2.trans (by
      refine XS.icmpYes X0.here hexec rfl (pc0 := 4) rfl (hb hbytes d4) rfl (ii_ne_t (ne32 a31 b31 hs)) (by decide) rfl ?_
      refine iconstV X0.here hexec rfl 0 (hb hbytes d34) (by decide) ?_
      exact Steps.refl _)
    exact ⟨s₁, some (.int 0), _, _, _, X0, rfl, rfl, rfl, (fun h => by cases h), ⟨0, rfl, hh0, Or.inr ⟨rfl, fun q => hs q.1⟩⟩, fun fs hl => c3.trans (X0.ireturnOut hexec hret rfl (Or.inr (Or.inl rfl)) (hb hbytes d35) hl)⟩
end LEq
theorem Cod.ty {cd : Int32} {n : Nat} {f : Nat → Int32} {V : Cell} (h : Cod cd n f V) : Typed .byte V := fun i v hv => by
  have hi : i < V.slots.size := (Array.getElem?_eq_some_iff.mp hv).1
  rcases h with ⟨-, k1, k2⟩ | ⟨-, k1, k2, -⟩
  · rw [(k2 i (by omega)).1] at hv; cases hv; exact fits_lo8 _
  · rcases Nat.mod_two_eq_zero_or_one i with e | e
    · obtain ⟨j, rfl⟩ : ∃ j, i = 2 * j := ⟨i / 2, by omega⟩
      rw [(k2 j (by omega)).1] at hv; cases hv; exact fits_lo8 _
    · obtain ⟨j, rfl⟩ : ∃ j, i = 2 * j + 1 := ⟨i / 2, by omega⟩
      rw [(k2 j (by omega)).2] at hv; cases hv; exact fits_lo8 _
/-- the same text -/
def SameT (n : Nat) (f : Nat → Int32) (k : Nat) (g : Nat → Int32) : Prop := n = k ∧ ∀ j, j < n → f j = g j
theorem lo8_inj {x y : Int32} (h0 : ¬ x < 0) (h1 : ¬ 255 < x) (k0 : ¬ y < 0) (k1 : ¬ 255 < y) (h : lo8 x = lo8 y) : x = y := by
  rw [← lo8_mask h0 h1, ← lo8_mask k0 k1, h]
/-- arrays coded by one coder are equal just where the texts are -/
theorem Cod.eqv {cd : Int32} {n k : Nat} {f g : Nat → Int32} {V V' : Cell} (h : Cod cd n f V) (h' : Cod cd k g V') (hf : ∀ j, j < n → ¬ f j < 0 ∧ ¬ 65535 < f j) (hg : ∀ j, j < k → ¬ g j < 0 ∧ ¬ 65535 < g j) : EqC V V' ↔ SameT n f k g := by
  have yvv : ∀ {W : Cell} {i : Nat} {x : Int32}, W.slots[i]? = some (.int x) → yv W i = x := fun q => by unfold yv; rw [q]
  rcases h with ⟨rfl, k1, k2⟩ | ⟨rfl, k1, k2, -⟩
  · rcases h' with ⟨-, m1, m2⟩ | ⟨e, -⟩
    · constructor
      · rintro ⟨e1, e2⟩
        refine ⟨by omega, fun j hj => ?_⟩
        have q := e2 j (by omega)
        rw [yvv (k2 j hj).1, yvv (m2 j (by omega)).1] at q
        exact lo8_inj (hf j hj).1 (k2 j hj).2 (hg j (by omega)).1 (m2 j (by omega)).2 q
      · rintro ⟨rfl, e2⟩
        refine ⟨by omega, fun j hj => ?_⟩
        rw [yvv (k2 j (by omega)).1, yvv (m2 j (by omega)).1, e2 j (by omega)]
    · exact absurd e (by decide)
  · rcases h' with ⟨e, -⟩ | ⟨-, m1, m2, -⟩
    · exact absurd e (by decide)
    · constructor
      · rintro ⟨e1, e2⟩
        refine ⟨by omega, fun j hj => ?_⟩
        have q1 := e2 (2 * j) (by omega)
        have q2 := e2 (2 * j + 1) (by omega)
        rw [yvv (k2 j hj).1, yvv (m2 j (by omega)).1] at q1
        rw [yvv (k2 j hj).2, yvv (m2 j (by omega)).2] at q2
        rw [← pair_says (hf j hj).1 (hf j hj).2, ← pair_says (hg j (by omega)).1 (hg j (by omega)).2, q1, q2]
      · rintro ⟨rfl, e2⟩
        refine ⟨by omega, fun i hi => ?_⟩
        rcases Nat.mod_two_eq_zero_or_one i with e | e
        · obtain ⟨j, rfl⟩ : ∃ j, i = 2 * j := ⟨i / 2, by omega⟩
          rw [yvv (k2 j (by omega)).1, yvv (m2 j (by omega)).1, e2 j (by omega)]
        · obtain ⟨j, rfl⟩ : ∃ j, i = 2 * j + 1 := ⟨i / 2, by omega⟩
          rw [yvv (k2 j (by omega)).2, yvv (m2 j (by omega)).2, e2 j (by omega)]
/-- two codings differ: so do the texts -/
theorem Cod.dif {cd cd' : Int32} {n k : Nat} {f g : Nat → Int32} {V V' : Cell} (h : Cod cd n f V) (h' : Cod cd' k g V') (hne : ¬ cd = cd') : ¬ SameT n f k g := by
  rintro ⟨rfl, e⟩
  rcases h with ⟨rfl, -, k2⟩ | ⟨rfl, -, -, j, hj, hw⟩
  · rcases h' with ⟨rfl, -⟩ | ⟨-, -, -, j, hj, hw⟩
    · exact hne rfl
    · exact (k2 j hj).2 (by rw [e j hj]; exact hw)
  · rcases h' with ⟨-, -, m2⟩ | ⟨rfl, -⟩
    · exact (m2 j hj).2 (by rw [← e j hj]; exact hw)
    · exact hne rfl
/-- an object of exactly C is an instance of C -/
theorem cinst {p : Program} {l : Launch} {e : Env} {R : Room} {s : State} {m : MethodId} {args : Array Value} {below : List Frame} {meth : Method} {c : Code} {T : State} {locs : List Loc} {cells slots : Nat} (X : Stand p l e R s m args below meth c T locs cells slots) (hexec : p.tables.exec = Jvm.exec) {own C : String} {index : Nat} (hown : s.vm.findClass own = some m.cls) (hlink : (Cond.classLink own index C).before args s = true) {a : Addr} (hE : Exact C a T)
    {g : JFrame} (hg : g.method = m) {rest : List Value} (hstack : g.stack = .ref a :: rest) (hdg : decode c.code g.pc = .ok (.instanceof index, 3)) :
    ∃ T', Stand p l e R s m args below meth c T' locs cells slots ∧ T'.heap = T.heap ∧ ∀ target, Steps p.tables e below (T'.setTop { g with pc := g.pc + 3, stack := .int 1 :: rest }) target → Steps p.tables e below (T.setTop g) target := by
  obtain ⟨cB, h1, D, h2, h3, h4⟩ := hE
  have h1' : s.vm.findClass C = some cB := by rw [← X.warmed.alike.findClass]; exact h1
  obtain ⟨vm', X', st⟩ := X.instanceofYes hexec hown hlink h2 h4 h1' (by rw [h3]; exact Jvm.Free.SB.assignable_self _ _) hg hstack hdg
  exact ⟨_, X', rfl, st⟩
theorem cself {p : Program} {l : Launch} {e : Env} {R : Room} {s : State} {m : MethodId} {args : Array Value} {below : List Frame} {meth : Method} {c : Code} {T : State} {locs : List Loc} {cells slots : Nat} (X : Stand p l e R s m args below meth c T locs cells slots) (hexec : p.tables.exec = Jvm.exec) {own C : String} {index : Nat} (hown : s.vm.findClass own = some m.cls) (hlink : (Cond.classLink own index C).before args s = true) {a : Addr} (hE : Exact C a T)
    {g : JFrame} (hg : g.method = m) {rest : List Value} (hstack : g.stack = .ref a :: rest) (hdg : decode c.code g.pc = .ok (.checkcast index, 3)) :
    ∃ T', Stand p l e R s m args below meth c T' locs cells slots ∧ T'.heap = T.heap ∧ ∀ target, Steps p.tables e below (T'.setTop { g with pc := g.pc + 3, stack := .ref a :: rest }) target → Steps p.tables e below (T.setTop g) target := by
  obtain ⟨cB, h1, D, h2, h3, h4⟩ := hE
  have h1' : s.vm.findClass C = some cB := by rw [← X.warmed.alike.findClass]; exact h1
  obtain ⟨vm', X', st⟩ := X.checkcastYes hexec hown hlink h2 h4 h1' (by rw [h3]; exact Jvm.Free.SB.assignable_self _ _) hg hstack hdg
  exact ⟨_, X', rfl, fun t h => st t (by rw [← hstack] at h; exact h)⟩
namespace SEq
def yN : MethodName := ⟨"java/lang/String", "equals", "(Ljava/lang/Object;)Z"⟩
abbrev yB : ByteArray := jdk_42_method_66_code
theorem d0 : decode yB 0 = .ok (.aload_n 0, 1) := by decide +kernel
theorem d1 : decode yB 1 = .ok (.aload_n 1, 1) := by decide +kernel
theorem d2 : decode yB 2 = .ok (.if_acmp (.ne) 5, 3) := by decide +kernel
theorem d5 : decode yB 5 = .ok (.iconst 1, 1) := by decide +kernel
theorem d6 : decode yB 6 = .ok (.ireturn, 1) := by decide +kernel
theorem d7 : decode yB 7 = .ok (.aload_n 1, 1) := by decide +kernel
theorem d8 : decode yB 8 = .ok (.instanceof 10, 3) := by decide +kernel
theorem d11 : decode yB 11 = .ok (.ifCond (.eq) 43, 3) := by decide +kernel
theorem d14 : decode yB 14 = .ok (.aload_n 1, 1) := by decide +kernel
theorem d15 : decode yB 15 = .ok (.checkcast 10, 3) := by decide +kernel
theorem d18 : decode yB 18 = .ok (.astore_n 2, 1) := by decide +kernel
theorem d19 : decode yB 19 = .ok (.getstatic 38, 3) := by decide +kernel
theorem d22 : decode yB 22 = .ok (.ifCond (.eq) 14, 3) := by decide +kernel
theorem d25 : decode yB 25 = .ok (.aload_n 0, 1) := by decide +kernel
theorem d26 : decode yB 26 = .ok (.getfield 15, 3) := by decide +kernel
theorem d29 : decode yB 29 = .ok (.aload_n 2, 1) := by decide +kernel
theorem d30 : decode yB 30 = .ok (.getfield 15, 3) := by decide +kernel
theorem d33 : decode yB 33 = .ok (.if_icmp (.ne) 21, 3) := by decide +kernel
theorem d36 : decode yB 36 = .ok (.aload_n 0, 1) := by decide +kernel
theorem d37 : decode yB 37 = .ok (.getfield 9, 3) := by decide +kernel
theorem d40 : decode yB 40 = .ok (.aload_n 2, 1) := by decide +kernel
theorem d41 : decode yB 41 = .ok (.getfield 9, 3) := by decide +kernel
theorem d44 : decode yB 44 = .ok (.invokestatic 541, 3) := by decide +kernel
theorem d47 : decode yB 47 = .ok (.ifCond (.eq) 7, 3) := by decide +kernel
theorem d50 : decode yB 50 = .ok (.iconst 1, 1) := by decide +kernel
theorem d51 : decode yB 51 = .ok (.goto 4, 3) := by decide +kernel
theorem d54 : decode yB 54 = .ok (.iconst 0, 1) := by decide +kernel
theorem d55 : decode yB 55 = .ok (.ireturn, 1) := by decide +kernel
def site : List Cond := [.classLink "java/lang/String" 10 "java/lang/String", .fieldLink "java/lang/String" 38 "java/lang/String" "COMPACT_STRINGS" "Z", .fieldLink "java/lang/String" 15 "java/lang/String" "coder" "B", .fieldLink "java/lang/String" 9 "java/lang/String" "value" "[B", LEq.tab] ++ staticW "java/lang/String" 541 LEq.yN
def tab : Cond := tabOf yN yB 3 (some .boolean) site
def P (x t : Addr) (V : Cell) (cd : Int32) (n : Nat) (f : Nat → Int32) (y t' : Addr) (V' : Cell) (cd' : Int32) (k : Nat) (g : Nat → Int32) (z : Int32) (args : Array Value) (s : State) : Prop := args = #[.ref x, .ref y] ∧ Txt x t V cd n f s ∧ Txt y t' V' cd' k g s ∧ StaticIs s "java/lang/String" "COMPACT_STRINGS" "Z" (.int z) ∧ ¬ z = 0
/-- equals(Object) of two Strings: whether the texts are the same -/
theorem law (l : Launch) (x t : Addr) (V : Cell) (cd : Int32) (n : Nat) (f : Nat → Int32) (y t' : Addr) (V' : Cell) (cd' : Int32) (k : Nat) (g : Nat → Int32) (z : Int32) : Law l yN 2 1 1 14 yB 3 (some .boolean) site (P x t V cd n f y t' V' cd' k g z) (Says01 (SameT n f k g)) [] 0 0 := by
  refine Law.of_walk (plainFor_of_name (by decide +kernel)) (by decide +kernel) (by decide +kernel) (by decide) (fun _ _ h => by rw [h.1]; rfl) (fun _ U U' hal hh h => ⟨h.1, h.2.1.mv hal hh, h.2.2.1.mv hal hh, h.2.2.2.1.there hal hh, h.2.2.2.2⟩) (fun r U U' V V' h1 hal h2 h => Says01.mv r U U' V V' h1 hal h2 h) ?_
  intro p e s m args below meth c s₁ X0 hexec hbytes hml hret hlk hnm hown hh0 W hP
  obtain ⟨rfl, hx, hy, s1, hz⟩ := hP
  have c1 : Steps p.tables e below (s₁.setTop (entryFrame m #[.ref x, .ref y] 3)) (s₁.setTop (mkF m 2 #[.val (.ref x), .val (.ref y), .unset] [.ref y, .ref x])) := Steps.trans (entry rfl) (by
    show Steps p.tables e below (s₁.setTop (mkF m 0 #[.val (.ref x), .val (.ref y), .unset] [])) _
    refine XS.aloadN X0.here hexec rfl (hb hbytes d0) rfl rfl ?_
    refine XS.aloadN X0.here hexec rfl (hb hbytes d1) rfl rfl ?_
    exact Steps.refl _)
  by_cases hxy : x = y
  · have c2 : Steps p.tables e below (s₁.setTop (entryFrame m #[.ref x, .ref y] 3)) (s₁.setTop (mkF m 6 #[.val (.ref x), .val (.ref y), .unset] [.int 1])) := c1.trans (by
      refine acmpNo X0.here hexec rfl (hb hbytes d2) rfl rfl rfl (by simp [acmp, hxy]) ?_
      refine iconstV X0.here hexec rfl 1 (hb hbytes d5) (by decide) ?_
      exact Steps.refl _)
    subst hxy
    have ec : cd = cd' := by
      obtain ⟨D, fd, a1, a2, a3⟩ := hx.2.2.1
      obtain ⟨D', fd', b1, b2, b3⟩ := hy.2.2.1
      cases a1.symm.trans b1
      obtain ⟨q1, q2, q3, q4⟩ := a2.1
      obtain ⟨r1, r2, r3, r4⟩ := b2.1
      cases q4.symm.trans r4
      cases a3.symm.trans b3; rfl
    have et : t = t' := by
      obtain ⟨D, fd, a1, a2, a3⟩ := hx.2.1
      obtain ⟨D', fd', b1, b2, b3⟩ := hy.2.1
      cases a1.symm.trans b1
      obtain ⟨q1, q2, q3, q4⟩ := a2.1
      obtain ⟨r1, r2, r3, r4⟩ := b2.1
      cases q4.symm.trans r4
      cases a3.symm.trans b3; rfl
    subst ec et
    have ev : V = V' := by cases hx.2.2.2.1.1.symm.trans hy.2.2.2.1.1; rfl
    subst ev
    have hs : SameT n f k g := (Cod.eqv hx.2.2.2.2.1 hy.2.2.2.2.1 hx.2.2.2.2.2 hy.2.2.2.2.2).mp ⟨rfl, fun _ _ => rfl⟩
    exact ⟨s₁, some (.int 1), _, _, _, X0, rfl, rfl, rfl, (fun h => by cases h), ⟨1, rfl, hh0, Or.inl ⟨rfl, hs⟩⟩, fun fs hl => c2.trans (X0.ireturnOut hexec hret rfl (Or.inr (Or.inl rfl)) (hb hbytes d6) hl)⟩
  · have c2 : Steps p.tables e below (s₁.setTop (entryFrame m #[.ref x, .ref y] 3)) (s₁.setTop (mkF m 8 #[.val (.ref x), .val (.ref y), .unset] [.ref y])) := c1.trans (by
      refine acmpYes X0.here hexec rfl (pc0 := 2) rfl (hb hbytes d2) rfl rfl rfl (by simp [acmp, hxy]) (by decide) rfl ?_
      refine XS.aloadN X0.here hexec rfl (hb hbytes d7) rfl rfl ?_
      exact Steps.refl _)
    obtain ⟨T3, X3, q3, st3⟩ := cinst X0 hexec hown (wk W (.classLink "java/lang/String" 10 "java/lang/String")) (hy.mv X0.warmed.alike hh0).1 (g := (mkF m 8 #[.val (.ref x), .val (.ref y), .unset] [.ref y])) rfl (rest := []) rfl (hb hbytes d8)
    have hh3 := q3.trans hh0
    have c4 : Steps p.tables e below (s₁.setTop (entryFrame m #[.ref x, .ref y] 3)) (T3.setTop (mkF m 15 #[.val (.ref x), .val (.ref y), .unset] [.ref y])) := (c2.trans (st3 _ (Steps.refl _))).trans (by
      refine XS.ifNo X3.here hexec rfl (hb hbytes d11) rfl (i0_eq_f (by decide)) ?_
      refine XS.aloadN X3.here hexec rfl (hb hbytes d14) rfl rfl ?_
      exact Steps.refl _)
    obtain ⟨T5, X5, q5, st5⟩ := cself X3 hexec hown (wk W (.classLink "java/lang/String" 10 "java/lang/String")) (hy.mv X3.warmed.alike hh3).1 (g := (mkF m 15 #[.val (.ref x), .val (.ref y), .unset] [.ref y])) rfl (rest := []) rfl (hb hbytes d15)
    have hh5 := q5.trans hh3
    have c6 : Steps p.tables e below (s₁.setTop (entryFrame m #[.ref x, .ref y] 3)) (T5.setTop (mkF m 19 #[.val (.ref x), .val (.ref y), .val (.ref y)] [])) := (c4.trans (st5 _ (Steps.refl _))).trans (by
      refine XS.astoreN X5.here hexec rfl (hb hbytes d18) rfl rfl rfl ?_
      exact Steps.refl _)
    obtain ⟨T7, X7, q7, st7⟩ := X5.sget hexec hown (wk W (.fieldLink "java/lang/String" 38 "java/lang/String" "COMPACT_STRINGS" "Z")) s1 (fun _ _ h => by rw [hh5]; exact h) (g := (mkF m 19 #[.val (.ref x), .val (.ref y), .val (.ref y)] [])) rfl (hb hbytes d19)
    have hh7 := q7.trans hh5
    have c8 : Steps p.tables e below (s₁.setTop (entryFrame m #[.ref x, .ref y] 3)) (T7.setTop (mkF m 26 #[.val (.ref x), .val (.ref y), .val (.ref y)] [.ref x])) := (c6.trans (st7 _ (Steps.refl _))).trans (by
      refine XS.ifNo X7.here hexec rfl (hb hbytes d22) rfl (i0_eq_f hz) ?_
      refine XS.aloadN X7.here hexec rfl (hb hbytes d25) rfl rfl ?_
      exact Steps.refl _)
    obtain ⟨T9, X9, q9, st9⟩ := X7.hget hexec hown (wk W (.fieldLink "java/lang/String" 15 "java/lang/String" "coder" "B")) (hx.mv X7.warmed.alike hh7).2.2.1 (g := (mkF m 26 #[.val (.ref x), .val (.ref y), .val (.ref y)] [.ref x])) rfl (rest := []) rfl (hb hbytes d26)
    have hh9 := q9.trans hh7
    have c10 : Steps p.tables e below (s₁.setTop (entryFrame m #[.ref x, .ref y] 3)) (T9.setTop (mkF m 30 #[.val (.ref x), .val (.ref y), .val (.ref y)] [.ref y, .int cd])) := (c8.trans (st9 _ (Steps.refl _))).trans (by
      refine XS.aloadN X9.here hexec rfl (hb hbytes d29) rfl rfl ?_
      exact Steps.refl _)
    obtain ⟨T11, X11, q11, st11⟩ := X9.hget hexec hown (wk W (.fieldLink "java/lang/String" 15 "java/lang/String" "coder" "B")) (hy.mv X9.warmed.alike hh9).2.2.1 (g := (mkF m 30 #[.val (.ref x), .val (.ref y), .val (.ref y)] [.ref y, .int cd])) rfl (rest := [.int cd]) rfl (hb hbytes d30)
    have hh11 := q11.trans hh9
    have c12 : Steps p.tables e below (s₁.setTop (entryFrame m #[.ref x, .ref y] 3)) (T11.setTop (mkF m 33 #[.val (.ref x), .val (.ref y), .val (.ref y)] [.int cd', .int cd])) := c10.trans (st11 _ (Steps.refl _))
    by_cases hcd : cd = cd'
    · subst hcd
      have c13 : Steps p.tables e below (s₁.setTop (entryFrame m #[.ref x, .ref y] 3)) (T11.setTop (mkF m 37 #[.val (.ref x), .val (.ref y), .val (.ref y)] [.ref x])) := c12.trans (by
        refine XS.icmpNo X11.here hexec rfl (hb hbytes d33) rfl (ii_ne_f rfl) ?_
        refine XS.aloadN X11.here hexec rfl (hb hbytes d36) rfl rfl ?_
        exact Steps.refl _)
      obtain ⟨T14, X14, q14, st14⟩ := X11.hget hexec hown (wk W (.fieldLink "java/lang/String" 9 "java/lang/String" "value" "[B")) (hx.mv X11.warmed.alike hh11).2.1 (g := (mkF m 37 #[.val (.ref x), .val (.ref y), .val (.ref y)] [.ref x])) rfl (rest := []) rfl (hb hbytes d37)
      have hh14 := q14.trans hh11
      have c15 : Steps p.tables e below (s₁.setTop (entryFrame m #[.ref x, .ref y] 3)) (T14.setTop (mkF m 41 #[.val (.ref x), .val (.ref y), .val (.ref y)] [.ref y, .ref t])) := (c13.trans (st14 _ (Steps.refl _))).trans (by
        refine XS.aloadN X14.here hexec rfl (hb hbytes d40) rfl rfl ?_
        exact Steps.refl _)
      obtain ⟨T16, X16, q16, st16⟩ := X14.hget hexec hown (wk W (.fieldLink "java/lang/String" 9 "java/lang/String" "value" "[B")) (hy.mv X14.warmed.alike hh14).2.1 (g := (mkF m 41 #[.val (.ref x), .val (.ref y), .val (.ref y)] [.ref y, .ref t])) rfl (rest := [.ref t]) rfl (hb hbytes d41)
      have hh16 := q16.trans hh14
      have c17 : Steps p.tables e below (s₁.setTop (entryFrame m #[.ref x, .ref y] 3)) (T16.setTop (mkF m 44 #[.val (.ref x), .val (.ref y), .val (.ref y)] [.ref t', .ref t])) := c15.trans (st16 _ (Steps.refl _))
      obtain ⟨v18, T18, X18, E18, g18⟩ := X16.callS hexec (LEq.law l t V t' V') hown (wks W (staticW "java/lang/String" 541 LEq.yN)) (wk W LEq.tab) (W := 0) (Nat.le_of_ble_eq_true rfl) (Nat.le_of_ble_eq_true rfl) (Nat.le_refl _) (Nat.le_refl _) (g := (mkF m 44 #[.val (.ref x), .val (.ref y), .val (.ref y)] [.ref t', .ref t])) rfl (by rw [hml]; rfl) c17 (argsL := [.ref t, .ref t']) (rest := []) rfl rfl (by show 2 * 0 + 0 ≤ _; decide) (hb hbytes d44) (⟨rfl, hx.2.2.2.1.mv X16.warmed.alike hh16, hx.2.2.2.2.1.ty, hy.2.2.2.1.mv X16.warmed.alike hh16, hy.2.2.2.2.1.ty⟩)
      obtain ⟨v, rfl, q18, hv⟩ := E18
      have iff := Cod.eqv hx.2.2.2.2.1 hy.2.2.2.2.1 hx.2.2.2.2.2 hy.2.2.2.2.2
      rcases hv with ⟨rfl, he⟩ | ⟨rfl, he⟩
      · have c19 : Steps p.tables e below (s₁.setTop (entryFrame m #[.ref x, .ref y] 3)) (T18.setTop (mkF m 55 #[.val (.ref x), .val (.ref y), .val (.ref y)] [.int 1])) := Steps.trans g18 (by
          refine XS.ifNo X18.here hexec rfl (hb hbytes d47) rfl (i0_eq_f (by decide)) ?_
          refine iconstV X18.here hexec rfl 1 (hb hbytes d50) (by decide) ?_
          refine XS.goto X18.here hexec rfl (pc0 := 51) rfl (hb hbytes d51) (by decide) rfl ?_
          exact Steps.refl _)
        exact ⟨T18, some (.int 1), _, _, _, X18, rfl, rfl, rfl, (fun h => by cases h), ⟨1, rfl, q18.trans hh16, Or.inl ⟨rfl, iff.mp he⟩⟩, fun fs hl => c19.trans (X18.ireturnOut hexec hret rfl (Or.inr (Or.inl rfl)) (hb hbytes d55) hl)⟩
      · have c19 : Steps p.tables e below (s₁.setTop (entryFrame m #[.ref x, .ref y] 3)) (T18.setTop (mkF m 55 #[.val (.ref x), .val (.ref y), .val (.ref y)] [.int 0])) := Steps.trans g18 (by
          refine XS.ifYes X18.here hexec rfl (pc0 := 47) rfl (hb hbytes d47) rfl (i0_eq_t rfl) (by decide) rfl ?_
          refine iconstV X18.here hexec rfl 0 (hb hbytes d54) (by decide) ?_
          exact Steps.refl _)
        exact ⟨T18, some (.int 0), _, _, _, X18, rfl, rfl, rfl, (fun h => by cases h), ⟨0, rfl, q18.trans hh16, Or.inr ⟨rfl, fun q => he (iff.mpr q)⟩⟩, fun fs hl => c19.trans (X18.ireturnOut hexec hret rfl (Or.inr (Or.inl rfl)) (hb hbytes d55) hl)⟩
    · have c13 : Steps p.tables e below (s₁.setTop (entryFrame m #[.ref x, .ref y] 3)) (T11.setTop (mkF m 55 #[.val (.ref x), .val (.ref y), .val (.ref y)] [.int 0])) := c12.trans (by
        refine XS.icmpYes X11.here hexec rfl (pc0 := 33) rfl (hb hbytes d33) rfl (ii_ne_t hcd) (by decide) rfl ?_
        refine iconstV X11.here hexec rfl 0 (hb hbytes d54) (by decide) ?_
        exact Steps.refl _)
      exact ⟨T11, some (.int 0), _, _, _, X11, rfl, rfl, rfl, (fun h => by cases h), ⟨0, rfl, hh11, Or.inr ⟨rfl, Cod.dif hx.2.2.2.2.1 hy.2.2.2.2.1 hcd⟩⟩, fun fs hl => c13.trans (X11.ireturnOut hexec hret rfl (Or.inr (Or.inl rfl)) (hb hbytes d55) hl)⟩
theorem pays {l : Launch} {R : Room} {p : Program} {e : Env} {below : List Frame} {s : State} {sargs : Array Value} {len W : Nat} (x t : Addr) (V : Cell) (cd : Int32) (n : Nat) (f : Nat → Int32) (y t' : Addr) (V' : Cell) (cd' : Int32) (k : Nat) (g : Nat → Int32) (z : Int32) (htab : tab.before sargs s = true) (hfr : 2 ≤ R.frames) (hlo : W + 28 ≤ R.locals) :
    Back l R p e below s sargs yN len W (fun A₁ a₁ => A₁.cells + 0 ≤ R.cells ∧ A₁.slots + 0 ≤ R.slots ∧ P x t V cd n f y t' V' cd' k g z a₁ A₁.U) (fun A₁ _ v₁ B₁ => Says01 (SameT n f k g) v₁ A₁.U B₁.U ∧ B₁.locs = A₁.locs ++ [] ∧ B₁.cells = A₁.cells + 0 ∧ B₁.slots = A₁.slots + 0) :=
  (law l x t V cd n f y t' V' cd' k g z).pays htab hfr (by omega)
end SEq
end StrChars
namespace StrChars.Road
open Jvm Sem ClassFile Op Lib Jvm.Stand Jvm.Free Jvm.Free.XT
open Jvm.Lib.Cold (StaticIs)
/-- the words of String.equals(Object) -/
abbrev wordsEq : List Jvm.Cond := [.code SEq.yN SEq.yB 3 (some .boolean), .initialized ST, .classLink ST 10 ST, .fieldLink ST 38 ST "COMPACT_STRINGS" "Z", .fieldLink ST 15 ST "coder" "B", .fieldLink ST 9 ST "value" "[B", .methodLink ST 541 LEq.yN, .static LEq.yN, .code LEq.yN LEq.yB 3 (some .boolean), .initialized "java/lang/StringLatin1"]
theorem tabEq_of {a : Array Value} {s : State} (h : ∀ w ∈ wordsEq, w.before a s = true) : SEq.tab.before a s = true := by
  have hl : LEq.tab.before a s = true := unparts (wk h (.code LEq.yN LEq.yB 3 (some .boolean))) (wks h (.initialized LEq.yN.cls :: LEq.site))
  have q := consq hl h
  exact unparts (wk q (.code SEq.yN SEq.yB 3 (some .boolean))) (wks q (.initialized SEq.yN.cls :: SEq.site))
theorem movedEq {Z s : State} {a0 args : Array Value} (hZ : Z.Warmed39 s.vm) (hw : ∀ d ∈ wordsEq, d.before a0 Z = true) : ∀ d ∈ wordsEq, d.before args s = true := fun d hd => by
  have t : ∀ d ∈ wordsEq, (d.onTables && d.keepsFace) = true := by decide +kernel
  exact RoadKit.mv hZ (hw d hd) (t d hd)
/-- the road's facts of a String, as the laws ask it -/
theorem txt_of {Z U : State} {a0 : Array Value} {kI : Nat} (wi : (Jvm.Cond.instantiable ST kI).before a0 Z = true) (al : Z.vm.Alike U.vm) {x t : Addr} {kb : ClassId} {cs : List Int32} {cd N2 : Int32} {vs : List Value} (E : RoadKit.Exa Z U.heap x ST) (V : RoadKit.Fld Z U.heap x ST "value" "[B" (.ref t)) (C : RoadKit.Fld Z U.heap x ST "coder" "B" (.int cd)) (K : RoadKit.Arv Z U.heap t kb .byte N2 vs (.int 0)) (hc : CodA cs cd N2 vs) (hb : ∀ c ∈ cs, ¬ c < 0 ∧ ¬ (65535 : Int32) < c) (l2 : cs.length ≤ 4000) :
    ∃ A, Txt x t A cd cs.length (fun j => cs.getD j 0) U := by
  obtain ⟨A, K1, K2, K3, K4, K5, K6⟩ := K
  have hcod := hc.cod (by omega) K3 K5
  obtain ⟨D, fV, fC, hB, F1, F2, g1, g2, -, -⟩ := strObj wi al E V C
  exact ⟨A, ⟨_, hB.2.2.1, D, hB.1, rfl, by cases q : D.vm <;> first | rfl | exact absurd q (hB.2.1.2 _)⟩, Has.of hB F1 g1, Has.of hB F2 g2, ⟨K1.1, State.isArrayOf_alike al K1.2.1, K1.2.2, by rcases hcod with ⟨-, q, -⟩ | ⟨-, q, -⟩ <;> omega⟩, hcod, fun j hj => by
    have e : cs.getD j 0 = cs[j] := by simp [List.getD_eq_getElem?_getD, hj]
    show ¬ cs.getD j 0 < 0 ∧ ¬ 65535 < cs.getD j 0
    rw [e]; exact hb _ (List.getElem_mem _)⟩
theorem same_list (cs ds : List Int32) : SameT cs.length (fun j => cs.getD j 0) ds.length (fun j => ds.getD j 0) ↔ cs = ds := by
  constructor
  · rintro ⟨e, q⟩
    refine List.ext_getElem e fun j h1 h2 => ?_
    have := q j h1
    simpa [List.getD_eq_getElem?_getD, h1, h2] using this
  · rintro rfl
    exact ⟨rfl, fun _ _ => rfl⟩
/-- **equals(Object) OF TWO SUCH STRINGS**: 1 just where the chars are the same -/
theorem eqW {p : Program} {l : Launch} {e : Env} {R : Room} {s : State} {args : Array Value} {below : List Frame} {len W : Nat} {Z : State} {a0 : Array Value} {h : Heap} (hZ : Z.Warmed39 s.vm) (hw : ∀ d ∈ wordsEq, d.before a0 Z = true) {kI : Nat} (wi : (Jvm.Cond.instantiable ST kI).before a0 Z = true)
    {x t : Addr} {kb : ClassId} {cs : List Int32} {cd N2 : Int32} {vs : List Value} (E : RoadKit.Exa Z h x ST) (V : RoadKit.Fld Z h x ST "value" "[B" (.ref t)) (C : RoadKit.Fld Z h x ST "coder" "B" (.int cd)) (K : RoadKit.Arv Z h t kb .byte N2 vs (.int 0)) (hc : CodA cs cd N2 vs) (hb : ∀ c ∈ cs, ¬ c < 0 ∧ ¬ (65535 : Int32) < c) (l2 : cs.length ≤ 4000)
    {y t' : Addr} {kb' : ClassId} {ds : List Int32} {cd' N2' : Int32} {vs' : List Value} (E' : RoadKit.Exa Z h y ST) (V' : RoadKit.Fld Z h y ST "value" "[B" (.ref t')) (C' : RoadKit.Fld Z h y ST "coder" "B" (.int cd')) (K' : RoadKit.Arv Z h t' kb' .byte N2' vs' (.int 0)) (hc' : CodA ds cd' N2' vs') (hb' : ∀ c ∈ ds, ¬ c < 0 ∧ ¬ (65535 : Int32) < c) (l2' : ds.length ≤ 4000)
    {z : Int32} (S : RoadKit.Sta Z h ST "COMPACT_STRINGS" "Z" (.int z)) (hz : ¬ z = 0) (hfr : 2 ≤ R.frames) (hlo : W + 28 ≤ R.locals) :
    Back l R p e below s args (⟨"java/lang/String", "equals", "(Ljava/lang/Object;)Z"⟩ : MethodName) len W (fun P a => a = #[.ref x, .ref y] ∧ P.U.heap = h ∧ P.cells + 0 ≤ R.cells ∧ P.slots + 0 ≤ R.slots)
      (fun P _ v B => ∃ L, (((v = some (.int 1) ∧ cs = ds) ∨ (v = some (.int 0) ∧ ¬ cs = ds)) ∧ L = [] ∧ B.U.heap = h) ∧ B.locs = P.locs ++ L ∧ B.cells = P.cells + 0 ∧ B.slots = P.slots + 0) := by
  intro m meth c P g ig mk a X hg hsize hdg hW hn hp'
  obtain ⟨rfl, rfl, r1, r2⟩ := hp'
  have al : Z.vm.Alike P.U.vm := hZ.alike.trans X.warmed.alike
  obtain ⟨A, hx⟩ := txt_of wi al E V C K hc hb l2
  obtain ⟨A', hy⟩ := txt_of wi al E' V' C' K' hc' hb' l2'
  obtain ⟨v, B, X', ⟨⟨w, hv, hh, hq⟩, hl, hk, hs⟩, st⟩ := SEq.pays x t A cd cs.length (fun j => cs.getD j 0) y t' A' cd' ds.length (fun j => ds.getD j 0) z (tabEq_of (movedEq hZ hw)) hfr hlo m meth c P g ig mk _ X hg hsize hdg hW hn ⟨r1, r2, rfl, hx, hy, sta_is al S, hz⟩
  refine ⟨v, B, X', ⟨[], ⟨?_, rfl, hh⟩, hl, hk, hs⟩, st⟩
  rcases hq with ⟨rfl, q⟩ | ⟨rfl, q⟩
  · exact Or.inl ⟨hv, (same_list cs ds).mp q⟩
  · exact Or.inr ⟨hv, fun e => q ((same_list cs ds).mpr e)⟩
end StrChars.Road
namespace StrChars.Road
open Jvm Sem ClassFile Op Lib Jvm.Stand Jvm.Free Jvm.Free.XT
open Jvm.Lib.Cold (StaticIs)
/-- what backV says of its String, as the contracts of this text ask it: cs's low bytes, coder 0 -/
theorem codOf {cs : List Int32} {n : Nat} (hn : cs.length = n) (hb : ∀ c ∈ cs, ¬ 255 < c) : CodA cs 0 (Int32.ofNat n) ((cs.map lo8).map Value.int) := Or.inl ⟨rfl, by rw [hn], by simp [List.map_map, Function.comp_def], hb⟩
end StrChars.Road
end Jvm.Pilot.@@N@@
namespace Jvm.Pilot.@@N@@
open Jvm Jvm.ClassFile Sem Op Lib Jvm.Free Jvm.Stand Jvm.LawKit Jvm.RoadKit Bundle Jvm.Pilot.@@N@@.Jvm.D
theorem tw {a0 : Array Value} {Z : State} (hw : ∀ d ∈ tables_1, d.before a0 Z = true) (i : Nat) {d : Jvm.Cond} (h : tables_1[i]? = some d) : d.before a0 Z = true := hw d (List.mem_of_getElem? h)
theorem strW {a0 : Array Value} {Z : State} (hw : ∀ d ∈ tables_1, d.before a0 Z = true) : ∀ a ∈ Bundle.stringAtoms, a.before a0 Z = true := fun d hd => hw d ((by decide +kernel : ∀ d ∈ Bundle.stringAtoms, d ∈ tables_1) d hd)
theorem pn_com_example_rooted_tableau_rootedtableau_model_Role : plainName "com/example/rooted_tableau/rootedtableau/model/Role" = true := by first | (simp [plainName, overriddenIn]; done) | decide +kernel
theorem pn_com_example_rooted_tableau_rootedtableau_model_RoleEqualsPinLaw : plainName "com/example/rooted_tableau/rootedtableau/model/RoleEqualsPinLaw" = true := by first | (simp [plainName, overriddenIn]; done) | decide +kernel
theorem pn_java_lang_String : plainName "java/lang/String" = true := by first | (simp [plainName, overriddenIn]; done) | decide +kernel
theorem pn_java_util_Objects : plainName "java/util/Objects" = true := by first | (simp [plainName, overriddenIn]; done) | decide +kernel
theorem pd___CIILjava_lang_Void__V : parseMethodDescriptor "([CIILjava/lang/Void;)V" = some ⟨[(.array .char), .int, .int, (.object "java/lang/Void")], none⟩ := by decide +kernel
theorem pd___C_V : parseMethodDescriptor "([C)V" = some ⟨[(.array .char)], none⟩ := by decide +kernel
theorem pd__Ljava_lang_Object_Ljava_lang_String__Ljava_lang_Object_ : parseMethodDescriptor "(Ljava/lang/Object;Ljava/lang/String;)Ljava/lang/Object;" = some ⟨[(.object "java/lang/Object"), (.object "java/lang/String")], some (.object "java/lang/Object")⟩ := by decide +kernel
theorem pd__Ljava_lang_String_Z_V : parseMethodDescriptor "(Ljava/lang/String;Z)V" = some ⟨[(.object "java/lang/String"), .boolean], none⟩ := by decide +kernel
theorem pd__Ljava_lang_Object__Z : parseMethodDescriptor "(Ljava/lang/Object;)Z" = some ⟨[(.object "java/lang/Object")], some .boolean⟩ := by decide +kernel
theorem pd__II_Ljava_lang_String_ : parseMethodDescriptor "(II)Ljava/lang/String;" = some ⟨[.int, .int], some (.object "java/lang/String")⟩ := by decide +kernel
theorem pd__Ljava_lang_String__V : parseMethodDescriptor "(Ljava/lang/String;)V" = some ⟨[(.object "java/lang/String")], none⟩ := by decide +kernel
theorem pd___Lcom_example_rooted_tableau_rootedtableau_model_Role_ : parseMethodDescriptor "()Lcom/example/rooted_tableau/rootedtableau/model/Role;" = some ⟨[], some (.object "com/example/rooted_tableau/rootedtableau/model/Role")⟩ := by decide +kernel
theorem litc_19 : (∀ c ∈ "".toList, c.toNat < 256) ∧ "".toList.map (fun c => Value.int (Jvm.Lit.byteI c.toNat.toUInt16)) = [] := ⟨by decide, by decide +kernel⟩
theorem litc_48 : (∀ c ∈ "iri".toList, c.toNat < 256) ∧ "iri".toList.map (fun c => Value.int (Jvm.Lit.byteI c.toNat.toUInt16)) = [(.int 105), (.int 114), (.int 105)] := ⟨by decide, by decide +kernel⟩
theorem elW {a0 : Array Value} {Z : State} (hw : ∀ d ∈ tables_1, d.before a0 Z = true) : EW Z a0 consts_1 := (EW.cons (tw hw 48 rfl) (by decide) (EW.cons (tw hw 19 rfl) (by decide) EW.nil))
theorem and255_lt (x : Int32) : (x &&& 255).toBitVec.toNat < 256 ∧ (x &&& 255) = Int32.ofNat (x &&& 255).toBitVec.toNat := by
  have h : (x &&& 255).toBitVec.toNat < 256 := by
    simp only [Int32.toBitVec_and, BitVec.toNat_and]
    exact Nat.lt_succ_of_le Nat.and_le_right
  refine ⟨h, ?_⟩
  apply Int32.toBitVec_inj.mp
  show _ = BitVec.ofNat 32 _
  rw [BitVec.ofNat_toNat]; simp
theorem and255_chars (x : Int32) : ¬ nar .char ((x &&& (255 : Int32)).toUInt32.toUInt16.toUInt32.toInt32) < 0 ∧ ¬ (255 : Int32) < nar .char ((x &&& (255 : Int32)).toUInt32.toUInt16.toUInt32.toInt32) := by
  have t : ∀ k : Fin 256, ¬ nar .char ((Int32.ofNat k.val).toUInt32.toUInt16.toUInt32.toInt32) < 0 ∧ ¬ (255 : Int32) < nar .char ((Int32.ofNat k.val).toUInt32.toUInt16.toUInt32.toInt32) := by decide +kernel
  obtain ⟨h, e⟩ := and255_lt x
  rw [e]
  exact t ⟨_, h⟩

def own_lo (ch : Int32) : Int32 := nar .char ((ch &&& (255 : Int32)).toUInt32.toUInt16.toUInt32.toInt32)
def own_hi (ch : Int32) : Int32 := nar .char ((((ch.toUInt32 >>> ((8 : Int32) &&& 31).toUInt32).toInt32) &&& (255 : Int32)).toUInt32.toUInt16.toUInt32.toInt32)
def own_mk (n ch : Int32) : List Int32 := if n = 0 then [] else if n = 1 then [own_lo ch] else [own_lo ch, own_hi ch]
theorem mk0 {n : Int32} (ch : Int32) (h : n = 0) : ([] : List Int32) = own_mk n ch := by rw [own_mk, if_pos h]
theorem mk1 {n : Int32} (ch : Int32) (h : ¬ (n = 0)) (h' : n = 1) : [own_lo ch] = own_mk n ch := by rw [own_mk, if_neg h, if_pos h']
theorem mk2 {n : Int32} (ch : Int32) (h : ¬ (n = 0)) (h' : ¬ (n = 1)) : [own_lo ch, own_hi ch] = own_mk n ch := by rw [own_mk, if_neg h, if_neg h']
theorem mk_rng (n ch : Int32) : ∀ c ∈ own_mk n ch, ¬ c < 0 ∧ ¬ (255 : Int32) < c := by
  unfold own_mk
  split
  · exact alc0
  · split
    · exact alcS (and255_chars _) alc0
    · exact alcS (and255_chars _) (alcS (and255_chars _) alc0)
theorem mk_len (n ch : Int32) : (own_mk n ch).length ≤ 4000 := by
  unfold own_mk
  split
  · decide
  · split <;> simp
theorem nar_and {x y : Int32} : nar .char ((x &&& (255 : Int32)).toUInt32.toUInt16.toUInt32.toInt32) = nar .char ((y &&& (255 : Int32)).toUInt32.toUInt16.toUInt32.toInt32) ↔ x &&& (255 : Int32) = y &&& (255 : Int32) := by
  constructor
  · intro h
    have t : ∀ j k : Fin 256, nar .char ((Int32.ofNat j.val).toUInt32.toUInt16.toUInt32.toInt32) = Int32.ofNat j.val := by decide +kernel
    obtain ⟨a1, a2⟩ := and255_lt x
    obtain ⟨b1, b2⟩ := and255_lt y
    rw [a2, b2] at h ⊢
    rw [t ⟨_, a1⟩ 0, t ⟨_, b1⟩ 0] at h
    exact h
  · intro h; rw [h]
def own_k3 (n : Int32) : Prop := n = 0 ∨ n = 1 ∨ n = 2
theorem k3_rem (x : Int32) : own_k3 ((x &&& (2147483647 : Int32)) % (3 : Int32)) := by
  have h0 : 0 ≤ (x &&& (2147483647 : Int32)).toInt := (c_and x 2147483647 (by decide)).1
  have h1 := (c_irem (x &&& (2147483647 : Int32)) 3 3 rfl).1 h0
  have e0 : (0 : Int32).toInt = 0 := rfl
  have e1 : (1 : Int32).toInt = 1 := rfl
  have e2 : (2 : Int32).toInt = 2 := rfl
  have h2 : ((x &&& (2147483647 : Int32)) % (3 : Int32)).toInt = 0 ∨ ((x &&& (2147483647 : Int32)) % (3 : Int32)).toInt = 1 ∨ ((x &&& (2147483647 : Int32)) % (3 : Int32)).toInt = 2 := by omega
  rcases h2 with h | h | h
  · exact Or.inl (Int32.toInt_inj.mp (h.trans e0.symm))
  · exact Or.inr (Or.inl (Int32.toInt_inj.mp (h.trans e1.symm)))
  · exact Or.inr (Or.inr (Int32.toInt_inj.mp (h.trans e2.symm)))
/-- two drawn texts are the same just where the law says so -/
theorem mk_iff {n n' : Int32} (x y : Int32) (h : own_k3 n) (h' : own_k3 n') : own_mk n x = own_mk n' y ↔ n = n' ∧ (n < 1 ∨ (x &&& (255 : Int32)) = (y &&& (255 : Int32))) ∧ (n < 2 ∨ (((x.toUInt32 >>> ((8 : Int32) &&& 31).toUInt32).toInt32) &&& (255 : Int32)) = (((y.toUInt32 >>> ((8 : Int32) &&& 31).toUInt32).toInt32) &&& (255 : Int32))) := by
  have d01 : ¬ (1 : Int32) = 0 := by decide
  have d20 : ¬ (2 : Int32) = 0 := by decide
  have d21 : ¬ (2 : Int32) = 1 := by decide
  have d02 : ¬ (0 : Int32) = 1 := by decide
  have d03 : ¬ (0 : Int32) = 2 := by decide
  have d12 : ¬ (1 : Int32) = 2 := by decide
  have l01 : (0 : Int32) < 1 := by decide
  have l02 : (0 : Int32) < 2 := by decide
  have l12 : (1 : Int32) < 2 := by decide
  have l11 : ¬ (1 : Int32) < 1 := by decide
  have l21 : ¬ (2 : Int32) < 1 := by decide
  have l22 : ¬ (2 : Int32) < 2 := by decide
  have e1 : own_lo x = own_lo y ↔ (x &&& (255 : Int32)) = (y &&& (255 : Int32)) := nar_and
  have e2 : own_hi x = own_hi y ↔ (((x.toUInt32 >>> ((8 : Int32) &&& 31).toUInt32).toInt32) &&& (255 : Int32)) = (((y.toUInt32 >>> ((8 : Int32) &&& 31).toUInt32).toInt32) &&& (255 : Int32)) := nar_and
  rcases h with rfl | rfl | rfl <;> rcases h' with rfl | rfl | rfl <;> simp [own_mk, d01, d20, d21, d02, d03, d12, l01, l02, l12, l11, l21, l22, e1, e2]
theorem wdNew {a0 : Array Value} {Z : State} (hw : ∀ d ∈ tables_1, d.before a0 Z = true) : ∀ d ∈ StrChars.Road.words, d.before a0 Z = true := fun d hd => hw d ((by decide +kernel : ∀ d ∈ StrChars.Road.words, d ∈ tables_1) d hd)
theorem wdEq {a0 : Array Value} {Z : State} (hw : ∀ d ∈ tables_1, d.before a0 Z = true) : ∀ d ∈ StrChars.Road.wordsEq, d.before a0 Z = true := fun d hd => hw d ((by decide +kernel : ∀ d ∈ StrChars.Road.wordsEq, d ∈ tables_1) d hd)
theorem d3_0 : decode jdk_42_method_149_code 0 = .ok (.aload_n 0, 1) := by decide +kernel
theorem d3_1 : decode jdk_42_method_149_code 1 = .ok (.invokespecial 1, 3) := by decide +kernel
theorem d3_4 : decode jdk_42_method_149_code 4 = .ok (.iload_n 3, 1) := by decide +kernel
theorem d3_5 : decode jdk_42_method_149_code 5 = .ok (.ifCond .ne 22, 3) := by decide +kernel
theorem d3_8 : decode jdk_42_method_149_code 8 = .ok (.aload_n 0, 1) := by decide +kernel
theorem d3_9 : decode jdk_42_method_149_code 9 = .ok (.ldc 7, 2) := by decide +kernel
theorem d3_11 : decode jdk_42_method_149_code 11 = .ok (.getfield 9, 3) := by decide +kernel
theorem d3_14 : decode jdk_42_method_149_code 14 = .ok (.putfield 9, 3) := by decide +kernel
theorem d3_17 : decode jdk_42_method_149_code 17 = .ok (.aload_n 0, 1) := by decide +kernel
theorem d3_18 : decode jdk_42_method_149_code 18 = .ok (.ldc 7, 2) := by decide +kernel
theorem d3_20 : decode jdk_42_method_149_code 20 = .ok (.getfield 15, 3) := by decide +kernel
theorem d3_23 : decode jdk_42_method_149_code 23 = .ok (.putfield 15, 3) := by decide +kernel
theorem d3_26 : decode jdk_42_method_149_code 26 = .ok (.return_, 1) := by decide +kernel
theorem ef_se4 (m : MethodId) (a : Addr) (b : Addr) : entryFrame m #[(.ref a), (.ref b), (.int 0), (.int 0), .null] 6 = mkF m 0 #[.val (.ref a), .val (.ref b), .val (.int 0), .val (.int 0), .val .null, .unset] [] := by first | (simp [entryFrame, mkF, argsToLocals, Value.category]; done) | rfl
def Q_se4 (Z : State) (a : Addr) (b : Addr) (o2 : Int32) (h0 : Heap) (n0 : Nat) (v : Option Value) (h : Heap) (L : List Loc) : Prop := (∃ t : Addr, ∃ k : ClassId, v = none ∧ Fr n0 L ∧ Keep h0 h [a] ∧ Exa Z h a "java/lang/String" ∧ Fld Z h a "java/lang/String" "coder" "B" (.int 0) ∧ Fld Z h a "java/lang/String" "value" "[B" (.ref t) ∧ Arv Z h t k .byte (Int32.ofNat ([] : List Int32).length) ((([] : List Int32).map (fun c => c.toInt8.toInt32)).map Value.int) (.int 0))
set_option maxRecDepth 65536 in
set_option maxHeartbeats 40000000 in
theorem rm_se4 (l : Launch) (Z : State) (a0 : Array Value) (hw : ∀ d ∈ tables_1, d.before a0 Z = true) (ws : List Jvm.Cond) (a : Addr) (b : Addr) (o2 : Int32) (h0 : Heap) (n0 : Nat) (Z0 : n0 ≤ h0.size) (pf0 : Exa Z h0 a "java/lang/String") (pf1 : Fld Z h0 a "java/lang/String" "value" "[B" .null) (pf2 : Fld Z h0 a "java/lang/String" "coder" "B" (.int o2)) (ga : n0 ≤ a) :
    MetFree l (⟨"java/lang/String", "<init>", "([CIILjava/lang/Void;)V"⟩ : MethodName) (head1 (Jvm.Cond.code (⟨"java/lang/String", "<init>", "([CIILjava/lang/Void;)V"⟩ : MethodName) jdk_42_method_149_code 6 none :: ws) ({ frames := 1, cells := 4, slots := 8, locals := 12 } : Room)) (fun aa U => aa = #[(.ref a), (.ref b), (.int 0), (.int 0), .null] ∧ Z.Warmed39 U.vm ∧ U.heap = h0 ∧ CHv Z consts_1 U.vm h0) (fun _ _ _ _ _ => True) (fun _ U o U' => ∃ v L, o = .returned v ∧ Q_se4 Z a b o2 h0 n0 v U'.heap L ∧ CHr Z consts_1 U.vm U.heap U'.vm U'.heap ∧ ReturnedEndW U o U' L ({ frames := 1, cells := 4, slots := 8, locals := 12 } : Room).cells ({ frames := 1, cells := 4, slots := 8, locals := 12 } : Room).slots) := by
  refine MetFree.of_bodySF (plainFor_of_name pn_java_lang_String) hisR ?_
  intro p e s m args below meth c s₁ Bd hml0 hP hK
  obtain ⟨rfl, hZ, hh, hH⟩ := hP
  have hx := Bd.exec
  have hby := Bd.bytes
  have hlk : meth.locks = false := BodyLoose.notSynchronized Bd
  have hml : c.maxLocals = 6 := hml0
  have hown : s.vm.findClass "java/lang/String" = some m.cls := findClass_of_methodNamed Bd.named
  have hnm := (name_of_methodNamed Bd.named Bd.method).1
  have X0 : Stand p l e ({ frames := 1, cells := 4, slots := 8, locals := 12 } : Room) (s.setVm s.vm) m #[(.ref a), (.ref b), (.int 0), (.int 0), .null] below meth c s₁ [] 0 0 := Stand.of_body Bd
  have e0 : s₁.heap = h0 := by rw [← hh, Bd.state]; rfl
  have N0 := Fr.nil n0
  show Gl p.tables e below (EndH s Z consts_1 (Q_se4 Z a b o2 h0 n0) ({ frames := 1, cells := 4, slots := 8, locals := 12 } : Room).cells ({ frames := 1, cells := 4, slots := 8, locals := 12 } : Room).slots) _
  refine Gl.cast (ef_se4 m a b) ?_
  show Gl p.tables e below _ (s₁.setTop (mkF m 0 #[.val (.ref a), .val (.ref b), .val (.int 0), .val (.int 0), .val .null, .unset] []))
  have hS0 : s.Since s.vm s₁.heap.size := (State.WarmedH.refl s).since _
  have C0 : CHr Z consts_1 s.vm h0 s.vm h0 := CHr.refl hH
  refine Gl.st (fun _ kq => XS.aloadN X0.here hx rfl (hb hby d3_0) rfl rfl kq) ?_
  show Gl p.tables e below _ (s₁.setTop (mkF m 1 #[.val (.ref a), .val (.ref b), .val (.int 0), .val (.int 0), .val .null, .unset] [(.ref a)]))
  obtain ⟨T1, X1, e1, st1⟩ := initO X0 hx hZ hown (tw hw 16 rfl) (tw hw 17 rfl) (tw hw 18 rfl) e0 (g := (mkF m 1 #[.val (.ref a), .val (.ref b), .val (.int 0), .val (.int 0), .val .null, .unset] [(.ref a)])) rfl (by rw [hml]; rfl) rfl (hb hby d3_1) (by decide) (W := 0) (by show 2 * 0 + _ ≤ _; exact Nat.le_of_eq rfl) (by decide)
  refine Gl.st st1 ?_
  show Gl p.tables e below _ (T1.setTop (mkF m 4 #[.val (.ref a), .val (.ref b), .val (.int 0), .val (.int 0), .val .null, .unset] []))
  refine Gl.st (fun _ kq => XS.iloadN X1.here hx rfl (hb hby d3_4) rfl kq) ?_
  show Gl p.tables e below _ (T1.setTop (mkF m 5 #[.val (.ref a), .val (.ref b), .val (.int 0), .val (.int 0), .val .null, .unset] [(.int 0)]))
  refine Gl.st (fun _ kq => XS.ifNo X1.here hx rfl (hb hby d3_5) rfl ((if0 _ _).trans (teq ((by decide) : (0 : Int32) = (0 : Int32))).2) kq) ?_
  show Gl p.tables e below _ (T1.setTop (mkF m 8 #[.val (.ref a), .val (.ref b), .val (.int 0), .val (.int 0), .val .null, .unset] []))
  refine Gl.st (fun _ kq => XS.aloadN X1.here hx rfl (hb hby d3_8) rfl rfl kq) ?_
  show Gl p.tables e below _ (T1.setTop (mkF m 9 #[.val (.ref a), .val (.ref b), .val (.int 0), .val (.int 0), .val .null, .unset] [(.ref a)]))
  obtain ⟨b2, T2, h2, k2, t2, kc2, X2, e2, E2, S2, q2, hZ2, ho2, A2, F2, G2, V2, la2, lb2, R2, L2, sa2, st2⟩ := ldcCH X1 hx hZ hown (tw hw 19 rfl) (strW hw) e1 hS0 (Nat.le_of_eq (congrArg Array.size e0)) (elW hw) (by decide) C0.1 (vs := []) (z := (0 : Int32)) (litc_19) (by decide) (by decide) (g := (mkF m 9 #[.val (.ref a), .val (.ref b), .val (.int 0), .val (.int 0), .val .null, .unset] [(.ref a)])) rfl (hb hby d3_9) (n := 0) (by decide) (by decide) (by decide) (by decide)
  refine Gl.st st2 ?_
  have C3 : CHr Z consts_1 s.vm h0 T2.vm h2 := C0.trans R2
  have V2 : Arv Z h2 t2 kc2 .byte (Int32.ofNat ([] : List Int32).length) ((([] : List Int32).map (fun c => c.toInt8.toInt32)).map Value.int) (.int 0) := V2
  have f4 : Exa Z h2 a "java/lang/String" := (pf0.ext E2)
  have f5 : Fld Z h2 a "java/lang/String" "value" "[B" .null := (pf1.ext E2)
  have Sf6 : Safe Z consts_1 T2.vm h2 a := (safe_nul hZ2.alike f4 f5)
  have d7 := sa2 a Sf6
  show Gl p.tables e below _ (T2.setTop (mkF m 11 #[.val (.ref a), .val (.ref b), .val (.int 0), .val (.int 0), .val .null, .unset] [(.ref b2), (.ref a)]))
  obtain ⟨T8, X8, e8, st8⟩ := getF X2 hx hZ2 ho2 (host := "") (Or.inl (tw hw 25 rfl)) Via.refl e2 G2 (g := (mkF m 11 #[.val (.ref a), .val (.ref b), .val (.int 0), .val (.int 0), .val .null, .unset] [(.ref b2), (.ref a)])) rfl rfl (hb hby d3_11)
  refine Gl.st st8 ?_
  show Gl p.tables e below _ (T8.setTop (mkF m 14 #[.val (.ref a), .val (.ref b), .val (.int 0), .val (.int 0), .val .null, .unset] [(.ref t2), (.ref a)]))
  obtain ⟨T9, h9, X9, e9, W9, st9⟩ := putF X8 hx hZ2 ho2 (host := "") (Or.inl (tw hw 25 rfl)) Via.refl e8 f5 f4 (Or.inr ⟨(tw hw 21 rfl), rfl, hnm⟩) (tw hw 6 rfl) (ty := (.array .byte)) (by decide) rfl rfl (g := (mkF m 14 #[.val (.ref a), .val (.ref b), .val (.int 0), .val (.int 0), .val .null, .unset] [(.ref t2), (.ref a)])) rfl rfl (hb hby d3_14)
  refine Gl.st st9 ?_
  have C10 : CHr Z consts_1 s.vm h0 T2.vm h9 := C3.trans (CHr.wr W9 Sf6 C3.1)
  have F9 : Fld Z h9 a "java/lang/String" "value" "[B" (.ref t2) := Fld.same W9 f5
  have N9 := Fr.snoc X9 N0 ga
  show Gl p.tables e below _ (T9.setTop (mkF m 17 #[.val (.ref a), .val (.ref b), .val (.int 0), .val (.int 0), .val .null, .unset] []))
  refine Gl.st (fun _ kq => XS.aloadN X9.here hx rfl (hb hby d3_17) rfl rfl kq) ?_
  show Gl p.tables e below _ (T9.setTop (mkF m 18 #[.val (.ref a), .val (.ref b), .val (.int 0), .val (.int 0), .val .null, .unset] [(.ref a)]))
  obtain ⟨b11, T11, h11, k11, t11, kc11, X11, e11, E11, S11, q11, hZ11, ho11, A11, F11, G11, V11, la11, lb11, R11, L11, sa11, st11⟩ := ldcCH X9 hx hZ2 ho2 (tw hw 19 rfl) (strW hw) e9 S2 (Nat.le_trans q2 (Keep.of_wr W9).1) (elW hw) (by decide) C10.1 (vs := []) (z := (0 : Int32)) (litc_19) (by decide) (by decide) (g := (mkF m 18 #[.val (.ref a), .val (.ref b), .val (.int 0), .val (.int 0), .val .null, .unset] [(.ref a)])) rfl (hb hby d3_18) (n := 0) (by decide) (by decide) (by decide) (by decide)
  refine Gl.st st11 ?_
  have C12 : CHr Z consts_1 s.vm h0 T11.vm h11 := C10.trans R11
  have V11 : Arv Z h11 t11 kc11 .byte (Int32.ofNat ([] : List Int32).length) ((([] : List Int32).map (fun c => c.toInt8.toInt32)).map Value.int) (.int 0) := V11
  have Sf13 : Safe Z consts_1 T11.vm h11 a := (CHr.safe R11 (Nat.lt_of_lt_of_le (Nat.lt_of_lt_of_le pf0.lt E2.1) (Keep.of_wr W9).1) (Safe.wr W9 Sf6 C3.1 Sf6))
  have d14 := sa11 a Sf13
  show Gl p.tables e below _ (T11.setTop (mkF m 20 #[.val (.ref a), .val (.ref b), .val (.int 0), .val (.int 0), .val .null, .unset] [(.ref b11), (.ref a)]))
  obtain ⟨T15, X15, e15, st15⟩ := getF X11 hx hZ11 ho11 (host := "") (Or.inl (tw hw 26 rfl)) Via.refl e11 F11 (g := (mkF m 20 #[.val (.ref a), .val (.ref b), .val (.int 0), .val (.int 0), .val .null, .unset] [(.ref b11), (.ref a)])) rfl rfl (hb hby d3_20)
  refine Gl.st st15 ?_
  show Gl p.tables e below _ (T15.setTop (mkF m 23 #[.val (.ref a), .val (.ref b), .val (.int 0), .val (.int 0), .val .null, .unset] [(.int 0), (.ref a)]))
  have f16 : Fld Z h11 a "java/lang/String" "coder" "B" (.int o2) := (((pf2.ext E2).other W9 (Or.inr (slot_ne (Or.inr (tw hw 22 rfl)) (Or.inr (tw hw 21 rfl)) (by decide) (t := .byte) (t' := (.array .byte)) (by decide) (by decide)))).ext E11)
  have f17 : Exa Z h11 a "java/lang/String" := ((f4.wr W9).ext E11)
  obtain ⟨T18, h18, X18, e18, W18, st18⟩ := putFN X15 hx hZ11 ho11 (tw hw 26 rfl) Via.refl e15 f16 f17 (Or.inr ⟨(tw hw 22 rfl), rfl, hnm⟩) (tw hw 6 rfl) (ty := .byte) (v' := (.int 0)) (by decide) rfl (by decide) (g := (mkF m 23 #[.val (.ref a), .val (.ref b), .val (.int 0), .val (.int 0), .val .null, .unset] [(.int 0), (.ref a)])) rfl rfl (hb hby d3_23)
  refine Gl.st st18 ?_
  have C19 : CHr Z consts_1 s.vm h0 T11.vm h18 := C12.trans (CHr.wr W18 Sf13 C12.1)
  have F18 : Fld Z h18 a "java/lang/String" "coder" "B" (.int 0) := Fld.same W18 f16
  have N18 := Fr.snoc X18 N9 ga
  show Gl p.tables e below _ (T18.setTop (mkF m 26 #[.val (.ref a), .val (.ref b), .val (.int 0), .val (.int 0), .val .null, .unset] []))
  have K20 : Keep h0 h18 [a] := (((((Keep.refl h0 [a]).ext E2).wr W9 (Or.inl (List.mem_of_getElem? (i := 0) rfl))).ext E11).wr W18 (Or.inl (List.mem_of_getElem? (i := 0) rfl)))
  have f21 : Exa Z h18 a "java/lang/String" := (f17.wr W18)
  have f22 : Fld Z h18 a "java/lang/String" "value" "[B" (.ref t2) := ((F9.ext E11).other W18 (Or.inr (slot_ne (Or.inr (tw hw 21 rfl)) (Or.inr (tw hw 22 rfl)) (by decide) (t := (.array .byte)) (t' := .byte) (by decide) (by decide))))
  have f23 : Arv Z h18 t2 kc2 .byte (Int32.ofNat ([] : List Int32).length) ((([] : List Int32).map (fun c => c.toInt8.toInt32)).map Value.int) (.int 0) := (((V2.other W9 (Ne.symm d7.2)).ext E11).other W18 (Ne.symm d7.2))
  exact Gl.ret0H X18 hx S11 (Nat.le_trans (Nat.le_trans q11 (Keep.of_wr W18).1) (Nat.le_of_eq (congrArg Array.size e18).symm)) (by rw [hh, e18]; exact C19.trans (CHv.at X18 hZ11 (elW hw) C19.1)) Bd.returns (hb hby d3_26) hlk (by decide) (by decide) (by rw [e18]; exact ⟨t2, kc2, rfl, N18, K20, f21, F18, f22, f23⟩)
theorem d2_0 : decode jdk_42_method_3_code 0 = .ok (.aload_n 0, 1) := by decide +kernel
theorem d2_1 : decode jdk_42_method_3_code 1 = .ok (.aload_n 1, 1) := by decide +kernel
theorem d2_2 : decode jdk_42_method_3_code 2 = .ok (.iconst 0, 1) := by decide +kernel
theorem d2_3 : decode jdk_42_method_3_code 3 = .ok (.aload_n 1, 1) := by decide +kernel
theorem d2_4 : decode jdk_42_method_3_code 4 = .ok (.arraylength, 1) := by decide +kernel
theorem d2_5 : decode jdk_42_method_3_code 5 = .ok (.aconst_null, 1) := by decide +kernel
theorem d2_6 : decode jdk_42_method_3_code 6 = .ok (.invokespecial 27, 3) := by decide +kernel
theorem d2_9 : decode jdk_42_method_3_code 9 = .ok (.return_, 1) := by decide +kernel
theorem ef_se1 (m : MethodId) (a : Addr) (b : Addr) : entryFrame m #[(.ref a), (.ref b)] 2 = mkF m 0 #[.val (.ref a), .val (.ref b)] [] := by first | (simp [entryFrame, mkF, argsToLocals, Value.category]; done) | rfl
def Q_se1 (Z : State) (a : Addr) (b : Addr) (o2 : Int32) (kb : ClassId) (h0 : Heap) (n0 : Nat) (v : Option Value) (h : Heap) (L : List Loc) : Prop := (∃ t : Addr, ∃ k : ClassId, v = none ∧ Fr n0 L ∧ Keep h0 h [a] ∧ Exa Z h a "java/lang/String" ∧ Fld Z h a "java/lang/String" "coder" "B" (.int 0) ∧ Fld Z h a "java/lang/String" "value" "[B" (.ref t) ∧ Arv Z h t k .byte (Int32.ofNat ([] : List Int32).length) ((([] : List Int32).map (fun c => c.toInt8.toInt32)).map Value.int) (.int 0))
set_option maxRecDepth 65536 in
set_option maxHeartbeats 40000000 in
theorem rm_se1 (l : Launch) (Z : State) (a0 : Array Value) (hw : ∀ d ∈ tables_1, d.before a0 Z = true) (ws : List Jvm.Cond) (a : Addr) (b : Addr) (o2 : Int32) (kb : ClassId) (h0 : Heap) (n0 : Nat) (Z0 : n0 ≤ h0.size) (pf0 : Exa Z h0 a "java/lang/String") (pf1 : Fld Z h0 a "java/lang/String" "value" "[B" .null) (pf2 : Fld Z h0 a "java/lang/String" "coder" "B" (.int o2)) (pf3 : Arv Z h0 b kb .char (0 : Int32) [] (.int 0)) (ga : n0 ≤ a) :
    MetFree l (⟨"java/lang/String", "<init>", "([C)V"⟩ : MethodName) (head1 (Jvm.Cond.code (⟨"java/lang/String", "<init>", "([C)V"⟩ : MethodName) jdk_42_method_3_code 2 none :: ws) ({ frames := 2, cells := 4, slots := 8, locals := 29 } : Room)) (fun aa U => aa = #[(.ref a), (.ref b)] ∧ Z.Warmed39 U.vm ∧ U.heap = h0 ∧ CHv Z consts_1 U.vm h0) (fun _ _ _ _ _ => True) (fun _ U o U' => ∃ v L, o = .returned v ∧ Q_se1 Z a b o2 kb h0 n0 v U'.heap L ∧ CHr Z consts_1 U.vm U.heap U'.vm U'.heap ∧ ReturnedEndW U o U' L ({ frames := 2, cells := 4, slots := 8, locals := 29 } : Room).cells ({ frames := 2, cells := 4, slots := 8, locals := 29 } : Room).slots) := by
  refine MetFree.of_bodySF (plainFor_of_name pn_java_lang_String) hisR ?_
  intro p e s m args below meth c s₁ Bd hml0 hP hK
  obtain ⟨rfl, hZ, hh, hH⟩ := hP
  have hx := Bd.exec
  have hby := Bd.bytes
  have hlk : meth.locks = false := BodyLoose.notSynchronized Bd
  have hml : c.maxLocals = 2 := hml0
  have hown : s.vm.findClass "java/lang/String" = some m.cls := findClass_of_methodNamed Bd.named
  have hnm := (name_of_methodNamed Bd.named Bd.method).1
  have X0 : Stand p l e ({ frames := 2, cells := 4, slots := 8, locals := 29 } : Room) (s.setVm s.vm) m #[(.ref a), (.ref b)] below meth c s₁ [] 0 0 := Stand.of_body Bd
  have e0 : s₁.heap = h0 := by rw [← hh, Bd.state]; rfl
  have N0 := Fr.nil n0
  show Gl p.tables e below (EndH s Z consts_1 (Q_se1 Z a b o2 kb h0 n0) ({ frames := 2, cells := 4, slots := 8, locals := 29 } : Room).cells ({ frames := 2, cells := 4, slots := 8, locals := 29 } : Room).slots) _
  refine Gl.cast (ef_se1 m a b) ?_
  show Gl p.tables e below _ (s₁.setTop (mkF m 0 #[.val (.ref a), .val (.ref b)] []))
  have hS0 : s.Since s.vm s₁.heap.size := (State.WarmedH.refl s).since _
  have C0 : CHr Z consts_1 s.vm h0 s.vm h0 := CHr.refl hH
  refine Gl.st (fun _ kq => XS.aloadN X0.here hx rfl (hb hby d2_0) rfl rfl kq) ?_
  show Gl p.tables e below _ (s₁.setTop (mkF m 1 #[.val (.ref a), .val (.ref b)] [(.ref a)]))
  refine Gl.st (fun _ kq => XS.aloadN X0.here hx rfl (hb hby d2_1) rfl rfl kq) ?_
  show Gl p.tables e below _ (s₁.setTop (mkF m 2 #[.val (.ref a), .val (.ref b)] [(.ref b), (.ref a)]))
  refine Gl.st (fun _ kq => XS.iconst X0.here hx rfl (hb hby d2_2) kq) ?_
  show Gl p.tables e below _ (s₁.setTop (mkF m 3 #[.val (.ref a), .val (.ref b)] [(.int 0), (.ref b), (.ref a)]))
  refine Gl.st (fun _ kq => XS.aloadN X0.here hx rfl (hb hby d2_3) rfl rfl kq) ?_
  show Gl p.tables e below _ (s₁.setTop (mkF m 4 #[.val (.ref a), .val (.ref b)] [(.ref b), (.int 0), (.ref b), (.ref a)]))
  obtain ⟨c1, a1, q1, S1, M1, H1, G1⟩ := id pf3
  refine Gl.st (fun _ kq => X0.arraylength hx (by rw [e0]; exact a1.1) (State.isArrayOf_alike hZ.alike a1.2.1) (g := (mkF m 4 #[.val (.ref a), .val (.ref b)] [(.ref b), (.int 0), (.ref b), (.ref a)])) rfl rfl (hb hby d2_4) _ kq) ?_
  rw [len_of S1 M1]
  show Gl p.tables e below _ (s₁.setTop (mkF m 5 #[.val (.ref a), .val (.ref b)] [(.int 0), (.int 0), (.ref b), (.ref a)]))
  refine Gl.st (fun _ kq => XS.aconstNull X0.here hx rfl (hb hby d2_5) kq) ?_
  show Gl p.tables e below _ (s₁.setTop (mkF m 6 #[.val (.ref a), .val (.ref b)] [.null, (.int 0), (.int 0), (.ref b), (.ref a)]))
  obtain ⟨_, _, ⟨T4, L4, k4, n4⟩, -, X4, S4, g4, ⟨Lc4, hQ4, l4, y4, z4, R4⟩, st4⟩ := X0.specialBackS hx (y := (⟨"java/lang/String", "<init>", "([CIILjava/lang/Void;)V"⟩ : MethodName)) rfl hown (mvT hZ (tw hw 12 rfl)) (mvT hZ (tw hw 13 rfl)) (mvT hZ (tw hw 15 rfl)) (by decide) (backOfSH (W := 0) (rm_se4 l Z a0 hw [] (a) (b) (o2) h0 n0 Z0 pf0 pf1 pf2 ga) hZ (tw hw 15 rfl) (tw hw 7 rfl) (by decide) (by decide) (elW hw) C0.1) (g := (mkF m 6 #[.val (.ref a), .val (.ref b)] [.null, (.int 0), (.int 0), (.ref b), (.ref a)])) rfl (by rw [hml]; rfl) (Steps.refl _) (a := a) (argsL := [(.ref b), (.int 0), (.int 0), .null]) (rest := []) (lenOf pd___CIILjava_lang_Void__V rfl) rfl (by show 2 * 0 + _ ≤ _; exact Nat.le_of_eq rfl) (hb hby d2_6) (fun _ _ => ⟨rfl, e0, (by decide : 0 + 4 ≤ _), (by decide : 0 + 8 ≤ _)⟩)
  dsimp only [Pt.U, Pt.locs, Pt.cells, Pt.slots] at X4 l4 y4 z4 st4 hQ4 R4
  subst l4 y4 z4
  obtain ⟨X4, S4, hZ4, ho4⟩ := rebS hS0 (Nat.le_trans (Nat.le_of_eq (congrArg Array.size e0)) (Nat.le_of_eq (congrArg Array.size e0).symm)) X4 S4 g4 hZ hown
  obtain ⟨v2, v3, rfl, N4, K4, q4_0, q4_1, q4_2, q4_3⟩ := hQ4
  have C5 : CHr Z consts_1 s.vm h0 T4.vm T4.heap := C0.trans R4
  have M4 := Fr.app N0 N4
  refine Gl.to st4 ?_
  show Gl p.tables e below _ (T4.setTop (mkF m 9 #[.val (.ref a), .val (.ref b)] []))
  show Gl p.tables e below _ (T4.setTop (mkF m 9 #[.val (.ref a), .val (.ref b)] []))
  have K6 : Keep h0 T4.heap [a] := ((Keep.refl h0 [a]).trans K4 (allS (Or.inl (List.mem_of_getElem? (i := 0) rfl)) all0))
  exact Gl.ret0H X4 hx S4 (Nat.le_refl _) (by rw [hh]; exact C5.trans (CHv.at X4 hZ4 (elW hw) C5.1)) Bd.returns (hb hby d2_9) hlk (by decide) (by decide) ⟨v2, v3, rfl, M4, K6, q4_0, q4_1, q4_2, q4_3⟩
theorem d1_0 : decode method_2_code 0 = .ok (.iload_n 1, 1) := by decide +kernel
theorem d1_1 : decode method_2_code 1 = .ok (.sipush 255, 3) := by decide +kernel
theorem d1_4 : decode method_2_code 4 = .ok (.iand, 1) := by decide +kernel
theorem d1_5 : decode method_2_code 5 = .ok (.i2c, 1) := by decide +kernel
theorem d1_6 : decode method_2_code 6 = .ok (.istore_n 2, 1) := by decide +kernel
theorem d1_7 : decode method_2_code 7 = .ok (.iload_n 1, 1) := by decide +kernel
theorem d1_8 : decode method_2_code 8 = .ok (.bipush 8, 2) := by decide +kernel
theorem d1_10 : decode method_2_code 10 = .ok (.iushr, 1) := by decide +kernel
theorem d1_11 : decode method_2_code 11 = .ok (.sipush 255, 3) := by decide +kernel
theorem d1_14 : decode method_2_code 14 = .ok (.iand, 1) := by decide +kernel
theorem d1_15 : decode method_2_code 15 = .ok (.i2c, 1) := by decide +kernel
theorem d1_16 : decode method_2_code 16 = .ok (.istore_n 3, 1) := by decide +kernel
theorem d1_17 : decode method_2_code 17 = .ok (.iload_n 0, 1) := by decide +kernel
theorem d1_18 : decode method_2_code 18 = .ok (.ifCond .ne 14, 3) := by decide +kernel
theorem d1_21 : decode method_2_code 21 = .ok (.new 7, 3) := by decide +kernel
theorem d1_24 : decode method_2_code 24 = .ok (.dup, 1) := by decide +kernel
theorem d1_25 : decode method_2_code 25 = .ok (.iconst 0, 1) := by decide +kernel
theorem d1_26 : decode method_2_code 26 = .ok (.newarray .char, 2) := by decide +kernel
theorem d1_28 : decode method_2_code 28 = .ok (.invokespecial 9, 3) := by decide +kernel
theorem d1_31 : decode method_2_code 31 = .ok (.areturn, 1) := by decide +kernel
theorem d1_32 : decode method_2_code 32 = .ok (.iload_n 0, 1) := by decide +kernel
theorem d1_33 : decode method_2_code 33 = .ok (.iconst 1, 1) := by decide +kernel
theorem d1_34 : decode method_2_code 34 = .ok (.if_icmp .ne 23, 3) := by decide +kernel
theorem d1_37 : decode method_2_code 37 = .ok (.iconst 1, 1) := by decide +kernel
theorem d1_38 : decode method_2_code 38 = .ok (.newarray .char, 2) := by decide +kernel
theorem d1_40 : decode method_2_code 40 = .ok (.astore 4, 2) := by decide +kernel
theorem d1_42 : decode method_2_code 42 = .ok (.aload 4, 2) := by decide +kernel
theorem d1_44 : decode method_2_code 44 = .ok (.iconst 0, 1) := by decide +kernel
theorem d1_45 : decode method_2_code 45 = .ok (.iload_n 2, 1) := by decide +kernel
theorem d1_46 : decode method_2_code 46 = .ok (.castore, 1) := by decide +kernel
theorem d1_47 : decode method_2_code 47 = .ok (.new 7, 3) := by decide +kernel
theorem d1_50 : decode method_2_code 50 = .ok (.dup, 1) := by decide +kernel
theorem d1_51 : decode method_2_code 51 = .ok (.aload 4, 2) := by decide +kernel
theorem d1_53 : decode method_2_code 53 = .ok (.invokespecial 9, 3) := by decide +kernel
theorem d1_56 : decode method_2_code 56 = .ok (.areturn, 1) := by decide +kernel
theorem d1_57 : decode method_2_code 57 = .ok (.iconst 2, 1) := by decide +kernel
theorem d1_58 : decode method_2_code 58 = .ok (.newarray .char, 2) := by decide +kernel
theorem d1_60 : decode method_2_code 60 = .ok (.astore 4, 2) := by decide +kernel
theorem d1_62 : decode method_2_code 62 = .ok (.aload 4, 2) := by decide +kernel
theorem d1_64 : decode method_2_code 64 = .ok (.iconst 0, 1) := by decide +kernel
theorem d1_65 : decode method_2_code 65 = .ok (.iload_n 2, 1) := by decide +kernel
theorem d1_66 : decode method_2_code 66 = .ok (.castore, 1) := by decide +kernel
theorem d1_67 : decode method_2_code 67 = .ok (.aload 4, 2) := by decide +kernel
theorem d1_69 : decode method_2_code 69 = .ok (.iconst 1, 1) := by decide +kernel
theorem d1_70 : decode method_2_code 70 = .ok (.iload_n 3, 1) := by decide +kernel
theorem d1_71 : decode method_2_code 71 = .ok (.castore, 1) := by decide +kernel
theorem d1_72 : decode method_2_code 72 = .ok (.new 7, 3) := by decide +kernel
theorem d1_75 : decode method_2_code 75 = .ok (.dup, 1) := by decide +kernel
theorem d1_76 : decode method_2_code 76 = .ok (.aload 4, 2) := by decide +kernel
theorem d1_78 : decode method_2_code 78 = .ok (.invokespecial 9, 3) := by decide +kernel
theorem d1_81 : decode method_2_code 81 = .ok (.areturn, 1) := by decide +kernel
theorem ef_mk (m : MethodId) (n : Int32) (ch : Int32) : entryFrame m #[(.int n), (.int ch)] 5 = mkF m 0 #[.val (.int n), .val (.int ch), .unset, .unset, .unset] [] := by first | (simp [entryFrame, mkF, argsToLocals, Value.category]; done) | rfl
def Q_mk (Z : State) (n : Int32) (ch : Int32) (Y1 : Int32) (h0 : Heap) (n0 : Nat) (v : Option Value) (h : Heap) (L : List Loc) : Prop := (∃ b : Addr, ∃ t : Addr, ∃ k : ClassId, ∃ cs : List Int32, v = some (.ref b) ∧ Fr n0 L ∧ Keep h0 h [] ∧ Exa Z h b "java/lang/String" ∧ Fld Z h b "java/lang/String" "coder" "B" (.int 0) ∧ Fld Z h b "java/lang/String" "value" "[B" (.ref t) ∧ Arv Z h t k .byte (Int32.ofNat cs.length) ((cs.map (fun c => c.toInt8.toInt32)).map Value.int) (.int 0) ∧ (cs = own_mk n ch) ∧ (h0.size ≤ b))
set_option maxRecDepth 65536 in
set_option maxHeartbeats 40000000 in
theorem rm_mk (l : Launch) (Z : State) (a0 : Array Value) (hw : ∀ d ∈ tables_1, d.before a0 Z = true) (ws : List Jvm.Cond) (n : Int32) (ch : Int32) (Y1 : Int32) (h0 : Heap) (n0 : Nat) (Z0 : n0 ≤ h0.size) (pf0 : Old Z n0 h0) (O2 : Sta Z Z.heap "java/lang/String" "COMPACT_STRINGS" "Z" (.int Y1)) (P5 : ¬ (Y1 = (0 : Int32))) :
    MetFree l (⟨"com/example/rooted_tableau/rootedtableau/model/RoleEqualsPinLaw", "mk", "(II)Ljava/lang/String;"⟩ : MethodName) (head1 (Jvm.Cond.code (⟨"com/example/rooted_tableau/rootedtableau/model/RoleEqualsPinLaw", "mk", "(II)Ljava/lang/String;"⟩ : MethodName) method_2_code 5 (some (.object "java/lang/String")) :: ws) ({ frames := 4, cells := 6, slots := 12, locals := 66 } : Room)) (fun aa U => aa = #[(.int n), (.int ch)] ∧ Z.Warmed39 U.vm ∧ U.heap = h0 ∧ CHv Z consts_1 U.vm h0) (fun _ _ _ _ _ => True) (fun _ U o U' => ∃ v L, o = .returned v ∧ Q_mk Z n ch Y1 h0 n0 v U'.heap L ∧ CHr Z consts_1 U.vm U.heap U'.vm U'.heap ∧ ReturnedEndW U o U' L ({ frames := 4, cells := 6, slots := 12, locals := 66 } : Room).cells ({ frames := 4, cells := 6, slots := 12, locals := 66 } : Room).slots) := by
  refine MetFree.of_bodySF (plainFor_of_name pn_com_example_rooted_tableau_rootedtableau_model_RoleEqualsPinLaw) hisR ?_
  intro p e s m args below meth c s₁ Bd hml0 hP hK
  obtain ⟨rfl, hZ, hh, hH⟩ := hP
  have hx := Bd.exec
  have hby := Bd.bytes
  have hlk : meth.locks = false := BodyLoose.notSynchronized Bd
  have hml : c.maxLocals = 5 := hml0
  have hown : s.vm.findClass "com/example/rooted_tableau/rootedtableau/model/RoleEqualsPinLaw" = some m.cls := findClass_of_methodNamed Bd.named
  have hnm := (name_of_methodNamed Bd.named Bd.method).1
  have X0 : Stand p l e ({ frames := 4, cells := 6, slots := 12, locals := 66 } : Room) (s.setVm s.vm) m #[(.int n), (.int ch)] below meth c s₁ [] 0 0 := Stand.of_body Bd
  have e0 : s₁.heap = h0 := by rw [← hh, Bd.state]; rfl
  have N0 := Fr.nil n0
  show Gl p.tables e below (EndH s Z consts_1 (Q_mk Z n ch Y1 h0 n0) ({ frames := 4, cells := 6, slots := 12, locals := 66 } : Room).cells ({ frames := 4, cells := 6, slots := 12, locals := 66 } : Room).slots) _
  refine Gl.cast (ef_mk m n ch) ?_
  show Gl p.tables e below _ (s₁.setTop (mkF m 0 #[.val (.int n), .val (.int ch), .unset, .unset, .unset] []))
  have hS0 : s.Since s.vm s₁.heap.size := (State.WarmedH.refl s).since _
  have C0 : CHr Z consts_1 s.vm h0 s.vm h0 := CHr.refl hH
  refine Gl.st (fun _ kq => XS.iloadN X0.here hx rfl (hb hby d1_0) rfl kq) ?_
  show Gl p.tables e below _ (s₁.setTop (mkF m 1 #[.val (.int n), .val (.int ch), .unset, .unset, .unset] [(.int ch)]))
  refine Gl.st (fun _ kq => XS.sipush X0.here hx rfl (hb hby d1_1) kq) ?_
  show Gl p.tables e below _ (s₁.setTop (mkF m 4 #[.val (.int n), .val (.int ch), .unset, .unset, .unset] [(.int 255), (.int ch)]))
  refine Gl.st (fun _ kq => XS.iand X0.here hx rfl (hb hby d1_4) rfl kq) ?_
  show Gl p.tables e below _ (s₁.setTop (mkF m 5 #[.val (.int n), .val (.int ch), .unset, .unset, .unset] [(.int (ch &&& (255 : Int32)))]))
  refine Gl.st (fun _ kq => XS.i2c X0.here hx rfl (hb hby d1_5) rfl kq) ?_
  show Gl p.tables e below _ (s₁.setTop (mkF m 6 #[.val (.int n), .val (.int ch), .unset, .unset, .unset] [(.int ((ch &&& (255 : Int32)).toUInt32.toUInt16.toUInt32.toInt32))]))
  refine Gl.st (fun _ kq => XS.istoreN X0.here hx rfl (hb hby d1_6) rfl (l' := #[.val (.int n), .val (.int ch), .val (.int ((ch &&& (255 : Int32)).toUInt32.toUInt16.toUInt32.toInt32)), .unset, .unset]) rfl kq) ?_
  show Gl p.tables e below _ (s₁.setTop (mkF m 7 #[.val (.int n), .val (.int ch), .val (.int ((ch &&& (255 : Int32)).toUInt32.toUInt16.toUInt32.toInt32)), .unset, .unset] []))
  refine Gl.st (fun _ kq => XS.iloadN X0.here hx rfl (hb hby d1_7) rfl kq) ?_
  show Gl p.tables e below _ (s₁.setTop (mkF m 8 #[.val (.int n), .val (.int ch), .val (.int ((ch &&& (255 : Int32)).toUInt32.toUInt16.toUInt32.toInt32)), .unset, .unset] [(.int ch)]))
  refine Gl.st (fun _ kq => XS.bipush X0.here hx rfl (hb hby d1_8) kq) ?_
  show Gl p.tables e below _ (s₁.setTop (mkF m 10 #[.val (.int n), .val (.int ch), .val (.int ((ch &&& (255 : Int32)).toUInt32.toUInt16.toUInt32.toInt32)), .unset, .unset] [(.int 8), (.int ch)]))
  refine Gl.st (fun _ kq => XS.iushr X0.here hx rfl (hb hby d1_10) rfl kq) ?_
  show Gl p.tables e below _ (s₁.setTop (mkF m 11 #[.val (.int n), .val (.int ch), .val (.int ((ch &&& (255 : Int32)).toUInt32.toUInt16.toUInt32.toInt32)), .unset, .unset] [(.int ((ch.toUInt32 >>> ((8 : Int32) &&& 31).toUInt32).toInt32))]))
  refine Gl.st (fun _ kq => XS.sipush X0.here hx rfl (hb hby d1_11) kq) ?_
  show Gl p.tables e below _ (s₁.setTop (mkF m 14 #[.val (.int n), .val (.int ch), .val (.int ((ch &&& (255 : Int32)).toUInt32.toUInt16.toUInt32.toInt32)), .unset, .unset] [(.int 255), (.int ((ch.toUInt32 >>> ((8 : Int32) &&& 31).toUInt32).toInt32))]))
  refine Gl.st (fun _ kq => XS.iand X0.here hx rfl (hb hby d1_14) rfl kq) ?_
  show Gl p.tables e below _ (s₁.setTop (mkF m 15 #[.val (.int n), .val (.int ch), .val (.int ((ch &&& (255 : Int32)).toUInt32.toUInt16.toUInt32.toInt32)), .unset, .unset] [(.int (((ch.toUInt32 >>> ((8 : Int32) &&& 31).toUInt32).toInt32) &&& (255 : Int32)))]))
  refine Gl.st (fun _ kq => XS.i2c X0.here hx rfl (hb hby d1_15) rfl kq) ?_
  show Gl p.tables e below _ (s₁.setTop (mkF m 16 #[.val (.int n), .val (.int ch), .val (.int ((ch &&& (255 : Int32)).toUInt32.toUInt16.toUInt32.toInt32)), .unset, .unset] [(.int ((((ch.toUInt32 >>> ((8 : Int32) &&& 31).toUInt32).toInt32) &&& (255 : Int32)).toUInt32.toUInt16.toUInt32.toInt32))]))
  refine Gl.st (fun _ kq => XS.istoreN X0.here hx rfl (hb hby d1_16) rfl (l' := #[.val (.int n), .val (.int ch), .val (.int ((ch &&& (255 : Int32)).toUInt32.toUInt16.toUInt32.toInt32)), .val (.int ((((ch.toUInt32 >>> ((8 : Int32) &&& 31).toUInt32).toInt32) &&& (255 : Int32)).toUInt32.toUInt16.toUInt32.toInt32)), .unset]) rfl kq) ?_
  show Gl p.tables e below _ (s₁.setTop (mkF m 17 #[.val (.int n), .val (.int ch), .val (.int ((ch &&& (255 : Int32)).toUInt32.toUInt16.toUInt32.toInt32)), .val (.int ((((ch.toUInt32 >>> ((8 : Int32) &&& 31).toUInt32).toInt32) &&& (255 : Int32)).toUInt32.toUInt16.toUInt32.toInt32)), .unset] []))
  refine Gl.st (fun _ kq => XS.iloadN X0.here hx rfl (hb hby d1_17) rfl kq) ?_
  show Gl p.tables e below _ (s₁.setTop (mkF m 18 #[.val (.int n), .val (.int ch), .val (.int ((ch &&& (255 : Int32)).toUInt32.toUInt16.toUInt32.toInt32)), .val (.int ((((ch.toUInt32 >>> ((8 : Int32) &&& 31).toUInt32).toInt32) &&& (255 : Int32)).toUInt32.toUInt16.toUInt32.toInt32)), .unset] [(.int n)]))
  by_cases hc1 : n = (0 : Int32)
  · refine Gl.st (fun _ kq => XS.ifNo X0.here hx rfl (hb hby d1_18) rfl ((if0 _ _).trans (teq (hc1 : n = (0 : Int32))).2) kq) ?_
    show Gl p.tables e below _ (s₁.setTop (mkF m 21 #[.val (.int n), .val (.int ch), .val (.int ((ch &&& (255 : Int32)).toUInt32.toUInt16.toUInt32.toInt32)), .val (.int ((((ch.toUInt32 >>> ((8 : Int32) &&& 31).toUInt32).toInt32) &&& (255 : Int32)).toUInt32.toUInt16.toUInt32.toInt32)), .unset] []))
    obtain ⟨T2, h2, X2, e2, E2, A2, D2, U2, st2⟩ := newO X0 hx hZ hown (tw hw 5 rfl) (tw hw 6 rfl) (tw hw 7 rfl) e0 (g := (mkF m 21 #[.val (.int n), .val (.int ch), .val (.int ((ch &&& (255 : Int32)).toUInt32.toUInt16.toUInt32.toInt32)), .val (.int ((((ch.toUInt32 >>> ((8 : Int32) &&& 31).toUInt32).toInt32) &&& (255 : Int32)).toUInt32.toUInt16.toUInt32.toInt32)), .unset] [])) rfl (hb hby d1_21) (by decide) (by decide)
    obtain ⟨b2, g2⟩ : ∃ z, z = h0.size := ⟨_, rfl⟩
    rw [← g2] at A2 D2 U2 st2
    refine Gl.st st2 ?_
    have g3 : n0 ≤ b2 := Nat.le_trans Z0 (Nat.le_of_eq g2.symm)
    have s4 : h0.size ≤ b2 := Nat.le_trans (Nat.le_refl _) (Nat.le_of_eq g2.symm)
    have C5 : CHr Z consts_1 s.vm h0 s.vm h2 := C0.trans (CHr.ext E2 C0.1)
    have F2_21 : Fld Z h2 b2 "java/lang/String" "value" "[B" .null := D2 (Or.inr (tw hw 21 rfl)) (ty := (.array .byte)) (by decide)
    have F2_22 : Fld Z h2 b2 "java/lang/String" "coder" "B" (.int 0) := D2 (Or.inr (tw hw 22 rfl)) (ty := .byte) (by decide)
    show Gl p.tables e below _ (T2.setTop (mkF m 24 #[.val (.int n), .val (.int ch), .val (.int ((ch &&& (255 : Int32)).toUInt32.toUInt16.toUInt32.toInt32)), .val (.int ((((ch.toUInt32 >>> ((8 : Int32) &&& 31).toUInt32).toInt32) &&& (255 : Int32)).toUInt32.toUInt16.toUInt32.toInt32)), .unset] [(.ref b2)]))
    refine Gl.st (fun _ kq => XS.dup X2.here hx rfl (hb hby d1_24) rfl rfl kq) ?_
    show Gl p.tables e below _ (T2.setTop (mkF m 25 #[.val (.int n), .val (.int ch), .val (.int ((ch &&& (255 : Int32)).toUInt32.toUInt16.toUInt32.toInt32)), .val (.int ((((ch.toUInt32 >>> ((8 : Int32) &&& 31).toUInt32).toInt32) &&& (255 : Int32)).toUInt32.toUInt16.toUInt32.toInt32)), .unset] [(.ref b2), (.ref b2)]))
    refine Gl.st (fun _ kq => XS.iconst X2.here hx rfl (hb hby d1_25) kq) ?_
    show Gl p.tables e below _ (T2.setTop (mkF m 26 #[.val (.int n), .val (.int ch), .val (.int ((ch &&& (255 : Int32)).toUInt32.toUInt16.toUInt32.toInt32)), .val (.int ((((ch.toUInt32 >>> ((8 : Int32) &&& 31).toUInt32).toInt32) &&& (255 : Int32)).toUInt32.toUInt16.toUInt32.toInt32)), .unset] [(.int 0), (.ref b2), (.ref b2)]))
    obtain ⟨T6, h6, k6, X6, e6, E6, A6, st6⟩ := newP X2 hx hZ (tw hw 8 rfl) e2 (g := (mkF m 26 #[.val (.int n), .val (.int ch), .val (.int ((ch &&& (255 : Int32)).toUInt32.toUInt16.toUInt32.toInt32)), .val (.int ((((ch.toUInt32 >>> ((8 : Int32) &&& 31).toUInt32).toInt32) &&& (255 : Int32)).toUInt32.toUInt16.toUInt32.toInt32)), .unset] [(.int 0), (.ref b2), (.ref b2)])) rfl (hb hby d1_26) rfl (by decide) (cap := 0) (by decide) (by decide) (by decide) (by decide)
    obtain ⟨b6, g6⟩ : ∃ z, z = h2.size := ⟨_, rfl⟩
    rw [← g6] at A6 st6
    refine Gl.st st6 ?_
    have g7 : n0 ≤ b6 := Nat.le_trans (Nat.le_trans Z0 E2.1) (Nat.le_of_eq g6.symm)
    have s8 : h0.size ≤ b6 := Nat.le_trans (Nat.le_trans (Nat.le_refl _) E2.1) (Nat.le_of_eq g6.symm)
    have C9 : CHr Z consts_1 s.vm h0 s.vm h6 := C5.trans (CHr.ext E6 C5.1)
    have V6 : Arv Z h6 b6 k6 .char (0 : Int32) [] (.int 0) := (Arv.new A6 (by decide)).pad (pad_rep [] (.int 0) 0)
    show Gl p.tables e below _ (T6.setTop (mkF m 28 #[.val (.int n), .val (.int ch), .val (.int ((ch &&& (255 : Int32)).toUInt32.toUInt16.toUInt32.toInt32)), .val (.int ((((ch.toUInt32 >>> ((8 : Int32) &&& 31).toUInt32).toInt32) &&& (255 : Int32)).toUInt32.toUInt16.toUInt32.toInt32)), .unset] [(.ref b6), (.ref b2), (.ref b2)]))
    have f10 : Exa Z h6 b2 "java/lang/String" := (A2.ext E6)
    have f11 : Fld Z h6 b2 "java/lang/String" "value" "[B" .null := (F2_21.ext E6)
    have f12 : Fld Z h6 b2 "java/lang/String" "coder" "B" (.int 0) := (F2_22.ext E6)
    obtain ⟨_, _, ⟨T15, L15, k15, n15⟩, -, X15, S15, g15, ⟨Lc15, hQ15, l15, y15, z15, R15⟩, st15⟩ := X6.specialBackS hx (y := (⟨"java/lang/String", "<init>", "([C)V"⟩ : MethodName)) rfl hown (mvT hZ (tw hw 9 rfl)) (mvT hZ (tw hw 10 rfl)) (mvT hZ (tw hw 11 rfl)) (by decide) (backOfSH (W := 1) (rm_se1 l Z a0 hw [] (b2) (b6) ((0 : Int32)) (k6) h6 n0 (Nat.le_trans (Nat.le_trans Z0 E2.1) E6.1) f10 f11 f12 V6 g3) hZ (tw hw 11 rfl) (tw hw 7 rfl) (by decide) (by decide) (elW hw) C9.1) (g := (mkF m 28 #[.val (.int n), .val (.int ch), .val (.int ((ch &&& (255 : Int32)).toUInt32.toUInt16.toUInt32.toInt32)), .val (.int ((((ch.toUInt32 >>> ((8 : Int32) &&& 31).toUInt32).toInt32) &&& (255 : Int32)).toUInt32.toUInt16.toUInt32.toInt32)), .unset] [(.ref b6), (.ref b2), (.ref b2)])) rfl (by rw [hml]; rfl) (Steps.refl _) (a := b2) (argsL := [(.ref b6)]) (rest := [(.ref b2)]) (lenOf pd___C_V rfl) rfl (by show 2 * 0 + _ ≤ _; exact Nat.le_of_eq rfl) (hb hby d1_28) (fun _ _ => ⟨rfl, e6, (by decide : 2 + 4 ≤ _), (by decide : 4 + 8 ≤ _)⟩)
    dsimp only [Pt.U, Pt.locs, Pt.cells, Pt.slots] at X15 l15 y15 z15 st15 hQ15 R15
    subst l15 y15 z15
    obtain ⟨X15, S15, hZ15, ho15⟩ := rebS hS0 (Nat.le_trans (Nat.le_trans (Nat.le_trans (Nat.le_of_eq (congrArg Array.size e0)) E2.1) E6.1) (Nat.le_of_eq (congrArg Array.size e6).symm)) X15 S15 g15 hZ hown
    obtain ⟨v13, v14, rfl, N15, K15, q15_0, q15_1, q15_2, q15_3⟩ := hQ15
    have C16 : CHr Z consts_1 s.vm h0 T15.vm T15.heap := C9.trans R15
    have M15 := Fr.app N0 N15
    refine Gl.to st15 ?_
    show Gl p.tables e below _ (T15.setTop (mkF m 31 #[.val (.int n), .val (.int ch), .val (.int ((ch &&& (255 : Int32)).toUInt32.toUInt16.toUInt32.toInt32)), .val (.int ((((ch.toUInt32 >>> ((8 : Int32) &&& 31).toUInt32).toInt32) &&& (255 : Int32)).toUInt32.toUInt16.toUInt32.toInt32)), .unset] [(.ref b2)]))
    show Gl p.tables e below _ (T15.setTop (mkF m 31 #[.val (.int n), .val (.int ch), .val (.int ((ch &&& (255 : Int32)).toUInt32.toUInt16.toUInt32.toInt32)), .val (.int ((((ch.toUInt32 >>> ((8 : Int32) &&& 31).toUInt32).toInt32) &&& (255 : Int32)).toUInt32.toUInt16.toUInt32.toInt32)), .unset] [(.ref b2)]))
    have K17 : Keep h0 T15.heap [] := ((((Keep.refl h0 []).ext E2).ext E6).trans K15 (allS (Or.inr s4) all0))
    exact Gl.retAH X15 hx S15 (Nat.le_refl _) (by rw [hh]; exact C16.trans (CHv.at X15 hZ15 (elW hw) C16.1)) Bd.returns rfl rfl (hb hby d1_31) hlk (by decide) (by decide) ⟨b2, v13, v14, ([] : List Int32), rfl, M15, K17, q15_0, q15_1, q15_2, q15_3, (mk0 ch hc1), s4⟩
  · refine Gl.st (fun _ kq => XS.ifYes X0.here hx rfl (pc0 := 18) (pc' := 32) rfl (hb hby d1_18) rfl ((if0 _ _).trans (feq (hc1 : ¬ (n = (0 : Int32)))).2) (by decide) (by decide) kq) ?_
    show Gl p.tables e below _ (s₁.setTop (mkF m 32 #[.val (.int n), .val (.int ch), .val (.int ((ch &&& (255 : Int32)).toUInt32.toUInt16.toUInt32.toInt32)), .val (.int ((((ch.toUInt32 >>> ((8 : Int32) &&& 31).toUInt32).toInt32) &&& (255 : Int32)).toUInt32.toUInt16.toUInt32.toInt32)), .unset] []))
    refine Gl.st (fun _ kq => XS.iloadN X0.here hx rfl (hb hby d1_32) rfl kq) ?_
    show Gl p.tables e below _ (s₁.setTop (mkF m 33 #[.val (.int n), .val (.int ch), .val (.int ((ch &&& (255 : Int32)).toUInt32.toUInt16.toUInt32.toInt32)), .val (.int ((((ch.toUInt32 >>> ((8 : Int32) &&& 31).toUInt32).toInt32) &&& (255 : Int32)).toUInt32.toUInt16.toUInt32.toInt32)), .unset] [(.int n)]))
    refine Gl.st (fun _ kq => XS.iconst X0.here hx rfl (hb hby d1_33) kq) ?_
    show Gl p.tables e below _ (s₁.setTop (mkF m 34 #[.val (.int n), .val (.int ch), .val (.int ((ch &&& (255 : Int32)).toUInt32.toUInt16.toUInt32.toInt32)), .val (.int ((((ch.toUInt32 >>> ((8 : Int32) &&& 31).toUInt32).toInt32) &&& (255 : Int32)).toUInt32.toUInt16.toUInt32.toInt32)), .unset] [(.int 1), (.int n)]))
    by_cases hc18 : n = (1 : Int32)
    · refine Gl.st (fun _ kq => XS.icmpNo X0.here hx rfl (hb hby d1_34) rfl (teq (hc18 : n = (1 : Int32))).2 kq) ?_
      show Gl p.tables e below _ (s₁.setTop (mkF m 37 #[.val (.int n), .val (.int ch), .val (.int ((ch &&& (255 : Int32)).toUInt32.toUInt16.toUInt32.toInt32)), .val (.int ((((ch.toUInt32 >>> ((8 : Int32) &&& 31).toUInt32).toInt32) &&& (255 : Int32)).toUInt32.toUInt16.toUInt32.toInt32)), .unset] []))
      refine Gl.st (fun _ kq => XS.iconst X0.here hx rfl (hb hby d1_37) kq) ?_
      show Gl p.tables e below _ (s₁.setTop (mkF m 38 #[.val (.int n), .val (.int ch), .val (.int ((ch &&& (255 : Int32)).toUInt32.toUInt16.toUInt32.toInt32)), .val (.int ((((ch.toUInt32 >>> ((8 : Int32) &&& 31).toUInt32).toInt32) &&& (255 : Int32)).toUInt32.toUInt16.toUInt32.toInt32)), .unset] [(.int 1)]))
      obtain ⟨T19, h19, k19, X19, e19, E19, A19, st19⟩ := newP X0 hx hZ (tw hw 8 rfl) e0 (g := (mkF m 38 #[.val (.int n), .val (.int ch), .val (.int ((ch &&& (255 : Int32)).toUInt32.toUInt16.toUInt32.toInt32)), .val (.int ((((ch.toUInt32 >>> ((8 : Int32) &&& 31).toUInt32).toInt32) &&& (255 : Int32)).toUInt32.toUInt16.toUInt32.toInt32)), .unset] [(.int 1)])) rfl (hb hby d1_38) rfl (by decide) (cap := 1) (by decide) (by decide) (by decide) (by decide)
      obtain ⟨b19, g19⟩ : ∃ z, z = h0.size := ⟨_, rfl⟩
      rw [← g19] at A19 st19
      refine Gl.st st19 ?_
      have g20 : n0 ≤ b19 := Nat.le_trans Z0 (Nat.le_of_eq g19.symm)
      have s21 : h0.size ≤ b19 := Nat.le_trans (Nat.le_refl _) (Nat.le_of_eq g19.symm)
      have C22 : CHr Z consts_1 s.vm h0 s.vm h19 := C0.trans (CHr.ext E19 C0.1)
      have V19 : Arv Z h19 b19 k19 .char (1 : Int32) [(.int 0)] (.int 0) := (Arv.new A19 (by decide)).pad (pad_rep [] (.int 0) 1)
      show Gl p.tables e below _ (T19.setTop (mkF m 40 #[.val (.int n), .val (.int ch), .val (.int ((ch &&& (255 : Int32)).toUInt32.toUInt16.toUInt32.toInt32)), .val (.int ((((ch.toUInt32 >>> ((8 : Int32) &&& 31).toUInt32).toInt32) &&& (255 : Int32)).toUInt32.toUInt16.toUInt32.toInt32)), .unset] [(.ref b19)]))
      refine Gl.st (fun _ kq => XS.astore X19.here hx rfl (hb hby d1_40) rfl rfl (l' := #[.val (.int n), .val (.int ch), .val (.int ((ch &&& (255 : Int32)).toUInt32.toUInt16.toUInt32.toInt32)), .val (.int ((((ch.toUInt32 >>> ((8 : Int32) &&& 31).toUInt32).toInt32) &&& (255 : Int32)).toUInt32.toUInt16.toUInt32.toInt32)), .val (.ref b19)]) rfl kq) ?_
      show Gl p.tables e below _ (T19.setTop (mkF m 42 #[.val (.int n), .val (.int ch), .val (.int ((ch &&& (255 : Int32)).toUInt32.toUInt16.toUInt32.toInt32)), .val (.int ((((ch.toUInt32 >>> ((8 : Int32) &&& 31).toUInt32).toInt32) &&& (255 : Int32)).toUInt32.toUInt16.toUInt32.toInt32)), .val (.ref b19)] []))
      refine Gl.st (fun _ kq => XS.aload X19.here hx rfl (hb hby d1_42) rfl rfl kq) ?_
      show Gl p.tables e below _ (T19.setTop (mkF m 44 #[.val (.int n), .val (.int ch), .val (.int ((ch &&& (255 : Int32)).toUInt32.toUInt16.toUInt32.toInt32)), .val (.int ((((ch.toUInt32 >>> ((8 : Int32) &&& 31).toUInt32).toInt32) &&& (255 : Int32)).toUInt32.toUInt16.toUInt32.toInt32)), .val (.ref b19)] [(.ref b19)]))
      refine Gl.st (fun _ kq => XS.iconst X19.here hx rfl (hb hby d1_44) kq) ?_
      show Gl p.tables e below _ (T19.setTop (mkF m 45 #[.val (.int n), .val (.int ch), .val (.int ((ch &&& (255 : Int32)).toUInt32.toUInt16.toUInt32.toInt32)), .val (.int ((((ch.toUInt32 >>> ((8 : Int32) &&& 31).toUInt32).toInt32) &&& (255 : Int32)).toUInt32.toUInt16.toUInt32.toInt32)), .val (.ref b19)] [(.int 0), (.ref b19)]))
      refine Gl.st (fun _ kq => XS.iloadN X19.here hx rfl (hb hby d1_45) rfl kq) ?_
      show Gl p.tables e below _ (T19.setTop (mkF m 46 #[.val (.int n), .val (.int ch), .val (.int ((ch &&& (255 : Int32)).toUInt32.toUInt16.toUInt32.toInt32)), .val (.int ((((ch.toUInt32 >>> ((8 : Int32) &&& 31).toUInt32).toInt32) &&& (255 : Int32)).toUInt32.toUInt16.toUInt32.toInt32)), .val (.ref b19)] [(.int ((ch &&& (255 : Int32)).toUInt32.toUInt16.toUInt32.toInt32)), (.int 0), (.ref b19)]))
      obtain ⟨c23, a23, q23, S23, M23, H23, G23⟩ := id V19
      obtain ⟨T23, h23, X23, e23, W23, st23⟩ := stC X19 hx hZ e19 a23 (j := (0 : Int32)) (inb_of S23 ⟨by decide, by decide⟩) (g := (mkF m 46 #[.val (.int n), .val (.int ch), .val (.int ((ch &&& (255 : Int32)).toUInt32.toUInt16.toUInt32.toInt32)), .val (.int ((((ch.toUInt32 >>> ((8 : Int32) &&& 31).toUInt32).toInt32) &&& (255 : Int32)).toUInt32.toUInt16.toUInt32.toInt32)), .val (.ref b19)] [(.int ((ch &&& (255 : Int32)).toUInt32.toUInt16.toUInt32.toInt32)), (.int 0), (.ref b19)])) rfl rfl (hb hby d1_46)
      refine Gl.st st23 ?_
      have C24 : CHr Z consts_1 s.vm h0 s.vm h23 := C22.trans (CHr.wr W23 (Safe.arv hZ.alike V19 (by decide)) C22.1)
      have V23 : Arv Z h23 b19 k19 .char (1 : Int32) [(.int (nar .char ((ch &&& (255 : Int32)).toUInt32.toUInt16.toUInt32.toInt32)))] (.int 0) := Arv.set a23 q23 S23 M23 H23 G23 (fits_nar_char _) W23 0 rfl (Nat.le_of_ble_eq_true rfl)
      have N23 := Fr.snoc X23 N0 g20
      show Gl p.tables e below _ (T23.setTop (mkF m 47 #[.val (.int n), .val (.int ch), .val (.int ((ch &&& (255 : Int32)).toUInt32.toUInt16.toUInt32.toInt32)), .val (.int ((((ch.toUInt32 >>> ((8 : Int32) &&& 31).toUInt32).toInt32) &&& (255 : Int32)).toUInt32.toUInt16.toUInt32.toInt32)), .val (.ref b19)] []))
      obtain ⟨T25, h25, X25, e25, E25, A25, D25, U25, st25⟩ := newO X23 hx hZ hown (tw hw 5 rfl) (tw hw 6 rfl) (tw hw 7 rfl) e23 (g := (mkF m 47 #[.val (.int n), .val (.int ch), .val (.int ((ch &&& (255 : Int32)).toUInt32.toUInt16.toUInt32.toInt32)), .val (.int ((((ch.toUInt32 >>> ((8 : Int32) &&& 31).toUInt32).toInt32) &&& (255 : Int32)).toUInt32.toUInt16.toUInt32.toInt32)), .val (.ref b19)] [])) rfl (hb hby d1_47) (by decide) (by decide)
      obtain ⟨b25, g25⟩ : ∃ z, z = h23.size := ⟨_, rfl⟩
      rw [← g25] at A25 D25 U25 st25
      refine Gl.st st25 ?_
      have g26 : n0 ≤ b25 := Nat.le_trans (Nat.le_trans (Nat.le_trans Z0 E19.1) (Keep.of_wr W23).1) (Nat.le_of_eq g25.symm)
      have s27 : h0.size ≤ b25 := Nat.le_trans (Nat.le_trans (Nat.le_trans (Nat.le_refl _) E19.1) (Keep.of_wr W23).1) (Nat.le_of_eq g25.symm)
      have C28 : CHr Z consts_1 s.vm h0 s.vm h25 := C24.trans (CHr.ext E25 C24.1)
      have F25_21 : Fld Z h25 b25 "java/lang/String" "value" "[B" .null := D25 (Or.inr (tw hw 21 rfl)) (ty := (.array .byte)) (by decide)
      have F25_22 : Fld Z h25 b25 "java/lang/String" "coder" "B" (.int 0) := D25 (Or.inr (tw hw 22 rfl)) (ty := .byte) (by decide)
      show Gl p.tables e below _ (T25.setTop (mkF m 50 #[.val (.int n), .val (.int ch), .val (.int ((ch &&& (255 : Int32)).toUInt32.toUInt16.toUInt32.toInt32)), .val (.int ((((ch.toUInt32 >>> ((8 : Int32) &&& 31).toUInt32).toInt32) &&& (255 : Int32)).toUInt32.toUInt16.toUInt32.toInt32)), .val (.ref b19)] [(.ref b25)]))
      refine Gl.st (fun _ kq => XS.dup X25.here hx rfl (hb hby d1_50) rfl rfl kq) ?_
      show Gl p.tables e below _ (T25.setTop (mkF m 51 #[.val (.int n), .val (.int ch), .val (.int ((ch &&& (255 : Int32)).toUInt32.toUInt16.toUInt32.toInt32)), .val (.int ((((ch.toUInt32 >>> ((8 : Int32) &&& 31).toUInt32).toInt32) &&& (255 : Int32)).toUInt32.toUInt16.toUInt32.toInt32)), .val (.ref b19)] [(.ref b25), (.ref b25)]))
      refine Gl.st (fun _ kq => XS.aload X25.here hx rfl (hb hby d1_51) rfl rfl kq) ?_
      show Gl p.tables e below _ (T25.setTop (mkF m 53 #[.val (.int n), .val (.int ch), .val (.int ((ch &&& (255 : Int32)).toUInt32.toUInt16.toUInt32.toInt32)), .val (.int ((((ch.toUInt32 >>> ((8 : Int32) &&& 31).toUInt32).toInt32) &&& (255 : Int32)).toUInt32.toUInt16.toUInt32.toInt32)), .val (.ref b19)] [(.ref b19), (.ref b25), (.ref b25)]))
      have f29 : Arv Z h25 b19 k19 .char (1 : Int32) [(.int (nar .char ((ch &&& (255 : Int32)).toUInt32.toUInt16.toUInt32.toInt32)))] (.int 0) := (V23.ext E25)
      have f30 : Old Z n0 h25 := (((pf0.ext E19).wr W23 g20).ext E25)
      have hp31 : ∀ c ∈ ([(nar .char ((ch &&& (255 : Int32)).toUInt32.toUInt16.toUInt32.toInt32))] : List Int32), ¬ c < 0 ∧ ¬ (255 : Int32) < c := (alcS (and255_chars _) alc0)
      have Sf33 : Safe Z consts_1 s.vm h25 b25 := (Safe.ext E25 C24.1 (Safe.new (EL := consts_1) (vm := s.vm) (Nat.le_of_eq g25.symm)))
      obtain ⟨_, _, ⟨T32, L32, k32, n32⟩, -, X32, ⟨Lc32, hQ32, l32, y32, z32⟩, st32⟩ := X25.specialBack hx (y := (⟨"java/lang/String", "<init>", "([C)V"⟩ : MethodName)) rfl hown (mvT hZ (tw hw 9 rfl)) (mvT hZ (tw hw 10 rfl)) (mvT hZ (tw hw 11 rfl)) (by decide) (StrChars.Road.backV (W := 1) hZ (wdNew hw) (kI := 4) (tw hw 6 rfl) (cs := ([(nar .char ((ch &&& (255 : Int32)).toUInt32.toUInt16.toUInt32.toInt32))] : List Int32)) (bs := (([(nar .char ((ch &&& (255 : Int32)).toUInt32.toUInt16.toUInt32.toInt32))] : List Int32).map (fun c => c.toInt8.toInt32))) (n := 1) g26 (Nat.le_trans (Nat.le_trans (Nat.le_trans Z0 E19.1) (Keep.of_wr W23).1) E25.1) A25 F25_21 F25_22 f29 (O2.ext f30.2) P5 rfl rfl (by decide) (by decide) hp31 rfl (by decide) (by decide)) (g := (mkF m 53 #[.val (.int n), .val (.int ch), .val (.int ((ch &&& (255 : Int32)).toUInt32.toUInt16.toUInt32.toInt32)), .val (.int ((((ch.toUInt32 >>> ((8 : Int32) &&& 31).toUInt32).toInt32) &&& (255 : Int32)).toUInt32.toUInt16.toUInt32.toInt32)), .val (.ref b19)] [(.ref b19), (.ref b25), (.ref b25)])) rfl (by rw [hml]; rfl) (Steps.refl _) (a := b25) (argsL := [(.ref b19)]) (rest := [(.ref b25)]) (lenOf pd___C_V rfl) rfl (by show 2 * 0 + _ ≤ _; exact Nat.le_of_eq rfl) (hb hby d1_53) (fun _ _ => ⟨rfl, e25, (by decide : 2 + 1 ≤ _), (by decide : 5 + 1 ≤ _)⟩)
      dsimp only [Pt.U, Pt.locs, Pt.cells, Pt.slots] at X32 l32 y32 z32 st32 hQ32
      subst l32 y32 z32
      obtain ⟨rfl, N32, K32, q32_0, q32_1, t31, k31, y32_0, y32_1, y32_2, q32_2, q32_3⟩ := hQ32
      have C34 : CHr Z consts_1 s.vm h0 s.vm T32.heap := C28.trans (CHr.keep K32 (sfS Sf33 sf0) C28.1)
      have M32 := Fr.app N23 N32
      have g35 : n0 ≤ t31 := Nat.le_trans (Nat.le_trans (Nat.le_trans (Nat.le_trans Z0 E19.1) (Keep.of_wr W23).1) E25.1) y32_1
      have s36 : h0.size ≤ t31 := Nat.le_trans (Nat.le_trans (Nat.le_trans (Nat.le_trans (Nat.le_refl _) E19.1) (Keep.of_wr W23).1) E25.1) y32_1
      refine Gl.to st32 ?_
      show Gl p.tables e below _ (T32.setTop (mkF m 56 #[.val (.int n), .val (.int ch), .val (.int ((ch &&& (255 : Int32)).toUInt32.toUInt16.toUInt32.toInt32)), .val (.int ((((ch.toUInt32 >>> ((8 : Int32) &&& 31).toUInt32).toInt32) &&& (255 : Int32)).toUInt32.toUInt16.toUInt32.toInt32)), .val (.ref b19)] [(.ref b25)]))
      show Gl p.tables e below _ (T32.setTop (mkF m 56 #[.val (.int n), .val (.int ch), .val (.int ((ch &&& (255 : Int32)).toUInt32.toUInt16.toUInt32.toInt32)), .val (.int ((((ch.toUInt32 >>> ((8 : Int32) &&& 31).toUInt32).toInt32) &&& (255 : Int32)).toUInt32.toUInt16.toUInt32.toInt32)), .val (.ref b19)] [(.ref b25)]))
      have K37 : Keep h0 T32.heap [] := (((((Keep.refl h0 []).ext E19).wr W23 (Or.inr s21)).ext E25).trans K32 (allS (Or.inr s27) all0))
      exact Gl.retAH X32 hx hS0 (Nat.le_trans (Nat.le_trans (Nat.le_trans (Nat.le_trans (Nat.le_of_eq (congrArg Array.size e0)) E19.1) (Keep.of_wr W23).1) E25.1) K32.1) (by rw [hh]; exact C34.trans (CHv.at X32 hZ (elW hw) C34.1)) Bd.returns rfl rfl (hb hby d1_56) hlk (by decide) (by decide) ⟨b25, t31, k31, ([(nar .char ((ch &&& (255 : Int32)).toUInt32.toUInt16.toUInt32.toInt32))] : List Int32), rfl, M32, K37, q32_0, q32_1, q32_2, q32_3, (mk1 ch hc1 hc18), s27⟩
    · refine Gl.st (fun _ kq => XS.icmpYes X0.here hx rfl (pc0 := 34) (pc' := 57) rfl (hb hby d1_34) rfl (feq (hc18 : ¬ (n = (1 : Int32)))).2 (by decide) (by decide) kq) ?_
      show Gl p.tables e below _ (s₁.setTop (mkF m 57 #[.val (.int n), .val (.int ch), .val (.int ((ch &&& (255 : Int32)).toUInt32.toUInt16.toUInt32.toInt32)), .val (.int ((((ch.toUInt32 >>> ((8 : Int32) &&& 31).toUInt32).toInt32) &&& (255 : Int32)).toUInt32.toUInt16.toUInt32.toInt32)), .unset] []))
      refine Gl.st (fun _ kq => XS.iconst X0.here hx rfl (hb hby d1_57) kq) ?_
      show Gl p.tables e below _ (s₁.setTop (mkF m 58 #[.val (.int n), .val (.int ch), .val (.int ((ch &&& (255 : Int32)).toUInt32.toUInt16.toUInt32.toInt32)), .val (.int ((((ch.toUInt32 >>> ((8 : Int32) &&& 31).toUInt32).toInt32) &&& (255 : Int32)).toUInt32.toUInt16.toUInt32.toInt32)), .unset] [(.int 2)]))
      obtain ⟨T38, h38, k38, X38, e38, E38, A38, st38⟩ := newP X0 hx hZ (tw hw 8 rfl) e0 (g := (mkF m 58 #[.val (.int n), .val (.int ch), .val (.int ((ch &&& (255 : Int32)).toUInt32.toUInt16.toUInt32.toInt32)), .val (.int ((((ch.toUInt32 >>> ((8 : Int32) &&& 31).toUInt32).toInt32) &&& (255 : Int32)).toUInt32.toUInt16.toUInt32.toInt32)), .unset] [(.int 2)])) rfl (hb hby d1_58) rfl (by decide) (cap := 2) (by decide) (by decide) (by decide) (by decide)
      obtain ⟨b38, g38⟩ : ∃ z, z = h0.size := ⟨_, rfl⟩
      rw [← g38] at A38 st38
      refine Gl.st st38 ?_
      have g39 : n0 ≤ b38 := Nat.le_trans Z0 (Nat.le_of_eq g38.symm)
      have s40 : h0.size ≤ b38 := Nat.le_trans (Nat.le_refl _) (Nat.le_of_eq g38.symm)
      have C41 : CHr Z consts_1 s.vm h0 s.vm h38 := C0.trans (CHr.ext E38 C0.1)
      have V38 : Arv Z h38 b38 k38 .char (2 : Int32) [(.int 0), (.int 0)] (.int 0) := (Arv.new A38 (by decide)).pad (pad_rep [] (.int 0) 2)
      show Gl p.tables e below _ (T38.setTop (mkF m 60 #[.val (.int n), .val (.int ch), .val (.int ((ch &&& (255 : Int32)).toUInt32.toUInt16.toUInt32.toInt32)), .val (.int ((((ch.toUInt32 >>> ((8 : Int32) &&& 31).toUInt32).toInt32) &&& (255 : Int32)).toUInt32.toUInt16.toUInt32.toInt32)), .unset] [(.ref b38)]))
      refine Gl.st (fun _ kq => XS.astore X38.here hx rfl (hb hby d1_60) rfl rfl (l' := #[.val (.int n), .val (.int ch), .val (.int ((ch &&& (255 : Int32)).toUInt32.toUInt16.toUInt32.toInt32)), .val (.int ((((ch.toUInt32 >>> ((8 : Int32) &&& 31).toUInt32).toInt32) &&& (255 : Int32)).toUInt32.toUInt16.toUInt32.toInt32)), .val (.ref b38)]) rfl kq) ?_
      show Gl p.tables e below _ (T38.setTop (mkF m 62 #[.val (.int n), .val (.int ch), .val (.int ((ch &&& (255 : Int32)).toUInt32.toUInt16.toUInt32.toInt32)), .val (.int ((((ch.toUInt32 >>> ((8 : Int32) &&& 31).toUInt32).toInt32) &&& (255 : Int32)).toUInt32.toUInt16.toUInt32.toInt32)), .val (.ref b38)] []))
      refine Gl.st (fun _ kq => XS.aload X38.here hx rfl (hb hby d1_62) rfl rfl kq) ?_
      show Gl p.tables e below _ (T38.setTop (mkF m 64 #[.val (.int n), .val (.int ch), .val (.int ((ch &&& (255 : Int32)).toUInt32.toUInt16.toUInt32.toInt32)), .val (.int ((((ch.toUInt32 >>> ((8 : Int32) &&& 31).toUInt32).toInt32) &&& (255 : Int32)).toUInt32.toUInt16.toUInt32.toInt32)), .val (.ref b38)] [(.ref b38)]))
      refine Gl.st (fun _ kq => XS.iconst X38.here hx rfl (hb hby d1_64) kq) ?_
      show Gl p.tables e below _ (T38.setTop (mkF m 65 #[.val (.int n), .val (.int ch), .val (.int ((ch &&& (255 : Int32)).toUInt32.toUInt16.toUInt32.toInt32)), .val (.int ((((ch.toUInt32 >>> ((8 : Int32) &&& 31).toUInt32).toInt32) &&& (255 : Int32)).toUInt32.toUInt16.toUInt32.toInt32)), .val (.ref b38)] [(.int 0), (.ref b38)]))
      refine Gl.st (fun _ kq => XS.iloadN X38.here hx rfl (hb hby d1_65) rfl kq) ?_
      show Gl p.tables e below _ (T38.setTop (mkF m 66 #[.val (.int n), .val (.int ch), .val (.int ((ch &&& (255 : Int32)).toUInt32.toUInt16.toUInt32.toInt32)), .val (.int ((((ch.toUInt32 >>> ((8 : Int32) &&& 31).toUInt32).toInt32) &&& (255 : Int32)).toUInt32.toUInt16.toUInt32.toInt32)), .val (.ref b38)] [(.int ((ch &&& (255 : Int32)).toUInt32.toUInt16.toUInt32.toInt32)), (.int 0), (.ref b38)]))
      obtain ⟨c42, a42, q42, S42, M42, H42, G42⟩ := id V38
      obtain ⟨T42, h42, X42, e42, W42, st42⟩ := stC X38 hx hZ e38 a42 (j := (0 : Int32)) (inb_of S42 ⟨by decide, by decide⟩) (g := (mkF m 66 #[.val (.int n), .val (.int ch), .val (.int ((ch &&& (255 : Int32)).toUInt32.toUInt16.toUInt32.toInt32)), .val (.int ((((ch.toUInt32 >>> ((8 : Int32) &&& 31).toUInt32).toInt32) &&& (255 : Int32)).toUInt32.toUInt16.toUInt32.toInt32)), .val (.ref b38)] [(.int ((ch &&& (255 : Int32)).toUInt32.toUInt16.toUInt32.toInt32)), (.int 0), (.ref b38)])) rfl rfl (hb hby d1_66)
      refine Gl.st st42 ?_
      have C43 : CHr Z consts_1 s.vm h0 s.vm h42 := C41.trans (CHr.wr W42 (Safe.arv hZ.alike V38 (by decide)) C41.1)
      have V42 : Arv Z h42 b38 k38 .char (2 : Int32) [(.int (nar .char ((ch &&& (255 : Int32)).toUInt32.toUInt16.toUInt32.toInt32))), (.int 0)] (.int 0) := Arv.set a42 q42 S42 M42 H42 G42 (fits_nar_char _) W42 0 rfl (Nat.le_of_ble_eq_true rfl)
      have N42 := Fr.snoc X42 N0 g39
      show Gl p.tables e below _ (T42.setTop (mkF m 67 #[.val (.int n), .val (.int ch), .val (.int ((ch &&& (255 : Int32)).toUInt32.toUInt16.toUInt32.toInt32)), .val (.int ((((ch.toUInt32 >>> ((8 : Int32) &&& 31).toUInt32).toInt32) &&& (255 : Int32)).toUInt32.toUInt16.toUInt32.toInt32)), .val (.ref b38)] []))
      refine Gl.st (fun _ kq => XS.aload X42.here hx rfl (hb hby d1_67) rfl rfl kq) ?_
      show Gl p.tables e below _ (T42.setTop (mkF m 69 #[.val (.int n), .val (.int ch), .val (.int ((ch &&& (255 : Int32)).toUInt32.toUInt16.toUInt32.toInt32)), .val (.int ((((ch.toUInt32 >>> ((8 : Int32) &&& 31).toUInt32).toInt32) &&& (255 : Int32)).toUInt32.toUInt16.toUInt32.toInt32)), .val (.ref b38)] [(.ref b38)]))
      refine Gl.st (fun _ kq => XS.iconst X42.here hx rfl (hb hby d1_69) kq) ?_
      show Gl p.tables e below _ (T42.setTop (mkF m 70 #[.val (.int n), .val (.int ch), .val (.int ((ch &&& (255 : Int32)).toUInt32.toUInt16.toUInt32.toInt32)), .val (.int ((((ch.toUInt32 >>> ((8 : Int32) &&& 31).toUInt32).toInt32) &&& (255 : Int32)).toUInt32.toUInt16.toUInt32.toInt32)), .val (.ref b38)] [(.int 1), (.ref b38)]))
      refine Gl.st (fun _ kq => XS.iloadN X42.here hx rfl (hb hby d1_70) rfl kq) ?_
      show Gl p.tables e below _ (T42.setTop (mkF m 71 #[.val (.int n), .val (.int ch), .val (.int ((ch &&& (255 : Int32)).toUInt32.toUInt16.toUInt32.toInt32)), .val (.int ((((ch.toUInt32 >>> ((8 : Int32) &&& 31).toUInt32).toInt32) &&& (255 : Int32)).toUInt32.toUInt16.toUInt32.toInt32)), .val (.ref b38)] [(.int ((((ch.toUInt32 >>> ((8 : Int32) &&& 31).toUInt32).toInt32) &&& (255 : Int32)).toUInt32.toUInt16.toUInt32.toInt32)), (.int 1), (.ref b38)]))
      obtain ⟨c44, a44, q44, S44, M44, H44, G44⟩ := id V42
      obtain ⟨T44, h44, X44, e44, W44, st44⟩ := stC X42 hx hZ e42 a44 (j := (1 : Int32)) (inb_of S44 ⟨by decide, by decide⟩) (g := (mkF m 71 #[.val (.int n), .val (.int ch), .val (.int ((ch &&& (255 : Int32)).toUInt32.toUInt16.toUInt32.toInt32)), .val (.int ((((ch.toUInt32 >>> ((8 : Int32) &&& 31).toUInt32).toInt32) &&& (255 : Int32)).toUInt32.toUInt16.toUInt32.toInt32)), .val (.ref b38)] [(.int ((((ch.toUInt32 >>> ((8 : Int32) &&& 31).toUInt32).toInt32) &&& (255 : Int32)).toUInt32.toUInt16.toUInt32.toInt32)), (.int 1), (.ref b38)])) rfl rfl (hb hby d1_71)
      refine Gl.st st44 ?_
      have C45 : CHr Z consts_1 s.vm h0 s.vm h44 := C43.trans (CHr.wr W44 (Safe.arv hZ.alike V42 (by decide)) C43.1)
      have V44 : Arv Z h44 b38 k38 .char (2 : Int32) [(.int (nar .char ((ch &&& (255 : Int32)).toUInt32.toUInt16.toUInt32.toInt32))), (.int (nar .char ((((ch.toUInt32 >>> ((8 : Int32) &&& 31).toUInt32).toInt32) &&& (255 : Int32)).toUInt32.toUInt16.toUInt32.toInt32)))] (.int 0) := Arv.set a44 q44 S44 M44 H44 G44 (fits_nar_char _) W44 1 rfl (Nat.le_of_ble_eq_true rfl)
      have N44 := Fr.snoc X44 N42 g39
      show Gl p.tables e below _ (T44.setTop (mkF m 72 #[.val (.int n), .val (.int ch), .val (.int ((ch &&& (255 : Int32)).toUInt32.toUInt16.toUInt32.toInt32)), .val (.int ((((ch.toUInt32 >>> ((8 : Int32) &&& 31).toUInt32).toInt32) &&& (255 : Int32)).toUInt32.toUInt16.toUInt32.toInt32)), .val (.ref b38)] []))
      obtain ⟨T46, h46, X46, e46, E46, A46, D46, U46, st46⟩ := newO X44 hx hZ hown (tw hw 5 rfl) (tw hw 6 rfl) (tw hw 7 rfl) e44 (g := (mkF m 72 #[.val (.int n), .val (.int ch), .val (.int ((ch &&& (255 : Int32)).toUInt32.toUInt16.toUInt32.toInt32)), .val (.int ((((ch.toUInt32 >>> ((8 : Int32) &&& 31).toUInt32).toInt32) &&& (255 : Int32)).toUInt32.toUInt16.toUInt32.toInt32)), .val (.ref b38)] [])) rfl (hb hby d1_72) (by decide) (by decide)
      obtain ⟨b46, g46⟩ : ∃ z, z = h44.size := ⟨_, rfl⟩
      rw [← g46] at A46 D46 U46 st46
      refine Gl.st st46 ?_
      have g47 : n0 ≤ b46 := Nat.le_trans (Nat.le_trans (Nat.le_trans (Nat.le_trans Z0 E38.1) (Keep.of_wr W42).1) (Keep.of_wr W44).1) (Nat.le_of_eq g46.symm)
      have s48 : h0.size ≤ b46 := Nat.le_trans (Nat.le_trans (Nat.le_trans (Nat.le_trans (Nat.le_refl _) E38.1) (Keep.of_wr W42).1) (Keep.of_wr W44).1) (Nat.le_of_eq g46.symm)
      have C49 : CHr Z consts_1 s.vm h0 s.vm h46 := C45.trans (CHr.ext E46 C45.1)
      have F46_21 : Fld Z h46 b46 "java/lang/String" "value" "[B" .null := D46 (Or.inr (tw hw 21 rfl)) (ty := (.array .byte)) (by decide)
      have F46_22 : Fld Z h46 b46 "java/lang/String" "coder" "B" (.int 0) := D46 (Or.inr (tw hw 22 rfl)) (ty := .byte) (by decide)
      show Gl p.tables e below _ (T46.setTop (mkF m 75 #[.val (.int n), .val (.int ch), .val (.int ((ch &&& (255 : Int32)).toUInt32.toUInt16.toUInt32.toInt32)), .val (.int ((((ch.toUInt32 >>> ((8 : Int32) &&& 31).toUInt32).toInt32) &&& (255 : Int32)).toUInt32.toUInt16.toUInt32.toInt32)), .val (.ref b38)] [(.ref b46)]))
      refine Gl.st (fun _ kq => XS.dup X46.here hx rfl (hb hby d1_75) rfl rfl kq) ?_
      show Gl p.tables e below _ (T46.setTop (mkF m 76 #[.val (.int n), .val (.int ch), .val (.int ((ch &&& (255 : Int32)).toUInt32.toUInt16.toUInt32.toInt32)), .val (.int ((((ch.toUInt32 >>> ((8 : Int32) &&& 31).toUInt32).toInt32) &&& (255 : Int32)).toUInt32.toUInt16.toUInt32.toInt32)), .val (.ref b38)] [(.ref b46), (.ref b46)]))
      refine Gl.st (fun _ kq => XS.aload X46.here hx rfl (hb hby d1_76) rfl rfl kq) ?_
      show Gl p.tables e below _ (T46.setTop (mkF m 78 #[.val (.int n), .val (.int ch), .val (.int ((ch &&& (255 : Int32)).toUInt32.toUInt16.toUInt32.toInt32)), .val (.int ((((ch.toUInt32 >>> ((8 : Int32) &&& 31).toUInt32).toInt32) &&& (255 : Int32)).toUInt32.toUInt16.toUInt32.toInt32)), .val (.ref b38)] [(.ref b38), (.ref b46), (.ref b46)]))
      have f50 : Arv Z h46 b38 k38 .char (2 : Int32) [(.int (nar .char ((ch &&& (255 : Int32)).toUInt32.toUInt16.toUInt32.toInt32))), (.int (nar .char ((((ch.toUInt32 >>> ((8 : Int32) &&& 31).toUInt32).toInt32) &&& (255 : Int32)).toUInt32.toUInt16.toUInt32.toInt32)))] (.int 0) := (V44.ext E46)
      have f51 : Old Z n0 h46 := ((((pf0.ext E38).wr W42 g39).wr W44 g39).ext E46)
      have hp52 : ∀ c ∈ ([(nar .char ((ch &&& (255 : Int32)).toUInt32.toUInt16.toUInt32.toInt32)), (nar .char ((((ch.toUInt32 >>> ((8 : Int32) &&& 31).toUInt32).toInt32) &&& (255 : Int32)).toUInt32.toUInt16.toUInt32.toInt32))] : List Int32), ¬ c < 0 ∧ ¬ (255 : Int32) < c := (alcS (and255_chars _) (alcS (and255_chars _) alc0))
      have Sf54 : Safe Z consts_1 s.vm h46 b46 := (Safe.ext E46 C45.1 (Safe.new (EL := consts_1) (vm := s.vm) (Nat.le_of_eq g46.symm)))
      obtain ⟨_, _, ⟨T53, L53, k53, n53⟩, -, X53, ⟨Lc53, hQ53, l53, y53, z53⟩, st53⟩ := X46.specialBack hx (y := (⟨"java/lang/String", "<init>", "([C)V"⟩ : MethodName)) rfl hown (mvT hZ (tw hw 9 rfl)) (mvT hZ (tw hw 10 rfl)) (mvT hZ (tw hw 11 rfl)) (by decide) (StrChars.Road.backV (W := 1) hZ (wdNew hw) (kI := 4) (tw hw 6 rfl) (cs := ([(nar .char ((ch &&& (255 : Int32)).toUInt32.toUInt16.toUInt32.toInt32)), (nar .char ((((ch.toUInt32 >>> ((8 : Int32) &&& 31).toUInt32).toInt32) &&& (255 : Int32)).toUInt32.toUInt16.toUInt32.toInt32))] : List Int32)) (bs := (([(nar .char ((ch &&& (255 : Int32)).toUInt32.toUInt16.toUInt32.toInt32)), (nar .char ((((ch.toUInt32 >>> ((8 : Int32) &&& 31).toUInt32).toInt32) &&& (255 : Int32)).toUInt32.toUInt16.toUInt32.toInt32))] : List Int32).map (fun c => c.toInt8.toInt32))) (n := 2) g47 (Nat.le_trans (Nat.le_trans (Nat.le_trans (Nat.le_trans Z0 E38.1) (Keep.of_wr W42).1) (Keep.of_wr W44).1) E46.1) A46 F46_21 F46_22 f50 (O2.ext f51.2) P5 rfl rfl (by decide) (by decide) hp52 rfl (by decide) (by decide)) (g := (mkF m 78 #[.val (.int n), .val (.int ch), .val (.int ((ch &&& (255 : Int32)).toUInt32.toUInt16.toUInt32.toInt32)), .val (.int ((((ch.toUInt32 >>> ((8 : Int32) &&& 31).toUInt32).toInt32) &&& (255 : Int32)).toUInt32.toUInt16.toUInt32.toInt32)), .val (.ref b38)] [(.ref b38), (.ref b46), (.ref b46)])) rfl (by rw [hml]; rfl) (Steps.refl _) (a := b46) (argsL := [(.ref b38)]) (rest := [(.ref b46)]) (lenOf pd___C_V rfl) rfl (by show 2 * 0 + _ ≤ _; exact Nat.le_of_eq rfl) (hb hby d1_78) (fun _ _ => ⟨rfl, e46, (by decide : 2 + 1 ≤ _), (by decide : 6 + 2 ≤ _)⟩)
      dsimp only [Pt.U, Pt.locs, Pt.cells, Pt.slots] at X53 l53 y53 z53 st53 hQ53
      subst l53 y53 z53
      obtain ⟨rfl, N53, K53, q53_0, q53_1, t52, k52, y53_0, y53_1, y53_2, q53_2, q53_3⟩ := hQ53
      have C55 : CHr Z consts_1 s.vm h0 s.vm T53.heap := C49.trans (CHr.keep K53 (sfS Sf54 sf0) C49.1)
      have M53 := Fr.app N44 N53
      have g56 : n0 ≤ t52 := Nat.le_trans (Nat.le_trans (Nat.le_trans (Nat.le_trans (Nat.le_trans Z0 E38.1) (Keep.of_wr W42).1) (Keep.of_wr W44).1) E46.1) y53_1
      have s57 : h0.size ≤ t52 := Nat.le_trans (Nat.le_trans (Nat.le_trans (Nat.le_trans (Nat.le_trans (Nat.le_refl _) E38.1) (Keep.of_wr W42).1) (Keep.of_wr W44).1) E46.1) y53_1
      refine Gl.to st53 ?_
      show Gl p.tables e below _ (T53.setTop (mkF m 81 #[.val (.int n), .val (.int ch), .val (.int ((ch &&& (255 : Int32)).toUInt32.toUInt16.toUInt32.toInt32)), .val (.int ((((ch.toUInt32 >>> ((8 : Int32) &&& 31).toUInt32).toInt32) &&& (255 : Int32)).toUInt32.toUInt16.toUInt32.toInt32)), .val (.ref b38)] [(.ref b46)]))
      show Gl p.tables e below _ (T53.setTop (mkF m 81 #[.val (.int n), .val (.int ch), .val (.int ((ch &&& (255 : Int32)).toUInt32.toUInt16.toUInt32.toInt32)), .val (.int ((((ch.toUInt32 >>> ((8 : Int32) &&& 31).toUInt32).toInt32) &&& (255 : Int32)).toUInt32.toUInt16.toUInt32.toInt32)), .val (.ref b38)] [(.ref b46)]))
      have K58 : Keep h0 T53.heap [] := ((((((Keep.refl h0 []).ext E38).wr W42 (Or.inr s40)).wr W44 (Or.inr s40)).ext E46).trans K53 (allS (Or.inr s48) all0))
      exact Gl.retAH X53 hx hS0 (Nat.le_trans (Nat.le_trans (Nat.le_trans (Nat.le_trans (Nat.le_trans (Nat.le_of_eq (congrArg Array.size e0)) E38.1) (Keep.of_wr W42).1) (Keep.of_wr W44).1) E46.1) K53.1) (by rw [hh]; exact C55.trans (CHv.at X53 hZ (elW hw) C55.1)) Bd.returns rfl rfl (hb hby d1_81) hlk (by decide) (by decide) ⟨b46, t52, k52, ([(nar .char ((ch &&& (255 : Int32)).toUInt32.toUInt16.toUInt32.toInt32)), (nar .char ((((ch.toUInt32 >>> ((8 : Int32) &&& 31).toUInt32).toInt32) &&& (255 : Int32)).toUInt32.toUInt16.toUInt32.toInt32))] : List Int32), rfl, M53, K58, q53_0, q53_1, q53_2, q53_3, (mk2 ch hc1 hc18), s48⟩
theorem d10_0 : decode jdk_31_method_11_code 0 = .ok (.aload_n 0, 1) := by decide +kernel
theorem d10_1 : decode jdk_31_method_11_code 1 = .ok (.ifnonnull 12, 3) := by decide +kernel
theorem d10_13 : decode jdk_31_method_11_code 13 = .ok (.aload_n 0, 1) := by decide +kernel
theorem d10_14 : decode jdk_31_method_11_code 14 = .ok (.areturn, 1) := by decide +kernel
theorem ef_rn (m : MethodId) (a : Addr) (b : Addr) : entryFrame m #[(.ref a), (.ref b)] 2 = mkF m 0 #[.val (.ref a), .val (.ref b)] [] := by first | (simp [entryFrame, mkF, argsToLocals, Value.category]; done) | rfl
def Q_rn (Z : State) (a : Addr) (b : Addr) (h0 : Heap) (n0 : Nat) (v : Option Value) (h : Heap) (L : List Loc) : Prop := (v = some (.ref a) ∧ Fr n0 L ∧ h = h0)
set_option maxRecDepth 65536 in
set_option maxHeartbeats 40000000 in
theorem rm_rn (l : Launch) (Z : State) (a0 : Array Value) (hw : ∀ d ∈ tables_1, d.before a0 Z = true) (ws : List Jvm.Cond) (a : Addr) (b : Addr) (h0 : Heap) (n0 : Nat) (Z0 : n0 ≤ h0.size) :
    MetFree l (⟨"java/util/Objects", "requireNonNull", "(Ljava/lang/Object;Ljava/lang/String;)Ljava/lang/Object;"⟩ : MethodName) (head1 (Jvm.Cond.code (⟨"java/util/Objects", "requireNonNull", "(Ljava/lang/Object;Ljava/lang/String;)Ljava/lang/Object;"⟩ : MethodName) jdk_31_method_11_code 2 (some (.object "java/lang/Object")) :: ws) ({ frames := 0, cells := 0, slots := 0, locals := 0 } : Room)) (fun aa U => aa = #[(.ref a), (.ref b)] ∧ Z.Warmed39 U.vm ∧ U.heap = h0) (fun _ _ _ _ _ => True) (fun _ U o U' => ∃ v L, o = .returned v ∧ Q_rn Z a b h0 n0 v U'.heap L ∧ FrameEnd U o U' L ({ frames := 0, cells := 0, slots := 0, locals := 0 } : Room).cells ({ frames := 0, cells := 0, slots := 0, locals := 0 } : Room).slots) := by
  refine MetFree.of_bodySF (plainFor_of_name pn_java_util_Objects) hisR ?_
  intro p e s m args below meth c s₁ Bd hml0 hP hK
  obtain ⟨rfl, hZ, hh⟩ := hP
  have hx := Bd.exec
  have hby := Bd.bytes
  have hlk : meth.locks = false := BodyLoose.notSynchronized Bd
  have hml : c.maxLocals = 2 := hml0
  have hown : s.vm.findClass "java/util/Objects" = some m.cls := findClass_of_methodNamed Bd.named
  have hnm := (name_of_methodNamed Bd.named Bd.method).1
  have X0 : Stand p l e ({ frames := 0, cells := 0, slots := 0, locals := 0 } : Room) s m #[(.ref a), (.ref b)] below meth c s₁ [] 0 0 := Stand.of_body Bd
  have e0 : s₁.heap = h0 := by rw [← hh, Bd.state]; rfl
  have N0 := Fr.nil n0
  show Gl p.tables e below (EndN s (Q_rn Z a b h0 n0) ({ frames := 0, cells := 0, slots := 0, locals := 0 } : Room).cells ({ frames := 0, cells := 0, slots := 0, locals := 0 } : Room).slots) _
  refine Gl.cast (ef_rn m a b) ?_
  show Gl p.tables e below _ (s₁.setTop (mkF m 0 #[.val (.ref a), .val (.ref b)] []))
  refine Gl.st (fun _ kq => XS.aloadN X0.here hx rfl (hb hby d10_0) rfl rfl kq) ?_
  show Gl p.tables e below _ (s₁.setTop (mkF m 1 #[.val (.ref a), .val (.ref b)] [(.ref a)]))
  refine Gl.st (fun _ kq => XS.ifnonnullYes X0.here hx rfl (pc0 := 1) (pc' := 13) rfl (hb hby d10_1) rfl (by decide) (by decide) kq) ?_
  show Gl p.tables e below _ (s₁.setTop (mkF m 13 #[.val (.ref a), .val (.ref b)] []))
  refine Gl.st (fun _ kq => XS.aloadN X0.here hx rfl (hb hby d10_13) rfl rfl kq) ?_
  show Gl p.tables e below _ (s₁.setTop (mkF m 14 #[.val (.ref a), .val (.ref b)] [(.ref a)]))
  exact Gl.retA X0 hx Bd.returns rfl rfl (hb hby d10_14) hlk (by decide) (by decide) (by rw [e0]; exact ⟨rfl, N0, rfl⟩)
theorem d9_0 : decode prog_57_method_2_code 0 = .ok (.aload_n 0, 1) := by decide +kernel
theorem d9_1 : decode prog_57_method_2_code 1 = .ok (.invokespecial 7, 3) := by decide +kernel
theorem d9_4 : decode prog_57_method_2_code 4 = .ok (.aload_n 0, 1) := by decide +kernel
theorem d9_5 : decode prog_57_method_2_code 5 = .ok (.aload_n 1, 1) := by decide +kernel
theorem d9_6 : decode prog_57_method_2_code 6 = .ok (.ldc 12, 2) := by decide +kernel
theorem d9_8 : decode prog_57_method_2_code 8 = .ok (.invokestatic 14, 3) := by decide +kernel
theorem d9_11 : decode prog_57_method_2_code 11 = .ok (.checkcast 20, 3) := by decide +kernel
theorem d9_14 : decode prog_57_method_2_code 14 = .ok (.putfield 22, 3) := by decide +kernel
theorem d9_17 : decode prog_57_method_2_code 17 = .ok (.aload_n 0, 1) := by decide +kernel
theorem d9_18 : decode prog_57_method_2_code 18 = .ok (.iload_n 2, 1) := by decide +kernel
theorem d9_19 : decode prog_57_method_2_code 19 = .ok (.putfield 25, 3) := by decide +kernel
theorem d9_22 : decode prog_57_method_2_code 22 = .ok (.return_, 1) := by decide +kernel
theorem ef_in0 (m : MethodId) (a : Addr) (b : Addr) : entryFrame m #[(.ref a), (.ref b), (.int 0)] 3 = mkF m 0 #[.val (.ref a), .val (.ref b), .val (.int 0)] [] := by first | (simp [entryFrame, mkF, argsToLocals, Value.category]; done) | rfl
def Q_in0 (Z : State) (a : Addr) (b : Addr) (o1 : Value) (o2 : Int32) (h0 : Heap) (n0 : Nat) (v : Option Value) (h : Heap) (L : List Loc) : Prop := (v = none ∧ Fr n0 L ∧ Keep h0 h [a] ∧ Exa Z h a "com/example/rooted_tableau/rootedtableau/model/Role" ∧ Fld Z h a "com/example/rooted_tableau/rootedtableau/model/Role" "iri" "Ljava/lang/String;" (.ref b) ∧ Fld Z h a "com/example/rooted_tableau/rootedtableau/model/Role" "inverse" "Z" (.int 0))
set_option maxRecDepth 65536 in
set_option maxHeartbeats 40000000 in
theorem rm_in0 (l : Launch) (Z : State) (a0 : Array Value) (hw : ∀ d ∈ tables_1, d.before a0 Z = true) (ws : List Jvm.Cond) (a : Addr) (b : Addr) (o1 : Value) (o2 : Int32) (h0 : Heap) (n0 : Nat) (Z0 : n0 ≤ h0.size) (pf0 : Exa Z h0 a "com/example/rooted_tableau/rootedtableau/model/Role") (pf1 : Fld Z h0 a "com/example/rooted_tableau/rootedtableau/model/Role" "iri" "Ljava/lang/String;" o1) (pf2 : Fld Z h0 a "com/example/rooted_tableau/rootedtableau/model/Role" "inverse" "Z" (.int o2)) (pf3 : Exa Z h0 b "java/lang/String") (ga : n0 ≤ a) :
    MetFree l (⟨"com/example/rooted_tableau/rootedtableau/model/Role", "<init>", "(Ljava/lang/String;Z)V"⟩ : MethodName) (head1 (Jvm.Cond.code (⟨"com/example/rooted_tableau/rootedtableau/model/Role", "<init>", "(Ljava/lang/String;Z)V"⟩ : MethodName) prog_57_method_2_code 3 none :: ws) ({ frames := 1, cells := 2, slots := 16, locals := 14 } : Room)) (fun aa U => aa = #[(.ref a), (.ref b), (.int 0)] ∧ Z.Warmed39 U.vm ∧ U.heap = h0 ∧ CHv Z consts_1 U.vm h0) (fun _ _ _ _ _ => True) (fun _ U o U' => ∃ v L, o = .returned v ∧ Q_in0 Z a b o1 o2 h0 n0 v U'.heap L ∧ CHr Z consts_1 U.vm U.heap U'.vm U'.heap ∧ ReturnedEndW U o U' L ({ frames := 1, cells := 2, slots := 16, locals := 14 } : Room).cells ({ frames := 1, cells := 2, slots := 16, locals := 14 } : Room).slots) := by
  refine MetFree.of_bodySF (plainFor_of_name pn_com_example_rooted_tableau_rootedtableau_model_Role) hisR ?_
  intro p e s m args below meth c s₁ Bd hml0 hP hK
  obtain ⟨rfl, hZ, hh, hH⟩ := hP
  have hx := Bd.exec
  have hby := Bd.bytes
  have hlk : meth.locks = false := BodyLoose.notSynchronized Bd
  have hml : c.maxLocals = 3 := hml0
  have hown : s.vm.findClass "com/example/rooted_tableau/rootedtableau/model/Role" = some m.cls := findClass_of_methodNamed Bd.named
  have hnm := (name_of_methodNamed Bd.named Bd.method).1
  have X0 : Stand p l e ({ frames := 1, cells := 2, slots := 16, locals := 14 } : Room) (s.setVm s.vm) m #[(.ref a), (.ref b), (.int 0)] below meth c s₁ [] 0 0 := Stand.of_body Bd
  have e0 : s₁.heap = h0 := by rw [← hh, Bd.state]; rfl
  have N0 := Fr.nil n0
  show Gl p.tables e below (EndH s Z consts_1 (Q_in0 Z a b o1 o2 h0 n0) ({ frames := 1, cells := 2, slots := 16, locals := 14 } : Room).cells ({ frames := 1, cells := 2, slots := 16, locals := 14 } : Room).slots) _
  refine Gl.cast (ef_in0 m a b) ?_
  show Gl p.tables e below _ (s₁.setTop (mkF m 0 #[.val (.ref a), .val (.ref b), .val (.int 0)] []))
  have hS0 : s.Since s.vm s₁.heap.size := (State.WarmedH.refl s).since _
  have C0 : CHr Z consts_1 s.vm h0 s.vm h0 := CHr.refl hH
  refine Gl.st (fun _ kq => XS.aloadN X0.here hx rfl (hb hby d9_0) rfl rfl kq) ?_
  show Gl p.tables e below _ (s₁.setTop (mkF m 1 #[.val (.ref a), .val (.ref b), .val (.int 0)] [(.ref a)]))
  obtain ⟨T1, X1, e1, st1⟩ := initO X0 hx hZ hown (tw hw 47 rfl) (tw hw 17 rfl) (tw hw 18 rfl) e0 (g := (mkF m 1 #[.val (.ref a), .val (.ref b), .val (.int 0)] [(.ref a)])) rfl (by rw [hml]; rfl) rfl (hb hby d9_1) (by decide) (W := 0) (by show 2 * 0 + _ ≤ _; exact Nat.le_of_eq rfl) (by decide)
  refine Gl.st st1 ?_
  show Gl p.tables e below _ (T1.setTop (mkF m 4 #[.val (.ref a), .val (.ref b), .val (.int 0)] []))
  refine Gl.st (fun _ kq => XS.aloadN X1.here hx rfl (hb hby d9_4) rfl rfl kq) ?_
  show Gl p.tables e below _ (T1.setTop (mkF m 5 #[.val (.ref a), .val (.ref b), .val (.int 0)] [(.ref a)]))
  refine Gl.st (fun _ kq => XS.aloadN X1.here hx rfl (hb hby d9_5) rfl rfl kq) ?_
  show Gl p.tables e below _ (T1.setTop (mkF m 6 #[.val (.ref a), .val (.ref b), .val (.int 0)] [(.ref b), (.ref a)]))
  obtain ⟨b2, T2, h2, k2, t2, kc2, X2, e2, E2, S2, q2, hZ2, ho2, A2, F2, G2, V2, la2, lb2, R2, L2, sa2, st2⟩ := ldcCH X1 hx hZ hown (tw hw 48 rfl) (strW hw) e1 hS0 (Nat.le_of_eq (congrArg Array.size e0)) (elW hw) (by decide) C0.1 (vs := [(.int 105), (.int 114), (.int 105)]) (z := (3 : Int32)) (litc_48) (by decide) (by decide) (g := (mkF m 6 #[.val (.ref a), .val (.ref b), .val (.int 0)] [(.ref b), (.ref a)])) rfl (hb hby d9_6) (n := 12) (by decide) (by decide) (by decide) (by decide)
  refine Gl.st st2 ?_
  have C3 : CHr Z consts_1 s.vm h0 T2.vm h2 := C0.trans R2
  have V2 : Arv Z h2 t2 kc2 .byte (Int32.ofNat ([105, 114, 105] : List Int32).length) ((([105, 114, 105] : List Int32).map (fun c => c.toInt8.toInt32)).map Value.int) (.int 0) := V2
  show Gl p.tables e below _ (T2.setTop (mkF m 8 #[.val (.ref a), .val (.ref b), .val (.int 0)] [(.ref b2), (.ref b), (.ref a)]))
  obtain ⟨_, _, ⟨T4, L4, k4, n4⟩, -, X4, ⟨Lc4, hQ4, l4, y4, z4⟩, st4⟩ := Jvm.LawKit.callS X2 hx (y := (⟨"java/util/Objects", "requireNonNull", "(Ljava/lang/Object;Ljava/lang/String;)Ljava/lang/Object;"⟩ : MethodName)) ho2 (mvT hZ2 (tw hw 49 rfl)) (mvT hZ2 (tw hw 50 rfl)) (mvT hZ2 (tw hw 51 rfl)) (mvT hZ2 (tw hw 52 rfl)) (by decide) (backOf (W := 1) (rm_rn l Z a0 hw [] (b) (b2) h2 n0 (Nat.le_trans Z0 E2.1) ) hZ2 (tw hw 52 rfl) (tw hw 51 rfl) (by decide) (by decide)) (g := (mkF m 8 #[.val (.ref a), .val (.ref b), .val (.int 0)] [(.ref b2), (.ref b), (.ref a)])) rfl (by rw [hml]; rfl) (argsL := [(.ref b), (.ref b2)]) (rest := [(.ref a)]) (lenOf pd__Ljava_lang_Object_Ljava_lang_String__Ljava_lang_Object_ rfl) rfl (by show 2 * 0 + _ ≤ _; exact Nat.le_of_eq rfl) (hb hby d9_8) (fun _ _ => ⟨rfl, e2, (by decide : 2 + 0 ≤ _), (by decide : 16 + 0 ≤ _)⟩)
  dsimp only [Pt.U, Pt.locs, Pt.cells, Pt.slots] at X4 l4 y4 z4 st4 hQ4
  subst l4 y4 z4
  obtain ⟨rfl, N4, e4⟩ := hQ4
  have M4 := Fr.app N0 N4
  refine Gl.st st4 ?_
  show Gl p.tables e below _ (T4.setTop (mkF m 11 #[.val (.ref a), .val (.ref b), .val (.int 0)] [(.ref b), (.ref a)]))
  show Gl p.tables e below _ (T4.setTop (mkF m 11 #[.val (.ref a), .val (.ref b), .val (.int 0)] [(.ref b), (.ref a)]))
  have f5 : Exa Z h2 b "java/lang/String" := (pf3.ext E2)
  obtain ⟨T6, X6, e6, st6⟩ := castY X4 hx hZ2 ho2 (tw hw 53 rfl) e4 (Ins.self f5) (g := (mkF m 11 #[.val (.ref a), .val (.ref b), .val (.int 0)] [(.ref b), (.ref a)])) rfl rfl (hb hby d9_11)
  refine Gl.st st6 ?_
  show Gl p.tables e below _ (T6.setTop (mkF m 14 #[.val (.ref a), .val (.ref b), .val (.int 0)] [(.ref b), (.ref a)]))
  have f7 : Fld Z h2 a "com/example/rooted_tableau/rootedtableau/model/Role" "iri" "Ljava/lang/String;" o1 := (pf1.ext E2)
  have f8 : Exa Z h2 a "com/example/rooted_tableau/rootedtableau/model/Role" := (pf0.ext E2)
  obtain ⟨T9, h9, X9, e9, W9, st9⟩ := putF X6 hx hZ2 ho2 (host := "") (Or.inl (tw hw 54 rfl)) Via.refl e6 f7 f8 (Or.inr ⟨(tw hw 55 rfl), rfl, hnm⟩) (tw hw 39 rfl) (ty := (.object "java/lang/String")) (by decide) rfl rfl (g := (mkF m 14 #[.val (.ref a), .val (.ref b), .val (.int 0)] [(.ref b), (.ref a)])) rfl rfl (hb hby d9_14)
  refine Gl.st st9 ?_
  have C10 : CHr Z consts_1 s.vm h0 T2.vm h9 := C3.trans (CHr.wr W9 (Safe.exa hZ2.alike f8 (by decide) (by decide)) C3.1)
  have F9 : Fld Z h9 a "com/example/rooted_tableau/rootedtableau/model/Role" "iri" "Ljava/lang/String;" (.ref b) := Fld.same W9 f7
  have N9 := Fr.snoc X9 M4 ga
  show Gl p.tables e below _ (T9.setTop (mkF m 17 #[.val (.ref a), .val (.ref b), .val (.int 0)] []))
  refine Gl.st (fun _ kq => XS.aloadN X9.here hx rfl (hb hby d9_17) rfl rfl kq) ?_
  show Gl p.tables e below _ (T9.setTop (mkF m 18 #[.val (.ref a), .val (.ref b), .val (.int 0)] [(.ref a)]))
  refine Gl.st (fun _ kq => XS.iloadN X9.here hx rfl (hb hby d9_18) rfl kq) ?_
  show Gl p.tables e below _ (T9.setTop (mkF m 19 #[.val (.ref a), .val (.ref b), .val (.int 0)] [(.int 0), (.ref a)]))
  have f11 : Fld Z h9 a "com/example/rooted_tableau/rootedtableau/model/Role" "inverse" "Z" (.int o2) := ((pf2.ext E2).other W9 (Or.inr (slot_ne (Or.inr (tw hw 57 rfl)) (Or.inr (tw hw 55 rfl)) (by decide) (t := .boolean) (t' := (.object "java/lang/String")) (by decide) (by decide))))
  have f12 : Exa Z h9 a "com/example/rooted_tableau/rootedtableau/model/Role" := (f8.wr W9)
  obtain ⟨T13, h13, X13, e13, W13, st13⟩ := putFN X9 hx hZ2 ho2 (tw hw 56 rfl) Via.refl e9 f11 f12 (Or.inr ⟨(tw hw 57 rfl), rfl, hnm⟩) (tw hw 39 rfl) (ty := .boolean) (v' := (.int 0)) (by decide) rfl (by decide) (g := (mkF m 19 #[.val (.ref a), .val (.ref b), .val (.int 0)] [(.int 0), (.ref a)])) rfl rfl (hb hby d9_19)
  refine Gl.st st13 ?_
  have C14 : CHr Z consts_1 s.vm h0 T2.vm h13 := C10.trans (CHr.wr W13 (Safe.exa hZ2.alike f12 (by decide) (by decide)) C10.1)
  have F13 : Fld Z h13 a "com/example/rooted_tableau/rootedtableau/model/Role" "inverse" "Z" (.int 0) := Fld.same W13 f11
  have N13 := Fr.snoc X13 N9 ga
  show Gl p.tables e below _ (T13.setTop (mkF m 22 #[.val (.ref a), .val (.ref b), .val (.int 0)] []))
  have K15 : Keep h0 h13 [a] := ((((Keep.refl h0 [a]).ext E2).wr W9 (Or.inl (List.mem_of_getElem? (i := 0) rfl))).wr W13 (Or.inl (List.mem_of_getElem? (i := 0) rfl)))
  have f16 : Exa Z h13 a "com/example/rooted_tableau/rootedtableau/model/Role" := (f12.wr W13)
  have f17 : Fld Z h13 a "com/example/rooted_tableau/rootedtableau/model/Role" "iri" "Ljava/lang/String;" (.ref b) := (F9.other W13 (Or.inr (slot_ne (Or.inr (tw hw 55 rfl)) (Or.inr (tw hw 57 rfl)) (by decide) (t := (.object "java/lang/String")) (t' := .boolean) (by decide) (by decide))))
  exact Gl.ret0H X13 hx S2 (Nat.le_trans (Nat.le_trans (Nat.le_trans q2 (Keep.of_wr W9).1) (Keep.of_wr W13).1) (Nat.le_of_eq (congrArg Array.size e13).symm)) (by rw [hh, e13]; exact C14.trans (CHv.at X13 hZ2 (elW hw) C14.1)) Bd.returns (hb hby d9_22) hlk (by decide) (by decide) (by rw [e13]; exact ⟨rfl, N13, K15, f16, f17, F13⟩)
theorem ef_in1 (m : MethodId) (a : Addr) (b : Addr) : entryFrame m #[(.ref a), (.ref b), (.int 1)] 3 = mkF m 0 #[.val (.ref a), .val (.ref b), .val (.int 1)] [] := by first | (simp [entryFrame, mkF, argsToLocals, Value.category]; done) | rfl
def Q_in1 (Z : State) (a : Addr) (b : Addr) (o1 : Value) (o2 : Int32) (h0 : Heap) (n0 : Nat) (v : Option Value) (h : Heap) (L : List Loc) : Prop := (v = none ∧ Fr n0 L ∧ Keep h0 h [a] ∧ Exa Z h a "com/example/rooted_tableau/rootedtableau/model/Role" ∧ Fld Z h a "com/example/rooted_tableau/rootedtableau/model/Role" "iri" "Ljava/lang/String;" (.ref b) ∧ Fld Z h a "com/example/rooted_tableau/rootedtableau/model/Role" "inverse" "Z" (.int 1))
set_option maxRecDepth 65536 in
set_option maxHeartbeats 40000000 in
theorem rm_in1 (l : Launch) (Z : State) (a0 : Array Value) (hw : ∀ d ∈ tables_1, d.before a0 Z = true) (ws : List Jvm.Cond) (a : Addr) (b : Addr) (o1 : Value) (o2 : Int32) (h0 : Heap) (n0 : Nat) (Z0 : n0 ≤ h0.size) (pf0 : Exa Z h0 a "com/example/rooted_tableau/rootedtableau/model/Role") (pf1 : Fld Z h0 a "com/example/rooted_tableau/rootedtableau/model/Role" "iri" "Ljava/lang/String;" o1) (pf2 : Fld Z h0 a "com/example/rooted_tableau/rootedtableau/model/Role" "inverse" "Z" (.int o2)) (pf3 : Exa Z h0 b "java/lang/String") (ga : n0 ≤ a) :
    MetFree l (⟨"com/example/rooted_tableau/rootedtableau/model/Role", "<init>", "(Ljava/lang/String;Z)V"⟩ : MethodName) (head1 (Jvm.Cond.code (⟨"com/example/rooted_tableau/rootedtableau/model/Role", "<init>", "(Ljava/lang/String;Z)V"⟩ : MethodName) prog_57_method_2_code 3 none :: ws) ({ frames := 1, cells := 2, slots := 16, locals := 14 } : Room)) (fun aa U => aa = #[(.ref a), (.ref b), (.int 1)] ∧ Z.Warmed39 U.vm ∧ U.heap = h0 ∧ CHv Z consts_1 U.vm h0) (fun _ _ _ _ _ => True) (fun _ U o U' => ∃ v L, o = .returned v ∧ Q_in1 Z a b o1 o2 h0 n0 v U'.heap L ∧ CHr Z consts_1 U.vm U.heap U'.vm U'.heap ∧ ReturnedEndW U o U' L ({ frames := 1, cells := 2, slots := 16, locals := 14 } : Room).cells ({ frames := 1, cells := 2, slots := 16, locals := 14 } : Room).slots) := by
  refine MetFree.of_bodySF (plainFor_of_name pn_com_example_rooted_tableau_rootedtableau_model_Role) hisR ?_
  intro p e s m args below meth c s₁ Bd hml0 hP hK
  obtain ⟨rfl, hZ, hh, hH⟩ := hP
  have hx := Bd.exec
  have hby := Bd.bytes
  have hlk : meth.locks = false := BodyLoose.notSynchronized Bd
  have hml : c.maxLocals = 3 := hml0
  have hown : s.vm.findClass "com/example/rooted_tableau/rootedtableau/model/Role" = some m.cls := findClass_of_methodNamed Bd.named
  have hnm := (name_of_methodNamed Bd.named Bd.method).1
  have X0 : Stand p l e ({ frames := 1, cells := 2, slots := 16, locals := 14 } : Room) (s.setVm s.vm) m #[(.ref a), (.ref b), (.int 1)] below meth c s₁ [] 0 0 := Stand.of_body Bd
  have e0 : s₁.heap = h0 := by rw [← hh, Bd.state]; rfl
  have N0 := Fr.nil n0
  show Gl p.tables e below (EndH s Z consts_1 (Q_in1 Z a b o1 o2 h0 n0) ({ frames := 1, cells := 2, slots := 16, locals := 14 } : Room).cells ({ frames := 1, cells := 2, slots := 16, locals := 14 } : Room).slots) _
  refine Gl.cast (ef_in1 m a b) ?_
  show Gl p.tables e below _ (s₁.setTop (mkF m 0 #[.val (.ref a), .val (.ref b), .val (.int 1)] []))
  have hS0 : s.Since s.vm s₁.heap.size := (State.WarmedH.refl s).since _
  have C0 : CHr Z consts_1 s.vm h0 s.vm h0 := CHr.refl hH
  refine Gl.st (fun _ kq => XS.aloadN X0.here hx rfl (hb hby d9_0) rfl rfl kq) ?_
  show Gl p.tables e below _ (s₁.setTop (mkF m 1 #[.val (.ref a), .val (.ref b), .val (.int 1)] [(.ref a)]))
  obtain ⟨T1, X1, e1, st1⟩ := initO X0 hx hZ hown (tw hw 47 rfl) (tw hw 17 rfl) (tw hw 18 rfl) e0 (g := (mkF m 1 #[.val (.ref a), .val (.ref b), .val (.int 1)] [(.ref a)])) rfl (by rw [hml]; rfl) rfl (hb hby d9_1) (by decide) (W := 0) (by show 2 * 0 + _ ≤ _; exact Nat.le_of_eq rfl) (by decide)
  refine Gl.st st1 ?_
  show Gl p.tables e below _ (T1.setTop (mkF m 4 #[.val (.ref a), .val (.ref b), .val (.int 1)] []))
  refine Gl.st (fun _ kq => XS.aloadN X1.here hx rfl (hb hby d9_4) rfl rfl kq) ?_
  show Gl p.tables e below _ (T1.setTop (mkF m 5 #[.val (.ref a), .val (.ref b), .val (.int 1)] [(.ref a)]))
  refine Gl.st (fun _ kq => XS.aloadN X1.here hx rfl (hb hby d9_5) rfl rfl kq) ?_
  show Gl p.tables e below _ (T1.setTop (mkF m 6 #[.val (.ref a), .val (.ref b), .val (.int 1)] [(.ref b), (.ref a)]))
  obtain ⟨b2, T2, h2, k2, t2, kc2, X2, e2, E2, S2, q2, hZ2, ho2, A2, F2, G2, V2, la2, lb2, R2, L2, sa2, st2⟩ := ldcCH X1 hx hZ hown (tw hw 48 rfl) (strW hw) e1 hS0 (Nat.le_of_eq (congrArg Array.size e0)) (elW hw) (by decide) C0.1 (vs := [(.int 105), (.int 114), (.int 105)]) (z := (3 : Int32)) (litc_48) (by decide) (by decide) (g := (mkF m 6 #[.val (.ref a), .val (.ref b), .val (.int 1)] [(.ref b), (.ref a)])) rfl (hb hby d9_6) (n := 12) (by decide) (by decide) (by decide) (by decide)
  refine Gl.st st2 ?_
  have C3 : CHr Z consts_1 s.vm h0 T2.vm h2 := C0.trans R2
  have V2 : Arv Z h2 t2 kc2 .byte (Int32.ofNat ([105, 114, 105] : List Int32).length) ((([105, 114, 105] : List Int32).map (fun c => c.toInt8.toInt32)).map Value.int) (.int 0) := V2
  show Gl p.tables e below _ (T2.setTop (mkF m 8 #[.val (.ref a), .val (.ref b), .val (.int 1)] [(.ref b2), (.ref b), (.ref a)]))
  obtain ⟨_, _, ⟨T4, L4, k4, n4⟩, -, X4, ⟨Lc4, hQ4, l4, y4, z4⟩, st4⟩ := Jvm.LawKit.callS X2 hx (y := (⟨"java/util/Objects", "requireNonNull", "(Ljava/lang/Object;Ljava/lang/String;)Ljava/lang/Object;"⟩ : MethodName)) ho2 (mvT hZ2 (tw hw 49 rfl)) (mvT hZ2 (tw hw 50 rfl)) (mvT hZ2 (tw hw 51 rfl)) (mvT hZ2 (tw hw 52 rfl)) (by decide) (backOf (W := 1) (rm_rn l Z a0 hw [] (b) (b2) h2 n0 (Nat.le_trans Z0 E2.1) ) hZ2 (tw hw 52 rfl) (tw hw 51 rfl) (by decide) (by decide)) (g := (mkF m 8 #[.val (.ref a), .val (.ref b), .val (.int 1)] [(.ref b2), (.ref b), (.ref a)])) rfl (by rw [hml]; rfl) (argsL := [(.ref b), (.ref b2)]) (rest := [(.ref a)]) (lenOf pd__Ljava_lang_Object_Ljava_lang_String__Ljava_lang_Object_ rfl) rfl (by show 2 * 0 + _ ≤ _; exact Nat.le_of_eq rfl) (hb hby d9_8) (fun _ _ => ⟨rfl, e2, (by decide : 2 + 0 ≤ _), (by decide : 16 + 0 ≤ _)⟩)
  dsimp only [Pt.U, Pt.locs, Pt.cells, Pt.slots] at X4 l4 y4 z4 st4 hQ4
  subst l4 y4 z4
  obtain ⟨rfl, N4, e4⟩ := hQ4
  have M4 := Fr.app N0 N4
  refine Gl.st st4 ?_
  show Gl p.tables e below _ (T4.setTop (mkF m 11 #[.val (.ref a), .val (.ref b), .val (.int 1)] [(.ref b), (.ref a)]))
  show Gl p.tables e below _ (T4.setTop (mkF m 11 #[.val (.ref a), .val (.ref b), .val (.int 1)] [(.ref b), (.ref a)]))
  have f5 : Exa Z h2 b "java/lang/String" := (pf3.ext E2)
  obtain ⟨T6, X6, e6, st6⟩ := castY X4 hx hZ2 ho2 (tw hw 53 rfl) e4 (Ins.self f5) (g := (mkF m 11 #[.val (.ref a), .val (.ref b), .val (.int 1)] [(.ref b), (.ref a)])) rfl rfl (hb hby d9_11)
  refine Gl.st st6 ?_
  show Gl p.tables e below _ (T6.setTop (mkF m 14 #[.val (.ref a), .val (.ref b), .val (.int 1)] [(.ref b), (.ref a)]))
  have f7 : Fld Z h2 a "com/example/rooted_tableau/rootedtableau/model/Role" "iri" "Ljava/lang/String;" o1 := (pf1.ext E2)
  have f8 : Exa Z h2 a "com/example/rooted_tableau/rootedtableau/model/Role" := (pf0.ext E2)
  obtain ⟨T9, h9, X9, e9, W9, st9⟩ := putF X6 hx hZ2 ho2 (host := "") (Or.inl (tw hw 54 rfl)) Via.refl e6 f7 f8 (Or.inr ⟨(tw hw 55 rfl), rfl, hnm⟩) (tw hw 39 rfl) (ty := (.object "java/lang/String")) (by decide) rfl rfl (g := (mkF m 14 #[.val (.ref a), .val (.ref b), .val (.int 1)] [(.ref b), (.ref a)])) rfl rfl (hb hby d9_14)
  refine Gl.st st9 ?_
  have C10 : CHr Z consts_1 s.vm h0 T2.vm h9 := C3.trans (CHr.wr W9 (Safe.exa hZ2.alike f8 (by decide) (by decide)) C3.1)
  have F9 : Fld Z h9 a "com/example/rooted_tableau/rootedtableau/model/Role" "iri" "Ljava/lang/String;" (.ref b) := Fld.same W9 f7
  have N9 := Fr.snoc X9 M4 ga
  show Gl p.tables e below _ (T9.setTop (mkF m 17 #[.val (.ref a), .val (.ref b), .val (.int 1)] []))
  refine Gl.st (fun _ kq => XS.aloadN X9.here hx rfl (hb hby d9_17) rfl rfl kq) ?_
  show Gl p.tables e below _ (T9.setTop (mkF m 18 #[.val (.ref a), .val (.ref b), .val (.int 1)] [(.ref a)]))
  refine Gl.st (fun _ kq => XS.iloadN X9.here hx rfl (hb hby d9_18) rfl kq) ?_
  show Gl p.tables e below _ (T9.setTop (mkF m 19 #[.val (.ref a), .val (.ref b), .val (.int 1)] [(.int 1), (.ref a)]))
  have f11 : Fld Z h9 a "com/example/rooted_tableau/rootedtableau/model/Role" "inverse" "Z" (.int o2) := ((pf2.ext E2).other W9 (Or.inr (slot_ne (Or.inr (tw hw 57 rfl)) (Or.inr (tw hw 55 rfl)) (by decide) (t := .boolean) (t' := (.object "java/lang/String")) (by decide) (by decide))))
  have f12 : Exa Z h9 a "com/example/rooted_tableau/rootedtableau/model/Role" := (f8.wr W9)
  obtain ⟨T13, h13, X13, e13, W13, st13⟩ := putFN X9 hx hZ2 ho2 (tw hw 56 rfl) Via.refl e9 f11 f12 (Or.inr ⟨(tw hw 57 rfl), rfl, hnm⟩) (tw hw 39 rfl) (ty := .boolean) (v' := (.int 1)) (by decide) rfl (by decide) (g := (mkF m 19 #[.val (.ref a), .val (.ref b), .val (.int 1)] [(.int 1), (.ref a)])) rfl rfl (hb hby d9_19)
  refine Gl.st st13 ?_
  have C14 : CHr Z consts_1 s.vm h0 T2.vm h13 := C10.trans (CHr.wr W13 (Safe.exa hZ2.alike f12 (by decide) (by decide)) C10.1)
  have F13 : Fld Z h13 a "com/example/rooted_tableau/rootedtableau/model/Role" "inverse" "Z" (.int 1) := Fld.same W13 f11
  have N13 := Fr.snoc X13 N9 ga
  show Gl p.tables e below _ (T13.setTop (mkF m 22 #[.val (.ref a), .val (.ref b), .val (.int 1)] []))
  have K15 : Keep h0 h13 [a] := ((((Keep.refl h0 [a]).ext E2).wr W9 (Or.inl (List.mem_of_getElem? (i := 0) rfl))).wr W13 (Or.inl (List.mem_of_getElem? (i := 0) rfl)))
  have f16 : Exa Z h13 a "com/example/rooted_tableau/rootedtableau/model/Role" := (f12.wr W13)
  have f17 : Fld Z h13 a "com/example/rooted_tableau/rootedtableau/model/Role" "iri" "Ljava/lang/String;" (.ref b) := (F9.other W13 (Or.inr (slot_ne (Or.inr (tw hw 55 rfl)) (Or.inr (tw hw 57 rfl)) (by decide) (t := (.object "java/lang/String")) (t' := .boolean) (by decide) (by decide))))
  exact Gl.ret0H X13 hx S2 (Nat.le_trans (Nat.le_trans (Nat.le_trans q2 (Keep.of_wr W9).1) (Keep.of_wr W13).1) (Nat.le_of_eq (congrArg Array.size e13).symm)) (by rw [hh, e13]; exact C14.trans (CHv.at X13 hZ2 (elW hw) C14.1)) Bd.returns (hb hby d9_22) hlk (by decide) (by decide) (by rw [e13]; exact ⟨rfl, N13, K15, f16, f17, F13⟩)
theorem d8_0 : decode prog_57_method_1_code 0 = .ok (.aload_n 0, 1) := by decide +kernel
theorem d8_1 : decode prog_57_method_1_code 1 = .ok (.aload_n 1, 1) := by decide +kernel
theorem d8_2 : decode prog_57_method_1_code 2 = .ok (.iconst 0, 1) := by decide +kernel
theorem d8_3 : decode prog_57_method_1_code 3 = .ok (.invokespecial 1, 3) := by decide +kernel
theorem d8_6 : decode prog_57_method_1_code 6 = .ok (.return_, 1) := by decide +kernel
theorem ef_ra (m : MethodId) (a : Addr) (b : Addr) : entryFrame m #[(.ref a), (.ref b)] 2 = mkF m 0 #[.val (.ref a), .val (.ref b)] [] := by first | (simp [entryFrame, mkF, argsToLocals, Value.category]; done) | rfl
def Q_ra (Z : State) (a : Addr) (b : Addr) (o1 : Value) (o2 : Int32) (h0 : Heap) (n0 : Nat) (v : Option Value) (h : Heap) (L : List Loc) : Prop := (v = none ∧ Fr n0 L ∧ Keep h0 h [a] ∧ Exa Z h a "com/example/rooted_tableau/rootedtableau/model/Role" ∧ Fld Z h a "com/example/rooted_tableau/rootedtableau/model/Role" "iri" "Ljava/lang/String;" (.ref b) ∧ Fld Z h a "com/example/rooted_tableau/rootedtableau/model/Role" "inverse" "Z" (.int 0))
set_option maxRecDepth 65536 in
set_option maxHeartbeats 40000000 in
theorem rm_ra (l : Launch) (Z : State) (a0 : Array Value) (hw : ∀ d ∈ tables_1, d.before a0 Z = true) (ws : List Jvm.Cond) (a : Addr) (b : Addr) (o1 : Value) (o2 : Int32) (h0 : Heap) (n0 : Nat) (Z0 : n0 ≤ h0.size) (pf0 : Exa Z h0 a "com/example/rooted_tableau/rootedtableau/model/Role") (pf1 : Fld Z h0 a "com/example/rooted_tableau/rootedtableau/model/Role" "iri" "Ljava/lang/String;" o1) (pf2 : Fld Z h0 a "com/example/rooted_tableau/rootedtableau/model/Role" "inverse" "Z" (.int o2)) (pf3 : Exa Z h0 b "java/lang/String") (ga : n0 ≤ a) :
    MetFree l (⟨"com/example/rooted_tableau/rootedtableau/model/Role", "<init>", "(Ljava/lang/String;)V"⟩ : MethodName) (head1 (Jvm.Cond.code (⟨"com/example/rooted_tableau/rootedtableau/model/Role", "<init>", "(Ljava/lang/String;)V"⟩ : MethodName) prog_57_method_1_code 2 none :: ws) ({ frames := 2, cells := 2, slots := 16, locals := 28 } : Room)) (fun aa U => aa = #[(.ref a), (.ref b)] ∧ Z.Warmed39 U.vm ∧ U.heap = h0 ∧ CHv Z consts_1 U.vm h0) (fun _ _ _ _ _ => True) (fun _ U o U' => ∃ v L, o = .returned v ∧ Q_ra Z a b o1 o2 h0 n0 v U'.heap L ∧ CHr Z consts_1 U.vm U.heap U'.vm U'.heap ∧ ReturnedEndW U o U' L ({ frames := 2, cells := 2, slots := 16, locals := 28 } : Room).cells ({ frames := 2, cells := 2, slots := 16, locals := 28 } : Room).slots) := by
  refine MetFree.of_bodySF (plainFor_of_name pn_com_example_rooted_tableau_rootedtableau_model_Role) hisR ?_
  intro p e s m args below meth c s₁ Bd hml0 hP hK
  obtain ⟨rfl, hZ, hh, hH⟩ := hP
  have hx := Bd.exec
  have hby := Bd.bytes
  have hlk : meth.locks = false := BodyLoose.notSynchronized Bd
  have hml : c.maxLocals = 2 := hml0
  have hown : s.vm.findClass "com/example/rooted_tableau/rootedtableau/model/Role" = some m.cls := findClass_of_methodNamed Bd.named
  have hnm := (name_of_methodNamed Bd.named Bd.method).1
  have X0 : Stand p l e ({ frames := 2, cells := 2, slots := 16, locals := 28 } : Room) (s.setVm s.vm) m #[(.ref a), (.ref b)] below meth c s₁ [] 0 0 := Stand.of_body Bd
  have e0 : s₁.heap = h0 := by rw [← hh, Bd.state]; rfl
  have N0 := Fr.nil n0
  show Gl p.tables e below (EndH s Z consts_1 (Q_ra Z a b o1 o2 h0 n0) ({ frames := 2, cells := 2, slots := 16, locals := 28 } : Room).cells ({ frames := 2, cells := 2, slots := 16, locals := 28 } : Room).slots) _
  refine Gl.cast (ef_ra m a b) ?_
  show Gl p.tables e below _ (s₁.setTop (mkF m 0 #[.val (.ref a), .val (.ref b)] []))
  have hS0 : s.Since s.vm s₁.heap.size := (State.WarmedH.refl s).since _
  have C0 : CHr Z consts_1 s.vm h0 s.vm h0 := CHr.refl hH
  refine Gl.st (fun _ kq => XS.aloadN X0.here hx rfl (hb hby d8_0) rfl rfl kq) ?_
  show Gl p.tables e below _ (s₁.setTop (mkF m 1 #[.val (.ref a), .val (.ref b)] [(.ref a)]))
  refine Gl.st (fun _ kq => XS.aloadN X0.here hx rfl (hb hby d8_1) rfl rfl kq) ?_
  show Gl p.tables e below _ (s₁.setTop (mkF m 2 #[.val (.ref a), .val (.ref b)] [(.ref b), (.ref a)]))
  refine Gl.st (fun _ kq => XS.iconst X0.here hx rfl (hb hby d8_2) kq) ?_
  show Gl p.tables e below _ (s₁.setTop (mkF m 3 #[.val (.ref a), .val (.ref b)] [(.int 0), (.ref b), (.ref a)]))
  obtain ⟨_, _, ⟨T1, L1, k1, n1⟩, -, X1, S1, g1, ⟨Lc1, hQ1, l1, y1, z1, R1⟩, st1⟩ := X0.specialBackS hx (y := (⟨"com/example/rooted_tableau/rootedtableau/model/Role", "<init>", "(Ljava/lang/String;Z)V"⟩ : MethodName)) rfl hown (mvT hZ (tw hw 44 rfl)) (mvT hZ (tw hw 45 rfl)) (mvT hZ (tw hw 46 rfl)) (by decide) (backOfSH (W := 0) (rm_in0 l Z a0 hw [] (a) (b) (o1) (o2) h0 n0 Z0 pf0 pf1 pf2 pf3 ga) hZ (tw hw 46 rfl) (tw hw 40 rfl) (by decide) (by decide) (elW hw) C0.1) (g := (mkF m 3 #[.val (.ref a), .val (.ref b)] [(.int 0), (.ref b), (.ref a)])) rfl (by rw [hml]; rfl) (Steps.refl _) (a := a) (argsL := [(.ref b), (.int 0)]) (rest := []) (lenOf pd__Ljava_lang_String_Z_V rfl) rfl (by show 2 * 0 + _ ≤ _; exact Nat.le_of_eq rfl) (hb hby d8_3) (fun _ _ => ⟨rfl, e0, (by decide : 0 + 2 ≤ _), (by decide : 0 + 16 ≤ _)⟩)
  dsimp only [Pt.U, Pt.locs, Pt.cells, Pt.slots] at X1 l1 y1 z1 st1 hQ1 R1
  subst l1 y1 z1
  obtain ⟨X1, S1, hZ1, ho1⟩ := rebS hS0 (Nat.le_trans (Nat.le_of_eq (congrArg Array.size e0)) (Nat.le_of_eq (congrArg Array.size e0).symm)) X1 S1 g1 hZ hown
  obtain ⟨rfl, N1, K1, q1_0, q1_1, q1_2⟩ := hQ1
  have C2 : CHr Z consts_1 s.vm h0 T1.vm T1.heap := C0.trans R1
  have M1 := Fr.app N0 N1
  refine Gl.to st1 ?_
  show Gl p.tables e below _ (T1.setTop (mkF m 6 #[.val (.ref a), .val (.ref b)] []))
  show Gl p.tables e below _ (T1.setTop (mkF m 6 #[.val (.ref a), .val (.ref b)] []))
  have K3 : Keep h0 T1.heap [a] := ((Keep.refl h0 [a]).trans K1 (allS (Or.inl (List.mem_of_getElem? (i := 0) rfl)) all0))
  exact Gl.ret0H X1 hx S1 (Nat.le_refl _) (by rw [hh]; exact C2.trans (CHv.at X1 hZ1 (elW hw) C2.1)) Bd.returns (hb hby d8_6) hlk (by decide) (by decide) ⟨rfl, M1, K3, q1_0, q1_1, q1_2⟩
theorem d14_0 : decode prog_57_method_6_code 0 = .ok (.new 2, 3) := by decide +kernel
theorem d14_3 : decode prog_57_method_6_code 3 = .ok (.dup, 1) := by decide +kernel
theorem d14_4 : decode prog_57_method_6_code 4 = .ok (.aload_n 0, 1) := by decide +kernel
theorem d14_5 : decode prog_57_method_6_code 5 = .ok (.getfield 22, 3) := by decide +kernel
theorem d14_8 : decode prog_57_method_6_code 8 = .ok (.aload_n 0, 1) := by decide +kernel
theorem d14_9 : decode prog_57_method_6_code 9 = .ok (.getfield 25, 3) := by decide +kernel
theorem d14_12 : decode prog_57_method_6_code 12 = .ok (.ifCond .ne 7, 3) := by decide +kernel
theorem d14_15 : decode prog_57_method_6_code 15 = .ok (.iconst 1, 1) := by decide +kernel
theorem d14_16 : decode prog_57_method_6_code 16 = .ok (.goto 4, 3) := by decide +kernel
theorem d14_20 : decode prog_57_method_6_code 20 = .ok (.invokespecial 1, 3) := by decide +kernel
theorem d14_23 : decode prog_57_method_6_code 23 = .ok (.areturn, 1) := by decide +kernel
theorem ef_nv (m : MethodId) (a : Addr) : entryFrame m #[(.ref a)] 1 = mkF m 0 #[.val (.ref a)] [] := by first | (simp [entryFrame, mkF, argsToLocals, Value.category]; done) | rfl
def Q_nv (Z : State) (a : Addr) (b : Addr) (h0 : Heap) (n0 : Nat) (v : Option Value) (h : Heap) (L : List Loc) : Prop := (∃ r : Addr, v = some (.ref r) ∧ Fr n0 L ∧ Keep h0 h [] ∧ Exa Z h r "com/example/rooted_tableau/rootedtableau/model/Role" ∧ Fld Z h r "com/example/rooted_tableau/rootedtableau/model/Role" "iri" "Ljava/lang/String;" (.ref b) ∧ Fld Z h r "com/example/rooted_tableau/rootedtableau/model/Role" "inverse" "Z" (.int 1) ∧ (h0.size ≤ r))
set_option maxRecDepth 65536 in
set_option maxHeartbeats 40000000 in
theorem rm_nv (l : Launch) (Z : State) (a0 : Array Value) (hw : ∀ d ∈ tables_1, d.before a0 Z = true) (ws : List Jvm.Cond) (a : Addr) (b : Addr) (h0 : Heap) (n0 : Nat) (Z0 : n0 ≤ h0.size) (pf0 : Fld Z h0 a "com/example/rooted_tableau/rootedtableau/model/Role" "iri" "Ljava/lang/String;" (.ref b)) (pf1 : Fld Z h0 a "com/example/rooted_tableau/rootedtableau/model/Role" "inverse" "Z" (.int 0)) (pf2 : Exa Z h0 b "java/lang/String") :
    MetFree l (⟨"com/example/rooted_tableau/rootedtableau/model/Role", "inverse", "()Lcom/example/rooted_tableau/rootedtableau/model/Role;"⟩ : MethodName) (head1 (Jvm.Cond.code (⟨"com/example/rooted_tableau/rootedtableau/model/Role", "inverse", "()Lcom/example/rooted_tableau/rootedtableau/model/Role;"⟩ : MethodName) prog_57_method_6_code 1 (some (.object "com/example/rooted_tableau/rootedtableau/model/Role")) :: ws) ({ frames := 2, cells := 3, slots := 18, locals := 29 } : Room)) (fun aa U => aa = #[(.ref a)] ∧ Z.Warmed39 U.vm ∧ U.heap = h0 ∧ CHv Z consts_1 U.vm h0) (fun _ _ _ _ _ => True) (fun _ U o U' => ∃ v L, o = .returned v ∧ Q_nv Z a b h0 n0 v U'.heap L ∧ CHr Z consts_1 U.vm U.heap U'.vm U'.heap ∧ ReturnedEndW U o U' L ({ frames := 2, cells := 3, slots := 18, locals := 29 } : Room).cells ({ frames := 2, cells := 3, slots := 18, locals := 29 } : Room).slots) := by
  refine MetFree.of_bodySF (plainFor_of_name pn_com_example_rooted_tableau_rootedtableau_model_Role) hisR ?_
  intro p e s m args below meth c s₁ Bd hml0 hP hK
  obtain ⟨rfl, hZ, hh, hH⟩ := hP
  have hx := Bd.exec
  have hby := Bd.bytes
  have hlk : meth.locks = false := BodyLoose.notSynchronized Bd
  have hml : c.maxLocals = 1 := hml0
  have hown : s.vm.findClass "com/example/rooted_tableau/rootedtableau/model/Role" = some m.cls := findClass_of_methodNamed Bd.named
  have hnm := (name_of_methodNamed Bd.named Bd.method).1
  have X0 : Stand p l e ({ frames := 2, cells := 3, slots := 18, locals := 29 } : Room) (s.setVm s.vm) m #[(.ref a)] below meth c s₁ [] 0 0 := Stand.of_body Bd
  have e0 : s₁.heap = h0 := by rw [← hh, Bd.state]; rfl
  have N0 := Fr.nil n0
  show Gl p.tables e below (EndH s Z consts_1 (Q_nv Z a b h0 n0) ({ frames := 2, cells := 3, slots := 18, locals := 29 } : Room).cells ({ frames := 2, cells := 3, slots := 18, locals := 29 } : Room).slots) _
  refine Gl.cast (ef_nv m a) ?_
  show Gl p.tables e below _ (s₁.setTop (mkF m 0 #[.val (.ref a)] []))
  have hS0 : s.Since s.vm s₁.heap.size := (State.WarmedH.refl s).since _
  have C0 : CHr Z consts_1 s.vm h0 s.vm h0 := CHr.refl hH
  obtain ⟨T1, h1, X1, e1, E1, A1, D1, U1, st1⟩ := newO X0 hx hZ hown (tw hw 63 rfl) (tw hw 39 rfl) (tw hw 40 rfl) e0 (g := (mkF m 0 #[.val (.ref a)] [])) rfl (hb hby d14_0) (by decide) (by decide)
  obtain ⟨b1, g1⟩ : ∃ z, z = h0.size := ⟨_, rfl⟩
  rw [← g1] at A1 D1 U1 st1
  refine Gl.st st1 ?_
  have g2 : n0 ≤ b1 := Nat.le_trans Z0 (Nat.le_of_eq g1.symm)
  have s3 : h0.size ≤ b1 := Nat.le_trans (Nat.le_refl _) (Nat.le_of_eq g1.symm)
  have C4 : CHr Z consts_1 s.vm h0 s.vm h1 := C0.trans (CHr.ext E1 C0.1)
  have F1_55 : Fld Z h1 b1 "com/example/rooted_tableau/rootedtableau/model/Role" "iri" "Ljava/lang/String;" .null := D1 (Or.inr (tw hw 55 rfl)) (ty := (.object "java/lang/String")) (by decide)
  have F1_57 : Fld Z h1 b1 "com/example/rooted_tableau/rootedtableau/model/Role" "inverse" "Z" (.int 0) := D1 (Or.inr (tw hw 57 rfl)) (ty := .boolean) (by decide)
  show Gl p.tables e below _ (T1.setTop (mkF m 3 #[.val (.ref a)] [(.ref b1)]))
  refine Gl.st (fun _ kq => XS.dup X1.here hx rfl (hb hby d14_3) rfl rfl kq) ?_
  show Gl p.tables e below _ (T1.setTop (mkF m 4 #[.val (.ref a)] [(.ref b1), (.ref b1)]))
  refine Gl.st (fun _ kq => XS.aloadN X1.here hx rfl (hb hby d14_4) rfl rfl kq) ?_
  show Gl p.tables e below _ (T1.setTop (mkF m 5 #[.val (.ref a)] [(.ref a), (.ref b1), (.ref b1)]))
  have f5 : Fld Z h1 a "com/example/rooted_tableau/rootedtableau/model/Role" "iri" "Ljava/lang/String;" (.ref b) := (pf0.ext E1)
  obtain ⟨T6, X6, e6, st6⟩ := getF X1 hx hZ hown (host := "") (Or.inl (tw hw 54 rfl)) Via.refl e1 f5 (g := (mkF m 5 #[.val (.ref a)] [(.ref a), (.ref b1), (.ref b1)])) rfl rfl (hb hby d14_5)
  refine Gl.st st6 ?_
  show Gl p.tables e below _ (T6.setTop (mkF m 8 #[.val (.ref a)] [(.ref b), (.ref b1), (.ref b1)]))
  refine Gl.st (fun _ kq => XS.aloadN X6.here hx rfl (hb hby d14_8) rfl rfl kq) ?_
  show Gl p.tables e below _ (T6.setTop (mkF m 9 #[.val (.ref a)] [(.ref a), (.ref b), (.ref b1), (.ref b1)]))
  have f7 : Fld Z h1 a "com/example/rooted_tableau/rootedtableau/model/Role" "inverse" "Z" (.int 0) := (pf1.ext E1)
  obtain ⟨T8, X8, e8, st8⟩ := getF X6 hx hZ hown (host := "") (Or.inl (tw hw 56 rfl)) Via.refl e6 f7 (g := (mkF m 9 #[.val (.ref a)] [(.ref a), (.ref b), (.ref b1), (.ref b1)])) rfl rfl (hb hby d14_9)
  refine Gl.st st8 ?_
  show Gl p.tables e below _ (T8.setTop (mkF m 12 #[.val (.ref a)] [(.int 0), (.ref b), (.ref b1), (.ref b1)]))
  refine Gl.st (fun _ kq => XS.ifNo X8.here hx rfl (hb hby d14_12) rfl ((if0 _ _).trans (teq ((by decide) : (0 : Int32) = (0 : Int32))).2) kq) ?_
  show Gl p.tables e below _ (T8.setTop (mkF m 15 #[.val (.ref a)] [(.ref b), (.ref b1), (.ref b1)]))
  refine Gl.st (fun _ kq => XS.iconst X8.here hx rfl (hb hby d14_15) kq) ?_
  show Gl p.tables e below _ (T8.setTop (mkF m 16 #[.val (.ref a)] [(.int 1), (.ref b), (.ref b1), (.ref b1)]))
  refine Gl.st (fun _ kq => XS.goto X8.here hx rfl (pc0 := 16) (pc' := 20) rfl (hb hby d14_16) (by decide) (by decide) kq) ?_
  show Gl p.tables e below _ (T8.setTop (mkF m 20 #[.val (.ref a)] [(.int 1), (.ref b), (.ref b1), (.ref b1)]))
  have f9 : Exa Z h1 b "java/lang/String" := (pf2.ext E1)
  obtain ⟨_, _, ⟨T10, L10, k10, n10⟩, -, X10, S10, g10, ⟨Lc10, hQ10, l10, y10, z10, R10⟩, st10⟩ := X8.specialBackS hx (y := (⟨"com/example/rooted_tableau/rootedtableau/model/Role", "<init>", "(Ljava/lang/String;Z)V"⟩ : MethodName)) rfl hown (mvT hZ (tw hw 44 rfl)) (mvT hZ (tw hw 45 rfl)) (mvT hZ (tw hw 46 rfl)) (by decide) (backOfSH (W := 1) (rm_in1 l Z a0 hw [] (b1) (b) (.null) ((0 : Int32)) h1 n0 (Nat.le_trans Z0 E1.1) A1 F1_55 F1_57 f9 g2) hZ (tw hw 46 rfl) (tw hw 40 rfl) (by decide) (by decide) (elW hw) C4.1) (g := (mkF m 20 #[.val (.ref a)] [(.int 1), (.ref b), (.ref b1), (.ref b1)])) rfl (by rw [hml]; rfl) (Steps.refl _) (a := b1) (argsL := [(.ref b), (.int 1)]) (rest := [(.ref b1)]) (lenOf pd__Ljava_lang_String_Z_V rfl) rfl (by show 2 * 0 + _ ≤ _; exact Nat.le_of_eq rfl) (hb hby d14_20) (fun _ _ => ⟨rfl, e8, (by decide : 1 + 2 ≤ _), (by decide : 2 + 16 ≤ _)⟩)
  dsimp only [Pt.U, Pt.locs, Pt.cells, Pt.slots] at X10 l10 y10 z10 st10 hQ10 R10
  subst l10 y10 z10
  obtain ⟨X10, S10, hZ10, ho10⟩ := rebS hS0 (Nat.le_trans (Nat.le_trans (Nat.le_of_eq (congrArg Array.size e0)) E1.1) (Nat.le_of_eq (congrArg Array.size e8).symm)) X10 S10 g10 hZ hown
  obtain ⟨rfl, N10, K10, q10_0, q10_1, q10_2⟩ := hQ10
  have C11 : CHr Z consts_1 s.vm h0 T10.vm T10.heap := C4.trans R10
  have M10 := Fr.app N0 N10
  refine Gl.to st10 ?_
  show Gl p.tables e below _ (T10.setTop (mkF m 23 #[.val (.ref a)] [(.ref b1)]))
  show Gl p.tables e below _ (T10.setTop (mkF m 23 #[.val (.ref a)] [(.ref b1)]))
  have K12 : Keep h0 T10.heap [] := (((Keep.refl h0 []).ext E1).trans K10 (allS (Or.inr s3) all0))
  exact Gl.retAH X10 hx S10 (Nat.le_refl _) (by rw [hh]; exact C11.trans (CHv.at X10 hZ10 (elW hw) C11.1)) Bd.returns rfl rfl (hb hby d14_23) hlk (by decide) (by decide) ⟨b1, rfl, M10, K12, q10_0, q10_1, q10_2, s3⟩
theorem d11_0 : decode prog_57_method_7_code 0 = .ok (.aload_n 1, 1) := by decide +kernel
theorem d11_1 : decode prog_57_method_7_code 1 = .ok (.instanceof 2, 3) := by decide +kernel
theorem d11_4 : decode prog_57_method_7_code 4 = .ok (.ifCond .ne 5, 3) := by decide +kernel
theorem d11_7 : decode prog_57_method_7_code 7 = .ok (.iconst 0, 1) := by decide +kernel
theorem d11_8 : decode prog_57_method_7_code 8 = .ok (.ireturn, 1) := by decide +kernel
theorem ef_eqn (m : MethodId) (a : Addr) : entryFrame m #[(.ref a), .null] 3 = mkF m 0 #[.val (.ref a), .val .null, .unset] [] := by first | (simp [entryFrame, mkF, argsToLocals, Value.category]; done) | rfl
def Q_eqn (Z : State) (a : Addr) (h0 : Heap) (n0 : Nat) (v : Option Value) (h : Heap) (L : List Loc) : Prop := (v = some (.int 0) ∧ Fr n0 L ∧ h = h0)
set_option maxRecDepth 65536 in
set_option maxHeartbeats 40000000 in
theorem rm_eqn (l : Launch) (Z : State) (a0 : Array Value) (hw : ∀ d ∈ tables_1, d.before a0 Z = true) (ws : List Jvm.Cond) (a : Addr) (h0 : Heap) (n0 : Nat) (Z0 : n0 ≤ h0.size) :
    MetFree l (⟨"com/example/rooted_tableau/rootedtableau/model/Role", "equals", "(Ljava/lang/Object;)Z"⟩ : MethodName) (head1 (Jvm.Cond.code (⟨"com/example/rooted_tableau/rootedtableau/model/Role", "equals", "(Ljava/lang/Object;)Z"⟩ : MethodName) prog_57_method_7_code 3 (some .boolean) :: ws) ({ frames := 0, cells := 0, slots := 0, locals := 0 } : Room)) (fun aa U => aa = #[(.ref a), .null] ∧ Z.Warmed39 U.vm ∧ U.heap = h0) (fun _ _ _ _ _ => True) (fun _ U o U' => ∃ v L, o = .returned v ∧ Q_eqn Z a h0 n0 v U'.heap L ∧ FrameEnd U o U' L ({ frames := 0, cells := 0, slots := 0, locals := 0 } : Room).cells ({ frames := 0, cells := 0, slots := 0, locals := 0 } : Room).slots) := by
  refine MetFree.of_bodySF (plainFor_of_name pn_com_example_rooted_tableau_rootedtableau_model_Role) hisR ?_
  intro p e s m args below meth c s₁ Bd hml0 hP hK
  obtain ⟨rfl, hZ, hh⟩ := hP
  have hx := Bd.exec
  have hby := Bd.bytes
  have hlk : meth.locks = false := BodyLoose.notSynchronized Bd
  have hml : c.maxLocals = 3 := hml0
  have hown : s.vm.findClass "com/example/rooted_tableau/rootedtableau/model/Role" = some m.cls := findClass_of_methodNamed Bd.named
  have hnm := (name_of_methodNamed Bd.named Bd.method).1
  have X0 : Stand p l e ({ frames := 0, cells := 0, slots := 0, locals := 0 } : Room) s m #[(.ref a), .null] below meth c s₁ [] 0 0 := Stand.of_body Bd
  have e0 : s₁.heap = h0 := by rw [← hh, Bd.state]; rfl
  have N0 := Fr.nil n0
  show Gl p.tables e below (EndN s (Q_eqn Z a h0 n0) ({ frames := 0, cells := 0, slots := 0, locals := 0 } : Room).cells ({ frames := 0, cells := 0, slots := 0, locals := 0 } : Room).slots) _
  refine Gl.cast (ef_eqn m a) ?_
  show Gl p.tables e below _ (s₁.setTop (mkF m 0 #[.val (.ref a), .val .null, .unset] []))
  refine Gl.st (fun _ kq => XS.aloadN X0.here hx rfl (hb hby d11_0) rfl rfl kq) ?_
  show Gl p.tables e below _ (s₁.setTop (mkF m 1 #[.val (.ref a), .val .null, .unset] [.null]))
  refine Gl.st (fun _ kq => X0.instanceofNull hx (g := (mkF m 1 #[.val (.ref a), .val .null, .unset] [.null])) rfl rfl (hb hby d11_1) _ kq) ?_
  show Gl p.tables e below _ (s₁.setTop (mkF m 4 #[.val (.ref a), .val .null, .unset] [(.int 0)]))
  refine Gl.st (fun _ kq => XS.ifNo X0.here hx rfl (hb hby d11_4) rfl ((if0 _ _).trans (teq ((by decide) : (0 : Int32) = (0 : Int32))).2) kq) ?_
  show Gl p.tables e below _ (s₁.setTop (mkF m 7 #[.val (.ref a), .val .null, .unset] []))
  refine Gl.st (fun _ kq => XS.iconst X0.here hx rfl (hb hby d11_7) kq) ?_
  show Gl p.tables e below _ (s₁.setTop (mkF m 8 #[.val (.ref a), .val .null, .unset] [(.int 0)]))
  exact Gl.retN X0 hx (t := .boolean) Bd.returns (by simp) (hb hby d11_8) hlk (by decide) (by decide) (by rw [e0]; exact ⟨rfl, N0, rfl⟩)
theorem ef_eqs (m : MethodId) (a : Addr) (b : Addr) : entryFrame m #[(.ref a), (.ref b)] 3 = mkF m 0 #[.val (.ref a), .val (.ref b), .unset] [] := by first | (simp [entryFrame, mkF, argsToLocals, Value.category]; done) | rfl
def Q_eqs (Z : State) (a : Addr) (b : Addr) (h0 : Heap) (n0 : Nat) (v : Option Value) (h : Heap) (L : List Loc) : Prop := (v = some (.int 0) ∧ Fr n0 L ∧ h = h0)
set_option maxRecDepth 65536 in
set_option maxHeartbeats 40000000 in
theorem rm_eqs (l : Launch) (Z : State) (a0 : Array Value) (hw : ∀ d ∈ tables_1, d.before a0 Z = true) (ws : List Jvm.Cond) (a : Addr) (b : Addr) (h0 : Heap) (n0 : Nat) (Z0 : n0 ≤ h0.size) (pf0 : Exa Z h0 b "java/lang/String") :
    MetFree l (⟨"com/example/rooted_tableau/rootedtableau/model/Role", "equals", "(Ljava/lang/Object;)Z"⟩ : MethodName) (head1 (Jvm.Cond.code (⟨"com/example/rooted_tableau/rootedtableau/model/Role", "equals", "(Ljava/lang/Object;)Z"⟩ : MethodName) prog_57_method_7_code 3 (some .boolean) :: ws) ({ frames := 0, cells := 0, slots := 0, locals := 0 } : Room)) (fun aa U => aa = #[(.ref a), (.ref b)] ∧ Z.Warmed39 U.vm ∧ U.heap = h0) (fun _ _ _ _ _ => True) (fun _ U o U' => ∃ v L, o = .returned v ∧ Q_eqs Z a b h0 n0 v U'.heap L ∧ FrameEnd U o U' L ({ frames := 0, cells := 0, slots := 0, locals := 0 } : Room).cells ({ frames := 0, cells := 0, slots := 0, locals := 0 } : Room).slots) := by
  refine MetFree.of_bodySF (plainFor_of_name pn_com_example_rooted_tableau_rootedtableau_model_Role) hisR ?_
  intro p e s m args below meth c s₁ Bd hml0 hP hK
  obtain ⟨rfl, hZ, hh⟩ := hP
  have hx := Bd.exec
  have hby := Bd.bytes
  have hlk : meth.locks = false := BodyLoose.notSynchronized Bd
  have hml : c.maxLocals = 3 := hml0
  have hown : s.vm.findClass "com/example/rooted_tableau/rootedtableau/model/Role" = some m.cls := findClass_of_methodNamed Bd.named
  have hnm := (name_of_methodNamed Bd.named Bd.method).1
  have X0 : Stand p l e ({ frames := 0, cells := 0, slots := 0, locals := 0 } : Room) s m #[(.ref a), (.ref b)] below meth c s₁ [] 0 0 := Stand.of_body Bd
  have e0 : s₁.heap = h0 := by rw [← hh, Bd.state]; rfl
  have N0 := Fr.nil n0
  show Gl p.tables e below (EndN s (Q_eqs Z a b h0 n0) ({ frames := 0, cells := 0, slots := 0, locals := 0 } : Room).cells ({ frames := 0, cells := 0, slots := 0, locals := 0 } : Room).slots) _
  refine Gl.cast (ef_eqs m a b) ?_
  show Gl p.tables e below _ (s₁.setTop (mkF m 0 #[.val (.ref a), .val (.ref b), .unset] []))
  refine Gl.st (fun _ kq => XS.aloadN X0.here hx rfl (hb hby d11_0) rfl rfl kq) ?_
  show Gl p.tables e below _ (s₁.setTop (mkF m 1 #[.val (.ref a), .val (.ref b), .unset] [(.ref b)]))
  obtain ⟨T1, X1, e1, st1⟩ := instNo X0 hx hZ hown (tw hw 63 rfl) e0 pf0 (not_root (tw hw 81 rfl) (tw hw 82 rfl) (tw hw 39 rfl) (by decide) (by decide)) (g := (mkF m 1 #[.val (.ref a), .val (.ref b), .unset] [(.ref b)])) rfl rfl (hb hby d11_1)
  refine Gl.st st1 ?_
  show Gl p.tables e below _ (T1.setTop (mkF m 4 #[.val (.ref a), .val (.ref b), .unset] [(.int 0)]))
  refine Gl.st (fun _ kq => XS.ifNo X1.here hx rfl (hb hby d11_4) rfl ((if0 _ _).trans (teq ((by decide) : (0 : Int32) = (0 : Int32))).2) kq) ?_
  show Gl p.tables e below _ (T1.setTop (mkF m 7 #[.val (.ref a), .val (.ref b), .unset] []))
  refine Gl.st (fun _ kq => XS.iconst X1.here hx rfl (hb hby d11_7) kq) ?_
  show Gl p.tables e below _ (T1.setTop (mkF m 8 #[.val (.ref a), .val (.ref b), .unset] [(.int 0)]))
  exact Gl.retN X1 hx (t := .boolean) Bd.returns (by simp) (hb hby d11_8) hlk (by decide) (by decide) (by rw [e1]; exact ⟨rfl, N0, rfl⟩)
theorem d11_9 : decode prog_57_method_7_code 9 = .ok (.aload_n 1, 1) := by decide +kernel
theorem d11_10 : decode prog_57_method_7_code 10 = .ok (.checkcast 2, 3) := by decide +kernel
theorem d11_13 : decode prog_57_method_7_code 13 = .ok (.astore_n 2, 1) := by decide +kernel
theorem d11_14 : decode prog_57_method_7_code 14 = .ok (.aload_n 0, 1) := by decide +kernel
theorem d11_15 : decode prog_57_method_7_code 15 = .ok (.getfield 25, 3) := by decide +kernel
theorem d11_18 : decode prog_57_method_7_code 18 = .ok (.aload_n 2, 1) := by decide +kernel
theorem d11_19 : decode prog_57_method_7_code 19 = .ok (.getfield 25, 3) := by decide +kernel
theorem d11_22 : decode prog_57_method_7_code 22 = .ok (.if_icmp .ne 21, 3) := by decide +kernel
theorem d11_25 : decode prog_57_method_7_code 25 = .ok (.aload_n 0, 1) := by decide +kernel
theorem d11_26 : decode prog_57_method_7_code 26 = .ok (.getfield 22, 3) := by decide +kernel
theorem d11_29 : decode prog_57_method_7_code 29 = .ok (.aload_n 2, 1) := by decide +kernel
theorem d11_30 : decode prog_57_method_7_code 30 = .ok (.getfield 22, 3) := by decide +kernel
theorem d11_33 : decode prog_57_method_7_code 33 = .ok (.invokevirtual 32, 3) := by decide +kernel
theorem d11_36 : decode prog_57_method_7_code 36 = .ok (.ifCond .eq 7, 3) := by decide +kernel
theorem d11_39 : decode prog_57_method_7_code 39 = .ok (.iconst 1, 1) := by decide +kernel
theorem d11_40 : decode prog_57_method_7_code 40 = .ok (.goto 4, 3) := by decide +kernel
theorem d11_43 : decode prog_57_method_7_code 43 = .ok (.iconst 0, 1) := by decide +kernel
theorem d11_44 : decode prog_57_method_7_code 44 = .ok (.ireturn, 1) := by decide +kernel
theorem ef_eqr (m : MethodId) (a : Addr) (b : Addr) : entryFrame m #[(.ref a), (.ref b)] 3 = mkF m 0 #[.val (.ref a), .val (.ref b), .unset] [] := by first | (simp [entryFrame, mkF, argsToLocals, Value.category]; done) | rfl
def Q_eqr (Z : State) (a : Addr) (b : Addr) (w1 : Int32) (w2 : Int32) (b1 : Addr) (t1 : Addr) (k1 : ClassId) (cs : List Int32) (b2 : Addr) (t2 : Addr) (k2 : ClassId) (ds : List Int32) (Y1 : Int32) (h0 : Heap) (n0 : Nat) (v : Option Value) (h : Heap) (L : List Loc) : Prop := (v = some (.int 1) ∧ Fr n0 L ∧ h = h0 ∧ (w1 = w2) ∧ (cs = ds)) ∨ (v = some (.int 0) ∧ Fr n0 L ∧ h = h0 ∧ (¬ (w1 = w2))) ∨ (v = some (.int 0) ∧ Fr n0 L ∧ h = h0 ∧ (¬ (cs = ds)))
set_option maxRecDepth 65536 in
set_option maxHeartbeats 40000000 in
theorem rm_eqr (l : Launch) (Z : State) (a0 : Array Value) (hw : ∀ d ∈ tables_1, d.before a0 Z = true) (ws : List Jvm.Cond) (a : Addr) (b : Addr) (w1 : Int32) (w2 : Int32) (b1 : Addr) (t1 : Addr) (k1 : ClassId) (cs : List Int32) (b2 : Addr) (t2 : Addr) (k2 : ClassId) (ds : List Int32) (Y1 : Int32) (h0 : Heap) (n0 : Nat) (Z0 : n0 ≤ h0.size) (pf0 : Exa Z h0 b "com/example/rooted_tableau/rootedtableau/model/Role") (pf1 : Fld Z h0 a "com/example/rooted_tableau/rootedtableau/model/Role" "inverse" "Z" (.int w1)) (pf2 : Fld Z h0 b "com/example/rooted_tableau/rootedtableau/model/Role" "inverse" "Z" (.int w2)) (pf3 : Fld Z h0 a "com/example/rooted_tableau/rootedtableau/model/Role" "iri" "Ljava/lang/String;" (.ref b1)) (pf4 : Fld Z h0 b "com/example/rooted_tableau/rootedtableau/model/Role" "iri" "Ljava/lang/String;" (.ref b2)) (pf5 : Exa Z h0 b1 "java/lang/String") (pf6 : Fld Z h0 b1 "java/lang/String" "coder" "B" (.int 0)) (pf7 : Fld Z h0 b1 "java/lang/String" "value" "[B" (.ref t1)) (pf8 : Arv Z h0 t1 k1 .byte (Int32.ofNat cs.length) ((cs.map (fun c => c.toInt8.toInt32)).map Value.int) (.int 0)) (pf9 : Exa Z h0 b2 "java/lang/String") (pf10 : Fld Z h0 b2 "java/lang/String" "coder" "B" (.int 0)) (pf11 : Fld Z h0 b2 "java/lang/String" "value" "[B" (.ref t2)) (pf12 : Arv Z h0 t2 k2 .byte (Int32.ofNat ds.length) ((ds.map (fun c => c.toInt8.toInt32)).map Value.int) (.int 0)) (pf13 : Old Z n0 h0) (h1 : ∀ c ∈ cs, ¬ c < 0 ∧ ¬ (255 : Int32) < c) (h2 : cs.length ≤ 4000) (h3 : ∀ c ∈ ds, ¬ c < 0 ∧ ¬ (255 : Int32) < c) (h4 : ds.length ≤ 4000) (O2 : Sta Z Z.heap "java/lang/String" "COMPACT_STRINGS" "Z" (.int Y1)) (P5 : ¬ (Y1 = (0 : Int32))) :
    MetFree l (⟨"com/example/rooted_tableau/rootedtableau/model/Role", "equals", "(Ljava/lang/Object;)Z"⟩ : MethodName) (head1 (Jvm.Cond.code (⟨"com/example/rooted_tableau/rootedtableau/model/Role", "equals", "(Ljava/lang/Object;)Z"⟩ : MethodName) prog_57_method_7_code 3 (some .boolean) :: ws) ({ frames := 2, cells := 0, slots := 0, locals := 28 } : Room)) (fun aa U => aa = #[(.ref a), (.ref b)] ∧ Z.Warmed39 U.vm ∧ U.heap = h0) (fun _ _ _ _ _ => True) (fun _ U o U' => ∃ v L, o = .returned v ∧ Q_eqr Z a b w1 w2 b1 t1 k1 cs b2 t2 k2 ds Y1 h0 n0 v U'.heap L ∧ FrameEnd U o U' L ({ frames := 2, cells := 0, slots := 0, locals := 28 } : Room).cells ({ frames := 2, cells := 0, slots := 0, locals := 28 } : Room).slots) := by
  refine MetFree.of_bodySF (plainFor_of_name pn_com_example_rooted_tableau_rootedtableau_model_Role) hisR ?_
  intro p e s m args below meth c s₁ Bd hml0 hP hK
  obtain ⟨rfl, hZ, hh⟩ := hP
  have hx := Bd.exec
  have hby := Bd.bytes
  have hlk : meth.locks = false := BodyLoose.notSynchronized Bd
  have hml : c.maxLocals = 3 := hml0
  have hown : s.vm.findClass "com/example/rooted_tableau/rootedtableau/model/Role" = some m.cls := findClass_of_methodNamed Bd.named
  have hnm := (name_of_methodNamed Bd.named Bd.method).1
  have X0 : Stand p l e ({ frames := 2, cells := 0, slots := 0, locals := 28 } : Room) s m #[(.ref a), (.ref b)] below meth c s₁ [] 0 0 := Stand.of_body Bd
  have e0 : s₁.heap = h0 := by rw [← hh, Bd.state]; rfl
  have N0 := Fr.nil n0
  show Gl p.tables e below (EndN s (Q_eqr Z a b w1 w2 b1 t1 k1 cs b2 t2 k2 ds Y1 h0 n0) ({ frames := 2, cells := 0, slots := 0, locals := 28 } : Room).cells ({ frames := 2, cells := 0, slots := 0, locals := 28 } : Room).slots) _
  refine Gl.cast (ef_eqr m a b) ?_
  show Gl p.tables e below _ (s₁.setTop (mkF m 0 #[.val (.ref a), .val (.ref b), .unset] []))
  refine Gl.st (fun _ kq => XS.aloadN X0.here hx rfl (hb hby d11_0) rfl rfl kq) ?_
  show Gl p.tables e below _ (s₁.setTop (mkF m 1 #[.val (.ref a), .val (.ref b), .unset] [(.ref b)]))
  obtain ⟨T1, X1, e1, st1⟩ := instY X0 hx hZ hown (tw hw 63 rfl) e0 (Ins.self pf0) (g := (mkF m 1 #[.val (.ref a), .val (.ref b), .unset] [(.ref b)])) rfl rfl (hb hby d11_1)
  refine Gl.st st1 ?_
  show Gl p.tables e below _ (T1.setTop (mkF m 4 #[.val (.ref a), .val (.ref b), .unset] [(.int 1)]))
  refine Gl.st (fun _ kq => XS.ifYes X1.here hx rfl (pc0 := 4) (pc' := 9) rfl (hb hby d11_4) rfl ((if0 _ _).trans (feq ((by decide) : ¬ ((1 : Int32) = (0 : Int32)))).2) (by decide) (by decide) kq) ?_
  show Gl p.tables e below _ (T1.setTop (mkF m 9 #[.val (.ref a), .val (.ref b), .unset] []))
  refine Gl.st (fun _ kq => XS.aloadN X1.here hx rfl (hb hby d11_9) rfl rfl kq) ?_
  show Gl p.tables e below _ (T1.setTop (mkF m 10 #[.val (.ref a), .val (.ref b), .unset] [(.ref b)]))
  obtain ⟨T2, X2, e2, st2⟩ := castY X1 hx hZ hown (tw hw 63 rfl) e1 (Ins.self pf0) (g := (mkF m 10 #[.val (.ref a), .val (.ref b), .unset] [(.ref b)])) rfl rfl (hb hby d11_10)
  refine Gl.st st2 ?_
  show Gl p.tables e below _ (T2.setTop (mkF m 13 #[.val (.ref a), .val (.ref b), .unset] [(.ref b)]))
  refine Gl.st (fun _ kq => XS.astoreN X2.here hx rfl (hb hby d11_13) rfl rfl (l' := #[.val (.ref a), .val (.ref b), .val (.ref b)]) rfl kq) ?_
  show Gl p.tables e below _ (T2.setTop (mkF m 14 #[.val (.ref a), .val (.ref b), .val (.ref b)] []))
  refine Gl.st (fun _ kq => XS.aloadN X2.here hx rfl (hb hby d11_14) rfl rfl kq) ?_
  show Gl p.tables e below _ (T2.setTop (mkF m 15 #[.val (.ref a), .val (.ref b), .val (.ref b)] [(.ref a)]))
  obtain ⟨T3, X3, e3, st3⟩ := getF X2 hx hZ hown (host := "") (Or.inl (tw hw 56 rfl)) Via.refl e2 pf1 (g := (mkF m 15 #[.val (.ref a), .val (.ref b), .val (.ref b)] [(.ref a)])) rfl rfl (hb hby d11_15)
  refine Gl.st st3 ?_
  show Gl p.tables e below _ (T3.setTop (mkF m 18 #[.val (.ref a), .val (.ref b), .val (.ref b)] [(.int w1)]))
  refine Gl.st (fun _ kq => XS.aloadN X3.here hx rfl (hb hby d11_18) rfl rfl kq) ?_
  show Gl p.tables e below _ (T3.setTop (mkF m 19 #[.val (.ref a), .val (.ref b), .val (.ref b)] [(.ref b), (.int w1)]))
  obtain ⟨T4, X4, e4, st4⟩ := getF X3 hx hZ hown (host := "") (Or.inl (tw hw 56 rfl)) Via.refl e3 pf2 (g := (mkF m 19 #[.val (.ref a), .val (.ref b), .val (.ref b)] [(.ref b), (.int w1)])) rfl rfl (hb hby d11_19)
  refine Gl.st st4 ?_
  show Gl p.tables e below _ (T4.setTop (mkF m 22 #[.val (.ref a), .val (.ref b), .val (.ref b)] [(.int w2), (.int w1)]))
  by_cases hc5 : w1 = w2
  · refine Gl.st (fun _ kq => XS.icmpNo X4.here hx rfl (hb hby d11_22) rfl (teq (hc5 : w1 = w2)).2 kq) ?_
    show Gl p.tables e below _ (T4.setTop (mkF m 25 #[.val (.ref a), .val (.ref b), .val (.ref b)] []))
    refine Gl.st (fun _ kq => XS.aloadN X4.here hx rfl (hb hby d11_25) rfl rfl kq) ?_
    show Gl p.tables e below _ (T4.setTop (mkF m 26 #[.val (.ref a), .val (.ref b), .val (.ref b)] [(.ref a)]))
    obtain ⟨T6, X6, e6, st6⟩ := getF X4 hx hZ hown (host := "") (Or.inl (tw hw 54 rfl)) Via.refl e4 pf3 (g := (mkF m 26 #[.val (.ref a), .val (.ref b), .val (.ref b)] [(.ref a)])) rfl rfl (hb hby d11_26)
    refine Gl.st st6 ?_
    show Gl p.tables e below _ (T6.setTop (mkF m 29 #[.val (.ref a), .val (.ref b), .val (.ref b)] [(.ref b1)]))
    refine Gl.st (fun _ kq => XS.aloadN X6.here hx rfl (hb hby d11_29) rfl rfl kq) ?_
    show Gl p.tables e below _ (T6.setTop (mkF m 30 #[.val (.ref a), .val (.ref b), .val (.ref b)] [(.ref b), (.ref b1)]))
    obtain ⟨T7, X7, e7, st7⟩ := getF X6 hx hZ hown (host := "") (Or.inl (tw hw 54 rfl)) Via.refl e6 pf4 (g := (mkF m 30 #[.val (.ref a), .val (.ref b), .val (.ref b)] [(.ref b), (.ref b1)])) rfl rfl (hb hby d11_30)
    refine Gl.st st7 ?_
    show Gl p.tables e below _ (T7.setTop (mkF m 33 #[.val (.ref a), .val (.ref b), .val (.ref b)] [(.ref b2), (.ref b1)]))
    obtain ⟨cq8, kq8, q8a, q8b, q8c⟩ := isOf hZ e7 pf5
    obtain ⟨_, _, ⟨T8, L8, k8, n8⟩, -, X8, ⟨Lc8, hQ8, l8, y8, z8⟩, st8⟩ := X7.virtualBack hx (y := (⟨"java/lang/String", "equals", "(Ljava/lang/Object;)Z"⟩ : MethodName)) (z := (⟨"java/lang/String", "equals", "(Ljava/lang/Object;)Z"⟩ : MethodName)) hown (mvT hZ (tw hw 65 rfl)) (mvT hZ (tw hw 66 rfl)) (notFace_of_selects (args := #[]) (mvT hZ (tw hw 68 rfl))) (mvT hZ (tw hw 68 rfl)) (mvT hZ (tw hw 67 rfl)) (by decide) (StrChars.Road.eqW (W := 0) hZ (wdEq hw) (kI := 4) (tw hw 6 rfl) pf5 pf7 pf6 pf8 (StrChars.Road.codOf (cs := cs) rfl (fun x hx => (h1 x hx).2)) (up255 _ h1) h2 pf9 pf11 pf10 pf12 (StrChars.Road.codOf (cs := ds) rfl (fun x hx => (h3 x hx).2)) (up255 _ h3) h4 (O2.ext pf13.2) P5 (by decide) (by decide)) q8a q8c (g := (mkF m 33 #[.val (.ref a), .val (.ref b), .val (.ref b)] [(.ref b2), (.ref b1)])) rfl (by rw [hml]; rfl) (Steps.refl _) (argsL := [(.ref b2)]) (rest := []) (lenOf pd__Ljava_lang_Object__Z rfl) rfl (by show 2 * 0 + _ ≤ _; exact Nat.le_of_eq rfl) (hb hby d11_33) (fun _ _ => ⟨rfl, e7, (by decide : 0 + 0 ≤ _), (by decide : 0 + 0 ≤ _)⟩)
    dsimp only [Pt.U, Pt.locs, Pt.cells, Pt.slots] at X8 l8 y8 z8 st8 hQ8
    subst l8 y8 z8
    obtain ⟨⟨rfl, y8_0⟩ | ⟨rfl, y8_0⟩, rfl, e8⟩ := hQ8
    · have N8 : Fr n0 ([] : List Loc) := Fr.nil n0
      have M8 := Fr.app N0 N8
      refine Gl.to st8 ?_
      show Gl p.tables e below _ (T8.setTop (mkF m 36 #[.val (.ref a), .val (.ref b), .val (.ref b)] [(.int 1)]))
      refine Gl.st (fun _ kq => XS.ifNo X8.here hx rfl (hb hby d11_36) rfl ((if0 _ _).trans (feq ((by decide) : ¬ ((1 : Int32) = (0 : Int32)))).1) kq) ?_
      show Gl p.tables e below _ (T8.setTop (mkF m 39 #[.val (.ref a), .val (.ref b), .val (.ref b)] []))
      refine Gl.st (fun _ kq => XS.iconst X8.here hx rfl (hb hby d11_39) kq) ?_
      show Gl p.tables e below _ (T8.setTop (mkF m 40 #[.val (.ref a), .val (.ref b), .val (.ref b)] [(.int 1)]))
      refine Gl.st (fun _ kq => XS.goto X8.here hx rfl (pc0 := 40) (pc' := 44) rfl (hb hby d11_40) (by decide) (by decide) kq) ?_
      show Gl p.tables e below _ (T8.setTop (mkF m 44 #[.val (.ref a), .val (.ref b), .val (.ref b)] [(.int 1)]))
      exact Gl.retN X8 hx (t := .boolean) Bd.returns (by simp) (hb hby d11_44) hlk (by decide) (by decide) (by rw [e8]; exact (Or.inl ⟨rfl, M8, rfl, hc5, y8_0⟩))
    · have N8 : Fr n0 ([] : List Loc) := Fr.nil n0
      have M8 := Fr.app N0 N8
      refine Gl.to st8 ?_
      show Gl p.tables e below _ (T8.setTop (mkF m 36 #[.val (.ref a), .val (.ref b), .val (.ref b)] [(.int 0)]))
      refine Gl.st (fun _ kq => XS.ifYes X8.here hx rfl (pc0 := 36) (pc' := 43) rfl (hb hby d11_36) rfl ((if0 _ _).trans (teq ((by decide) : (0 : Int32) = (0 : Int32))).1) (by decide) (by decide) kq) ?_
      show Gl p.tables e below _ (T8.setTop (mkF m 43 #[.val (.ref a), .val (.ref b), .val (.ref b)] []))
      refine Gl.st (fun _ kq => XS.iconst X8.here hx rfl (hb hby d11_43) kq) ?_
      show Gl p.tables e below _ (T8.setTop (mkF m 44 #[.val (.ref a), .val (.ref b), .val (.ref b)] [(.int 0)]))
      exact Gl.retN X8 hx (t := .boolean) Bd.returns (by simp) (hb hby d11_44) hlk (by decide) (by decide) (by rw [e8]; exact (Or.inr (Or.inr (⟨rfl, M8, rfl, y8_0⟩))))
  · refine Gl.st (fun _ kq => XS.icmpYes X4.here hx rfl (pc0 := 22) (pc' := 43) rfl (hb hby d11_22) rfl (feq (hc5 : ¬ (w1 = w2))).2 (by decide) (by decide) kq) ?_
    show Gl p.tables e below _ (T4.setTop (mkF m 43 #[.val (.ref a), .val (.ref b), .val (.ref b)] []))
    refine Gl.st (fun _ kq => XS.iconst X4.here hx rfl (hb hby d11_43) kq) ?_
    show Gl p.tables e below _ (T4.setTop (mkF m 44 #[.val (.ref a), .val (.ref b), .val (.ref b)] [(.int 0)]))
    exact Gl.retN X4 hx (t := .boolean) Bd.returns (by simp) (hb hby d11_44) hlk (by decide) (by decide) (by rw [e4]; exact (Or.inr (Or.inl ⟨rfl, N0, rfl, hc5⟩)))
theorem ef_eqi (m : MethodId) (a : Addr) : entryFrame m #[(.ref a), (.ref a)] 3 = mkF m 0 #[.val (.ref a), .val (.ref a), .unset] [] := by first | (simp [entryFrame, mkF, argsToLocals, Value.category]; done) | rfl
def Q_eqi (Z : State) (a : Addr) (w1 : Int32) (b1 : Addr) (t1 : Addr) (k1 : ClassId) (cs : List Int32) (Y1 : Int32) (h0 : Heap) (n0 : Nat) (v : Option Value) (h : Heap) (L : List Loc) : Prop := (v = some (.int 1) ∧ Fr n0 L ∧ h = h0)
set_option maxRecDepth 65536 in
set_option maxHeartbeats 40000000 in
theorem rm_eqi (l : Launch) (Z : State) (a0 : Array Value) (hw : ∀ d ∈ tables_1, d.before a0 Z = true) (ws : List Jvm.Cond) (a : Addr) (w1 : Int32) (b1 : Addr) (t1 : Addr) (k1 : ClassId) (cs : List Int32) (Y1 : Int32) (h0 : Heap) (n0 : Nat) (Z0 : n0 ≤ h0.size) (pf0 : Exa Z h0 a "com/example/rooted_tableau/rootedtableau/model/Role") (pf1 : Fld Z h0 a "com/example/rooted_tableau/rootedtableau/model/Role" "inverse" "Z" (.int w1)) (pf2 : Fld Z h0 a "com/example/rooted_tableau/rootedtableau/model/Role" "iri" "Ljava/lang/String;" (.ref b1)) (pf3 : Exa Z h0 b1 "java/lang/String") (pf4 : Fld Z h0 b1 "java/lang/String" "coder" "B" (.int 0)) (pf5 : Fld Z h0 b1 "java/lang/String" "value" "[B" (.ref t1)) (pf6 : Arv Z h0 t1 k1 .byte (Int32.ofNat cs.length) ((cs.map (fun c => c.toInt8.toInt32)).map Value.int) (.int 0)) (pf7 : Old Z n0 h0) (h1 : ∀ c ∈ cs, ¬ c < 0 ∧ ¬ (255 : Int32) < c) (h2 : cs.length ≤ 4000) (O2 : Sta Z Z.heap "java/lang/String" "COMPACT_STRINGS" "Z" (.int Y1)) (P5 : ¬ (Y1 = (0 : Int32))) :
    MetFree l (⟨"com/example/rooted_tableau/rootedtableau/model/Role", "equals", "(Ljava/lang/Object;)Z"⟩ : MethodName) (head1 (Jvm.Cond.code (⟨"com/example/rooted_tableau/rootedtableau/model/Role", "equals", "(Ljava/lang/Object;)Z"⟩ : MethodName) prog_57_method_7_code 3 (some .boolean) :: ws) ({ frames := 2, cells := 0, slots := 0, locals := 28 } : Room)) (fun aa U => aa = #[(.ref a), (.ref a)] ∧ Z.Warmed39 U.vm ∧ U.heap = h0) (fun _ _ _ _ _ => True) (fun _ U o U' => ∃ v L, o = .returned v ∧ Q_eqi Z a w1 b1 t1 k1 cs Y1 h0 n0 v U'.heap L ∧ FrameEnd U o U' L ({ frames := 2, cells := 0, slots := 0, locals := 28 } : Room).cells ({ frames := 2, cells := 0, slots := 0, locals := 28 } : Room).slots) := by
  refine MetFree.of_bodySF (plainFor_of_name pn_com_example_rooted_tableau_rootedtableau_model_Role) hisR ?_
  intro p e s m args below meth c s₁ Bd hml0 hP hK
  obtain ⟨rfl, hZ, hh⟩ := hP
  have hx := Bd.exec
  have hby := Bd.bytes
  have hlk : meth.locks = false := BodyLoose.notSynchronized Bd
  have hml : c.maxLocals = 3 := hml0
  have hown : s.vm.findClass "com/example/rooted_tableau/rootedtableau/model/Role" = some m.cls := findClass_of_methodNamed Bd.named
  have hnm := (name_of_methodNamed Bd.named Bd.method).1
  have X0 : Stand p l e ({ frames := 2, cells := 0, slots := 0, locals := 28 } : Room) s m #[(.ref a), (.ref a)] below meth c s₁ [] 0 0 := Stand.of_body Bd
  have e0 : s₁.heap = h0 := by rw [← hh, Bd.state]; rfl
  have N0 := Fr.nil n0
  show Gl p.tables e below (EndN s (Q_eqi Z a w1 b1 t1 k1 cs Y1 h0 n0) ({ frames := 2, cells := 0, slots := 0, locals := 28 } : Room).cells ({ frames := 2, cells := 0, slots := 0, locals := 28 } : Room).slots) _
  refine Gl.cast (ef_eqi m a) ?_
  show Gl p.tables e below _ (s₁.setTop (mkF m 0 #[.val (.ref a), .val (.ref a), .unset] []))
  refine Gl.st (fun _ kq => XS.aloadN X0.here hx rfl (hb hby d11_0) rfl rfl kq) ?_
  show Gl p.tables e below _ (s₁.setTop (mkF m 1 #[.val (.ref a), .val (.ref a), .unset] [(.ref a)]))
  obtain ⟨T1, X1, e1, st1⟩ := instY X0 hx hZ hown (tw hw 63 rfl) e0 (Ins.self pf0) (g := (mkF m 1 #[.val (.ref a), .val (.ref a), .unset] [(.ref a)])) rfl rfl (hb hby d11_1)
  refine Gl.st st1 ?_
  show Gl p.tables e below _ (T1.setTop (mkF m 4 #[.val (.ref a), .val (.ref a), .unset] [(.int 1)]))
  refine Gl.st (fun _ kq => XS.ifYes X1.here hx rfl (pc0 := 4) (pc' := 9) rfl (hb hby d11_4) rfl ((if0 _ _).trans (feq ((by decide) : ¬ ((1 : Int32) = (0 : Int32)))).2) (by decide) (by decide) kq) ?_
  show Gl p.tables e below _ (T1.setTop (mkF m 9 #[.val (.ref a), .val (.ref a), .unset] []))
  refine Gl.st (fun _ kq => XS.aloadN X1.here hx rfl (hb hby d11_9) rfl rfl kq) ?_
  show Gl p.tables e below _ (T1.setTop (mkF m 10 #[.val (.ref a), .val (.ref a), .unset] [(.ref a)]))
  obtain ⟨T2, X2, e2, st2⟩ := castY X1 hx hZ hown (tw hw 63 rfl) e1 (Ins.self pf0) (g := (mkF m 10 #[.val (.ref a), .val (.ref a), .unset] [(.ref a)])) rfl rfl (hb hby d11_10)
  refine Gl.st st2 ?_
  show Gl p.tables e below _ (T2.setTop (mkF m 13 #[.val (.ref a), .val (.ref a), .unset] [(.ref a)]))
  refine Gl.st (fun _ kq => XS.astoreN X2.here hx rfl (hb hby d11_13) rfl rfl (l' := #[.val (.ref a), .val (.ref a), .val (.ref a)]) rfl kq) ?_
  show Gl p.tables e below _ (T2.setTop (mkF m 14 #[.val (.ref a), .val (.ref a), .val (.ref a)] []))
  refine Gl.st (fun _ kq => XS.aloadN X2.here hx rfl (hb hby d11_14) rfl rfl kq) ?_
  show Gl p.tables e below _ (T2.setTop (mkF m 15 #[.val (.ref a), .val (.ref a), .val (.ref a)] [(.ref a)]))
  obtain ⟨T3, X3, e3, st3⟩ := getF X2 hx hZ hown (host := "") (Or.inl (tw hw 56 rfl)) Via.refl e2 pf1 (g := (mkF m 15 #[.val (.ref a), .val (.ref a), .val (.ref a)] [(.ref a)])) rfl rfl (hb hby d11_15)
  refine Gl.st st3 ?_
  show Gl p.tables e below _ (T3.setTop (mkF m 18 #[.val (.ref a), .val (.ref a), .val (.ref a)] [(.int w1)]))
  refine Gl.st (fun _ kq => XS.aloadN X3.here hx rfl (hb hby d11_18) rfl rfl kq) ?_
  show Gl p.tables e below _ (T3.setTop (mkF m 19 #[.val (.ref a), .val (.ref a), .val (.ref a)] [(.ref a), (.int w1)]))
  obtain ⟨T4, X4, e4, st4⟩ := getF X3 hx hZ hown (host := "") (Or.inl (tw hw 56 rfl)) Via.refl e3 pf1 (g := (mkF m 19 #[.val (.ref a), .val (.ref a), .val (.ref a)] [(.ref a), (.int w1)])) rfl rfl (hb hby d11_19)
  refine Gl.st st4 ?_
  show Gl p.tables e below _ (T4.setTop (mkF m 22 #[.val (.ref a), .val (.ref a), .val (.ref a)] [(.int w1), (.int w1)]))
  refine Gl.st (fun _ kq => XS.icmpNo X4.here hx rfl (hb hby d11_22) rfl (teq (rfl : w1 = w1)).2 kq) ?_
  show Gl p.tables e below _ (T4.setTop (mkF m 25 #[.val (.ref a), .val (.ref a), .val (.ref a)] []))
  refine Gl.st (fun _ kq => XS.aloadN X4.here hx rfl (hb hby d11_25) rfl rfl kq) ?_
  show Gl p.tables e below _ (T4.setTop (mkF m 26 #[.val (.ref a), .val (.ref a), .val (.ref a)] [(.ref a)]))
  obtain ⟨T5, X5, e5, st5⟩ := getF X4 hx hZ hown (host := "") (Or.inl (tw hw 54 rfl)) Via.refl e4 pf2 (g := (mkF m 26 #[.val (.ref a), .val (.ref a), .val (.ref a)] [(.ref a)])) rfl rfl (hb hby d11_26)
  refine Gl.st st5 ?_
  show Gl p.tables e below _ (T5.setTop (mkF m 29 #[.val (.ref a), .val (.ref a), .val (.ref a)] [(.ref b1)]))
  refine Gl.st (fun _ kq => XS.aloadN X5.here hx rfl (hb hby d11_29) rfl rfl kq) ?_
  show Gl p.tables e below _ (T5.setTop (mkF m 30 #[.val (.ref a), .val (.ref a), .val (.ref a)] [(.ref a), (.ref b1)]))
  obtain ⟨T6, X6, e6, st6⟩ := getF X5 hx hZ hown (host := "") (Or.inl (tw hw 54 rfl)) Via.refl e5 pf2 (g := (mkF m 30 #[.val (.ref a), .val (.ref a), .val (.ref a)] [(.ref a), (.ref b1)])) rfl rfl (hb hby d11_30)
  refine Gl.st st6 ?_
  show Gl p.tables e below _ (T6.setTop (mkF m 33 #[.val (.ref a), .val (.ref a), .val (.ref a)] [(.ref b1), (.ref b1)]))
  obtain ⟨cq7, kq7, q7a, q7b, q7c⟩ := isOf hZ e6 pf3
  obtain ⟨_, _, ⟨T7, L7, k7, n7⟩, -, X7, ⟨Lc7, hQ7, l7, y7, z7⟩, st7⟩ := X6.virtualBack hx (y := (⟨"java/lang/String", "equals", "(Ljava/lang/Object;)Z"⟩ : MethodName)) (z := (⟨"java/lang/String", "equals", "(Ljava/lang/Object;)Z"⟩ : MethodName)) hown (mvT hZ (tw hw 65 rfl)) (mvT hZ (tw hw 66 rfl)) (notFace_of_selects (args := #[]) (mvT hZ (tw hw 68 rfl))) (mvT hZ (tw hw 68 rfl)) (mvT hZ (tw hw 67 rfl)) (by decide) (StrChars.Road.eqW (W := 0) hZ (wdEq hw) (kI := 4) (tw hw 6 rfl) pf3 pf5 pf4 pf6 (StrChars.Road.codOf (cs := cs) rfl (fun x hx => (h1 x hx).2)) (up255 _ h1) h2 pf3 pf5 pf4 pf6 (StrChars.Road.codOf (cs := cs) rfl (fun x hx => (h1 x hx).2)) (up255 _ h1) h2 (O2.ext pf7.2) P5 (by decide) (by decide)) q7a q7c (g := (mkF m 33 #[.val (.ref a), .val (.ref a), .val (.ref a)] [(.ref b1), (.ref b1)])) rfl (by rw [hml]; rfl) (Steps.refl _) (argsL := [(.ref b1)]) (rest := []) (lenOf pd__Ljava_lang_Object__Z rfl) rfl (by show 2 * 0 + _ ≤ _; exact Nat.le_of_eq rfl) (hb hby d11_33) (fun _ _ => ⟨rfl, e6, (by decide : 0 + 0 ≤ _), (by decide : 0 + 0 ≤ _)⟩)
  dsimp only [Pt.U, Pt.locs, Pt.cells, Pt.slots] at X7 l7 y7 z7 st7 hQ7
  subst l7 y7 z7
  obtain ⟨⟨rfl, y7_0⟩ | ⟨rfl, y7_0⟩, rfl, e7⟩ := hQ7
  · have N7 : Fr n0 ([] : List Loc) := Fr.nil n0
    have M7 := Fr.app N0 N7
    refine Gl.to st7 ?_
    show Gl p.tables e below _ (T7.setTop (mkF m 36 #[.val (.ref a), .val (.ref a), .val (.ref a)] [(.int 1)]))
    refine Gl.st (fun _ kq => XS.ifNo X7.here hx rfl (hb hby d11_36) rfl ((if0 _ _).trans (feq ((by decide) : ¬ ((1 : Int32) = (0 : Int32)))).1) kq) ?_
    show Gl p.tables e below _ (T7.setTop (mkF m 39 #[.val (.ref a), .val (.ref a), .val (.ref a)] []))
    refine Gl.st (fun _ kq => XS.iconst X7.here hx rfl (hb hby d11_39) kq) ?_
    show Gl p.tables e below _ (T7.setTop (mkF m 40 #[.val (.ref a), .val (.ref a), .val (.ref a)] [(.int 1)]))
    refine Gl.st (fun _ kq => XS.goto X7.here hx rfl (pc0 := 40) (pc' := 44) rfl (hb hby d11_40) (by decide) (by decide) kq) ?_
    show Gl p.tables e below _ (T7.setTop (mkF m 44 #[.val (.ref a), .val (.ref a), .val (.ref a)] [(.int 1)]))
    exact Gl.retN X7 hx (t := .boolean) Bd.returns (by simp) (hb hby d11_44) hlk (by decide) (by decide) (by rw [e7]; exact ⟨rfl, M7, rfl⟩)
  · exact absurd rfl y7_0
theorem ef_law (m : MethodId) (p0 : Int32) (p1 : Int32) (p2 : Int32) (p3 : Int32) (p4 : Int32) : entryFrame m #[(.int p0), (.int p1), (.int p2), (.int p3), (.int p4)] maxLocals = mkF m 0 #[.val (.int p0), .val (.int p1), .val (.int p2), .val (.int p3), .val (.int p4), .unset, .unset, .unset, .unset, .unset, .unset, .unset, .unset, .unset, .unset, .unset, .unset, .unset, .unset, .unset, .unset] [] := by first | (simp [entryFrame, mkF, argsToLocals, Value.category, maxLocals]; done) | rfl
def Q_law (Z : State) (p0 : Int32) (p1 : Int32) (p2 : Int32) (p3 : Int32) (p4 : Int32) (Y1 : Int32) (h0 : Heap) (n0 : Nat) (v : Option Value) (h : Heap) (L : List Loc) : Prop := (v = some (.int 1) ∧ Fr n0 L)
set_option maxRecDepth 65536 in
set_option maxHeartbeats 40000000 in
theorem rm_law (l : Launch) (Z : State) (a0 : Array Value) (hw : ∀ d ∈ tables_1, d.before a0 Z = true) (ws : List Jvm.Cond) (p0 : Int32) (p1 : Int32) (p2 : Int32) (p3 : Int32) (p4 : Int32) (Y1 : Int32) (h0 : Heap) (n0 : Nat) (Z0 : n0 ≤ h0.size) (pf0 : Old Z n0 h0) (O2 : Sta Z Z.heap "java/lang/String" "COMPACT_STRINGS" "Z" (.int Y1)) (P5 : ¬ (Y1 = (0 : Int32))) :
    MetFree l x (head1 (Jvm.Cond.code x code maxLocals ret :: ws) room_1) (fun aa U => aa = #[(.int p0), (.int p1), (.int p2), (.int p3), (.int p4)] ∧ Z.Warmed39 U.vm ∧ U.heap = h0 ∧ CHv Z consts_1 U.vm h0) (fun _ _ _ _ _ => True) (fun _ U o U' => ∃ v L, o = .returned v ∧ Q_law Z p0 p1 p2 p3 p4 Y1 h0 n0 v U'.heap L ∧ CHr Z consts_1 U.vm U.heap U'.vm U'.heap ∧ ReturnedEndW U o U' L room_1.cells room_1.slots) := by
  refine MetFree.of_bodySF (plainFor_of_name pn_com_example_rooted_tableau_rootedtableau_model_RoleEqualsPinLaw) hisR ?_
  intro p e s m args below meth c s₁ Bd hml0 hP hK
  obtain ⟨rfl, hZ, hh, hH⟩ := hP
  have hx := Bd.exec
  have hby := Bd.bytes
  have hlk : meth.locks = false := BodyLoose.notSynchronized Bd
  have hml : c.maxLocals = 21 := hml0
  have hown : s.vm.findClass "com/example/rooted_tableau/rootedtableau/model/RoleEqualsPinLaw" = some m.cls := findClass_of_methodNamed Bd.named
  have hnm := (name_of_methodNamed Bd.named Bd.method).1
  have X0 : Stand p l e room_1 (s.setVm s.vm) m #[(.int p0), (.int p1), (.int p2), (.int p3), (.int p4)] below meth c s₁ [] 0 0 := Stand.of_body Bd
  have e0 : s₁.heap = h0 := by rw [← hh, Bd.state]; rfl
  have N0 := Fr.nil n0
  show Gl p.tables e below (EndH s Z consts_1 (Q_law Z p0 p1 p2 p3 p4 Y1 h0 n0) room_1.cells room_1.slots) _
  refine Gl.cast (ef_law m p0 p1 p2 p3 p4) ?_
  show Gl p.tables e below _ (s₁.setTop (mkF m 0 #[.val (.int p0), .val (.int p1), .val (.int p2), .val (.int p3), .val (.int p4), .unset, .unset, .unset, .unset, .unset, .unset, .unset, .unset, .unset, .unset, .unset, .unset, .unset, .unset, .unset, .unset] []))
  have hS0 : s.Since s.vm s₁.heap.size := (State.WarmedH.refl s).since _
  have C0 : CHr Z consts_1 s.vm h0 s.vm h0 := CHr.refl hH
  have Jf : ∀ (Tf : State) (hf : Heap) (Lf : List Loc) (vmf : Vm) (kf : Nat) (hSf : s.Since vmf kf) (hZf : Z.Warmed39 vmf) (hof : vmf.findClass "com/example/rooted_tableau/rootedtableau/model/RoleEqualsPinLaw" = some m.cls) (hkf : kf ≤ hf.size) (Cf : CHr Z consts_1 s.vm h0 vmf hf) (Xf : Stand p l e room_1 (s.setVm vmf) m #[(.int p0), (.int p1), (.int p2), (.int p3), (.int p4)] below meth c Tf Lf 0 0) (ef : Tf.heap = hf) (Nf : Fr n0 Lf) (zf : n0 ≤ hf.size) (fA : Int32) (fB : Int32) (fC : Int32) (fH : Int32) (ff_0 : Old Z n0 hf) (yf_0 : fA = (0 : Int32) ∨ fA = (1 : Int32)) (yf_1 : fB = (0 : Int32) ∨ fB = (1 : Int32)), Gl p.tables e below (EndH s Z consts_1 (Q_law Z p0 p1 p2 p3 p4 Y1 h0 n0) room_1.cells room_1.slots) (Tf.setTop (mkF m 57 #[.val (.int p0), .val (.int p1), .val (.int p2), .val (.int p3), .val (.int p4), .val (.int fA), .val (.int fB), .val (.int fC), .val (.int fH), .unset, .unset, .unset, .unset, .unset, .unset, .unset, .unset, .unset, .unset, .unset, .unset] [])) := by
    intro Tf hf Lf vmf kf hSf hZf hof hkf Cf Xf ef Nf zf fA fB fC fH ff_0 yf_0 yf_1
    show Gl p.tables e below _ (Tf.setTop (mkF m 57 #[.val (.int p0), .val (.int p1), .val (.int p2), .val (.int p3), .val (.int p4), .val (.int fA), .val (.int fB), .val (.int fC), .val (.int fH), .unset, .unset, .unset, .unset, .unset, .unset, .unset, .unset, .unset, .unset, .unset, .unset] []))
    refine Gl.st (fun _ kq => XS.iload Xf.here hx rfl (hb hby at_57) rfl kq) ?_
    show Gl p.tables e below _ (Tf.setTop (mkF m 59 #[.val (.int p0), .val (.int p1), .val (.int p2), .val (.int p3), .val (.int p4), .val (.int fA), .val (.int fB), .val (.int fC), .val (.int fH), .unset, .unset, .unset, .unset, .unset, .unset, .unset, .unset, .unset, .unset, .unset, .unset] [(.int p4)]))
    refine Gl.st (fun _ kq => XS.iconst Xf.here hx rfl (hb hby at_59) kq) ?_
    show Gl p.tables e below _ (Tf.setTop (mkF m 60 #[.val (.int p0), .val (.int p1), .val (.int p2), .val (.int p3), .val (.int p4), .val (.int fA), .val (.int fB), .val (.int fC), .val (.int fH), .unset, .unset, .unset, .unset, .unset, .unset, .unset, .unset, .unset, .unset, .unset, .unset] [(.int 3), (.int p4)]))
    refine Gl.st (fun _ kq => XS.iushr Xf.here hx rfl (hb hby at_60) rfl kq) ?_
    show Gl p.tables e below _ (Tf.setTop (mkF m 61 #[.val (.int p0), .val (.int p1), .val (.int p2), .val (.int p3), .val (.int p4), .val (.int fA), .val (.int fB), .val (.int fC), .val (.int fH), .unset, .unset, .unset, .unset, .unset, .unset, .unset, .unset, .unset, .unset, .unset, .unset] [(.int ((p4.toUInt32 >>> ((3 : Int32) &&& 31).toUInt32).toInt32))]))
    refine Gl.st (fun _ kq => XS.iconst Xf.here hx rfl (hb hby at_61) kq) ?_
    show Gl p.tables e below _ (Tf.setTop (mkF m 62 #[.val (.int p0), .val (.int p1), .val (.int p2), .val (.int p3), .val (.int p4), .val (.int fA), .val (.int fB), .val (.int fC), .val (.int fH), .unset, .unset, .unset, .unset, .unset, .unset, .unset, .unset, .unset, .unset, .unset, .unset] [(.int 3), (.int ((p4.toUInt32 >>> ((3 : Int32) &&& 31).toUInt32).toInt32))]))
    refine Gl.st (fun _ kq => XS.iand Xf.here hx rfl (hb hby at_62) rfl kq) ?_
    show Gl p.tables e below _ (Tf.setTop (mkF m 63 #[.val (.int p0), .val (.int p1), .val (.int p2), .val (.int p3), .val (.int p4), .val (.int fA), .val (.int fB), .val (.int fC), .val (.int fH), .unset, .unset, .unset, .unset, .unset, .unset, .unset, .unset, .unset, .unset, .unset, .unset] [(.int (((p4.toUInt32 >>> ((3 : Int32) &&& 31).toUInt32).toInt32) &&& (3 : Int32)))]))
    refine Gl.st (fun _ kq => XS.istore Xf.here hx rfl (hb hby at_63) rfl (l' := #[.val (.int p0), .val (.int p1), .val (.int p2), .val (.int p3), .val (.int p4), .val (.int fA), .val (.int fB), .val (.int fC), .val (.int fH), .val (.int (((p4.toUInt32 >>> ((3 : Int32) &&& 31).toUInt32).toInt32) &&& (3 : Int32))), .unset, .unset, .unset, .unset, .unset, .unset, .unset, .unset, .unset, .unset, .unset]) rfl kq) ?_
    show Gl p.tables e below _ (Tf.setTop (mkF m 65 #[.val (.int p0), .val (.int p1), .val (.int p2), .val (.int p3), .val (.int p4), .val (.int fA), .val (.int fB), .val (.int fC), .val (.int fH), .val (.int (((p4.toUInt32 >>> ((3 : Int32) &&& 31).toUInt32).toInt32) &&& (3 : Int32))), .unset, .unset, .unset, .unset, .unset, .unset, .unset, .unset, .unset, .unset, .unset] []))
    refine Gl.st (fun _ kq => XS.iloadN Xf.here hx rfl (hb hby at_65) rfl kq) ?_
    show Gl p.tables e below _ (Tf.setTop (mkF m 66 #[.val (.int p0), .val (.int p1), .val (.int p2), .val (.int p3), .val (.int p4), .val (.int fA), .val (.int fB), .val (.int fC), .val (.int fH), .val (.int (((p4.toUInt32 >>> ((3 : Int32) &&& 31).toUInt32).toInt32) &&& (3 : Int32))), .unset, .unset, .unset, .unset, .unset, .unset, .unset, .unset, .unset, .unset, .unset] [(.int p0)]))
    refine Gl.st (fun _ kq => Xf.ldcInt hx hof (mvT hZf (tw hw 0 rfl)) (g := (mkF m 66 #[.val (.int p0), .val (.int p1), .val (.int p2), .val (.int p3), .val (.int p4), .val (.int fA), .val (.int fB), .val (.int fC), .val (.int fH), .val (.int (((p4.toUInt32 >>> ((3 : Int32) &&& 31).toUInt32).toInt32) &&& (3 : Int32))), .unset, .unset, .unset, .unset, .unset, .unset, .unset, .unset, .unset, .unset, .unset] [(.int p0)])) rfl (hb hby at_66) _ kq) ?_
    show Gl p.tables e below _ (Tf.setTop (mkF m 68 #[.val (.int p0), .val (.int p1), .val (.int p2), .val (.int p3), .val (.int p4), .val (.int fA), .val (.int fB), .val (.int fC), .val (.int fH), .val (.int (((p4.toUInt32 >>> ((3 : Int32) &&& 31).toUInt32).toInt32) &&& (3 : Int32))), .unset, .unset, .unset, .unset, .unset, .unset, .unset, .unset, .unset, .unset, .unset] [(.int 2147483647), (.int p0)]))
    refine Gl.st (fun _ kq => XS.iand Xf.here hx rfl (hb hby at_68) rfl kq) ?_
    show Gl p.tables e below _ (Tf.setTop (mkF m 69 #[.val (.int p0), .val (.int p1), .val (.int p2), .val (.int p3), .val (.int p4), .val (.int fA), .val (.int fB), .val (.int fC), .val (.int fH), .val (.int (((p4.toUInt32 >>> ((3 : Int32) &&& 31).toUInt32).toInt32) &&& (3 : Int32))), .unset, .unset, .unset, .unset, .unset, .unset, .unset, .unset, .unset, .unset, .unset] [(.int (p0 &&& (2147483647 : Int32)))]))
    refine Gl.st (fun _ kq => XS.iconst Xf.here hx rfl (hb hby at_69) kq) ?_
    show Gl p.tables e below _ (Tf.setTop (mkF m 70 #[.val (.int p0), .val (.int p1), .val (.int p2), .val (.int p3), .val (.int p4), .val (.int fA), .val (.int fB), .val (.int fC), .val (.int fH), .val (.int (((p4.toUInt32 >>> ((3 : Int32) &&& 31).toUInt32).toInt32) &&& (3 : Int32))), .unset, .unset, .unset, .unset, .unset, .unset, .unset, .unset, .unset, .unset, .unset] [(.int 3), (.int (p0 &&& (2147483647 : Int32)))]))
    refine Gl.st (fun _ kq => iremM (g := (mkF m 70 #[.val (.int p0), .val (.int p1), .val (.int p2), .val (.int p3), .val (.int p4), .val (.int fA), .val (.int fB), .val (.int fC), .val (.int fH), .val (.int (((p4.toUInt32 >>> ((3 : Int32) &&& 31).toUInt32).toInt32) &&& (3 : Int32))), .unset, .unset, .unset, .unset, .unset, .unset, .unset, .unset, .unset, .unset, .unset] [(.int 3), (.int (p0 &&& (2147483647 : Int32)))])) Xf hx rfl (hb hby at_70) rfl (by decide) kq) ?_
    show Gl p.tables e below _ (Tf.setTop (mkF m 71 #[.val (.int p0), .val (.int p1), .val (.int p2), .val (.int p3), .val (.int p4), .val (.int fA), .val (.int fB), .val (.int fC), .val (.int fH), .val (.int (((p4.toUInt32 >>> ((3 : Int32) &&& 31).toUInt32).toInt32) &&& (3 : Int32))), .unset, .unset, .unset, .unset, .unset, .unset, .unset, .unset, .unset, .unset, .unset] [(.int ((p0 &&& (2147483647 : Int32)) % (3 : Int32)))]))
    refine Gl.st (fun _ kq => XS.istore Xf.here hx rfl (hb hby at_71) rfl (l' := #[.val (.int p0), .val (.int p1), .val (.int p2), .val (.int p3), .val (.int p4), .val (.int fA), .val (.int fB), .val (.int fC), .val (.int fH), .val (.int (((p4.toUInt32 >>> ((3 : Int32) &&& 31).toUInt32).toInt32) &&& (3 : Int32))), .val (.int ((p0 &&& (2147483647 : Int32)) % (3 : Int32))), .unset, .unset, .unset, .unset, .unset, .unset, .unset, .unset, .unset, .unset]) rfl kq) ?_
    show Gl p.tables e below _ (Tf.setTop (mkF m 73 #[.val (.int p0), .val (.int p1), .val (.int p2), .val (.int p3), .val (.int p4), .val (.int fA), .val (.int fB), .val (.int fC), .val (.int fH), .val (.int (((p4.toUInt32 >>> ((3 : Int32) &&& 31).toUInt32).toInt32) &&& (3 : Int32))), .val (.int ((p0 &&& (2147483647 : Int32)) % (3 : Int32))), .unset, .unset, .unset, .unset, .unset, .unset, .unset, .unset, .unset, .unset] []))
    have Jj : ∀ (Tj : State) (hj : Heap) (Lj : List Loc) (vmj : Vm) (kj : Nat) (hSj : s.Since vmj kj) (hZj : Z.Warmed39 vmj) (hoj : vmj.findClass "com/example/rooted_tableau/rootedtableau/model/RoleEqualsPinLaw" = some m.cls) (hkj : kj ≤ hj.size) (Cj : CHr Z consts_1 s.vm h0 vmj hj) (Xj : Stand p l e room_1 (s.setVm vmj) m #[(.int p0), (.int p1), (.int p2), (.int p3), (.int p4)] below meth c Tj Lj 0 0) (ej : Tj.heap = hj) (Nj : Fr n0 Lj) (zj : n0 ≤ hj.size) (gq7 : Int32) (gq8 : Int32) (lB : Int32) (cB : Int32) (fj_0 : Old Z n0 hj) (yj_0 : own_k3 lB), Gl p.tables e below (EndH s Z consts_1 (Q_law Z p0 p1 p2 p3 p4 Y1 h0 n0) room_1.cells room_1.slots) (Tj.setTop (mkF m 121 #[.val (.int p0), .val (.int p1), .val (.int p2), .val (.int p3), .val (.int p4), .val (.int fA), .val (.int fB), .val (.int gq7), .val (.int gq8), .val (.int (((p4.toUInt32 >>> ((3 : Int32) &&& 31).toUInt32).toInt32) &&& (3 : Int32))), .val (.int ((p0 &&& (2147483647 : Int32)) % (3 : Int32))), .val (.int lB), .val (.int cB), .unset, .unset, .unset, .unset, .unset, .unset, .unset, .unset] [])) := by
      intro Tj hj Lj vmj kj hSj hZj hoj hkj Cj Xj ej Nj zj gq7 gq8 lB cB fj_0 yj_0
      show Gl p.tables e below _ (Tj.setTop (mkF m 121 #[.val (.int p0), .val (.int p1), .val (.int p2), .val (.int p3), .val (.int p4), .val (.int fA), .val (.int fB), .val (.int gq7), .val (.int gq8), .val (.int (((p4.toUInt32 >>> ((3 : Int32) &&& 31).toUInt32).toInt32) &&& (3 : Int32))), .val (.int ((p0 &&& (2147483647 : Int32)) % (3 : Int32))), .val (.int lB), .val (.int cB), .unset, .unset, .unset, .unset, .unset, .unset, .unset, .unset] []))
      refine Gl.st (fun _ kq => XS.iload Xj.here hx rfl (hb hby at_121) rfl kq) ?_
      show Gl p.tables e below _ (Tj.setTop (mkF m 123 #[.val (.int p0), .val (.int p1), .val (.int p2), .val (.int p3), .val (.int p4), .val (.int fA), .val (.int fB), .val (.int gq7), .val (.int gq8), .val (.int (((p4.toUInt32 >>> ((3 : Int32) &&& 31).toUInt32).toInt32) &&& (3 : Int32))), .val (.int ((p0 &&& (2147483647 : Int32)) % (3 : Int32))), .val (.int lB), .val (.int cB), .unset, .unset, .unset, .unset, .unset, .unset, .unset, .unset] [(.int ((p0 &&& (2147483647 : Int32)) % (3 : Int32)))]))
      refine Gl.st (fun _ kq => XS.iloadN Xj.here hx rfl (hb hby at_123) rfl kq) ?_
      show Gl p.tables e below _ (Tj.setTop (mkF m 124 #[.val (.int p0), .val (.int p1), .val (.int p2), .val (.int p3), .val (.int p4), .val (.int fA), .val (.int fB), .val (.int gq7), .val (.int gq8), .val (.int (((p4.toUInt32 >>> ((3 : Int32) &&& 31).toUInt32).toInt32) &&& (3 : Int32))), .val (.int ((p0 &&& (2147483647 : Int32)) % (3 : Int32))), .val (.int lB), .val (.int cB), .unset, .unset, .unset, .unset, .unset, .unset, .unset, .unset] [(.int p1), (.int ((p0 &&& (2147483647 : Int32)) % (3 : Int32)))]))
      obtain ⟨_, _, ⟨T5, L5, k5, n5⟩, -, X5, S5, g5, ⟨Lc5, hQ5, l5, y5, z5, R5⟩, st5⟩ := callSS Xj hx (y := (⟨"com/example/rooted_tableau/rootedtableau/model/RoleEqualsPinLaw", "mk", "(II)Ljava/lang/String;"⟩ : MethodName)) hoj (mvT hZj (tw hw 1 rfl)) (mvT hZj (tw hw 2 rfl)) (mvT hZj (tw hw 3 rfl)) (mvT hZj (tw hw 4 rfl)) (by decide) (backOfSH (W := 0) (rm_mk l Z a0 hw [] (((p0 &&& (2147483647 : Int32)) % (3 : Int32))) (p1) (Y1) hj n0 zj fj_0 O2 P5) hZj (tw hw 4 rfl) (tw hw 3 rfl) (by decide) (by decide) (elW hw) Cj.1) (g := (mkF m 124 #[.val (.int p0), .val (.int p1), .val (.int p2), .val (.int p3), .val (.int p4), .val (.int fA), .val (.int fB), .val (.int gq7), .val (.int gq8), .val (.int (((p4.toUInt32 >>> ((3 : Int32) &&& 31).toUInt32).toInt32) &&& (3 : Int32))), .val (.int ((p0 &&& (2147483647 : Int32)) % (3 : Int32))), .val (.int lB), .val (.int cB), .unset, .unset, .unset, .unset, .unset, .unset, .unset, .unset] [(.int p1), (.int ((p0 &&& (2147483647 : Int32)) % (3 : Int32)))])) rfl (by rw [hml]; rfl) (argsL := [(.int ((p0 &&& (2147483647 : Int32)) % (3 : Int32))), (.int p1)]) (rest := []) (lenOf pd__II_Ljava_lang_String_ rfl) rfl (by show 2 * 0 + _ ≤ _; exact Nat.le_of_eq rfl) (hb hby at_124) (fun _ _ => ⟨rfl, ej, (by decide : 0 + 6 ≤ _), (by decide : 0 + 12 ≤ _)⟩)
      dsimp only [Pt.U, Pt.locs, Pt.cells, Pt.slots] at X5 l5 y5 z5 st5 hQ5 R5
      subst l5 y5 z5
      obtain ⟨X5, S5, hZ5, ho5⟩ := rebS hSj (Nat.le_trans hkj (Nat.le_of_eq (congrArg Array.size ej).symm)) X5 S5 g5 hZj hoj
      obtain ⟨v1, v2, v3, v4, rfl, N5, K5, q5_0, q5_1, q5_2, q5_3, y5_0, y5_1⟩ := hQ5
      have C6 : CHr Z consts_1 s.vm h0 T5.vm T5.heap := Cj.trans R5
      have M5 := Fr.app Nj N5
      have g7 : n0 ≤ v1 := Nat.le_trans zj y5_1
      refine Gl.to st5 ?_
      show Gl p.tables e below _ (T5.setTop (mkF m 127 #[.val (.int p0), .val (.int p1), .val (.int p2), .val (.int p3), .val (.int p4), .val (.int fA), .val (.int fB), .val (.int gq7), .val (.int gq8), .val (.int (((p4.toUInt32 >>> ((3 : Int32) &&& 31).toUInt32).toInt32) &&& (3 : Int32))), .val (.int ((p0 &&& (2147483647 : Int32)) % (3 : Int32))), .val (.int lB), .val (.int cB), .unset, .unset, .unset, .unset, .unset, .unset, .unset, .unset] [(.ref v1)]))
      show Gl p.tables e below _ (T5.setTop (mkF m 127 #[.val (.int p0), .val (.int p1), .val (.int p2), .val (.int p3), .val (.int p4), .val (.int fA), .val (.int fB), .val (.int gq7), .val (.int gq8), .val (.int (((p4.toUInt32 >>> ((3 : Int32) &&& 31).toUInt32).toInt32) &&& (3 : Int32))), .val (.int ((p0 &&& (2147483647 : Int32)) % (3 : Int32))), .val (.int lB), .val (.int cB), .unset, .unset, .unset, .unset, .unset, .unset, .unset, .unset] [(.ref v1)]))
      refine Gl.st (fun _ kq => XS.astore X5.here hx rfl (hb hby at_127) rfl rfl (l' := #[.val (.int p0), .val (.int p1), .val (.int p2), .val (.int p3), .val (.int p4), .val (.int fA), .val (.int fB), .val (.int gq7), .val (.int gq8), .val (.int (((p4.toUInt32 >>> ((3 : Int32) &&& 31).toUInt32).toInt32) &&& (3 : Int32))), .val (.int ((p0 &&& (2147483647 : Int32)) % (3 : Int32))), .val (.int lB), .val (.int cB), .val (.ref v1), .unset, .unset, .unset, .unset, .unset, .unset, .unset]) rfl kq) ?_
      show Gl p.tables e below _ (T5.setTop (mkF m 129 #[.val (.int p0), .val (.int p1), .val (.int p2), .val (.int p3), .val (.int p4), .val (.int fA), .val (.int fB), .val (.int gq7), .val (.int gq8), .val (.int (((p4.toUInt32 >>> ((3 : Int32) &&& 31).toUInt32).toInt32) &&& (3 : Int32))), .val (.int ((p0 &&& (2147483647 : Int32)) % (3 : Int32))), .val (.int lB), .val (.int cB), .val (.ref v1), .unset, .unset, .unset, .unset, .unset, .unset, .unset] []))
      refine Gl.st (fun _ kq => XS.iload X5.here hx rfl (hb hby at_129) rfl kq) ?_
      show Gl p.tables e below _ (T5.setTop (mkF m 131 #[.val (.int p0), .val (.int p1), .val (.int p2), .val (.int p3), .val (.int p4), .val (.int fA), .val (.int fB), .val (.int gq7), .val (.int gq8), .val (.int (((p4.toUInt32 >>> ((3 : Int32) &&& 31).toUInt32).toInt32) &&& (3 : Int32))), .val (.int ((p0 &&& (2147483647 : Int32)) % (3 : Int32))), .val (.int lB), .val (.int cB), .val (.ref v1), .unset, .unset, .unset, .unset, .unset, .unset, .unset] [(.int lB)]))
      refine Gl.st (fun _ kq => XS.iload X5.here hx rfl (hb hby at_131) rfl kq) ?_
      show Gl p.tables e below _ (T5.setTop (mkF m 133 #[.val (.int p0), .val (.int p1), .val (.int p2), .val (.int p3), .val (.int p4), .val (.int fA), .val (.int fB), .val (.int gq7), .val (.int gq8), .val (.int (((p4.toUInt32 >>> ((3 : Int32) &&& 31).toUInt32).toInt32) &&& (3 : Int32))), .val (.int ((p0 &&& (2147483647 : Int32)) % (3 : Int32))), .val (.int lB), .val (.int cB), .val (.ref v1), .unset, .unset, .unset, .unset, .unset, .unset, .unset] [(.int cB), (.int lB)]))
      have f8 : Old Z n0 T5.heap := (fj_0.keep K5 all0)
      obtain ⟨_, _, ⟨T13, L13, k13, n13⟩, -, X13, S13, g13, ⟨Lc13, hQ13, l13, y13, z13, R13⟩, st13⟩ := callSS X5 hx (y := (⟨"com/example/rooted_tableau/rootedtableau/model/RoleEqualsPinLaw", "mk", "(II)Ljava/lang/String;"⟩ : MethodName)) ho5 (mvT hZ5 (tw hw 1 rfl)) (mvT hZ5 (tw hw 2 rfl)) (mvT hZ5 (tw hw 3 rfl)) (mvT hZ5 (tw hw 4 rfl)) (by decide) (backOfSH (W := 0) (rm_mk l Z a0 hw [] (lB) (cB) (Y1) T5.heap n0 (Nat.le_trans zj K5.1) f8 O2 P5) hZ5 (tw hw 4 rfl) (tw hw 3 rfl) (by decide) (by decide) (elW hw) C6.1) (g := (mkF m 133 #[.val (.int p0), .val (.int p1), .val (.int p2), .val (.int p3), .val (.int p4), .val (.int fA), .val (.int fB), .val (.int gq7), .val (.int gq8), .val (.int (((p4.toUInt32 >>> ((3 : Int32) &&& 31).toUInt32).toInt32) &&& (3 : Int32))), .val (.int ((p0 &&& (2147483647 : Int32)) % (3 : Int32))), .val (.int lB), .val (.int cB), .val (.ref v1), .unset, .unset, .unset, .unset, .unset, .unset, .unset] [(.int cB), (.int lB)])) rfl (by rw [hml]; rfl) (argsL := [(.int lB), (.int cB)]) (rest := []) (lenOf pd__II_Ljava_lang_String_ rfl) rfl (by show 2 * 0 + _ ≤ _; exact Nat.le_of_eq rfl) (hb hby at_133) (fun _ _ => ⟨rfl, rfl, (by decide : 6 + 6 ≤ _), (by decide : 12 + 12 ≤ _)⟩)
      dsimp only [Pt.U, Pt.locs, Pt.cells, Pt.slots] at X13 l13 y13 z13 st13 hQ13 R13
      subst l13 y13 z13
      obtain ⟨X13, S13, hZ13, ho13⟩ := rebS S5 (Nat.le_trans (Nat.le_refl _) (Nat.le_of_eq (congrArg Array.size rfl).symm)) X13 S13 g13 hZ5 ho5
      obtain ⟨v9, v10, v11, v12, rfl, N13, K13, q13_0, q13_1, q13_2, q13_3, y13_0, y13_1⟩ := hQ13
      have C14 : CHr Z consts_1 s.vm h0 T13.vm T13.heap := C6.trans R13
      have M13 := Fr.app M5 N13
      have g15 : n0 ≤ v9 := Nat.le_trans (Nat.le_trans zj K5.1) y13_1
      refine Gl.to st13 ?_
      show Gl p.tables e below _ (T13.setTop (mkF m 136 #[.val (.int p0), .val (.int p1), .val (.int p2), .val (.int p3), .val (.int p4), .val (.int fA), .val (.int fB), .val (.int gq7), .val (.int gq8), .val (.int (((p4.toUInt32 >>> ((3 : Int32) &&& 31).toUInt32).toInt32) &&& (3 : Int32))), .val (.int ((p0 &&& (2147483647 : Int32)) % (3 : Int32))), .val (.int lB), .val (.int cB), .val (.ref v1), .unset, .unset, .unset, .unset, .unset, .unset, .unset] [(.ref v9)]))
      show Gl p.tables e below _ (T13.setTop (mkF m 136 #[.val (.int p0), .val (.int p1), .val (.int p2), .val (.int p3), .val (.int p4), .val (.int fA), .val (.int fB), .val (.int gq7), .val (.int gq8), .val (.int (((p4.toUInt32 >>> ((3 : Int32) &&& 31).toUInt32).toInt32) &&& (3 : Int32))), .val (.int ((p0 &&& (2147483647 : Int32)) % (3 : Int32))), .val (.int lB), .val (.int cB), .val (.ref v1), .unset, .unset, .unset, .unset, .unset, .unset, .unset] [(.ref v9)]))
      refine Gl.st (fun _ kq => XS.astore X13.here hx rfl (hb hby at_136) rfl rfl (l' := #[.val (.int p0), .val (.int p1), .val (.int p2), .val (.int p3), .val (.int p4), .val (.int fA), .val (.int fB), .val (.int gq7), .val (.int gq8), .val (.int (((p4.toUInt32 >>> ((3 : Int32) &&& 31).toUInt32).toInt32) &&& (3 : Int32))), .val (.int ((p0 &&& (2147483647 : Int32)) % (3 : Int32))), .val (.int lB), .val (.int cB), .val (.ref v1), .val (.ref v9), .unset, .unset, .unset, .unset, .unset, .unset]) rfl kq) ?_
      show Gl p.tables e below _ (T13.setTop (mkF m 138 #[.val (.int p0), .val (.int p1), .val (.int p2), .val (.int p3), .val (.int p4), .val (.int fA), .val (.int fB), .val (.int gq7), .val (.int gq8), .val (.int (((p4.toUInt32 >>> ((3 : Int32) &&& 31).toUInt32).toInt32) &&& (3 : Int32))), .val (.int ((p0 &&& (2147483647 : Int32)) % (3 : Int32))), .val (.int lB), .val (.int cB), .val (.ref v1), .val (.ref v9), .unset, .unset, .unset, .unset, .unset, .unset] []))
      obtain ⟨T16, h16, X16, e16, E16, A16, D16, U16, st16⟩ := newO X13 hx hZ13 ho13 (tw hw 38 rfl) (tw hw 39 rfl) (tw hw 40 rfl) rfl (g := (mkF m 138 #[.val (.int p0), .val (.int p1), .val (.int p2), .val (.int p3), .val (.int p4), .val (.int fA), .val (.int fB), .val (.int gq7), .val (.int gq8), .val (.int (((p4.toUInt32 >>> ((3 : Int32) &&& 31).toUInt32).toInt32) &&& (3 : Int32))), .val (.int ((p0 &&& (2147483647 : Int32)) % (3 : Int32))), .val (.int lB), .val (.int cB), .val (.ref v1), .val (.ref v9), .unset, .unset, .unset, .unset, .unset, .unset] [])) rfl (hb hby at_138) (by decide) (by decide)
      obtain ⟨b16, g16⟩ : ∃ z, z = T13.heap.size := ⟨_, rfl⟩
      rw [← g16] at A16 D16 U16 st16
      refine Gl.st st16 ?_
      have g17 : n0 ≤ b16 := Nat.le_trans (Nat.le_trans (Nat.le_trans zj K5.1) K13.1) (Nat.le_of_eq g16.symm)
      have C18 : CHr Z consts_1 s.vm h0 T13.vm h16 := C14.trans (CHr.ext E16 C14.1)
      have F16_55 : Fld Z h16 b16 "com/example/rooted_tableau/rootedtableau/model/Role" "iri" "Ljava/lang/String;" .null := D16 (Or.inr (tw hw 55 rfl)) (ty := (.object "java/lang/String")) (by decide)
      have F16_57 : Fld Z h16 b16 "com/example/rooted_tableau/rootedtableau/model/Role" "inverse" "Z" (.int 0) := D16 (Or.inr (tw hw 57 rfl)) (ty := .boolean) (by decide)
      show Gl p.tables e below _ (T16.setTop (mkF m 141 #[.val (.int p0), .val (.int p1), .val (.int p2), .val (.int p3), .val (.int p4), .val (.int fA), .val (.int fB), .val (.int gq7), .val (.int gq8), .val (.int (((p4.toUInt32 >>> ((3 : Int32) &&& 31).toUInt32).toInt32) &&& (3 : Int32))), .val (.int ((p0 &&& (2147483647 : Int32)) % (3 : Int32))), .val (.int lB), .val (.int cB), .val (.ref v1), .val (.ref v9), .unset, .unset, .unset, .unset, .unset, .unset] [(.ref b16)]))
      refine Gl.st (fun _ kq => XS.dup X16.here hx rfl (hb hby at_141) rfl rfl kq) ?_
      show Gl p.tables e below _ (T16.setTop (mkF m 142 #[.val (.int p0), .val (.int p1), .val (.int p2), .val (.int p3), .val (.int p4), .val (.int fA), .val (.int fB), .val (.int gq7), .val (.int gq8), .val (.int (((p4.toUInt32 >>> ((3 : Int32) &&& 31).toUInt32).toInt32) &&& (3 : Int32))), .val (.int ((p0 &&& (2147483647 : Int32)) % (3 : Int32))), .val (.int lB), .val (.int cB), .val (.ref v1), .val (.ref v9), .unset, .unset, .unset, .unset, .unset, .unset] [(.ref b16), (.ref b16)]))
      refine Gl.st (fun _ kq => XS.aload X16.here hx rfl (hb hby at_142) rfl rfl kq) ?_
      show Gl p.tables e below _ (T16.setTop (mkF m 144 #[.val (.int p0), .val (.int p1), .val (.int p2), .val (.int p3), .val (.int p4), .val (.int fA), .val (.int fB), .val (.int gq7), .val (.int gq8), .val (.int (((p4.toUInt32 >>> ((3 : Int32) &&& 31).toUInt32).toInt32) &&& (3 : Int32))), .val (.int ((p0 &&& (2147483647 : Int32)) % (3 : Int32))), .val (.int lB), .val (.int cB), .val (.ref v1), .val (.ref v9), .unset, .unset, .unset, .unset, .unset, .unset] [(.ref v1), (.ref b16), (.ref b16)]))
      have f19 : Exa Z h16 v1 "java/lang/String" := ((q5_0.keep K13).ext E16)
      obtain ⟨_, _, ⟨T20, L20, k20, n20⟩, -, X20, S20, g20, ⟨Lc20, hQ20, l20, y20, z20, R20⟩, st20⟩ := X16.specialBackS hx (y := (⟨"com/example/rooted_tableau/rootedtableau/model/Role", "<init>", "(Ljava/lang/String;)V"⟩ : MethodName)) rfl ho13 (mvT hZ13 (tw hw 41 rfl)) (mvT hZ13 (tw hw 42 rfl)) (mvT hZ13 (tw hw 43 rfl)) (by decide) (backOfSH (W := 1) (rm_ra l Z a0 hw [] (b16) (v1) (.null) ((0 : Int32)) h16 n0 (Nat.le_trans (Nat.le_trans (Nat.le_trans zj K5.1) K13.1) E16.1) A16 F16_55 F16_57 f19 g17) hZ13 (tw hw 43 rfl) (tw hw 40 rfl) (by decide) (by decide) (elW hw) C18.1) (g := (mkF m 144 #[.val (.int p0), .val (.int p1), .val (.int p2), .val (.int p3), .val (.int p4), .val (.int fA), .val (.int fB), .val (.int gq7), .val (.int gq8), .val (.int (((p4.toUInt32 >>> ((3 : Int32) &&& 31).toUInt32).toInt32) &&& (3 : Int32))), .val (.int ((p0 &&& (2147483647 : Int32)) % (3 : Int32))), .val (.int lB), .val (.int cB), .val (.ref v1), .val (.ref v9), .unset, .unset, .unset, .unset, .unset, .unset] [(.ref v1), (.ref b16), (.ref b16)])) rfl (by rw [hml]; rfl) (Steps.refl _) (a := b16) (argsL := [(.ref v1)]) (rest := [(.ref b16)]) (lenOf pd__Ljava_lang_String__V rfl) rfl (by show 2 * 0 + _ ≤ _; exact Nat.le_of_eq rfl) (hb hby at_144) (fun _ _ => ⟨rfl, e16, (by decide : 13 + 2 ≤ _), (by decide : 26 + 16 ≤ _)⟩)
      dsimp only [Pt.U, Pt.locs, Pt.cells, Pt.slots] at X20 l20 y20 z20 st20 hQ20 R20
      subst l20 y20 z20
      obtain ⟨X20, S20, hZ20, ho20⟩ := rebS S13 (Nat.le_trans (Nat.le_trans (Nat.le_refl _) E16.1) (Nat.le_of_eq (congrArg Array.size e16).symm)) X20 S20 g20 hZ13 ho13
      obtain ⟨rfl, N20, K20, q20_0, q20_1, q20_2⟩ := hQ20
      have C21 : CHr Z consts_1 s.vm h0 T20.vm T20.heap := C18.trans R20
      have M20 := Fr.app M13 N20
      refine Gl.to st20 ?_
      show Gl p.tables e below _ (T20.setTop (mkF m 147 #[.val (.int p0), .val (.int p1), .val (.int p2), .val (.int p3), .val (.int p4), .val (.int fA), .val (.int fB), .val (.int gq7), .val (.int gq8), .val (.int (((p4.toUInt32 >>> ((3 : Int32) &&& 31).toUInt32).toInt32) &&& (3 : Int32))), .val (.int ((p0 &&& (2147483647 : Int32)) % (3 : Int32))), .val (.int lB), .val (.int cB), .val (.ref v1), .val (.ref v9), .unset, .unset, .unset, .unset, .unset, .unset] [(.ref b16)]))
      show Gl p.tables e below _ (T20.setTop (mkF m 147 #[.val (.int p0), .val (.int p1), .val (.int p2), .val (.int p3), .val (.int p4), .val (.int fA), .val (.int fB), .val (.int gq7), .val (.int gq8), .val (.int (((p4.toUInt32 >>> ((3 : Int32) &&& 31).toUInt32).toInt32) &&& (3 : Int32))), .val (.int ((p0 &&& (2147483647 : Int32)) % (3 : Int32))), .val (.int lB), .val (.int cB), .val (.ref v1), .val (.ref v9), .unset, .unset, .unset, .unset, .unset, .unset] [(.ref b16)]))
      refine Gl.st (fun _ kq => XS.astore X20.here hx rfl (hb hby at_147) rfl rfl (l' := #[.val (.int p0), .val (.int p1), .val (.int p2), .val (.int p3), .val (.int p4), .val (.int fA), .val (.int fB), .val (.int gq7), .val (.int gq8), .val (.int (((p4.toUInt32 >>> ((3 : Int32) &&& 31).toUInt32).toInt32) &&& (3 : Int32))), .val (.int ((p0 &&& (2147483647 : Int32)) % (3 : Int32))), .val (.int lB), .val (.int cB), .val (.ref v1), .val (.ref v9), .val (.ref b16), .unset, .unset, .unset, .unset, .unset]) rfl kq) ?_
      show Gl p.tables e below _ (T20.setTop (mkF m 149 #[.val (.int p0), .val (.int p1), .val (.int p2), .val (.int p3), .val (.int p4), .val (.int fA), .val (.int fB), .val (.int gq7), .val (.int gq8), .val (.int (((p4.toUInt32 >>> ((3 : Int32) &&& 31).toUInt32).toInt32) &&& (3 : Int32))), .val (.int ((p0 &&& (2147483647 : Int32)) % (3 : Int32))), .val (.int lB), .val (.int cB), .val (.ref v1), .val (.ref v9), .val (.ref b16), .unset, .unset, .unset, .unset, .unset] []))
      have Ja : ∀ (Ta : State) (ha : Heap) (La : List Loc) (vma : Vm) (ka : Nat) (hSa : s.Since vma ka) (hZa : Z.Warmed39 vma) (hoa : vma.findClass "com/example/rooted_tableau/rootedtableau/model/RoleEqualsPinLaw" = some m.cls) (hka : ka ≤ ha.size) (Ca : CHr Z consts_1 s.vm h0 vma ha) (Xa : Stand p l e room_1 (s.setVm vma) m #[(.int p0), (.int p1), (.int p2), (.int p3), (.int p4)] below meth c Ta La 21 82) (ea : Ta.heap = ha) (Na : Fr n0 La) (za : n0 ≤ ha.size) (rA : Addr) (fa_0 : Exa Z ha rA "com/example/rooted_tableau/rootedtableau/model/Role") (fa_1 : Fld Z ha rA "com/example/rooted_tableau/rootedtableau/model/Role" "iri" "Ljava/lang/String;" (.ref v1)) (fa_2 : Fld Z ha rA "com/example/rooted_tableau/rootedtableau/model/Role" "inverse" "Z" (.int fA)) (fa_3 : Old Z n0 ha) (fa_4 : Exa Z ha v1 "java/lang/String") (fa_5 : Fld Z ha v1 "java/lang/String" "coder" "B" (.int 0)) (fa_6 : Fld Z ha v1 "java/lang/String" "value" "[B" (.ref v2)) (fa_7 : Arv Z ha v2 v3 .byte (Int32.ofNat v4.length) ((v4.map (fun c => c.toInt8.toInt32)).map Value.int) (.int 0)) (fa_8 : Exa Z ha v9 "java/lang/String") (fa_9 : Fld Z ha v9 "java/lang/String" "coder" "B" (.int 0)) (fa_10 : Fld Z ha v9 "java/lang/String" "value" "[B" (.ref v10)) (fa_11 : Arv Z ha v10 v11 .byte (Int32.ofNat v12.length) ((v12.map (fun c => c.toInt8.toInt32)).map Value.int) (.int 0)), Gl p.tables e below (EndH s Z consts_1 (Q_law Z p0 p1 p2 p3 p4 Y1 h0 n0) room_1.cells room_1.slots) (Ta.setTop (mkF m 161 #[.val (.int p0), .val (.int p1), .val (.int p2), .val (.int p3), .val (.int p4), .val (.int fA), .val (.int fB), .val (.int gq7), .val (.int gq8), .val (.int (((p4.toUInt32 >>> ((3 : Int32) &&& 31).toUInt32).toInt32) &&& (3 : Int32))), .val (.int ((p0 &&& (2147483647 : Int32)) % (3 : Int32))), .val (.int lB), .val (.int cB), .val (.ref v1), .val (.ref v9), .val (.ref rA), .unset, .unset, .unset, .unset, .unset] [])) := by
        intro Ta ha La vma ka hSa hZa hoa hka Ca Xa ea Na za rA fa_0 fa_1 fa_2 fa_3 fa_4 fa_5 fa_6 fa_7 fa_8 fa_9 fa_10 fa_11
        show Gl p.tables e below _ (Ta.setTop (mkF m 161 #[.val (.int p0), .val (.int p1), .val (.int p2), .val (.int p3), .val (.int p4), .val (.int fA), .val (.int fB), .val (.int gq7), .val (.int gq8), .val (.int (((p4.toUInt32 >>> ((3 : Int32) &&& 31).toUInt32).toInt32) &&& (3 : Int32))), .val (.int ((p0 &&& (2147483647 : Int32)) % (3 : Int32))), .val (.int lB), .val (.int cB), .val (.ref v1), .val (.ref v9), .val (.ref rA), .unset, .unset, .unset, .unset, .unset] []))
        refine Gl.st (fun _ kq => XS.iload Xa.here hx rfl (hb hby at_161) rfl kq) ?_
        show Gl p.tables e below _ (Ta.setTop (mkF m 163 #[.val (.int p0), .val (.int p1), .val (.int p2), .val (.int p3), .val (.int p4), .val (.int fA), .val (.int fB), .val (.int gq7), .val (.int gq8), .val (.int (((p4.toUInt32 >>> ((3 : Int32) &&& 31).toUInt32).toInt32) &&& (3 : Int32))), .val (.int ((p0 &&& (2147483647 : Int32)) % (3 : Int32))), .val (.int lB), .val (.int cB), .val (.ref v1), .val (.ref v9), .val (.ref rA), .unset, .unset, .unset, .unset, .unset] [(.int (((p4.toUInt32 >>> ((3 : Int32) &&& 31).toUInt32).toInt32) &&& (3 : Int32)))]))
        refine Gl.st (fun _ kq => XS.iconst Xa.here hx rfl (hb hby at_163) kq) ?_
        show Gl p.tables e below _ (Ta.setTop (mkF m 164 #[.val (.int p0), .val (.int p1), .val (.int p2), .val (.int p3), .val (.int p4), .val (.int fA), .val (.int fB), .val (.int gq7), .val (.int gq8), .val (.int (((p4.toUInt32 >>> ((3 : Int32) &&& 31).toUInt32).toInt32) &&& (3 : Int32))), .val (.int ((p0 &&& (2147483647 : Int32)) % (3 : Int32))), .val (.int lB), .val (.int cB), .val (.ref v1), .val (.ref v9), .val (.ref rA), .unset, .unset, .unset, .unset, .unset] [(.int 1), (.int (((p4.toUInt32 >>> ((3 : Int32) &&& 31).toUInt32).toInt32) &&& (3 : Int32)))]))
        by_cases hc22 : (((p4.toUInt32 >>> ((3 : Int32) &&& 31).toUInt32).toInt32) &&& (3 : Int32)) = (1 : Int32)
        · refine Gl.st (fun _ kq => XS.icmpNo Xa.here hx rfl (hb hby at_164) rfl (teq (hc22 : (((p4.toUInt32 >>> ((3 : Int32) &&& 31).toUInt32).toInt32) &&& (3 : Int32)) = (1 : Int32))).2 kq) ?_
          show Gl p.tables e below _ (Ta.setTop (mkF m 167 #[.val (.int p0), .val (.int p1), .val (.int p2), .val (.int p3), .val (.int p4), .val (.int fA), .val (.int fB), .val (.int gq7), .val (.int gq8), .val (.int (((p4.toUInt32 >>> ((3 : Int32) &&& 31).toUInt32).toInt32) &&& (3 : Int32))), .val (.int ((p0 &&& (2147483647 : Int32)) % (3 : Int32))), .val (.int lB), .val (.int cB), .val (.ref v1), .val (.ref v9), .val (.ref rA), .unset, .unset, .unset, .unset, .unset] []))
          refine Gl.st (fun _ kq => XS.aload Xa.here hx rfl (hb hby at_167) rfl rfl kq) ?_
          show Gl p.tables e below _ (Ta.setTop (mkF m 169 #[.val (.int p0), .val (.int p1), .val (.int p2), .val (.int p3), .val (.int p4), .val (.int fA), .val (.int fB), .val (.int gq7), .val (.int gq8), .val (.int (((p4.toUInt32 >>> ((3 : Int32) &&& 31).toUInt32).toInt32) &&& (3 : Int32))), .val (.int ((p0 &&& (2147483647 : Int32)) % (3 : Int32))), .val (.int lB), .val (.int cB), .val (.ref v1), .val (.ref v9), .val (.ref rA), .unset, .unset, .unset, .unset, .unset] [(.ref rA)]))
          refine Gl.st (fun _ kq => XS.aconstNull Xa.here hx rfl (hb hby at_169) kq) ?_
          show Gl p.tables e below _ (Ta.setTop (mkF m 170 #[.val (.int p0), .val (.int p1), .val (.int p2), .val (.int p3), .val (.int p4), .val (.int fA), .val (.int fB), .val (.int gq7), .val (.int gq8), .val (.int (((p4.toUInt32 >>> ((3 : Int32) &&& 31).toUInt32).toInt32) &&& (3 : Int32))), .val (.int ((p0 &&& (2147483647 : Int32)) % (3 : Int32))), .val (.int lB), .val (.int cB), .val (.ref v1), .val (.ref v9), .val (.ref rA), .unset, .unset, .unset, .unset, .unset] [.null, (.ref rA)]))
          obtain ⟨cq23, kq23, q23a, q23b, q23c⟩ := isOf (s := s.setVm vma) hZa ea fa_0
          obtain ⟨_, _, ⟨T23, L23, k23, n23⟩, -, X23, ⟨Lc23, hQ23, l23, y23, z23⟩, st23⟩ := Xa.virtualBack hx (y := (⟨"com/example/rooted_tableau/rootedtableau/model/Role", "equals", "(Ljava/lang/Object;)Z"⟩ : MethodName)) (z := (⟨"com/example/rooted_tableau/rootedtableau/model/Role", "equals", "(Ljava/lang/Object;)Z"⟩ : MethodName)) hoa (mvT hZa (tw hw 58 rfl)) (mvT hZa (tw hw 59 rfl)) (notFace_of_selects (args := #[]) (mvT hZa (tw hw 61 rfl))) (mvT hZa (tw hw 61 rfl)) (mvT hZa (tw hw 60 rfl)) (by decide) (backOf (W := 0) (rm_eqn l Z a0 hw [] (rA) ha n0 za ) hZa (tw hw 62 rfl) (tw hw 40 rfl) (by decide) (by decide)) q23a q23c (g := (mkF m 170 #[.val (.int p0), .val (.int p1), .val (.int p2), .val (.int p3), .val (.int p4), .val (.int fA), .val (.int fB), .val (.int gq7), .val (.int gq8), .val (.int (((p4.toUInt32 >>> ((3 : Int32) &&& 31).toUInt32).toInt32) &&& (3 : Int32))), .val (.int ((p0 &&& (2147483647 : Int32)) % (3 : Int32))), .val (.int lB), .val (.int cB), .val (.ref v1), .val (.ref v9), .val (.ref rA), .unset, .unset, .unset, .unset, .unset] [.null, (.ref rA)])) rfl (by rw [hml]; rfl) (Steps.refl _) (argsL := [.null]) (rest := []) (lenOf pd__Ljava_lang_Object__Z rfl) rfl (by show 2 * 0 + _ ≤ _; exact Nat.le_of_eq rfl) (hb hby at_170) (fun _ _ => ⟨rfl, ea, (by decide : 21 + 0 ≤ _), (by decide : 82 + 0 ≤ _)⟩)
          dsimp only [Pt.U, Pt.locs, Pt.cells, Pt.slots] at X23 l23 y23 z23 st23 hQ23
          subst l23 y23 z23
          obtain ⟨rfl, N23, e23⟩ := hQ23
          have M23 := Fr.app Na N23
          refine Gl.to st23 ?_
          show Gl p.tables e below _ (T23.setTop (mkF m 173 #[.val (.int p0), .val (.int p1), .val (.int p2), .val (.int p3), .val (.int p4), .val (.int fA), .val (.int fB), .val (.int gq7), .val (.int gq8), .val (.int (((p4.toUInt32 >>> ((3 : Int32) &&& 31).toUInt32).toInt32) &&& (3 : Int32))), .val (.int ((p0 &&& (2147483647 : Int32)) % (3 : Int32))), .val (.int lB), .val (.int cB), .val (.ref v1), .val (.ref v9), .val (.ref rA), .unset, .unset, .unset, .unset, .unset] [(.int 0)]))
          show Gl p.tables e below _ (T23.setTop (mkF m 173 #[.val (.int p0), .val (.int p1), .val (.int p2), .val (.int p3), .val (.int p4), .val (.int fA), .val (.int fB), .val (.int gq7), .val (.int gq8), .val (.int (((p4.toUInt32 >>> ((3 : Int32) &&& 31).toUInt32).toInt32) &&& (3 : Int32))), .val (.int ((p0 &&& (2147483647 : Int32)) % (3 : Int32))), .val (.int lB), .val (.int cB), .val (.ref v1), .val (.ref v9), .val (.ref rA), .unset, .unset, .unset, .unset, .unset] [(.int 0)]))
          refine Gl.st (fun _ kq => XS.ifNo X23.here hx rfl (hb hby at_173) rfl ((if0 _ _).trans (teq ((by decide) : (0 : Int32) = (0 : Int32))).2) kq) ?_
          show Gl p.tables e below _ (T23.setTop (mkF m 176 #[.val (.int p0), .val (.int p1), .val (.int p2), .val (.int p3), .val (.int p4), .val (.int fA), .val (.int fB), .val (.int gq7), .val (.int gq8), .val (.int (((p4.toUInt32 >>> ((3 : Int32) &&& 31).toUInt32).toInt32) &&& (3 : Int32))), .val (.int ((p0 &&& (2147483647 : Int32)) % (3 : Int32))), .val (.int lB), .val (.int cB), .val (.ref v1), .val (.ref v9), .val (.ref rA), .unset, .unset, .unset, .unset, .unset] []))
          refine Gl.st (fun _ kq => XS.iconst X23.here hx rfl (hb hby at_176) kq) ?_
          show Gl p.tables e below _ (T23.setTop (mkF m 177 #[.val (.int p0), .val (.int p1), .val (.int p2), .val (.int p3), .val (.int p4), .val (.int fA), .val (.int fB), .val (.int gq7), .val (.int gq8), .val (.int (((p4.toUInt32 >>> ((3 : Int32) &&& 31).toUInt32).toInt32) &&& (3 : Int32))), .val (.int ((p0 &&& (2147483647 : Int32)) % (3 : Int32))), .val (.int lB), .val (.int cB), .val (.ref v1), .val (.ref v9), .val (.ref rA), .unset, .unset, .unset, .unset, .unset] [(.int 1)]))
          refine Gl.st (fun _ kq => XS.goto X23.here hx rfl (pc0 := 177) (pc' := 181) rfl (hb hby at_177) (by decide) (by decide) kq) ?_
          show Gl p.tables e below _ (T23.setTop (mkF m 181 #[.val (.int p0), .val (.int p1), .val (.int p2), .val (.int p3), .val (.int p4), .val (.int fA), .val (.int fB), .val (.int gq7), .val (.int gq8), .val (.int (((p4.toUInt32 >>> ((3 : Int32) &&& 31).toUInt32).toInt32) &&& (3 : Int32))), .val (.int ((p0 &&& (2147483647 : Int32)) % (3 : Int32))), .val (.int lB), .val (.int cB), .val (.ref v1), .val (.ref v9), .val (.ref rA), .unset, .unset, .unset, .unset, .unset] [(.int 1)]))
          exact Gl.retNH X23 hx hSa (Nat.le_trans hka (Nat.le_of_eq (congrArg Array.size e23).symm)) (by rw [hh, e23]; exact Ca.trans (CHv.at X23 hZa (elW hw) Ca.1)) (t := .boolean) Bd.returns (by simp) (hb hby at_181) hlk (by decide) (by decide) (by rw [e23]; exact ⟨rfl, M23⟩)
        · refine Gl.st (fun _ kq => XS.icmpYes Xa.here hx rfl (pc0 := 164) (pc' := 182) rfl (hb hby at_164) rfl (feq (hc22 : ¬ ((((p4.toUInt32 >>> ((3 : Int32) &&& 31).toUInt32).toInt32) &&& (3 : Int32)) = (1 : Int32)))).2 (by decide) (by decide) kq) ?_
          show Gl p.tables e below _ (Ta.setTop (mkF m 182 #[.val (.int p0), .val (.int p1), .val (.int p2), .val (.int p3), .val (.int p4), .val (.int fA), .val (.int fB), .val (.int gq7), .val (.int gq8), .val (.int (((p4.toUInt32 >>> ((3 : Int32) &&& 31).toUInt32).toInt32) &&& (3 : Int32))), .val (.int ((p0 &&& (2147483647 : Int32)) % (3 : Int32))), .val (.int lB), .val (.int cB), .val (.ref v1), .val (.ref v9), .val (.ref rA), .unset, .unset, .unset, .unset, .unset] []))
          refine Gl.st (fun _ kq => XS.iload Xa.here hx rfl (hb hby at_182) rfl kq) ?_
          show Gl p.tables e below _ (Ta.setTop (mkF m 184 #[.val (.int p0), .val (.int p1), .val (.int p2), .val (.int p3), .val (.int p4), .val (.int fA), .val (.int fB), .val (.int gq7), .val (.int gq8), .val (.int (((p4.toUInt32 >>> ((3 : Int32) &&& 31).toUInt32).toInt32) &&& (3 : Int32))), .val (.int ((p0 &&& (2147483647 : Int32)) % (3 : Int32))), .val (.int lB), .val (.int cB), .val (.ref v1), .val (.ref v9), .val (.ref rA), .unset, .unset, .unset, .unset, .unset] [(.int (((p4.toUInt32 >>> ((3 : Int32) &&& 31).toUInt32).toInt32) &&& (3 : Int32)))]))
          refine Gl.st (fun _ kq => XS.iconst Xa.here hx rfl (hb hby at_184) kq) ?_
          show Gl p.tables e below _ (Ta.setTop (mkF m 185 #[.val (.int p0), .val (.int p1), .val (.int p2), .val (.int p3), .val (.int p4), .val (.int fA), .val (.int fB), .val (.int gq7), .val (.int gq8), .val (.int (((p4.toUInt32 >>> ((3 : Int32) &&& 31).toUInt32).toInt32) &&& (3 : Int32))), .val (.int ((p0 &&& (2147483647 : Int32)) % (3 : Int32))), .val (.int lB), .val (.int cB), .val (.ref v1), .val (.ref v9), .val (.ref rA), .unset, .unset, .unset, .unset, .unset] [(.int 2), (.int (((p4.toUInt32 >>> ((3 : Int32) &&& 31).toUInt32).toInt32) &&& (3 : Int32)))]))
          by_cases hc24 : (((p4.toUInt32 >>> ((3 : Int32) &&& 31).toUInt32).toInt32) &&& (3 : Int32)) = (2 : Int32)
          · refine Gl.st (fun _ kq => XS.icmpNo Xa.here hx rfl (hb hby at_185) rfl (teq (hc24 : (((p4.toUInt32 >>> ((3 : Int32) &&& 31).toUInt32).toInt32) &&& (3 : Int32)) = (2 : Int32))).2 kq) ?_
            show Gl p.tables e below _ (Ta.setTop (mkF m 188 #[.val (.int p0), .val (.int p1), .val (.int p2), .val (.int p3), .val (.int p4), .val (.int fA), .val (.int fB), .val (.int gq7), .val (.int gq8), .val (.int (((p4.toUInt32 >>> ((3 : Int32) &&& 31).toUInt32).toInt32) &&& (3 : Int32))), .val (.int ((p0 &&& (2147483647 : Int32)) % (3 : Int32))), .val (.int lB), .val (.int cB), .val (.ref v1), .val (.ref v9), .val (.ref rA), .unset, .unset, .unset, .unset, .unset] []))
            refine Gl.st (fun _ kq => XS.aload Xa.here hx rfl (hb hby at_188) rfl rfl kq) ?_
            show Gl p.tables e below _ (Ta.setTop (mkF m 190 #[.val (.int p0), .val (.int p1), .val (.int p2), .val (.int p3), .val (.int p4), .val (.int fA), .val (.int fB), .val (.int gq7), .val (.int gq8), .val (.int (((p4.toUInt32 >>> ((3 : Int32) &&& 31).toUInt32).toInt32) &&& (3 : Int32))), .val (.int ((p0 &&& (2147483647 : Int32)) % (3 : Int32))), .val (.int lB), .val (.int cB), .val (.ref v1), .val (.ref v9), .val (.ref rA), .unset, .unset, .unset, .unset, .unset] [(.ref rA)]))
            refine Gl.st (fun _ kq => XS.aload Xa.here hx rfl (hb hby at_190) rfl rfl kq) ?_
            show Gl p.tables e below _ (Ta.setTop (mkF m 192 #[.val (.int p0), .val (.int p1), .val (.int p2), .val (.int p3), .val (.int p4), .val (.int fA), .val (.int fB), .val (.int gq7), .val (.int gq8), .val (.int (((p4.toUInt32 >>> ((3 : Int32) &&& 31).toUInt32).toInt32) &&& (3 : Int32))), .val (.int ((p0 &&& (2147483647 : Int32)) % (3 : Int32))), .val (.int lB), .val (.int cB), .val (.ref v1), .val (.ref v9), .val (.ref rA), .unset, .unset, .unset, .unset, .unset] [(.ref v1), (.ref rA)]))
            obtain ⟨cq25, kq25, q25a, q25b, q25c⟩ := isOf (s := s.setVm vma) hZa ea fa_0
            obtain ⟨_, _, ⟨T25, L25, k25, n25⟩, -, X25, ⟨Lc25, hQ25, l25, y25, z25⟩, st25⟩ := Xa.virtualBack hx (y := (⟨"com/example/rooted_tableau/rootedtableau/model/Role", "equals", "(Ljava/lang/Object;)Z"⟩ : MethodName)) (z := (⟨"com/example/rooted_tableau/rootedtableau/model/Role", "equals", "(Ljava/lang/Object;)Z"⟩ : MethodName)) hoa (mvT hZa (tw hw 58 rfl)) (mvT hZa (tw hw 59 rfl)) (notFace_of_selects (args := #[]) (mvT hZa (tw hw 61 rfl))) (mvT hZa (tw hw 61 rfl)) (mvT hZa (tw hw 60 rfl)) (by decide) (backOf (W := 0) (rm_eqs l Z a0 hw [] (rA) (v1) ha n0 za fa_4) hZa (tw hw 62 rfl) (tw hw 40 rfl) (by decide) (by decide)) q25a q25c (g := (mkF m 192 #[.val (.int p0), .val (.int p1), .val (.int p2), .val (.int p3), .val (.int p4), .val (.int fA), .val (.int fB), .val (.int gq7), .val (.int gq8), .val (.int (((p4.toUInt32 >>> ((3 : Int32) &&& 31).toUInt32).toInt32) &&& (3 : Int32))), .val (.int ((p0 &&& (2147483647 : Int32)) % (3 : Int32))), .val (.int lB), .val (.int cB), .val (.ref v1), .val (.ref v9), .val (.ref rA), .unset, .unset, .unset, .unset, .unset] [(.ref v1), (.ref rA)])) rfl (by rw [hml]; rfl) (Steps.refl _) (argsL := [(.ref v1)]) (rest := []) (lenOf pd__Ljava_lang_Object__Z rfl) rfl (by show 2 * 0 + _ ≤ _; exact Nat.le_of_eq rfl) (hb hby at_192) (fun _ _ => ⟨rfl, ea, (by decide : 21 + 0 ≤ _), (by decide : 82 + 0 ≤ _)⟩)
            dsimp only [Pt.U, Pt.locs, Pt.cells, Pt.slots] at X25 l25 y25 z25 st25 hQ25
            subst l25 y25 z25
            obtain ⟨rfl, N25, e25⟩ := hQ25
            have M25 := Fr.app Na N25
            refine Gl.to st25 ?_
            show Gl p.tables e below _ (T25.setTop (mkF m 195 #[.val (.int p0), .val (.int p1), .val (.int p2), .val (.int p3), .val (.int p4), .val (.int fA), .val (.int fB), .val (.int gq7), .val (.int gq8), .val (.int (((p4.toUInt32 >>> ((3 : Int32) &&& 31).toUInt32).toInt32) &&& (3 : Int32))), .val (.int ((p0 &&& (2147483647 : Int32)) % (3 : Int32))), .val (.int lB), .val (.int cB), .val (.ref v1), .val (.ref v9), .val (.ref rA), .unset, .unset, .unset, .unset, .unset] [(.int 0)]))
            show Gl p.tables e below _ (T25.setTop (mkF m 195 #[.val (.int p0), .val (.int p1), .val (.int p2), .val (.int p3), .val (.int p4), .val (.int fA), .val (.int fB), .val (.int gq7), .val (.int gq8), .val (.int (((p4.toUInt32 >>> ((3 : Int32) &&& 31).toUInt32).toInt32) &&& (3 : Int32))), .val (.int ((p0 &&& (2147483647 : Int32)) % (3 : Int32))), .val (.int lB), .val (.int cB), .val (.ref v1), .val (.ref v9), .val (.ref rA), .unset, .unset, .unset, .unset, .unset] [(.int 0)]))
            refine Gl.st (fun _ kq => XS.ifNo X25.here hx rfl (hb hby at_195) rfl ((if0 _ _).trans (teq ((by decide) : (0 : Int32) = (0 : Int32))).2) kq) ?_
            show Gl p.tables e below _ (T25.setTop (mkF m 198 #[.val (.int p0), .val (.int p1), .val (.int p2), .val (.int p3), .val (.int p4), .val (.int fA), .val (.int fB), .val (.int gq7), .val (.int gq8), .val (.int (((p4.toUInt32 >>> ((3 : Int32) &&& 31).toUInt32).toInt32) &&& (3 : Int32))), .val (.int ((p0 &&& (2147483647 : Int32)) % (3 : Int32))), .val (.int lB), .val (.int cB), .val (.ref v1), .val (.ref v9), .val (.ref rA), .unset, .unset, .unset, .unset, .unset] []))
            refine Gl.st (fun _ kq => XS.iconst X25.here hx rfl (hb hby at_198) kq) ?_
            show Gl p.tables e below _ (T25.setTop (mkF m 199 #[.val (.int p0), .val (.int p1), .val (.int p2), .val (.int p3), .val (.int p4), .val (.int fA), .val (.int fB), .val (.int gq7), .val (.int gq8), .val (.int (((p4.toUInt32 >>> ((3 : Int32) &&& 31).toUInt32).toInt32) &&& (3 : Int32))), .val (.int ((p0 &&& (2147483647 : Int32)) % (3 : Int32))), .val (.int lB), .val (.int cB), .val (.ref v1), .val (.ref v9), .val (.ref rA), .unset, .unset, .unset, .unset, .unset] [(.int 1)]))
            refine Gl.st (fun _ kq => XS.goto X25.here hx rfl (pc0 := 199) (pc' := 203) rfl (hb hby at_199) (by decide) (by decide) kq) ?_
            show Gl p.tables e below _ (T25.setTop (mkF m 203 #[.val (.int p0), .val (.int p1), .val (.int p2), .val (.int p3), .val (.int p4), .val (.int fA), .val (.int fB), .val (.int gq7), .val (.int gq8), .val (.int (((p4.toUInt32 >>> ((3 : Int32) &&& 31).toUInt32).toInt32) &&& (3 : Int32))), .val (.int ((p0 &&& (2147483647 : Int32)) % (3 : Int32))), .val (.int lB), .val (.int cB), .val (.ref v1), .val (.ref v9), .val (.ref rA), .unset, .unset, .unset, .unset, .unset] [(.int 1)]))
            exact Gl.retNH X25 hx hSa (Nat.le_trans hka (Nat.le_of_eq (congrArg Array.size e25).symm)) (by rw [hh, e25]; exact Ca.trans (CHv.at X25 hZa (elW hw) Ca.1)) (t := .boolean) Bd.returns (by simp) (hb hby at_203) hlk (by decide) (by decide) (by rw [e25]; exact ⟨rfl, M25⟩)
          · refine Gl.st (fun _ kq => XS.icmpYes Xa.here hx rfl (pc0 := 185) (pc' := 204) rfl (hb hby at_185) rfl (feq (hc24 : ¬ ((((p4.toUInt32 >>> ((3 : Int32) &&& 31).toUInt32).toInt32) &&& (3 : Int32)) = (2 : Int32)))).2 (by decide) (by decide) kq) ?_
            show Gl p.tables e below _ (Ta.setTop (mkF m 204 #[.val (.int p0), .val (.int p1), .val (.int p2), .val (.int p3), .val (.int p4), .val (.int fA), .val (.int fB), .val (.int gq7), .val (.int gq8), .val (.int (((p4.toUInt32 >>> ((3 : Int32) &&& 31).toUInt32).toInt32) &&& (3 : Int32))), .val (.int ((p0 &&& (2147483647 : Int32)) % (3 : Int32))), .val (.int lB), .val (.int cB), .val (.ref v1), .val (.ref v9), .val (.ref rA), .unset, .unset, .unset, .unset, .unset] []))
            refine Gl.st (fun _ kq => XS.iload Xa.here hx rfl (hb hby at_204) rfl kq) ?_
            show Gl p.tables e below _ (Ta.setTop (mkF m 206 #[.val (.int p0), .val (.int p1), .val (.int p2), .val (.int p3), .val (.int p4), .val (.int fA), .val (.int fB), .val (.int gq7), .val (.int gq8), .val (.int (((p4.toUInt32 >>> ((3 : Int32) &&& 31).toUInt32).toInt32) &&& (3 : Int32))), .val (.int ((p0 &&& (2147483647 : Int32)) % (3 : Int32))), .val (.int lB), .val (.int cB), .val (.ref v1), .val (.ref v9), .val (.ref rA), .unset, .unset, .unset, .unset, .unset] [(.int (((p4.toUInt32 >>> ((3 : Int32) &&& 31).toUInt32).toInt32) &&& (3 : Int32)))]))
            refine Gl.st (fun _ kq => XS.iconst Xa.here hx rfl (hb hby at_206) kq) ?_
            show Gl p.tables e below _ (Ta.setTop (mkF m 207 #[.val (.int p0), .val (.int p1), .val (.int p2), .val (.int p3), .val (.int p4), .val (.int fA), .val (.int fB), .val (.int gq7), .val (.int gq8), .val (.int (((p4.toUInt32 >>> ((3 : Int32) &&& 31).toUInt32).toInt32) &&& (3 : Int32))), .val (.int ((p0 &&& (2147483647 : Int32)) % (3 : Int32))), .val (.int lB), .val (.int cB), .val (.ref v1), .val (.ref v9), .val (.ref rA), .unset, .unset, .unset, .unset, .unset] [(.int 3), (.int (((p4.toUInt32 >>> ((3 : Int32) &&& 31).toUInt32).toInt32) &&& (3 : Int32)))]))
            by_cases hc26 : (((p4.toUInt32 >>> ((3 : Int32) &&& 31).toUInt32).toInt32) &&& (3 : Int32)) = (3 : Int32)
            · refine Gl.st (fun _ kq => XS.icmpNo Xa.here hx rfl (hb hby at_207) rfl (teq (hc26 : (((p4.toUInt32 >>> ((3 : Int32) &&& 31).toUInt32).toInt32) &&& (3 : Int32)) = (3 : Int32))).2 kq) ?_
              show Gl p.tables e below _ (Ta.setTop (mkF m 210 #[.val (.int p0), .val (.int p1), .val (.int p2), .val (.int p3), .val (.int p4), .val (.int fA), .val (.int fB), .val (.int gq7), .val (.int gq8), .val (.int (((p4.toUInt32 >>> ((3 : Int32) &&& 31).toUInt32).toInt32) &&& (3 : Int32))), .val (.int ((p0 &&& (2147483647 : Int32)) % (3 : Int32))), .val (.int lB), .val (.int cB), .val (.ref v1), .val (.ref v9), .val (.ref rA), .unset, .unset, .unset, .unset, .unset] []))
              refine Gl.st (fun _ kq => XS.aload Xa.here hx rfl (hb hby at_210) rfl rfl kq) ?_
              show Gl p.tables e below _ (Ta.setTop (mkF m 212 #[.val (.int p0), .val (.int p1), .val (.int p2), .val (.int p3), .val (.int p4), .val (.int fA), .val (.int fB), .val (.int gq7), .val (.int gq8), .val (.int (((p4.toUInt32 >>> ((3 : Int32) &&& 31).toUInt32).toInt32) &&& (3 : Int32))), .val (.int ((p0 &&& (2147483647 : Int32)) % (3 : Int32))), .val (.int lB), .val (.int cB), .val (.ref v1), .val (.ref v9), .val (.ref rA), .unset, .unset, .unset, .unset, .unset] [(.ref rA)]))
              refine Gl.st (fun _ kq => XS.aload Xa.here hx rfl (hb hby at_212) rfl rfl kq) ?_
              show Gl p.tables e below _ (Ta.setTop (mkF m 214 #[.val (.int p0), .val (.int p1), .val (.int p2), .val (.int p3), .val (.int p4), .val (.int fA), .val (.int fB), .val (.int gq7), .val (.int gq8), .val (.int (((p4.toUInt32 >>> ((3 : Int32) &&& 31).toUInt32).toInt32) &&& (3 : Int32))), .val (.int ((p0 &&& (2147483647 : Int32)) % (3 : Int32))), .val (.int lB), .val (.int cB), .val (.ref v1), .val (.ref v9), .val (.ref rA), .unset, .unset, .unset, .unset, .unset] [(.ref rA), (.ref rA)]))
              obtain ⟨cq27, kq27, q27a, q27b, q27c⟩ := isOf (s := s.setVm vma) hZa ea fa_0
              obtain ⟨_, _, ⟨T27, L27, k27, n27⟩, -, X27, ⟨Lc27, hQ27, l27, y27, z27⟩, st27⟩ := Xa.virtualBack hx (y := (⟨"com/example/rooted_tableau/rootedtableau/model/Role", "equals", "(Ljava/lang/Object;)Z"⟩ : MethodName)) (z := (⟨"com/example/rooted_tableau/rootedtableau/model/Role", "equals", "(Ljava/lang/Object;)Z"⟩ : MethodName)) hoa (mvT hZa (tw hw 58 rfl)) (mvT hZa (tw hw 59 rfl)) (notFace_of_selects (args := #[]) (mvT hZa (tw hw 61 rfl))) (mvT hZa (tw hw 61 rfl)) (mvT hZa (tw hw 60 rfl)) (by decide) (backOf (W := 0) (rm_eqi l Z a0 hw [] (rA) (fA) (v1) (v2) (v3) (v4) (Y1) ha n0 za fa_0 fa_2 fa_1 fa_4 fa_5 fa_6 fa_7 fa_3 (fun c hc => mk_rng _ _ c (y5_0 ▸ hc)) (by rw [y5_0]; exact mk_len _ _) O2 P5) hZa (tw hw 62 rfl) (tw hw 40 rfl) (by decide) (by decide)) q27a q27c (g := (mkF m 214 #[.val (.int p0), .val (.int p1), .val (.int p2), .val (.int p3), .val (.int p4), .val (.int fA), .val (.int fB), .val (.int gq7), .val (.int gq8), .val (.int (((p4.toUInt32 >>> ((3 : Int32) &&& 31).toUInt32).toInt32) &&& (3 : Int32))), .val (.int ((p0 &&& (2147483647 : Int32)) % (3 : Int32))), .val (.int lB), .val (.int cB), .val (.ref v1), .val (.ref v9), .val (.ref rA), .unset, .unset, .unset, .unset, .unset] [(.ref rA), (.ref rA)])) rfl (by rw [hml]; rfl) (Steps.refl _) (argsL := [(.ref rA)]) (rest := []) (lenOf pd__Ljava_lang_Object__Z rfl) rfl (by show 2 * 0 + _ ≤ _; exact Nat.le_of_eq rfl) (hb hby at_214) (fun _ _ => ⟨rfl, ea, (by decide : 21 + 0 ≤ _), (by decide : 82 + 0 ≤ _)⟩)
              dsimp only [Pt.U, Pt.locs, Pt.cells, Pt.slots] at X27 l27 y27 z27 st27 hQ27
              subst l27 y27 z27
              obtain ⟨rfl, N27, e27⟩ := hQ27
              have M27 := Fr.app Na N27
              refine Gl.to st27 ?_
              show Gl p.tables e below _ (T27.setTop (mkF m 217 #[.val (.int p0), .val (.int p1), .val (.int p2), .val (.int p3), .val (.int p4), .val (.int fA), .val (.int fB), .val (.int gq7), .val (.int gq8), .val (.int (((p4.toUInt32 >>> ((3 : Int32) &&& 31).toUInt32).toInt32) &&& (3 : Int32))), .val (.int ((p0 &&& (2147483647 : Int32)) % (3 : Int32))), .val (.int lB), .val (.int cB), .val (.ref v1), .val (.ref v9), .val (.ref rA), .unset, .unset, .unset, .unset, .unset] [(.int 1)]))
              show Gl p.tables e below _ (T27.setTop (mkF m 217 #[.val (.int p0), .val (.int p1), .val (.int p2), .val (.int p3), .val (.int p4), .val (.int fA), .val (.int fB), .val (.int gq7), .val (.int gq8), .val (.int (((p4.toUInt32 >>> ((3 : Int32) &&& 31).toUInt32).toInt32) &&& (3 : Int32))), .val (.int ((p0 &&& (2147483647 : Int32)) % (3 : Int32))), .val (.int lB), .val (.int cB), .val (.ref v1), .val (.ref v9), .val (.ref rA), .unset, .unset, .unset, .unset, .unset] [(.int 1)]))
              exact Gl.retNH X27 hx hSa (Nat.le_trans hka (Nat.le_of_eq (congrArg Array.size e27).symm)) (by rw [hh, e27]; exact Ca.trans (CHv.at X27 hZa (elW hw) Ca.1)) (t := .boolean) Bd.returns (by simp) (hb hby at_217) hlk (by decide) (by decide) (by rw [e27]; exact ⟨rfl, M27⟩)
            · refine Gl.st (fun _ kq => XS.icmpYes Xa.here hx rfl (pc0 := 207) (pc' := 218) rfl (hb hby at_207) rfl (feq (hc26 : ¬ ((((p4.toUInt32 >>> ((3 : Int32) &&& 31).toUInt32).toInt32) &&& (3 : Int32)) = (3 : Int32)))).2 (by decide) (by decide) kq) ?_
              show Gl p.tables e below _ (Ta.setTop (mkF m 218 #[.val (.int p0), .val (.int p1), .val (.int p2), .val (.int p3), .val (.int p4), .val (.int fA), .val (.int fB), .val (.int gq7), .val (.int gq8), .val (.int (((p4.toUInt32 >>> ((3 : Int32) &&& 31).toUInt32).toInt32) &&& (3 : Int32))), .val (.int ((p0 &&& (2147483647 : Int32)) % (3 : Int32))), .val (.int lB), .val (.int cB), .val (.ref v1), .val (.ref v9), .val (.ref rA), .unset, .unset, .unset, .unset, .unset] []))
              obtain ⟨T28, h28, X28, e28, E28, A28, D28, U28, st28⟩ := newO Xa hx hZa hoa (tw hw 38 rfl) (tw hw 39 rfl) (tw hw 40 rfl) ea (g := (mkF m 218 #[.val (.int p0), .val (.int p1), .val (.int p2), .val (.int p3), .val (.int p4), .val (.int fA), .val (.int fB), .val (.int gq7), .val (.int gq8), .val (.int (((p4.toUInt32 >>> ((3 : Int32) &&& 31).toUInt32).toInt32) &&& (3 : Int32))), .val (.int ((p0 &&& (2147483647 : Int32)) % (3 : Int32))), .val (.int lB), .val (.int cB), .val (.ref v1), .val (.ref v9), .val (.ref rA), .unset, .unset, .unset, .unset, .unset] [])) rfl (hb hby at_218) (by decide) (by decide)
              obtain ⟨b28, g28⟩ : ∃ z, z = ha.size := ⟨_, rfl⟩
              rw [← g28] at A28 D28 U28 st28
              refine Gl.st st28 ?_
              have g29 : n0 ≤ b28 := Nat.le_trans za (Nat.le_of_eq g28.symm)
              have C30 : CHr Z consts_1 s.vm h0 vma h28 := Ca.trans (CHr.ext E28 Ca.1)
              have F28_55 : Fld Z h28 b28 "com/example/rooted_tableau/rootedtableau/model/Role" "iri" "Ljava/lang/String;" .null := D28 (Or.inr (tw hw 55 rfl)) (ty := (.object "java/lang/String")) (by decide)
              have F28_57 : Fld Z h28 b28 "com/example/rooted_tableau/rootedtableau/model/Role" "inverse" "Z" (.int 0) := D28 (Or.inr (tw hw 57 rfl)) (ty := .boolean) (by decide)
              show Gl p.tables e below _ (T28.setTop (mkF m 221 #[.val (.int p0), .val (.int p1), .val (.int p2), .val (.int p3), .val (.int p4), .val (.int fA), .val (.int fB), .val (.int gq7), .val (.int gq8), .val (.int (((p4.toUInt32 >>> ((3 : Int32) &&& 31).toUInt32).toInt32) &&& (3 : Int32))), .val (.int ((p0 &&& (2147483647 : Int32)) % (3 : Int32))), .val (.int lB), .val (.int cB), .val (.ref v1), .val (.ref v9), .val (.ref rA), .unset, .unset, .unset, .unset, .unset] [(.ref b28)]))
              refine Gl.st (fun _ kq => XS.dup X28.here hx rfl (hb hby at_221) rfl rfl kq) ?_
              show Gl p.tables e below _ (T28.setTop (mkF m 222 #[.val (.int p0), .val (.int p1), .val (.int p2), .val (.int p3), .val (.int p4), .val (.int fA), .val (.int fB), .val (.int gq7), .val (.int gq8), .val (.int (((p4.toUInt32 >>> ((3 : Int32) &&& 31).toUInt32).toInt32) &&& (3 : Int32))), .val (.int ((p0 &&& (2147483647 : Int32)) % (3 : Int32))), .val (.int lB), .val (.int cB), .val (.ref v1), .val (.ref v9), .val (.ref rA), .unset, .unset, .unset, .unset, .unset] [(.ref b28), (.ref b28)]))
              refine Gl.st (fun _ kq => XS.aload X28.here hx rfl (hb hby at_222) rfl rfl kq) ?_
              show Gl p.tables e below _ (T28.setTop (mkF m 224 #[.val (.int p0), .val (.int p1), .val (.int p2), .val (.int p3), .val (.int p4), .val (.int fA), .val (.int fB), .val (.int gq7), .val (.int gq8), .val (.int (((p4.toUInt32 >>> ((3 : Int32) &&& 31).toUInt32).toInt32) &&& (3 : Int32))), .val (.int ((p0 &&& (2147483647 : Int32)) % (3 : Int32))), .val (.int lB), .val (.int cB), .val (.ref v1), .val (.ref v9), .val (.ref rA), .unset, .unset, .unset, .unset, .unset] [(.ref v9), (.ref b28), (.ref b28)]))
              have f31 : Exa Z h28 v9 "java/lang/String" := (fa_8.ext E28)
              obtain ⟨_, _, ⟨T32, L32, k32, n32⟩, -, X32, S32, g32, ⟨Lc32, hQ32, l32, y32, z32, R32⟩, st32⟩ := X28.specialBackS hx (y := (⟨"com/example/rooted_tableau/rootedtableau/model/Role", "<init>", "(Ljava/lang/String;)V"⟩ : MethodName)) rfl hoa (mvT hZa (tw hw 41 rfl)) (mvT hZa (tw hw 42 rfl)) (mvT hZa (tw hw 43 rfl)) (by decide) (backOfSH (W := 1) (rm_ra l Z a0 hw [] (b28) (v9) (.null) ((0 : Int32)) h28 n0 (Nat.le_trans za E28.1) A28 F28_55 F28_57 f31 g29) hZa (tw hw 43 rfl) (tw hw 40 rfl) (by decide) (by decide) (elW hw) C30.1) (g := (mkF m 224 #[.val (.int p0), .val (.int p1), .val (.int p2), .val (.int p3), .val (.int p4), .val (.int fA), .val (.int fB), .val (.int gq7), .val (.int gq8), .val (.int (((p4.toUInt32 >>> ((3 : Int32) &&& 31).toUInt32).toInt32) &&& (3 : Int32))), .val (.int ((p0 &&& (2147483647 : Int32)) % (3 : Int32))), .val (.int lB), .val (.int cB), .val (.ref v1), .val (.ref v9), .val (.ref rA), .unset, .unset, .unset, .unset, .unset] [(.ref v9), (.ref b28), (.ref b28)])) rfl (by rw [hml]; rfl) (Steps.refl _) (a := b28) (argsL := [(.ref v9)]) (rest := [(.ref b28)]) (lenOf pd__Ljava_lang_String__V rfl) rfl (by show 2 * 0 + _ ≤ _; exact Nat.le_of_eq rfl) (hb hby at_224) (fun _ _ => ⟨rfl, e28, (by decide : 22 + 2 ≤ _), (by decide : 84 + 16 ≤ _)⟩)
              dsimp only [Pt.U, Pt.locs, Pt.cells, Pt.slots] at X32 l32 y32 z32 st32 hQ32 R32
              subst l32 y32 z32
              obtain ⟨X32, S32, hZ32, ho32⟩ := rebS hSa (Nat.le_trans (Nat.le_trans hka E28.1) (Nat.le_of_eq (congrArg Array.size e28).symm)) X32 S32 g32 hZa hoa
              obtain ⟨rfl, N32, K32, q32_0, q32_1, q32_2⟩ := hQ32
              have C33 : CHr Z consts_1 s.vm h0 T32.vm T32.heap := C30.trans R32
              have M32 := Fr.app Na N32
              refine Gl.to st32 ?_
              show Gl p.tables e below _ (T32.setTop (mkF m 227 #[.val (.int p0), .val (.int p1), .val (.int p2), .val (.int p3), .val (.int p4), .val (.int fA), .val (.int fB), .val (.int gq7), .val (.int gq8), .val (.int (((p4.toUInt32 >>> ((3 : Int32) &&& 31).toUInt32).toInt32) &&& (3 : Int32))), .val (.int ((p0 &&& (2147483647 : Int32)) % (3 : Int32))), .val (.int lB), .val (.int cB), .val (.ref v1), .val (.ref v9), .val (.ref rA), .unset, .unset, .unset, .unset, .unset] [(.ref b28)]))
              show Gl p.tables e below _ (T32.setTop (mkF m 227 #[.val (.int p0), .val (.int p1), .val (.int p2), .val (.int p3), .val (.int p4), .val (.int fA), .val (.int fB), .val (.int gq7), .val (.int gq8), .val (.int (((p4.toUInt32 >>> ((3 : Int32) &&& 31).toUInt32).toInt32) &&& (3 : Int32))), .val (.int ((p0 &&& (2147483647 : Int32)) % (3 : Int32))), .val (.int lB), .val (.int cB), .val (.ref v1), .val (.ref v9), .val (.ref rA), .unset, .unset, .unset, .unset, .unset] [(.ref b28)]))
              refine Gl.st (fun _ kq => XS.astore X32.here hx rfl (hb hby at_227) rfl rfl (l' := #[.val (.int p0), .val (.int p1), .val (.int p2), .val (.int p3), .val (.int p4), .val (.int fA), .val (.int fB), .val (.int gq7), .val (.int gq8), .val (.int (((p4.toUInt32 >>> ((3 : Int32) &&& 31).toUInt32).toInt32) &&& (3 : Int32))), .val (.int ((p0 &&& (2147483647 : Int32)) % (3 : Int32))), .val (.int lB), .val (.int cB), .val (.ref v1), .val (.ref v9), .val (.ref rA), .val (.ref b28), .unset, .unset, .unset, .unset]) rfl kq) ?_
              show Gl p.tables e below _ (T32.setTop (mkF m 229 #[.val (.int p0), .val (.int p1), .val (.int p2), .val (.int p3), .val (.int p4), .val (.int fA), .val (.int fB), .val (.int gq7), .val (.int gq8), .val (.int (((p4.toUInt32 >>> ((3 : Int32) &&& 31).toUInt32).toInt32) &&& (3 : Int32))), .val (.int ((p0 &&& (2147483647 : Int32)) % (3 : Int32))), .val (.int lB), .val (.int cB), .val (.ref v1), .val (.ref v9), .val (.ref rA), .val (.ref b28), .unset, .unset, .unset, .unset] []))
              have Jbb : ∀ (Tbb : State) (hbb : Heap) (Lbb : List Loc) (vmbb : Vm) (kbb : Nat) (hSbb : s.Since vmbb kbb) (hZbb : Z.Warmed39 vmbb) (hobb : vmbb.findClass "com/example/rooted_tableau/rootedtableau/model/RoleEqualsPinLaw" = some m.cls) (hkbb : kbb ≤ hbb.size) (Cbb : CHr Z consts_1 s.vm h0 vmbb hbb) (Xbb : Stand p l e room_1 (s.setVm vmbb) m #[(.int p0), (.int p1), (.int p2), (.int p3), (.int p4)] below meth c Tbb Lbb 30 140) (ebb : Tbb.heap = hbb) (Nbb : Fr n0 Lbb) (zbb : n0 ≤ hbb.size) (rB : Addr) (fbb_0 : Exa Z hbb rB "com/example/rooted_tableau/rootedtableau/model/Role") (fbb_1 : Fld Z hbb rB "com/example/rooted_tableau/rootedtableau/model/Role" "iri" "Ljava/lang/String;" (.ref v9)) (fbb_2 : Fld Z hbb rB "com/example/rooted_tableau/rootedtableau/model/Role" "inverse" "Z" (.int fB)) (fbb_3 : Exa Z hbb rA "com/example/rooted_tableau/rootedtableau/model/Role") (fbb_4 : Fld Z hbb rA "com/example/rooted_tableau/rootedtableau/model/Role" "iri" "Ljava/lang/String;" (.ref v1)) (fbb_5 : Fld Z hbb rA "com/example/rooted_tableau/rootedtableau/model/Role" "inverse" "Z" (.int fA)) (fbb_6 : Old Z n0 hbb) (fbb_7 : Exa Z hbb v1 "java/lang/String") (fbb_8 : Fld Z hbb v1 "java/lang/String" "coder" "B" (.int 0)) (fbb_9 : Fld Z hbb v1 "java/lang/String" "value" "[B" (.ref v2)) (fbb_10 : Arv Z hbb v2 v3 .byte (Int32.ofNat v4.length) ((v4.map (fun c => c.toInt8.toInt32)).map Value.int) (.int 0)) (fbb_11 : Exa Z hbb v9 "java/lang/String") (fbb_12 : Fld Z hbb v9 "java/lang/String" "coder" "B" (.int 0)) (fbb_13 : Fld Z hbb v9 "java/lang/String" "value" "[B" (.ref v10)) (fbb_14 : Arv Z hbb v10 v11 .byte (Int32.ofNat v12.length) ((v12.map (fun c => c.toInt8.toInt32)).map Value.int) (.int 0)), Gl p.tables e below (EndH s Z consts_1 (Q_law Z p0 p1 p2 p3 p4 Y1 h0 n0) room_1.cells room_1.slots) (Tbb.setTop (mkF m 241 #[.val (.int p0), .val (.int p1), .val (.int p2), .val (.int p3), .val (.int p4), .val (.int fA), .val (.int fB), .val (.int gq7), .val (.int gq8), .val (.int (((p4.toUInt32 >>> ((3 : Int32) &&& 31).toUInt32).toInt32) &&& (3 : Int32))), .val (.int ((p0 &&& (2147483647 : Int32)) % (3 : Int32))), .val (.int lB), .val (.int cB), .val (.ref v1), .val (.ref v9), .val (.ref rA), .val (.ref rB), .unset, .unset, .unset, .unset] [])) := by
                intro Tbb hbb Lbb vmbb kbb hSbb hZbb hobb hkbb Cbb Xbb ebb Nbb zbb rB fbb_0 fbb_1 fbb_2 fbb_3 fbb_4 fbb_5 fbb_6 fbb_7 fbb_8 fbb_9 fbb_10 fbb_11 fbb_12 fbb_13 fbb_14
                show Gl p.tables e below _ (Tbb.setTop (mkF m 241 #[.val (.int p0), .val (.int p1), .val (.int p2), .val (.int p3), .val (.int p4), .val (.int fA), .val (.int fB), .val (.int gq7), .val (.int gq8), .val (.int (((p4.toUInt32 >>> ((3 : Int32) &&& 31).toUInt32).toInt32) &&& (3 : Int32))), .val (.int ((p0 &&& (2147483647 : Int32)) % (3 : Int32))), .val (.int lB), .val (.int cB), .val (.ref v1), .val (.ref v9), .val (.ref rA), .val (.ref rB), .unset, .unset, .unset, .unset] []))
                have Js : ∀ (Ts : State) (hs : Heap) (Ls : List Loc) (vms : Vm) (ks : Nat) (hSs : s.Since vms ks) (hZs : Z.Warmed39 vms) (hos : vms.findClass "com/example/rooted_tableau/rootedtableau/model/RoleEqualsPinLaw" = some m.cls) (hks : ks ≤ hs.size) (Cs : CHr Z consts_1 s.vm h0 vms hs) (Xs : Stand p l e room_1 (s.setVm vms) m #[(.int p0), (.int p1), (.int p2), (.int p3), (.int p4)] below meth c Ts Ls 30 140) (es : Ts.heap = hs) (Ns : Fr n0 Ls) (zs : n0 ≤ hs.size) (ss : Int32) (fs_0 : Exa Z hs rB "com/example/rooted_tableau/rootedtableau/model/Role") (fs_1 : Fld Z hs rB "com/example/rooted_tableau/rootedtableau/model/Role" "iri" "Ljava/lang/String;" (.ref v9)) (fs_2 : Fld Z hs rB "com/example/rooted_tableau/rootedtableau/model/Role" "inverse" "Z" (.int fB)) (fs_3 : Exa Z hs rA "com/example/rooted_tableau/rootedtableau/model/Role") (fs_4 : Fld Z hs rA "com/example/rooted_tableau/rootedtableau/model/Role" "iri" "Ljava/lang/String;" (.ref v1)) (fs_5 : Fld Z hs rA "com/example/rooted_tableau/rootedtableau/model/Role" "inverse" "Z" (.int fA)) (fs_6 : Old Z n0 hs) (fs_7 : Exa Z hs v1 "java/lang/String") (fs_8 : Fld Z hs v1 "java/lang/String" "coder" "B" (.int 0)) (fs_9 : Fld Z hs v1 "java/lang/String" "value" "[B" (.ref v2)) (fs_10 : Arv Z hs v2 v3 .byte (Int32.ofNat v4.length) ((v4.map (fun c => c.toInt8.toInt32)).map Value.int) (.int 0)) (fs_11 : Exa Z hs v9 "java/lang/String") (fs_12 : Fld Z hs v9 "java/lang/String" "coder" "B" (.int 0)) (fs_13 : Fld Z hs v9 "java/lang/String" "value" "[B" (.ref v10)) (fs_14 : Arv Z hs v10 v11 .byte (Int32.ofNat v12.length) ((v12.map (fun c => c.toInt8.toInt32)).map Value.int) (.int 0)) (ys_0 : (ss = (1 : Int32) ∧ v4 = v12) ∨ (ss = (0 : Int32) ∧ ¬ (v4 = v12))), Gl p.tables e below (EndH s Z consts_1 (Q_law Z p0 p1 p2 p3 p4 Y1 h0 n0) room_1.cells room_1.slots) (Ts.setTop (mkF m 301 #[.val (.int p0), .val (.int p1), .val (.int p2), .val (.int p3), .val (.int p4), .val (.int fA), .val (.int fB), .val (.int gq7), .val (.int gq8), .val (.int (((p4.toUInt32 >>> ((3 : Int32) &&& 31).toUInt32).toInt32) &&& (3 : Int32))), .val (.int ((p0 &&& (2147483647 : Int32)) % (3 : Int32))), .val (.int lB), .val (.int cB), .val (.ref v1), .val (.ref v9), .val (.ref rA), .val (.ref rB), .val (.int ss), .unset, .unset, .unset] [])) := by
                  intro Ts hs Ls vms ks hSs hZs hos hks Cs Xs es Ns zs ss fs_0 fs_1 fs_2 fs_3 fs_4 fs_5 fs_6 fs_7 fs_8 fs_9 fs_10 fs_11 fs_12 fs_13 fs_14 ys_0
                  show Gl p.tables e below _ (Ts.setTop (mkF m 301 #[.val (.int p0), .val (.int p1), .val (.int p2), .val (.int p3), .val (.int p4), .val (.int fA), .val (.int fB), .val (.int gq7), .val (.int gq8), .val (.int (((p4.toUInt32 >>> ((3 : Int32) &&& 31).toUInt32).toInt32) &&& (3 : Int32))), .val (.int ((p0 &&& (2147483647 : Int32)) % (3 : Int32))), .val (.int lB), .val (.int cB), .val (.ref v1), .val (.ref v9), .val (.ref rA), .val (.ref rB), .val (.int ss), .unset, .unset, .unset] []))
                  rcases ys_0 with ⟨hss, hcs⟩ | ⟨hss, hcs⟩
                  · subst hss
                    show Gl p.tables e below _ (Ts.setTop (mkF m 301 #[.val (.int p0), .val (.int p1), .val (.int p2), .val (.int p3), .val (.int p4), .val (.int fA), .val (.int fB), .val (.int gq7), .val (.int gq8), .val (.int (((p4.toUInt32 >>> ((3 : Int32) &&& 31).toUInt32).toInt32) &&& (3 : Int32))), .val (.int ((p0 &&& (2147483647 : Int32)) % (3 : Int32))), .val (.int lB), .val (.int cB), .val (.ref v1), .val (.ref v9), .val (.ref rA), .val (.ref rB), .val (.int 1), .unset, .unset, .unset] []))
                    refine Gl.st (fun _ kq => XS.iload Xs.here hx rfl (hb hby at_301) rfl kq) ?_
                    show Gl p.tables e below _ (Ts.setTop (mkF m 303 #[.val (.int p0), .val (.int p1), .val (.int p2), .val (.int p3), .val (.int p4), .val (.int fA), .val (.int fB), .val (.int gq7), .val (.int gq8), .val (.int (((p4.toUInt32 >>> ((3 : Int32) &&& 31).toUInt32).toInt32) &&& (3 : Int32))), .val (.int ((p0 &&& (2147483647 : Int32)) % (3 : Int32))), .val (.int lB), .val (.int cB), .val (.ref v1), .val (.ref v9), .val (.ref rA), .val (.ref rB), .val (.int 1), .unset, .unset, .unset] [(.int 1)]))
                    refine Gl.st (fun _ kq => XS.ifNo Xs.here hx rfl (hb hby at_303) rfl ((if0 _ _).trans (feq ((by decide) : ¬ ((1 : Int32) = (0 : Int32)))).1) kq) ?_
                    show Gl p.tables e below _ (Ts.setTop (mkF m 306 #[.val (.int p0), .val (.int p1), .val (.int p2), .val (.int p3), .val (.int p4), .val (.int fA), .val (.int fB), .val (.int gq7), .val (.int gq8), .val (.int (((p4.toUInt32 >>> ((3 : Int32) &&& 31).toUInt32).toInt32) &&& (3 : Int32))), .val (.int ((p0 &&& (2147483647 : Int32)) % (3 : Int32))), .val (.int lB), .val (.int cB), .val (.ref v1), .val (.ref v9), .val (.ref rA), .val (.ref rB), .val (.int 1), .unset, .unset, .unset] []))
                    refine Gl.st (fun _ kq => XS.iload Xs.here hx rfl (hb hby at_306) rfl kq) ?_
                    show Gl p.tables e below _ (Ts.setTop (mkF m 308 #[.val (.int p0), .val (.int p1), .val (.int p2), .val (.int p3), .val (.int p4), .val (.int fA), .val (.int fB), .val (.int gq7), .val (.int gq8), .val (.int (((p4.toUInt32 >>> ((3 : Int32) &&& 31).toUInt32).toInt32) &&& (3 : Int32))), .val (.int ((p0 &&& (2147483647 : Int32)) % (3 : Int32))), .val (.int lB), .val (.int cB), .val (.ref v1), .val (.ref v9), .val (.ref rA), .val (.ref rB), .val (.int 1), .unset, .unset, .unset] [(.int fA)]))
                    refine Gl.st (fun _ kq => XS.iload Xs.here hx rfl (hb hby at_308) rfl kq) ?_
                    show Gl p.tables e below _ (Ts.setTop (mkF m 310 #[.val (.int p0), .val (.int p1), .val (.int p2), .val (.int p3), .val (.int p4), .val (.int fA), .val (.int fB), .val (.int gq7), .val (.int gq8), .val (.int (((p4.toUInt32 >>> ((3 : Int32) &&& 31).toUInt32).toInt32) &&& (3 : Int32))), .val (.int ((p0 &&& (2147483647 : Int32)) % (3 : Int32))), .val (.int lB), .val (.int cB), .val (.ref v1), .val (.ref v9), .val (.ref rA), .val (.ref rB), .val (.int 1), .unset, .unset, .unset] [(.int fB), (.int fA)]))
                    by_cases hc34 : fA = fB
                    · refine Gl.st (fun _ kq => XS.icmpNo Xs.here hx rfl (hb hby at_310) rfl (teq (hc34 : fA = fB)).2 kq) ?_
                      show Gl p.tables e below _ (Ts.setTop (mkF m 313 #[.val (.int p0), .val (.int p1), .val (.int p2), .val (.int p3), .val (.int p4), .val (.int fA), .val (.int fB), .val (.int gq7), .val (.int gq8), .val (.int (((p4.toUInt32 >>> ((3 : Int32) &&& 31).toUInt32).toInt32) &&& (3 : Int32))), .val (.int ((p0 &&& (2147483647 : Int32)) % (3 : Int32))), .val (.int lB), .val (.int cB), .val (.ref v1), .val (.ref v9), .val (.ref rA), .val (.ref rB), .val (.int 1), .unset, .unset, .unset] []))
                      refine Gl.st (fun _ kq => XS.iconst Xs.here hx rfl (hb hby at_313) kq) ?_
                      show Gl p.tables e below _ (Ts.setTop (mkF m 314 #[.val (.int p0), .val (.int p1), .val (.int p2), .val (.int p3), .val (.int p4), .val (.int fA), .val (.int fB), .val (.int gq7), .val (.int gq8), .val (.int (((p4.toUInt32 >>> ((3 : Int32) &&& 31).toUInt32).toInt32) &&& (3 : Int32))), .val (.int ((p0 &&& (2147483647 : Int32)) % (3 : Int32))), .val (.int lB), .val (.int cB), .val (.ref v1), .val (.ref v9), .val (.ref rA), .val (.ref rB), .val (.int 1), .unset, .unset, .unset] [(.int 1)]))
                      refine Gl.st (fun _ kq => XS.goto Xs.here hx rfl (pc0 := 314) (pc' := 318) rfl (hb hby at_314) (by decide) (by decide) kq) ?_
                      show Gl p.tables e below _ (Ts.setTop (mkF m 318 #[.val (.int p0), .val (.int p1), .val (.int p2), .val (.int p3), .val (.int p4), .val (.int fA), .val (.int fB), .val (.int gq7), .val (.int gq8), .val (.int (((p4.toUInt32 >>> ((3 : Int32) &&& 31).toUInt32).toInt32) &&& (3 : Int32))), .val (.int ((p0 &&& (2147483647 : Int32)) % (3 : Int32))), .val (.int lB), .val (.int cB), .val (.ref v1), .val (.ref v9), .val (.ref rA), .val (.ref rB), .val (.int 1), .unset, .unset, .unset] [(.int 1)]))
                      refine Gl.st (fun _ kq => XS.istore Xs.here hx rfl (hb hby at_318) rfl (l' := #[.val (.int p0), .val (.int p1), .val (.int p2), .val (.int p3), .val (.int p4), .val (.int fA), .val (.int fB), .val (.int gq7), .val (.int gq8), .val (.int (((p4.toUInt32 >>> ((3 : Int32) &&& 31).toUInt32).toInt32) &&& (3 : Int32))), .val (.int ((p0 &&& (2147483647 : Int32)) % (3 : Int32))), .val (.int lB), .val (.int cB), .val (.ref v1), .val (.ref v9), .val (.ref rA), .val (.ref rB), .val (.int 1), .val (.int 1), .unset, .unset]) rfl kq) ?_
                      show Gl p.tables e below _ (Ts.setTop (mkF m 320 #[.val (.int p0), .val (.int p1), .val (.int p2), .val (.int p3), .val (.int p4), .val (.int fA), .val (.int fB), .val (.int gq7), .val (.int gq8), .val (.int (((p4.toUInt32 >>> ((3 : Int32) &&& 31).toUInt32).toInt32) &&& (3 : Int32))), .val (.int ((p0 &&& (2147483647 : Int32)) % (3 : Int32))), .val (.int lB), .val (.int cB), .val (.ref v1), .val (.ref v9), .val (.ref rA), .val (.ref rB), .val (.int 1), .val (.int 1), .unset, .unset] []))
                      refine Gl.st (fun _ kq => XS.aload Xs.here hx rfl (hb hby at_320) rfl rfl kq) ?_
                      show Gl p.tables e below _ (Ts.setTop (mkF m 322 #[.val (.int p0), .val (.int p1), .val (.int p2), .val (.int p3), .val (.int p4), .val (.int fA), .val (.int fB), .val (.int gq7), .val (.int gq8), .val (.int (((p4.toUInt32 >>> ((3 : Int32) &&& 31).toUInt32).toInt32) &&& (3 : Int32))), .val (.int ((p0 &&& (2147483647 : Int32)) % (3 : Int32))), .val (.int lB), .val (.int cB), .val (.ref v1), .val (.ref v9), .val (.ref rA), .val (.ref rB), .val (.int 1), .val (.int 1), .unset, .unset] [(.ref rA)]))
                      refine Gl.st (fun _ kq => XS.aload Xs.here hx rfl (hb hby at_322) rfl rfl kq) ?_
                      show Gl p.tables e below _ (Ts.setTop (mkF m 324 #[.val (.int p0), .val (.int p1), .val (.int p2), .val (.int p3), .val (.int p4), .val (.int fA), .val (.int fB), .val (.int gq7), .val (.int gq8), .val (.int (((p4.toUInt32 >>> ((3 : Int32) &&& 31).toUInt32).toInt32) &&& (3 : Int32))), .val (.int ((p0 &&& (2147483647 : Int32)) % (3 : Int32))), .val (.int lB), .val (.int cB), .val (.ref v1), .val (.ref v9), .val (.ref rA), .val (.ref rB), .val (.int 1), .val (.int 1), .unset, .unset] [(.ref rB), (.ref rA)]))
                      obtain ⟨cq35, kq35, q35a, q35b, q35c⟩ := isOf (s := s.setVm vms) hZs es fs_3
                      obtain ⟨_, _, ⟨T35, L35, k35, n35⟩, -, X35, ⟨Lc35, hQ35, l35, y35, z35⟩, st35⟩ := Xs.virtualBack hx (y := (⟨"com/example/rooted_tableau/rootedtableau/model/Role", "equals", "(Ljava/lang/Object;)Z"⟩ : MethodName)) (z := (⟨"com/example/rooted_tableau/rootedtableau/model/Role", "equals", "(Ljava/lang/Object;)Z"⟩ : MethodName)) hos (mvT hZs (tw hw 58 rfl)) (mvT hZs (tw hw 59 rfl)) (notFace_of_selects (args := #[]) (mvT hZs (tw hw 61 rfl))) (mvT hZs (tw hw 61 rfl)) (mvT hZs (tw hw 60 rfl)) (by decide) (backOf (W := 0) (rm_eqr l Z a0 hw [] (rA) (rB) (fA) (fB) (v1) (v2) (v3) (v4) (v9) (v10) (v11) (v12) (Y1) hs n0 zs fs_0 fs_5 fs_2 fs_4 fs_1 fs_7 fs_8 fs_9 fs_10 fs_11 fs_12 fs_13 fs_14 fs_6 (fun c hc => mk_rng _ _ c (y5_0 ▸ hc)) (by rw [y5_0]; exact mk_len _ _) (fun c hc => mk_rng _ _ c (y13_0 ▸ hc)) (by rw [y13_0]; exact mk_len _ _) O2 P5) hZs (tw hw 62 rfl) (tw hw 40 rfl) (by decide) (by decide)) q35a q35c (g := (mkF m 324 #[.val (.int p0), .val (.int p1), .val (.int p2), .val (.int p3), .val (.int p4), .val (.int fA), .val (.int fB), .val (.int gq7), .val (.int gq8), .val (.int (((p4.toUInt32 >>> ((3 : Int32) &&& 31).toUInt32).toInt32) &&& (3 : Int32))), .val (.int ((p0 &&& (2147483647 : Int32)) % (3 : Int32))), .val (.int lB), .val (.int cB), .val (.ref v1), .val (.ref v9), .val (.ref rA), .val (.ref rB), .val (.int 1), .val (.int 1), .unset, .unset] [(.ref rB), (.ref rA)])) rfl (by rw [hml]; rfl) (Steps.refl _) (argsL := [(.ref rB)]) (rest := []) (lenOf pd__Ljava_lang_Object__Z rfl) rfl (by show 2 * 0 + _ ≤ _; exact Nat.le_of_eq rfl) (hb hby at_324) (fun _ _ => ⟨rfl, es, (by decide : 30 + 0 ≤ _), (by decide : 140 + 0 ≤ _)⟩)
                      dsimp only [Pt.U, Pt.locs, Pt.cells, Pt.slots] at X35 l35 y35 z35 st35 hQ35
                      subst l35 y35 z35
                      rcases hQ35 with ⟨rfl, N35, e35, y35_0, y35_1⟩ | ⟨rfl, N35, e35, y35_0⟩ | ⟨rfl, N35, e35, y35_0⟩
                      · have M35 := Fr.app Ns N35
                        refine Gl.to st35 ?_
                        show Gl p.tables e below _ (T35.setTop (mkF m 327 #[.val (.int p0), .val (.int p1), .val (.int p2), .val (.int p3), .val (.int p4), .val (.int fA), .val (.int fB), .val (.int gq7), .val (.int gq8), .val (.int (((p4.toUInt32 >>> ((3 : Int32) &&& 31).toUInt32).toInt32) &&& (3 : Int32))), .val (.int ((p0 &&& (2147483647 : Int32)) % (3 : Int32))), .val (.int lB), .val (.int cB), .val (.ref v1), .val (.ref v9), .val (.ref rA), .val (.ref rB), .val (.int 1), .val (.int 1), .unset, .unset] [(.int 1)]))
                        refine Gl.st (fun _ kq => XS.istore X35.here hx rfl (hb hby at_327) rfl (l' := #[.val (.int p0), .val (.int p1), .val (.int p2), .val (.int p3), .val (.int p4), .val (.int fA), .val (.int fB), .val (.int gq7), .val (.int gq8), .val (.int (((p4.toUInt32 >>> ((3 : Int32) &&& 31).toUInt32).toInt32) &&& (3 : Int32))), .val (.int ((p0 &&& (2147483647 : Int32)) % (3 : Int32))), .val (.int lB), .val (.int cB), .val (.ref v1), .val (.ref v9), .val (.ref rA), .val (.ref rB), .val (.int 1), .val (.int 1), .val (.int 1), .unset]) rfl kq) ?_
                        show Gl p.tables e below _ (T35.setTop (mkF m 329 #[.val (.int p0), .val (.int p1), .val (.int p2), .val (.int p3), .val (.int p4), .val (.int fA), .val (.int fB), .val (.int gq7), .val (.int gq8), .val (.int (((p4.toUInt32 >>> ((3 : Int32) &&& 31).toUInt32).toInt32) &&& (3 : Int32))), .val (.int ((p0 &&& (2147483647 : Int32)) % (3 : Int32))), .val (.int lB), .val (.int cB), .val (.ref v1), .val (.ref v9), .val (.ref rA), .val (.ref rB), .val (.int 1), .val (.int 1), .val (.int 1), .unset] []))
                        refine Gl.st (fun _ kq => XS.aload X35.here hx rfl (hb hby at_329) rfl rfl kq) ?_
                        show Gl p.tables e below _ (T35.setTop (mkF m 331 #[.val (.int p0), .val (.int p1), .val (.int p2), .val (.int p3), .val (.int p4), .val (.int fA), .val (.int fB), .val (.int gq7), .val (.int gq8), .val (.int (((p4.toUInt32 >>> ((3 : Int32) &&& 31).toUInt32).toInt32) &&& (3 : Int32))), .val (.int ((p0 &&& (2147483647 : Int32)) % (3 : Int32))), .val (.int lB), .val (.int cB), .val (.ref v1), .val (.ref v9), .val (.ref rA), .val (.ref rB), .val (.int 1), .val (.int 1), .val (.int 1), .unset] [(.ref rB)]))
                        refine Gl.st (fun _ kq => XS.aload X35.here hx rfl (hb hby at_331) rfl rfl kq) ?_
                        show Gl p.tables e below _ (T35.setTop (mkF m 333 #[.val (.int p0), .val (.int p1), .val (.int p2), .val (.int p3), .val (.int p4), .val (.int fA), .val (.int fB), .val (.int gq7), .val (.int gq8), .val (.int (((p4.toUInt32 >>> ((3 : Int32) &&& 31).toUInt32).toInt32) &&& (3 : Int32))), .val (.int ((p0 &&& (2147483647 : Int32)) % (3 : Int32))), .val (.int lB), .val (.int cB), .val (.ref v1), .val (.ref v9), .val (.ref rA), .val (.ref rB), .val (.int 1), .val (.int 1), .val (.int 1), .unset] [(.ref rA), (.ref rB)]))
                        obtain ⟨cq36, kq36, q36a, q36b, q36c⟩ := isOf (s := s.setVm vms) hZs e35 fs_0
                        obtain ⟨_, _, ⟨T36, L36, k36, n36⟩, -, X36, ⟨Lc36, hQ36, l36, y36, z36⟩, st36⟩ := X35.virtualBack hx (y := (⟨"com/example/rooted_tableau/rootedtableau/model/Role", "equals", "(Ljava/lang/Object;)Z"⟩ : MethodName)) (z := (⟨"com/example/rooted_tableau/rootedtableau/model/Role", "equals", "(Ljava/lang/Object;)Z"⟩ : MethodName)) hos (mvT hZs (tw hw 58 rfl)) (mvT hZs (tw hw 59 rfl)) (notFace_of_selects (args := #[]) (mvT hZs (tw hw 61 rfl))) (mvT hZs (tw hw 61 rfl)) (mvT hZs (tw hw 60 rfl)) (by decide) (backOf (W := 0) (rm_eqr l Z a0 hw [] (rB) (rA) (fB) (fA) (v9) (v10) (v11) (v12) (v1) (v2) (v3) (v4) (Y1) hs n0 zs fs_3 fs_2 fs_5 fs_1 fs_4 fs_11 fs_12 fs_13 fs_14 fs_7 fs_8 fs_9 fs_10 fs_6 (fun c hc => mk_rng _ _ c (y13_0 ▸ hc)) (by rw [y13_0]; exact mk_len _ _) (fun c hc => mk_rng _ _ c (y5_0 ▸ hc)) (by rw [y5_0]; exact mk_len _ _) O2 P5) hZs (tw hw 62 rfl) (tw hw 40 rfl) (by decide) (by decide)) q36a q36c (g := (mkF m 333 #[.val (.int p0), .val (.int p1), .val (.int p2), .val (.int p3), .val (.int p4), .val (.int fA), .val (.int fB), .val (.int gq7), .val (.int gq8), .val (.int (((p4.toUInt32 >>> ((3 : Int32) &&& 31).toUInt32).toInt32) &&& (3 : Int32))), .val (.int ((p0 &&& (2147483647 : Int32)) % (3 : Int32))), .val (.int lB), .val (.int cB), .val (.ref v1), .val (.ref v9), .val (.ref rA), .val (.ref rB), .val (.int 1), .val (.int 1), .val (.int 1), .unset] [(.ref rA), (.ref rB)])) rfl (by rw [hml]; rfl) (Steps.refl _) (argsL := [(.ref rA)]) (rest := []) (lenOf pd__Ljava_lang_Object__Z rfl) rfl (by show 2 * 0 + _ ≤ _; exact Nat.le_of_eq rfl) (hb hby at_333) (fun _ _ => ⟨rfl, e35, (by decide : 30 + 0 ≤ _), (by decide : 140 + 0 ≤ _)⟩)
                        dsimp only [Pt.U, Pt.locs, Pt.cells, Pt.slots] at X36 l36 y36 z36 st36 hQ36
                        subst l36 y36 z36
                        rcases hQ36 with ⟨rfl, N36, e36, y36_0, y36_1⟩ | ⟨rfl, N36, e36, y36_0⟩ | ⟨rfl, N36, e36, y36_0⟩
                        · have M36 := Fr.app M35 N36
                          refine Gl.to st36 ?_
                          show Gl p.tables e below _ (T36.setTop (mkF m 336 #[.val (.int p0), .val (.int p1), .val (.int p2), .val (.int p3), .val (.int p4), .val (.int fA), .val (.int fB), .val (.int gq7), .val (.int gq8), .val (.int (((p4.toUInt32 >>> ((3 : Int32) &&& 31).toUInt32).toInt32) &&& (3 : Int32))), .val (.int ((p0 &&& (2147483647 : Int32)) % (3 : Int32))), .val (.int lB), .val (.int cB), .val (.ref v1), .val (.ref v9), .val (.ref rA), .val (.ref rB), .val (.int 1), .val (.int 1), .val (.int 1), .unset] [(.int 1)]))
                          refine Gl.st (fun _ kq => XS.istore X36.here hx rfl (hb hby at_336) rfl (l' := #[.val (.int p0), .val (.int p1), .val (.int p2), .val (.int p3), .val (.int p4), .val (.int fA), .val (.int fB), .val (.int gq7), .val (.int gq8), .val (.int (((p4.toUInt32 >>> ((3 : Int32) &&& 31).toUInt32).toInt32) &&& (3 : Int32))), .val (.int ((p0 &&& (2147483647 : Int32)) % (3 : Int32))), .val (.int lB), .val (.int cB), .val (.ref v1), .val (.ref v9), .val (.ref rA), .val (.ref rB), .val (.int 1), .val (.int 1), .val (.int 1), .val (.int 1)]) rfl kq) ?_
                          show Gl p.tables e below _ (T36.setTop (mkF m 338 #[.val (.int p0), .val (.int p1), .val (.int p2), .val (.int p3), .val (.int p4), .val (.int fA), .val (.int fB), .val (.int gq7), .val (.int gq8), .val (.int (((p4.toUInt32 >>> ((3 : Int32) &&& 31).toUInt32).toInt32) &&& (3 : Int32))), .val (.int ((p0 &&& (2147483647 : Int32)) % (3 : Int32))), .val (.int lB), .val (.int cB), .val (.ref v1), .val (.ref v9), .val (.ref rA), .val (.ref rB), .val (.int 1), .val (.int 1), .val (.int 1), .val (.int 1)] []))
                          refine Gl.st (fun _ kq => XS.iload X36.here hx rfl (hb hby at_338) rfl kq) ?_
                          show Gl p.tables e below _ (T36.setTop (mkF m 340 #[.val (.int p0), .val (.int p1), .val (.int p2), .val (.int p3), .val (.int p4), .val (.int fA), .val (.int fB), .val (.int gq7), .val (.int gq8), .val (.int (((p4.toUInt32 >>> ((3 : Int32) &&& 31).toUInt32).toInt32) &&& (3 : Int32))), .val (.int ((p0 &&& (2147483647 : Int32)) % (3 : Int32))), .val (.int lB), .val (.int cB), .val (.ref v1), .val (.ref v9), .val (.ref rA), .val (.ref rB), .val (.int 1), .val (.int 1), .val (.int 1), .val (.int 1)] [(.int 1)]))
                          refine Gl.st (fun _ kq => XS.iload X36.here hx rfl (hb hby at_340) rfl kq) ?_
                          show Gl p.tables e below _ (T36.setTop (mkF m 342 #[.val (.int p0), .val (.int p1), .val (.int p2), .val (.int p3), .val (.int p4), .val (.int fA), .val (.int fB), .val (.int gq7), .val (.int gq8), .val (.int (((p4.toUInt32 >>> ((3 : Int32) &&& 31).toUInt32).toInt32) &&& (3 : Int32))), .val (.int ((p0 &&& (2147483647 : Int32)) % (3 : Int32))), .val (.int lB), .val (.int cB), .val (.ref v1), .val (.ref v9), .val (.ref rA), .val (.ref rB), .val (.int 1), .val (.int 1), .val (.int 1), .val (.int 1)] [(.int 1), (.int 1)]))
                          refine Gl.st (fun _ kq => XS.icmpNo X36.here hx rfl (hb hby at_342) rfl (teq ((by decide) : (1 : Int32) = (1 : Int32))).2 kq) ?_
                          show Gl p.tables e below _ (T36.setTop (mkF m 345 #[.val (.int p0), .val (.int p1), .val (.int p2), .val (.int p3), .val (.int p4), .val (.int fA), .val (.int fB), .val (.int gq7), .val (.int gq8), .val (.int (((p4.toUInt32 >>> ((3 : Int32) &&& 31).toUInt32).toInt32) &&& (3 : Int32))), .val (.int ((p0 &&& (2147483647 : Int32)) % (3 : Int32))), .val (.int lB), .val (.int cB), .val (.ref v1), .val (.ref v9), .val (.ref rA), .val (.ref rB), .val (.int 1), .val (.int 1), .val (.int 1), .val (.int 1)] []))
                          refine Gl.st (fun _ kq => XS.iload X36.here hx rfl (hb hby at_345) rfl kq) ?_
                          show Gl p.tables e below _ (T36.setTop (mkF m 347 #[.val (.int p0), .val (.int p1), .val (.int p2), .val (.int p3), .val (.int p4), .val (.int fA), .val (.int fB), .val (.int gq7), .val (.int gq8), .val (.int (((p4.toUInt32 >>> ((3 : Int32) &&& 31).toUInt32).toInt32) &&& (3 : Int32))), .val (.int ((p0 &&& (2147483647 : Int32)) % (3 : Int32))), .val (.int lB), .val (.int cB), .val (.ref v1), .val (.ref v9), .val (.ref rA), .val (.ref rB), .val (.int 1), .val (.int 1), .val (.int 1), .val (.int 1)] [(.int 1)]))
                          refine Gl.st (fun _ kq => XS.iload X36.here hx rfl (hb hby at_347) rfl kq) ?_
                          show Gl p.tables e below _ (T36.setTop (mkF m 349 #[.val (.int p0), .val (.int p1), .val (.int p2), .val (.int p3), .val (.int p4), .val (.int fA), .val (.int fB), .val (.int gq7), .val (.int gq8), .val (.int (((p4.toUInt32 >>> ((3 : Int32) &&& 31).toUInt32).toInt32) &&& (3 : Int32))), .val (.int ((p0 &&& (2147483647 : Int32)) % (3 : Int32))), .val (.int lB), .val (.int cB), .val (.ref v1), .val (.ref v9), .val (.ref rA), .val (.ref rB), .val (.int 1), .val (.int 1), .val (.int 1), .val (.int 1)] [(.int 1), (.int 1)]))
                          refine Gl.st (fun _ kq => XS.icmpNo X36.here hx rfl (hb hby at_349) rfl (teq ((by decide) : (1 : Int32) = (1 : Int32))).2 kq) ?_
                          show Gl p.tables e below _ (T36.setTop (mkF m 352 #[.val (.int p0), .val (.int p1), .val (.int p2), .val (.int p3), .val (.int p4), .val (.int fA), .val (.int fB), .val (.int gq7), .val (.int gq8), .val (.int (((p4.toUInt32 >>> ((3 : Int32) &&& 31).toUInt32).toInt32) &&& (3 : Int32))), .val (.int ((p0 &&& (2147483647 : Int32)) % (3 : Int32))), .val (.int lB), .val (.int cB), .val (.ref v1), .val (.ref v9), .val (.ref rA), .val (.ref rB), .val (.int 1), .val (.int 1), .val (.int 1), .val (.int 1)] []))
                          refine Gl.st (fun _ kq => XS.iconst X36.here hx rfl (hb hby at_352) kq) ?_
                          show Gl p.tables e below _ (T36.setTop (mkF m 353 #[.val (.int p0), .val (.int p1), .val (.int p2), .val (.int p3), .val (.int p4), .val (.int fA), .val (.int fB), .val (.int gq7), .val (.int gq8), .val (.int (((p4.toUInt32 >>> ((3 : Int32) &&& 31).toUInt32).toInt32) &&& (3 : Int32))), .val (.int ((p0 &&& (2147483647 : Int32)) % (3 : Int32))), .val (.int lB), .val (.int cB), .val (.ref v1), .val (.ref v9), .val (.ref rA), .val (.ref rB), .val (.int 1), .val (.int 1), .val (.int 1), .val (.int 1)] [(.int 1)]))
                          refine Gl.st (fun _ kq => XS.goto X36.here hx rfl (pc0 := 353) (pc' := 357) rfl (hb hby at_353) (by decide) (by decide) kq) ?_
                          show Gl p.tables e below _ (T36.setTop (mkF m 357 #[.val (.int p0), .val (.int p1), .val (.int p2), .val (.int p3), .val (.int p4), .val (.int fA), .val (.int fB), .val (.int gq7), .val (.int gq8), .val (.int (((p4.toUInt32 >>> ((3 : Int32) &&& 31).toUInt32).toInt32) &&& (3 : Int32))), .val (.int ((p0 &&& (2147483647 : Int32)) % (3 : Int32))), .val (.int lB), .val (.int cB), .val (.ref v1), .val (.ref v9), .val (.ref rA), .val (.ref rB), .val (.int 1), .val (.int 1), .val (.int 1), .val (.int 1)] [(.int 1)]))
                          exact Gl.retNH X36 hx hSs (Nat.le_trans hks (Nat.le_of_eq (congrArg Array.size e36).symm)) (by rw [hh, e36]; exact Cs.trans (CHv.at X36 hZs (elW hw) Cs.1)) (t := .boolean) Bd.returns (by simp) (hb hby at_357) hlk (by decide) (by decide) (by rw [e36]; exact ⟨rfl, M36⟩)
                        · exact absurd y35_0.symm y36_0
                        · exact absurd hcs.symm y36_0
                      · exact absurd hc34 y35_0
                      · exact absurd hcs y35_0
                    · refine Gl.st (fun _ kq => XS.icmpYes Xs.here hx rfl (pc0 := 310) (pc' := 317) rfl (hb hby at_310) rfl (feq (hc34 : ¬ (fA = fB))).2 (by decide) (by decide) kq) ?_
                      show Gl p.tables e below _ (Ts.setTop (mkF m 317 #[.val (.int p0), .val (.int p1), .val (.int p2), .val (.int p3), .val (.int p4), .val (.int fA), .val (.int fB), .val (.int gq7), .val (.int gq8), .val (.int (((p4.toUInt32 >>> ((3 : Int32) &&& 31).toUInt32).toInt32) &&& (3 : Int32))), .val (.int ((p0 &&& (2147483647 : Int32)) % (3 : Int32))), .val (.int lB), .val (.int cB), .val (.ref v1), .val (.ref v9), .val (.ref rA), .val (.ref rB), .val (.int 1), .unset, .unset, .unset] []))
                      refine Gl.st (fun _ kq => XS.iconst Xs.here hx rfl (hb hby at_317) kq) ?_
                      show Gl p.tables e below _ (Ts.setTop (mkF m 318 #[.val (.int p0), .val (.int p1), .val (.int p2), .val (.int p3), .val (.int p4), .val (.int fA), .val (.int fB), .val (.int gq7), .val (.int gq8), .val (.int (((p4.toUInt32 >>> ((3 : Int32) &&& 31).toUInt32).toInt32) &&& (3 : Int32))), .val (.int ((p0 &&& (2147483647 : Int32)) % (3 : Int32))), .val (.int lB), .val (.int cB), .val (.ref v1), .val (.ref v9), .val (.ref rA), .val (.ref rB), .val (.int 1), .unset, .unset, .unset] [(.int 0)]))
                      refine Gl.st (fun _ kq => XS.istore Xs.here hx rfl (hb hby at_318) rfl (l' := #[.val (.int p0), .val (.int p1), .val (.int p2), .val (.int p3), .val (.int p4), .val (.int fA), .val (.int fB), .val (.int gq7), .val (.int gq8), .val (.int (((p4.toUInt32 >>> ((3 : Int32) &&& 31).toUInt32).toInt32) &&& (3 : Int32))), .val (.int ((p0 &&& (2147483647 : Int32)) % (3 : Int32))), .val (.int lB), .val (.int cB), .val (.ref v1), .val (.ref v9), .val (.ref rA), .val (.ref rB), .val (.int 1), .val (.int 0), .unset, .unset]) rfl kq) ?_
                      show Gl p.tables e below _ (Ts.setTop (mkF m 320 #[.val (.int p0), .val (.int p1), .val (.int p2), .val (.int p3), .val (.int p4), .val (.int fA), .val (.int fB), .val (.int gq7), .val (.int gq8), .val (.int (((p4.toUInt32 >>> ((3 : Int32) &&& 31).toUInt32).toInt32) &&& (3 : Int32))), .val (.int ((p0 &&& (2147483647 : Int32)) % (3 : Int32))), .val (.int lB), .val (.int cB), .val (.ref v1), .val (.ref v9), .val (.ref rA), .val (.ref rB), .val (.int 1), .val (.int 0), .unset, .unset] []))
                      refine Gl.st (fun _ kq => XS.aload Xs.here hx rfl (hb hby at_320) rfl rfl kq) ?_
                      show Gl p.tables e below _ (Ts.setTop (mkF m 322 #[.val (.int p0), .val (.int p1), .val (.int p2), .val (.int p3), .val (.int p4), .val (.int fA), .val (.int fB), .val (.int gq7), .val (.int gq8), .val (.int (((p4.toUInt32 >>> ((3 : Int32) &&& 31).toUInt32).toInt32) &&& (3 : Int32))), .val (.int ((p0 &&& (2147483647 : Int32)) % (3 : Int32))), .val (.int lB), .val (.int cB), .val (.ref v1), .val (.ref v9), .val (.ref rA), .val (.ref rB), .val (.int 1), .val (.int 0), .unset, .unset] [(.ref rA)]))
                      refine Gl.st (fun _ kq => XS.aload Xs.here hx rfl (hb hby at_322) rfl rfl kq) ?_
                      show Gl p.tables e below _ (Ts.setTop (mkF m 324 #[.val (.int p0), .val (.int p1), .val (.int p2), .val (.int p3), .val (.int p4), .val (.int fA), .val (.int fB), .val (.int gq7), .val (.int gq8), .val (.int (((p4.toUInt32 >>> ((3 : Int32) &&& 31).toUInt32).toInt32) &&& (3 : Int32))), .val (.int ((p0 &&& (2147483647 : Int32)) % (3 : Int32))), .val (.int lB), .val (.int cB), .val (.ref v1), .val (.ref v9), .val (.ref rA), .val (.ref rB), .val (.int 1), .val (.int 0), .unset, .unset] [(.ref rB), (.ref rA)]))
                      obtain ⟨cq37, kq37, q37a, q37b, q37c⟩ := isOf (s := s.setVm vms) hZs es fs_3
                      obtain ⟨_, _, ⟨T37, L37, k37, n37⟩, -, X37, ⟨Lc37, hQ37, l37, y37, z37⟩, st37⟩ := Xs.virtualBack hx (y := (⟨"com/example/rooted_tableau/rootedtableau/model/Role", "equals", "(Ljava/lang/Object;)Z"⟩ : MethodName)) (z := (⟨"com/example/rooted_tableau/rootedtableau/model/Role", "equals", "(Ljava/lang/Object;)Z"⟩ : MethodName)) hos (mvT hZs (tw hw 58 rfl)) (mvT hZs (tw hw 59 rfl)) (notFace_of_selects (args := #[]) (mvT hZs (tw hw 61 rfl))) (mvT hZs (tw hw 61 rfl)) (mvT hZs (tw hw 60 rfl)) (by decide) (backOf (W := 0) (rm_eqr l Z a0 hw [] (rA) (rB) (fA) (fB) (v1) (v2) (v3) (v4) (v9) (v10) (v11) (v12) (Y1) hs n0 zs fs_0 fs_5 fs_2 fs_4 fs_1 fs_7 fs_8 fs_9 fs_10 fs_11 fs_12 fs_13 fs_14 fs_6 (fun c hc => mk_rng _ _ c (y5_0 ▸ hc)) (by rw [y5_0]; exact mk_len _ _) (fun c hc => mk_rng _ _ c (y13_0 ▸ hc)) (by rw [y13_0]; exact mk_len _ _) O2 P5) hZs (tw hw 62 rfl) (tw hw 40 rfl) (by decide) (by decide)) q37a q37c (g := (mkF m 324 #[.val (.int p0), .val (.int p1), .val (.int p2), .val (.int p3), .val (.int p4), .val (.int fA), .val (.int fB), .val (.int gq7), .val (.int gq8), .val (.int (((p4.toUInt32 >>> ((3 : Int32) &&& 31).toUInt32).toInt32) &&& (3 : Int32))), .val (.int ((p0 &&& (2147483647 : Int32)) % (3 : Int32))), .val (.int lB), .val (.int cB), .val (.ref v1), .val (.ref v9), .val (.ref rA), .val (.ref rB), .val (.int 1), .val (.int 0), .unset, .unset] [(.ref rB), (.ref rA)])) rfl (by rw [hml]; rfl) (Steps.refl _) (argsL := [(.ref rB)]) (rest := []) (lenOf pd__Ljava_lang_Object__Z rfl) rfl (by show 2 * 0 + _ ≤ _; exact Nat.le_of_eq rfl) (hb hby at_324) (fun _ _ => ⟨rfl, es, (by decide : 30 + 0 ≤ _), (by decide : 140 + 0 ≤ _)⟩)
                      dsimp only [Pt.U, Pt.locs, Pt.cells, Pt.slots] at X37 l37 y37 z37 st37 hQ37
                      subst l37 y37 z37
                      rcases hQ37 with ⟨rfl, N37, e37, y37_0, y37_1⟩ | ⟨rfl, N37, e37, y37_0⟩ | ⟨rfl, N37, e37, y37_0⟩
                      · exact absurd y37_0 hc34
                      · have M37 := Fr.app Ns N37
                        refine Gl.to st37 ?_
                        show Gl p.tables e below _ (T37.setTop (mkF m 327 #[.val (.int p0), .val (.int p1), .val (.int p2), .val (.int p3), .val (.int p4), .val (.int fA), .val (.int fB), .val (.int gq7), .val (.int gq8), .val (.int (((p4.toUInt32 >>> ((3 : Int32) &&& 31).toUInt32).toInt32) &&& (3 : Int32))), .val (.int ((p0 &&& (2147483647 : Int32)) % (3 : Int32))), .val (.int lB), .val (.int cB), .val (.ref v1), .val (.ref v9), .val (.ref rA), .val (.ref rB), .val (.int 1), .val (.int 0), .unset, .unset] [(.int 0)]))
                        refine Gl.st (fun _ kq => XS.istore X37.here hx rfl (hb hby at_327) rfl (l' := #[.val (.int p0), .val (.int p1), .val (.int p2), .val (.int p3), .val (.int p4), .val (.int fA), .val (.int fB), .val (.int gq7), .val (.int gq8), .val (.int (((p4.toUInt32 >>> ((3 : Int32) &&& 31).toUInt32).toInt32) &&& (3 : Int32))), .val (.int ((p0 &&& (2147483647 : Int32)) % (3 : Int32))), .val (.int lB), .val (.int cB), .val (.ref v1), .val (.ref v9), .val (.ref rA), .val (.ref rB), .val (.int 1), .val (.int 0), .val (.int 0), .unset]) rfl kq) ?_
                        show Gl p.tables e below _ (T37.setTop (mkF m 329 #[.val (.int p0), .val (.int p1), .val (.int p2), .val (.int p3), .val (.int p4), .val (.int fA), .val (.int fB), .val (.int gq7), .val (.int gq8), .val (.int (((p4.toUInt32 >>> ((3 : Int32) &&& 31).toUInt32).toInt32) &&& (3 : Int32))), .val (.int ((p0 &&& (2147483647 : Int32)) % (3 : Int32))), .val (.int lB), .val (.int cB), .val (.ref v1), .val (.ref v9), .val (.ref rA), .val (.ref rB), .val (.int 1), .val (.int 0), .val (.int 0), .unset] []))
                        refine Gl.st (fun _ kq => XS.aload X37.here hx rfl (hb hby at_329) rfl rfl kq) ?_
                        show Gl p.tables e below _ (T37.setTop (mkF m 331 #[.val (.int p0), .val (.int p1), .val (.int p2), .val (.int p3), .val (.int p4), .val (.int fA), .val (.int fB), .val (.int gq7), .val (.int gq8), .val (.int (((p4.toUInt32 >>> ((3 : Int32) &&& 31).toUInt32).toInt32) &&& (3 : Int32))), .val (.int ((p0 &&& (2147483647 : Int32)) % (3 : Int32))), .val (.int lB), .val (.int cB), .val (.ref v1), .val (.ref v9), .val (.ref rA), .val (.ref rB), .val (.int 1), .val (.int 0), .val (.int 0), .unset] [(.ref rB)]))
                        refine Gl.st (fun _ kq => XS.aload X37.here hx rfl (hb hby at_331) rfl rfl kq) ?_
                        show Gl p.tables e below _ (T37.setTop (mkF m 333 #[.val (.int p0), .val (.int p1), .val (.int p2), .val (.int p3), .val (.int p4), .val (.int fA), .val (.int fB), .val (.int gq7), .val (.int gq8), .val (.int (((p4.toUInt32 >>> ((3 : Int32) &&& 31).toUInt32).toInt32) &&& (3 : Int32))), .val (.int ((p0 &&& (2147483647 : Int32)) % (3 : Int32))), .val (.int lB), .val (.int cB), .val (.ref v1), .val (.ref v9), .val (.ref rA), .val (.ref rB), .val (.int 1), .val (.int 0), .val (.int 0), .unset] [(.ref rA), (.ref rB)]))
                        obtain ⟨cq38, kq38, q38a, q38b, q38c⟩ := isOf (s := s.setVm vms) hZs e37 fs_0
                        obtain ⟨_, _, ⟨T38, L38, k38, n38⟩, -, X38, ⟨Lc38, hQ38, l38, y38, z38⟩, st38⟩ := X37.virtualBack hx (y := (⟨"com/example/rooted_tableau/rootedtableau/model/Role", "equals", "(Ljava/lang/Object;)Z"⟩ : MethodName)) (z := (⟨"com/example/rooted_tableau/rootedtableau/model/Role", "equals", "(Ljava/lang/Object;)Z"⟩ : MethodName)) hos (mvT hZs (tw hw 58 rfl)) (mvT hZs (tw hw 59 rfl)) (notFace_of_selects (args := #[]) (mvT hZs (tw hw 61 rfl))) (mvT hZs (tw hw 61 rfl)) (mvT hZs (tw hw 60 rfl)) (by decide) (backOf (W := 0) (rm_eqr l Z a0 hw [] (rB) (rA) (fB) (fA) (v9) (v10) (v11) (v12) (v1) (v2) (v3) (v4) (Y1) hs n0 zs fs_3 fs_2 fs_5 fs_1 fs_4 fs_11 fs_12 fs_13 fs_14 fs_7 fs_8 fs_9 fs_10 fs_6 (fun c hc => mk_rng _ _ c (y13_0 ▸ hc)) (by rw [y13_0]; exact mk_len _ _) (fun c hc => mk_rng _ _ c (y5_0 ▸ hc)) (by rw [y5_0]; exact mk_len _ _) O2 P5) hZs (tw hw 62 rfl) (tw hw 40 rfl) (by decide) (by decide)) q38a q38c (g := (mkF m 333 #[.val (.int p0), .val (.int p1), .val (.int p2), .val (.int p3), .val (.int p4), .val (.int fA), .val (.int fB), .val (.int gq7), .val (.int gq8), .val (.int (((p4.toUInt32 >>> ((3 : Int32) &&& 31).toUInt32).toInt32) &&& (3 : Int32))), .val (.int ((p0 &&& (2147483647 : Int32)) % (3 : Int32))), .val (.int lB), .val (.int cB), .val (.ref v1), .val (.ref v9), .val (.ref rA), .val (.ref rB), .val (.int 1), .val (.int 0), .val (.int 0), .unset] [(.ref rA), (.ref rB)])) rfl (by rw [hml]; rfl) (Steps.refl _) (argsL := [(.ref rA)]) (rest := []) (lenOf pd__Ljava_lang_Object__Z rfl) rfl (by show 2 * 0 + _ ≤ _; exact Nat.le_of_eq rfl) (hb hby at_333) (fun _ _ => ⟨rfl, e37, (by decide : 30 + 0 ≤ _), (by decide : 140 + 0 ≤ _)⟩)
                        dsimp only [Pt.U, Pt.locs, Pt.cells, Pt.slots] at X38 l38 y38 z38 st38 hQ38
                        subst l38 y38 z38
                        rcases hQ38 with ⟨rfl, N38, e38, y38_0, y38_1⟩ | ⟨rfl, N38, e38, y38_0⟩ | ⟨rfl, N38, e38, y38_0⟩
                        · exact absurd y38_0 (fun q => y37_0 q.symm)
                        · have M38 := Fr.app M37 N38
                          refine Gl.to st38 ?_
                          show Gl p.tables e below _ (T38.setTop (mkF m 336 #[.val (.int p0), .val (.int p1), .val (.int p2), .val (.int p3), .val (.int p4), .val (.int fA), .val (.int fB), .val (.int gq7), .val (.int gq8), .val (.int (((p4.toUInt32 >>> ((3 : Int32) &&& 31).toUInt32).toInt32) &&& (3 : Int32))), .val (.int ((p0 &&& (2147483647 : Int32)) % (3 : Int32))), .val (.int lB), .val (.int cB), .val (.ref v1), .val (.ref v9), .val (.ref rA), .val (.ref rB), .val (.int 1), .val (.int 0), .val (.int 0), .unset] [(.int 0)]))
                          refine Gl.st (fun _ kq => XS.istore X38.here hx rfl (hb hby at_336) rfl (l' := #[.val (.int p0), .val (.int p1), .val (.int p2), .val (.int p3), .val (.int p4), .val (.int fA), .val (.int fB), .val (.int gq7), .val (.int gq8), .val (.int (((p4.toUInt32 >>> ((3 : Int32) &&& 31).toUInt32).toInt32) &&& (3 : Int32))), .val (.int ((p0 &&& (2147483647 : Int32)) % (3 : Int32))), .val (.int lB), .val (.int cB), .val (.ref v1), .val (.ref v9), .val (.ref rA), .val (.ref rB), .val (.int 1), .val (.int 0), .val (.int 0), .val (.int 0)]) rfl kq) ?_
                          show Gl p.tables e below _ (T38.setTop (mkF m 338 #[.val (.int p0), .val (.int p1), .val (.int p2), .val (.int p3), .val (.int p4), .val (.int fA), .val (.int fB), .val (.int gq7), .val (.int gq8), .val (.int (((p4.toUInt32 >>> ((3 : Int32) &&& 31).toUInt32).toInt32) &&& (3 : Int32))), .val (.int ((p0 &&& (2147483647 : Int32)) % (3 : Int32))), .val (.int lB), .val (.int cB), .val (.ref v1), .val (.ref v9), .val (.ref rA), .val (.ref rB), .val (.int 1), .val (.int 0), .val (.int 0), .val (.int 0)] []))
                          refine Gl.st (fun _ kq => XS.iload X38.here hx rfl (hb hby at_338) rfl kq) ?_
                          show Gl p.tables e below _ (T38.setTop (mkF m 340 #[.val (.int p0), .val (.int p1), .val (.int p2), .val (.int p3), .val (.int p4), .val (.int fA), .val (.int fB), .val (.int gq7), .val (.int gq8), .val (.int (((p4.toUInt32 >>> ((3 : Int32) &&& 31).toUInt32).toInt32) &&& (3 : Int32))), .val (.int ((p0 &&& (2147483647 : Int32)) % (3 : Int32))), .val (.int lB), .val (.int cB), .val (.ref v1), .val (.ref v9), .val (.ref rA), .val (.ref rB), .val (.int 1), .val (.int 0), .val (.int 0), .val (.int 0)] [(.int 0)]))
                          refine Gl.st (fun _ kq => XS.iload X38.here hx rfl (hb hby at_340) rfl kq) ?_
                          show Gl p.tables e below _ (T38.setTop (mkF m 342 #[.val (.int p0), .val (.int p1), .val (.int p2), .val (.int p3), .val (.int p4), .val (.int fA), .val (.int fB), .val (.int gq7), .val (.int gq8), .val (.int (((p4.toUInt32 >>> ((3 : Int32) &&& 31).toUInt32).toInt32) &&& (3 : Int32))), .val (.int ((p0 &&& (2147483647 : Int32)) % (3 : Int32))), .val (.int lB), .val (.int cB), .val (.ref v1), .val (.ref v9), .val (.ref rA), .val (.ref rB), .val (.int 1), .val (.int 0), .val (.int 0), .val (.int 0)] [(.int 0), (.int 0)]))
                          refine Gl.st (fun _ kq => XS.icmpNo X38.here hx rfl (hb hby at_342) rfl (teq ((by decide) : (0 : Int32) = (0 : Int32))).2 kq) ?_
                          show Gl p.tables e below _ (T38.setTop (mkF m 345 #[.val (.int p0), .val (.int p1), .val (.int p2), .val (.int p3), .val (.int p4), .val (.int fA), .val (.int fB), .val (.int gq7), .val (.int gq8), .val (.int (((p4.toUInt32 >>> ((3 : Int32) &&& 31).toUInt32).toInt32) &&& (3 : Int32))), .val (.int ((p0 &&& (2147483647 : Int32)) % (3 : Int32))), .val (.int lB), .val (.int cB), .val (.ref v1), .val (.ref v9), .val (.ref rA), .val (.ref rB), .val (.int 1), .val (.int 0), .val (.int 0), .val (.int 0)] []))
                          refine Gl.st (fun _ kq => XS.iload X38.here hx rfl (hb hby at_345) rfl kq) ?_
                          show Gl p.tables e below _ (T38.setTop (mkF m 347 #[.val (.int p0), .val (.int p1), .val (.int p2), .val (.int p3), .val (.int p4), .val (.int fA), .val (.int fB), .val (.int gq7), .val (.int gq8), .val (.int (((p4.toUInt32 >>> ((3 : Int32) &&& 31).toUInt32).toInt32) &&& (3 : Int32))), .val (.int ((p0 &&& (2147483647 : Int32)) % (3 : Int32))), .val (.int lB), .val (.int cB), .val (.ref v1), .val (.ref v9), .val (.ref rA), .val (.ref rB), .val (.int 1), .val (.int 0), .val (.int 0), .val (.int 0)] [(.int 0)]))
                          refine Gl.st (fun _ kq => XS.iload X38.here hx rfl (hb hby at_347) rfl kq) ?_
                          show Gl p.tables e below _ (T38.setTop (mkF m 349 #[.val (.int p0), .val (.int p1), .val (.int p2), .val (.int p3), .val (.int p4), .val (.int fA), .val (.int fB), .val (.int gq7), .val (.int gq8), .val (.int (((p4.toUInt32 >>> ((3 : Int32) &&& 31).toUInt32).toInt32) &&& (3 : Int32))), .val (.int ((p0 &&& (2147483647 : Int32)) % (3 : Int32))), .val (.int lB), .val (.int cB), .val (.ref v1), .val (.ref v9), .val (.ref rA), .val (.ref rB), .val (.int 1), .val (.int 0), .val (.int 0), .val (.int 0)] [(.int 0), (.int 0)]))
                          refine Gl.st (fun _ kq => XS.icmpNo X38.here hx rfl (hb hby at_349) rfl (teq ((by decide) : (0 : Int32) = (0 : Int32))).2 kq) ?_
                          show Gl p.tables e below _ (T38.setTop (mkF m 352 #[.val (.int p0), .val (.int p1), .val (.int p2), .val (.int p3), .val (.int p4), .val (.int fA), .val (.int fB), .val (.int gq7), .val (.int gq8), .val (.int (((p4.toUInt32 >>> ((3 : Int32) &&& 31).toUInt32).toInt32) &&& (3 : Int32))), .val (.int ((p0 &&& (2147483647 : Int32)) % (3 : Int32))), .val (.int lB), .val (.int cB), .val (.ref v1), .val (.ref v9), .val (.ref rA), .val (.ref rB), .val (.int 1), .val (.int 0), .val (.int 0), .val (.int 0)] []))
                          refine Gl.st (fun _ kq => XS.iconst X38.here hx rfl (hb hby at_352) kq) ?_
                          show Gl p.tables e below _ (T38.setTop (mkF m 353 #[.val (.int p0), .val (.int p1), .val (.int p2), .val (.int p3), .val (.int p4), .val (.int fA), .val (.int fB), .val (.int gq7), .val (.int gq8), .val (.int (((p4.toUInt32 >>> ((3 : Int32) &&& 31).toUInt32).toInt32) &&& (3 : Int32))), .val (.int ((p0 &&& (2147483647 : Int32)) % (3 : Int32))), .val (.int lB), .val (.int cB), .val (.ref v1), .val (.ref v9), .val (.ref rA), .val (.ref rB), .val (.int 1), .val (.int 0), .val (.int 0), .val (.int 0)] [(.int 1)]))
                          refine Gl.st (fun _ kq => XS.goto X38.here hx rfl (pc0 := 353) (pc' := 357) rfl (hb hby at_353) (by decide) (by decide) kq) ?_
                          show Gl p.tables e below _ (T38.setTop (mkF m 357 #[.val (.int p0), .val (.int p1), .val (.int p2), .val (.int p3), .val (.int p4), .val (.int fA), .val (.int fB), .val (.int gq7), .val (.int gq8), .val (.int (((p4.toUInt32 >>> ((3 : Int32) &&& 31).toUInt32).toInt32) &&& (3 : Int32))), .val (.int ((p0 &&& (2147483647 : Int32)) % (3 : Int32))), .val (.int lB), .val (.int cB), .val (.ref v1), .val (.ref v9), .val (.ref rA), .val (.ref rB), .val (.int 1), .val (.int 0), .val (.int 0), .val (.int 0)] [(.int 1)]))
                          exact Gl.retNH X38 hx hSs (Nat.le_trans hks (Nat.le_of_eq (congrArg Array.size e38).symm)) (by rw [hh, e38]; exact Cs.trans (CHv.at X38 hZs (elW hw) Cs.1)) (t := .boolean) Bd.returns (by simp) (hb hby at_357) hlk (by decide) (by decide) (by rw [e38]; exact ⟨rfl, M38⟩)
                        · exact absurd hcs.symm y38_0
                      · exact absurd hcs y37_0
                  · subst hss
                    show Gl p.tables e below _ (Ts.setTop (mkF m 301 #[.val (.int p0), .val (.int p1), .val (.int p2), .val (.int p3), .val (.int p4), .val (.int fA), .val (.int fB), .val (.int gq7), .val (.int gq8), .val (.int (((p4.toUInt32 >>> ((3 : Int32) &&& 31).toUInt32).toInt32) &&& (3 : Int32))), .val (.int ((p0 &&& (2147483647 : Int32)) % (3 : Int32))), .val (.int lB), .val (.int cB), .val (.ref v1), .val (.ref v9), .val (.ref rA), .val (.ref rB), .val (.int 0), .unset, .unset, .unset] []))
                    refine Gl.st (fun _ kq => XS.iload Xs.here hx rfl (hb hby at_301) rfl kq) ?_
                    show Gl p.tables e below _ (Ts.setTop (mkF m 303 #[.val (.int p0), .val (.int p1), .val (.int p2), .val (.int p3), .val (.int p4), .val (.int fA), .val (.int fB), .val (.int gq7), .val (.int gq8), .val (.int (((p4.toUInt32 >>> ((3 : Int32) &&& 31).toUInt32).toInt32) &&& (3 : Int32))), .val (.int ((p0 &&& (2147483647 : Int32)) % (3 : Int32))), .val (.int lB), .val (.int cB), .val (.ref v1), .val (.ref v9), .val (.ref rA), .val (.ref rB), .val (.int 0), .unset, .unset, .unset] [(.int 0)]))
                    refine Gl.st (fun _ kq => XS.ifYes Xs.here hx rfl (pc0 := 303) (pc' := 317) rfl (hb hby at_303) rfl ((if0 _ _).trans (teq ((by decide) : (0 : Int32) = (0 : Int32))).1) (by decide) (by decide) kq) ?_
                    show Gl p.tables e below _ (Ts.setTop (mkF m 317 #[.val (.int p0), .val (.int p1), .val (.int p2), .val (.int p3), .val (.int p4), .val (.int fA), .val (.int fB), .val (.int gq7), .val (.int gq8), .val (.int (((p4.toUInt32 >>> ((3 : Int32) &&& 31).toUInt32).toInt32) &&& (3 : Int32))), .val (.int ((p0 &&& (2147483647 : Int32)) % (3 : Int32))), .val (.int lB), .val (.int cB), .val (.ref v1), .val (.ref v9), .val (.ref rA), .val (.ref rB), .val (.int 0), .unset, .unset, .unset] []))
                    refine Gl.st (fun _ kq => XS.iconst Xs.here hx rfl (hb hby at_317) kq) ?_
                    show Gl p.tables e below _ (Ts.setTop (mkF m 318 #[.val (.int p0), .val (.int p1), .val (.int p2), .val (.int p3), .val (.int p4), .val (.int fA), .val (.int fB), .val (.int gq7), .val (.int gq8), .val (.int (((p4.toUInt32 >>> ((3 : Int32) &&& 31).toUInt32).toInt32) &&& (3 : Int32))), .val (.int ((p0 &&& (2147483647 : Int32)) % (3 : Int32))), .val (.int lB), .val (.int cB), .val (.ref v1), .val (.ref v9), .val (.ref rA), .val (.ref rB), .val (.int 0), .unset, .unset, .unset] [(.int 0)]))
                    refine Gl.st (fun _ kq => XS.istore Xs.here hx rfl (hb hby at_318) rfl (l' := #[.val (.int p0), .val (.int p1), .val (.int p2), .val (.int p3), .val (.int p4), .val (.int fA), .val (.int fB), .val (.int gq7), .val (.int gq8), .val (.int (((p4.toUInt32 >>> ((3 : Int32) &&& 31).toUInt32).toInt32) &&& (3 : Int32))), .val (.int ((p0 &&& (2147483647 : Int32)) % (3 : Int32))), .val (.int lB), .val (.int cB), .val (.ref v1), .val (.ref v9), .val (.ref rA), .val (.ref rB), .val (.int 0), .val (.int 0), .unset, .unset]) rfl kq) ?_
                    show Gl p.tables e below _ (Ts.setTop (mkF m 320 #[.val (.int p0), .val (.int p1), .val (.int p2), .val (.int p3), .val (.int p4), .val (.int fA), .val (.int fB), .val (.int gq7), .val (.int gq8), .val (.int (((p4.toUInt32 >>> ((3 : Int32) &&& 31).toUInt32).toInt32) &&& (3 : Int32))), .val (.int ((p0 &&& (2147483647 : Int32)) % (3 : Int32))), .val (.int lB), .val (.int cB), .val (.ref v1), .val (.ref v9), .val (.ref rA), .val (.ref rB), .val (.int 0), .val (.int 0), .unset, .unset] []))
                    refine Gl.st (fun _ kq => XS.aload Xs.here hx rfl (hb hby at_320) rfl rfl kq) ?_
                    show Gl p.tables e below _ (Ts.setTop (mkF m 322 #[.val (.int p0), .val (.int p1), .val (.int p2), .val (.int p3), .val (.int p4), .val (.int fA), .val (.int fB), .val (.int gq7), .val (.int gq8), .val (.int (((p4.toUInt32 >>> ((3 : Int32) &&& 31).toUInt32).toInt32) &&& (3 : Int32))), .val (.int ((p0 &&& (2147483647 : Int32)) % (3 : Int32))), .val (.int lB), .val (.int cB), .val (.ref v1), .val (.ref v9), .val (.ref rA), .val (.ref rB), .val (.int 0), .val (.int 0), .unset, .unset] [(.ref rA)]))
                    refine Gl.st (fun _ kq => XS.aload Xs.here hx rfl (hb hby at_322) rfl rfl kq) ?_
                    show Gl p.tables e below _ (Ts.setTop (mkF m 324 #[.val (.int p0), .val (.int p1), .val (.int p2), .val (.int p3), .val (.int p4), .val (.int fA), .val (.int fB), .val (.int gq7), .val (.int gq8), .val (.int (((p4.toUInt32 >>> ((3 : Int32) &&& 31).toUInt32).toInt32) &&& (3 : Int32))), .val (.int ((p0 &&& (2147483647 : Int32)) % (3 : Int32))), .val (.int lB), .val (.int cB), .val (.ref v1), .val (.ref v9), .val (.ref rA), .val (.ref rB), .val (.int 0), .val (.int 0), .unset, .unset] [(.ref rB), (.ref rA)]))
                    obtain ⟨cq39, kq39, q39a, q39b, q39c⟩ := isOf (s := s.setVm vms) hZs es fs_3
                    obtain ⟨_, _, ⟨T39, L39, k39, n39⟩, -, X39, ⟨Lc39, hQ39, l39, y39, z39⟩, st39⟩ := Xs.virtualBack hx (y := (⟨"com/example/rooted_tableau/rootedtableau/model/Role", "equals", "(Ljava/lang/Object;)Z"⟩ : MethodName)) (z := (⟨"com/example/rooted_tableau/rootedtableau/model/Role", "equals", "(Ljava/lang/Object;)Z"⟩ : MethodName)) hos (mvT hZs (tw hw 58 rfl)) (mvT hZs (tw hw 59 rfl)) (notFace_of_selects (args := #[]) (mvT hZs (tw hw 61 rfl))) (mvT hZs (tw hw 61 rfl)) (mvT hZs (tw hw 60 rfl)) (by decide) (backOf (W := 0) (rm_eqr l Z a0 hw [] (rA) (rB) (fA) (fB) (v1) (v2) (v3) (v4) (v9) (v10) (v11) (v12) (Y1) hs n0 zs fs_0 fs_5 fs_2 fs_4 fs_1 fs_7 fs_8 fs_9 fs_10 fs_11 fs_12 fs_13 fs_14 fs_6 (fun c hc => mk_rng _ _ c (y5_0 ▸ hc)) (by rw [y5_0]; exact mk_len _ _) (fun c hc => mk_rng _ _ c (y13_0 ▸ hc)) (by rw [y13_0]; exact mk_len _ _) O2 P5) hZs (tw hw 62 rfl) (tw hw 40 rfl) (by decide) (by decide)) q39a q39c (g := (mkF m 324 #[.val (.int p0), .val (.int p1), .val (.int p2), .val (.int p3), .val (.int p4), .val (.int fA), .val (.int fB), .val (.int gq7), .val (.int gq8), .val (.int (((p4.toUInt32 >>> ((3 : Int32) &&& 31).toUInt32).toInt32) &&& (3 : Int32))), .val (.int ((p0 &&& (2147483647 : Int32)) % (3 : Int32))), .val (.int lB), .val (.int cB), .val (.ref v1), .val (.ref v9), .val (.ref rA), .val (.ref rB), .val (.int 0), .val (.int 0), .unset, .unset] [(.ref rB), (.ref rA)])) rfl (by rw [hml]; rfl) (Steps.refl _) (argsL := [(.ref rB)]) (rest := []) (lenOf pd__Ljava_lang_Object__Z rfl) rfl (by show 2 * 0 + _ ≤ _; exact Nat.le_of_eq rfl) (hb hby at_324) (fun _ _ => ⟨rfl, es, (by decide : 30 + 0 ≤ _), (by decide : 140 + 0 ≤ _)⟩)
                    dsimp only [Pt.U, Pt.locs, Pt.cells, Pt.slots] at X39 l39 y39 z39 st39 hQ39
                    subst l39 y39 z39
                    rcases hQ39 with ⟨rfl, N39, e39, y39_0, y39_1⟩ | ⟨rfl, N39, e39, y39_0⟩ | ⟨rfl, N39, e39, y39_0⟩
                    · exact absurd y39_1 hcs
                    · have M39 := Fr.app Ns N39
                      refine Gl.to st39 ?_
                      show Gl p.tables e below _ (T39.setTop (mkF m 327 #[.val (.int p0), .val (.int p1), .val (.int p2), .val (.int p3), .val (.int p4), .val (.int fA), .val (.int fB), .val (.int gq7), .val (.int gq8), .val (.int (((p4.toUInt32 >>> ((3 : Int32) &&& 31).toUInt32).toInt32) &&& (3 : Int32))), .val (.int ((p0 &&& (2147483647 : Int32)) % (3 : Int32))), .val (.int lB), .val (.int cB), .val (.ref v1), .val (.ref v9), .val (.ref rA), .val (.ref rB), .val (.int 0), .val (.int 0), .unset, .unset] [(.int 0)]))
                      refine Gl.st (fun _ kq => XS.istore X39.here hx rfl (hb hby at_327) rfl (l' := #[.val (.int p0), .val (.int p1), .val (.int p2), .val (.int p3), .val (.int p4), .val (.int fA), .val (.int fB), .val (.int gq7), .val (.int gq8), .val (.int (((p4.toUInt32 >>> ((3 : Int32) &&& 31).toUInt32).toInt32) &&& (3 : Int32))), .val (.int ((p0 &&& (2147483647 : Int32)) % (3 : Int32))), .val (.int lB), .val (.int cB), .val (.ref v1), .val (.ref v9), .val (.ref rA), .val (.ref rB), .val (.int 0), .val (.int 0), .val (.int 0), .unset]) rfl kq) ?_
                      show Gl p.tables e below _ (T39.setTop (mkF m 329 #[.val (.int p0), .val (.int p1), .val (.int p2), .val (.int p3), .val (.int p4), .val (.int fA), .val (.int fB), .val (.int gq7), .val (.int gq8), .val (.int (((p4.toUInt32 >>> ((3 : Int32) &&& 31).toUInt32).toInt32) &&& (3 : Int32))), .val (.int ((p0 &&& (2147483647 : Int32)) % (3 : Int32))), .val (.int lB), .val (.int cB), .val (.ref v1), .val (.ref v9), .val (.ref rA), .val (.ref rB), .val (.int 0), .val (.int 0), .val (.int 0), .unset] []))
                      refine Gl.st (fun _ kq => XS.aload X39.here hx rfl (hb hby at_329) rfl rfl kq) ?_
                      show Gl p.tables e below _ (T39.setTop (mkF m 331 #[.val (.int p0), .val (.int p1), .val (.int p2), .val (.int p3), .val (.int p4), .val (.int fA), .val (.int fB), .val (.int gq7), .val (.int gq8), .val (.int (((p4.toUInt32 >>> ((3 : Int32) &&& 31).toUInt32).toInt32) &&& (3 : Int32))), .val (.int ((p0 &&& (2147483647 : Int32)) % (3 : Int32))), .val (.int lB), .val (.int cB), .val (.ref v1), .val (.ref v9), .val (.ref rA), .val (.ref rB), .val (.int 0), .val (.int 0), .val (.int 0), .unset] [(.ref rB)]))
                      refine Gl.st (fun _ kq => XS.aload X39.here hx rfl (hb hby at_331) rfl rfl kq) ?_
                      show Gl p.tables e below _ (T39.setTop (mkF m 333 #[.val (.int p0), .val (.int p1), .val (.int p2), .val (.int p3), .val (.int p4), .val (.int fA), .val (.int fB), .val (.int gq7), .val (.int gq8), .val (.int (((p4.toUInt32 >>> ((3 : Int32) &&& 31).toUInt32).toInt32) &&& (3 : Int32))), .val (.int ((p0 &&& (2147483647 : Int32)) % (3 : Int32))), .val (.int lB), .val (.int cB), .val (.ref v1), .val (.ref v9), .val (.ref rA), .val (.ref rB), .val (.int 0), .val (.int 0), .val (.int 0), .unset] [(.ref rA), (.ref rB)]))
                      obtain ⟨cq40, kq40, q40a, q40b, q40c⟩ := isOf (s := s.setVm vms) hZs e39 fs_0
                      obtain ⟨_, _, ⟨T40, L40, k40, n40⟩, -, X40, ⟨Lc40, hQ40, l40, y40, z40⟩, st40⟩ := X39.virtualBack hx (y := (⟨"com/example/rooted_tableau/rootedtableau/model/Role", "equals", "(Ljava/lang/Object;)Z"⟩ : MethodName)) (z := (⟨"com/example/rooted_tableau/rootedtableau/model/Role", "equals", "(Ljava/lang/Object;)Z"⟩ : MethodName)) hos (mvT hZs (tw hw 58 rfl)) (mvT hZs (tw hw 59 rfl)) (notFace_of_selects (args := #[]) (mvT hZs (tw hw 61 rfl))) (mvT hZs (tw hw 61 rfl)) (mvT hZs (tw hw 60 rfl)) (by decide) (backOf (W := 0) (rm_eqr l Z a0 hw [] (rB) (rA) (fB) (fA) (v9) (v10) (v11) (v12) (v1) (v2) (v3) (v4) (Y1) hs n0 zs fs_3 fs_2 fs_5 fs_1 fs_4 fs_11 fs_12 fs_13 fs_14 fs_7 fs_8 fs_9 fs_10 fs_6 (fun c hc => mk_rng _ _ c (y13_0 ▸ hc)) (by rw [y13_0]; exact mk_len _ _) (fun c hc => mk_rng _ _ c (y5_0 ▸ hc)) (by rw [y5_0]; exact mk_len _ _) O2 P5) hZs (tw hw 62 rfl) (tw hw 40 rfl) (by decide) (by decide)) q40a q40c (g := (mkF m 333 #[.val (.int p0), .val (.int p1), .val (.int p2), .val (.int p3), .val (.int p4), .val (.int fA), .val (.int fB), .val (.int gq7), .val (.int gq8), .val (.int (((p4.toUInt32 >>> ((3 : Int32) &&& 31).toUInt32).toInt32) &&& (3 : Int32))), .val (.int ((p0 &&& (2147483647 : Int32)) % (3 : Int32))), .val (.int lB), .val (.int cB), .val (.ref v1), .val (.ref v9), .val (.ref rA), .val (.ref rB), .val (.int 0), .val (.int 0), .val (.int 0), .unset] [(.ref rA), (.ref rB)])) rfl (by rw [hml]; rfl) (Steps.refl _) (argsL := [(.ref rA)]) (rest := []) (lenOf pd__Ljava_lang_Object__Z rfl) rfl (by show 2 * 0 + _ ≤ _; exact Nat.le_of_eq rfl) (hb hby at_333) (fun _ _ => ⟨rfl, e39, (by decide : 30 + 0 ≤ _), (by decide : 140 + 0 ≤ _)⟩)
                      dsimp only [Pt.U, Pt.locs, Pt.cells, Pt.slots] at X40 l40 y40 z40 st40 hQ40
                      subst l40 y40 z40
                      rcases hQ40 with ⟨rfl, N40, e40, y40_0, y40_1⟩ | ⟨rfl, N40, e40, y40_0⟩ | ⟨rfl, N40, e40, y40_0⟩
                      · exact absurd y40_0 (fun q => y39_0 q.symm)
                      · have M40 := Fr.app M39 N40
                        refine Gl.to st40 ?_
                        show Gl p.tables e below _ (T40.setTop (mkF m 336 #[.val (.int p0), .val (.int p1), .val (.int p2), .val (.int p3), .val (.int p4), .val (.int fA), .val (.int fB), .val (.int gq7), .val (.int gq8), .val (.int (((p4.toUInt32 >>> ((3 : Int32) &&& 31).toUInt32).toInt32) &&& (3 : Int32))), .val (.int ((p0 &&& (2147483647 : Int32)) % (3 : Int32))), .val (.int lB), .val (.int cB), .val (.ref v1), .val (.ref v9), .val (.ref rA), .val (.ref rB), .val (.int 0), .val (.int 0), .val (.int 0), .unset] [(.int 0)]))
                        refine Gl.st (fun _ kq => XS.istore X40.here hx rfl (hb hby at_336) rfl (l' := #[.val (.int p0), .val (.int p1), .val (.int p2), .val (.int p3), .val (.int p4), .val (.int fA), .val (.int fB), .val (.int gq7), .val (.int gq8), .val (.int (((p4.toUInt32 >>> ((3 : Int32) &&& 31).toUInt32).toInt32) &&& (3 : Int32))), .val (.int ((p0 &&& (2147483647 : Int32)) % (3 : Int32))), .val (.int lB), .val (.int cB), .val (.ref v1), .val (.ref v9), .val (.ref rA), .val (.ref rB), .val (.int 0), .val (.int 0), .val (.int 0), .val (.int 0)]) rfl kq) ?_
                        show Gl p.tables e below _ (T40.setTop (mkF m 338 #[.val (.int p0), .val (.int p1), .val (.int p2), .val (.int p3), .val (.int p4), .val (.int fA), .val (.int fB), .val (.int gq7), .val (.int gq8), .val (.int (((p4.toUInt32 >>> ((3 : Int32) &&& 31).toUInt32).toInt32) &&& (3 : Int32))), .val (.int ((p0 &&& (2147483647 : Int32)) % (3 : Int32))), .val (.int lB), .val (.int cB), .val (.ref v1), .val (.ref v9), .val (.ref rA), .val (.ref rB), .val (.int 0), .val (.int 0), .val (.int 0), .val (.int 0)] []))
                        refine Gl.st (fun _ kq => XS.iload X40.here hx rfl (hb hby at_338) rfl kq) ?_
                        show Gl p.tables e below _ (T40.setTop (mkF m 340 #[.val (.int p0), .val (.int p1), .val (.int p2), .val (.int p3), .val (.int p4), .val (.int fA), .val (.int fB), .val (.int gq7), .val (.int gq8), .val (.int (((p4.toUInt32 >>> ((3 : Int32) &&& 31).toUInt32).toInt32) &&& (3 : Int32))), .val (.int ((p0 &&& (2147483647 : Int32)) % (3 : Int32))), .val (.int lB), .val (.int cB), .val (.ref v1), .val (.ref v9), .val (.ref rA), .val (.ref rB), .val (.int 0), .val (.int 0), .val (.int 0), .val (.int 0)] [(.int 0)]))
                        refine Gl.st (fun _ kq => XS.iload X40.here hx rfl (hb hby at_340) rfl kq) ?_
                        show Gl p.tables e below _ (T40.setTop (mkF m 342 #[.val (.int p0), .val (.int p1), .val (.int p2), .val (.int p3), .val (.int p4), .val (.int fA), .val (.int fB), .val (.int gq7), .val (.int gq8), .val (.int (((p4.toUInt32 >>> ((3 : Int32) &&& 31).toUInt32).toInt32) &&& (3 : Int32))), .val (.int ((p0 &&& (2147483647 : Int32)) % (3 : Int32))), .val (.int lB), .val (.int cB), .val (.ref v1), .val (.ref v9), .val (.ref rA), .val (.ref rB), .val (.int 0), .val (.int 0), .val (.int 0), .val (.int 0)] [(.int 0), (.int 0)]))
                        refine Gl.st (fun _ kq => XS.icmpNo X40.here hx rfl (hb hby at_342) rfl (teq ((by decide) : (0 : Int32) = (0 : Int32))).2 kq) ?_
                        show Gl p.tables e below _ (T40.setTop (mkF m 345 #[.val (.int p0), .val (.int p1), .val (.int p2), .val (.int p3), .val (.int p4), .val (.int fA), .val (.int fB), .val (.int gq7), .val (.int gq8), .val (.int (((p4.toUInt32 >>> ((3 : Int32) &&& 31).toUInt32).toInt32) &&& (3 : Int32))), .val (.int ((p0 &&& (2147483647 : Int32)) % (3 : Int32))), .val (.int lB), .val (.int cB), .val (.ref v1), .val (.ref v9), .val (.ref rA), .val (.ref rB), .val (.int 0), .val (.int 0), .val (.int 0), .val (.int 0)] []))
                        refine Gl.st (fun _ kq => XS.iload X40.here hx rfl (hb hby at_345) rfl kq) ?_
                        show Gl p.tables e below _ (T40.setTop (mkF m 347 #[.val (.int p0), .val (.int p1), .val (.int p2), .val (.int p3), .val (.int p4), .val (.int fA), .val (.int fB), .val (.int gq7), .val (.int gq8), .val (.int (((p4.toUInt32 >>> ((3 : Int32) &&& 31).toUInt32).toInt32) &&& (3 : Int32))), .val (.int ((p0 &&& (2147483647 : Int32)) % (3 : Int32))), .val (.int lB), .val (.int cB), .val (.ref v1), .val (.ref v9), .val (.ref rA), .val (.ref rB), .val (.int 0), .val (.int 0), .val (.int 0), .val (.int 0)] [(.int 0)]))
                        refine Gl.st (fun _ kq => XS.iload X40.here hx rfl (hb hby at_347) rfl kq) ?_
                        show Gl p.tables e below _ (T40.setTop (mkF m 349 #[.val (.int p0), .val (.int p1), .val (.int p2), .val (.int p3), .val (.int p4), .val (.int fA), .val (.int fB), .val (.int gq7), .val (.int gq8), .val (.int (((p4.toUInt32 >>> ((3 : Int32) &&& 31).toUInt32).toInt32) &&& (3 : Int32))), .val (.int ((p0 &&& (2147483647 : Int32)) % (3 : Int32))), .val (.int lB), .val (.int cB), .val (.ref v1), .val (.ref v9), .val (.ref rA), .val (.ref rB), .val (.int 0), .val (.int 0), .val (.int 0), .val (.int 0)] [(.int 0), (.int 0)]))
                        refine Gl.st (fun _ kq => XS.icmpNo X40.here hx rfl (hb hby at_349) rfl (teq ((by decide) : (0 : Int32) = (0 : Int32))).2 kq) ?_
                        show Gl p.tables e below _ (T40.setTop (mkF m 352 #[.val (.int p0), .val (.int p1), .val (.int p2), .val (.int p3), .val (.int p4), .val (.int fA), .val (.int fB), .val (.int gq7), .val (.int gq8), .val (.int (((p4.toUInt32 >>> ((3 : Int32) &&& 31).toUInt32).toInt32) &&& (3 : Int32))), .val (.int ((p0 &&& (2147483647 : Int32)) % (3 : Int32))), .val (.int lB), .val (.int cB), .val (.ref v1), .val (.ref v9), .val (.ref rA), .val (.ref rB), .val (.int 0), .val (.int 0), .val (.int 0), .val (.int 0)] []))
                        refine Gl.st (fun _ kq => XS.iconst X40.here hx rfl (hb hby at_352) kq) ?_
                        show Gl p.tables e below _ (T40.setTop (mkF m 353 #[.val (.int p0), .val (.int p1), .val (.int p2), .val (.int p3), .val (.int p4), .val (.int fA), .val (.int fB), .val (.int gq7), .val (.int gq8), .val (.int (((p4.toUInt32 >>> ((3 : Int32) &&& 31).toUInt32).toInt32) &&& (3 : Int32))), .val (.int ((p0 &&& (2147483647 : Int32)) % (3 : Int32))), .val (.int lB), .val (.int cB), .val (.ref v1), .val (.ref v9), .val (.ref rA), .val (.ref rB), .val (.int 0), .val (.int 0), .val (.int 0), .val (.int 0)] [(.int 1)]))
                        refine Gl.st (fun _ kq => XS.goto X40.here hx rfl (pc0 := 353) (pc' := 357) rfl (hb hby at_353) (by decide) (by decide) kq) ?_
                        show Gl p.tables e below _ (T40.setTop (mkF m 357 #[.val (.int p0), .val (.int p1), .val (.int p2), .val (.int p3), .val (.int p4), .val (.int fA), .val (.int fB), .val (.int gq7), .val (.int gq8), .val (.int (((p4.toUInt32 >>> ((3 : Int32) &&& 31).toUInt32).toInt32) &&& (3 : Int32))), .val (.int ((p0 &&& (2147483647 : Int32)) % (3 : Int32))), .val (.int lB), .val (.int cB), .val (.ref v1), .val (.ref v9), .val (.ref rA), .val (.ref rB), .val (.int 0), .val (.int 0), .val (.int 0), .val (.int 0)] [(.int 1)]))
                        exact Gl.retNH X40 hx hSs (Nat.le_trans hks (Nat.le_of_eq (congrArg Array.size e40).symm)) (by rw [hh, e40]; exact Cs.trans (CHv.at X40 hZs (elW hw) Cs.1)) (t := .boolean) Bd.returns (by simp) (hb hby at_357) hlk (by decide) (by decide) (by rw [e40]; exact ⟨rfl, M40⟩)
                      · have M40 := Fr.app M39 N40
                        refine Gl.to st40 ?_
                        show Gl p.tables e below _ (T40.setTop (mkF m 336 #[.val (.int p0), .val (.int p1), .val (.int p2), .val (.int p3), .val (.int p4), .val (.int fA), .val (.int fB), .val (.int gq7), .val (.int gq8), .val (.int (((p4.toUInt32 >>> ((3 : Int32) &&& 31).toUInt32).toInt32) &&& (3 : Int32))), .val (.int ((p0 &&& (2147483647 : Int32)) % (3 : Int32))), .val (.int lB), .val (.int cB), .val (.ref v1), .val (.ref v9), .val (.ref rA), .val (.ref rB), .val (.int 0), .val (.int 0), .val (.int 0), .unset] [(.int 0)]))
                        refine Gl.st (fun _ kq => XS.istore X40.here hx rfl (hb hby at_336) rfl (l' := #[.val (.int p0), .val (.int p1), .val (.int p2), .val (.int p3), .val (.int p4), .val (.int fA), .val (.int fB), .val (.int gq7), .val (.int gq8), .val (.int (((p4.toUInt32 >>> ((3 : Int32) &&& 31).toUInt32).toInt32) &&& (3 : Int32))), .val (.int ((p0 &&& (2147483647 : Int32)) % (3 : Int32))), .val (.int lB), .val (.int cB), .val (.ref v1), .val (.ref v9), .val (.ref rA), .val (.ref rB), .val (.int 0), .val (.int 0), .val (.int 0), .val (.int 0)]) rfl kq) ?_
                        show Gl p.tables e below _ (T40.setTop (mkF m 338 #[.val (.int p0), .val (.int p1), .val (.int p2), .val (.int p3), .val (.int p4), .val (.int fA), .val (.int fB), .val (.int gq7), .val (.int gq8), .val (.int (((p4.toUInt32 >>> ((3 : Int32) &&& 31).toUInt32).toInt32) &&& (3 : Int32))), .val (.int ((p0 &&& (2147483647 : Int32)) % (3 : Int32))), .val (.int lB), .val (.int cB), .val (.ref v1), .val (.ref v9), .val (.ref rA), .val (.ref rB), .val (.int 0), .val (.int 0), .val (.int 0), .val (.int 0)] []))
                        refine Gl.st (fun _ kq => XS.iload X40.here hx rfl (hb hby at_338) rfl kq) ?_
                        show Gl p.tables e below _ (T40.setTop (mkF m 340 #[.val (.int p0), .val (.int p1), .val (.int p2), .val (.int p3), .val (.int p4), .val (.int fA), .val (.int fB), .val (.int gq7), .val (.int gq8), .val (.int (((p4.toUInt32 >>> ((3 : Int32) &&& 31).toUInt32).toInt32) &&& (3 : Int32))), .val (.int ((p0 &&& (2147483647 : Int32)) % (3 : Int32))), .val (.int lB), .val (.int cB), .val (.ref v1), .val (.ref v9), .val (.ref rA), .val (.ref rB), .val (.int 0), .val (.int 0), .val (.int 0), .val (.int 0)] [(.int 0)]))
                        refine Gl.st (fun _ kq => XS.iload X40.here hx rfl (hb hby at_340) rfl kq) ?_
                        show Gl p.tables e below _ (T40.setTop (mkF m 342 #[.val (.int p0), .val (.int p1), .val (.int p2), .val (.int p3), .val (.int p4), .val (.int fA), .val (.int fB), .val (.int gq7), .val (.int gq8), .val (.int (((p4.toUInt32 >>> ((3 : Int32) &&& 31).toUInt32).toInt32) &&& (3 : Int32))), .val (.int ((p0 &&& (2147483647 : Int32)) % (3 : Int32))), .val (.int lB), .val (.int cB), .val (.ref v1), .val (.ref v9), .val (.ref rA), .val (.ref rB), .val (.int 0), .val (.int 0), .val (.int 0), .val (.int 0)] [(.int 0), (.int 0)]))
                        refine Gl.st (fun _ kq => XS.icmpNo X40.here hx rfl (hb hby at_342) rfl (teq ((by decide) : (0 : Int32) = (0 : Int32))).2 kq) ?_
                        show Gl p.tables e below _ (T40.setTop (mkF m 345 #[.val (.int p0), .val (.int p1), .val (.int p2), .val (.int p3), .val (.int p4), .val (.int fA), .val (.int fB), .val (.int gq7), .val (.int gq8), .val (.int (((p4.toUInt32 >>> ((3 : Int32) &&& 31).toUInt32).toInt32) &&& (3 : Int32))), .val (.int ((p0 &&& (2147483647 : Int32)) % (3 : Int32))), .val (.int lB), .val (.int cB), .val (.ref v1), .val (.ref v9), .val (.ref rA), .val (.ref rB), .val (.int 0), .val (.int 0), .val (.int 0), .val (.int 0)] []))
                        refine Gl.st (fun _ kq => XS.iload X40.here hx rfl (hb hby at_345) rfl kq) ?_
                        show Gl p.tables e below _ (T40.setTop (mkF m 347 #[.val (.int p0), .val (.int p1), .val (.int p2), .val (.int p3), .val (.int p4), .val (.int fA), .val (.int fB), .val (.int gq7), .val (.int gq8), .val (.int (((p4.toUInt32 >>> ((3 : Int32) &&& 31).toUInt32).toInt32) &&& (3 : Int32))), .val (.int ((p0 &&& (2147483647 : Int32)) % (3 : Int32))), .val (.int lB), .val (.int cB), .val (.ref v1), .val (.ref v9), .val (.ref rA), .val (.ref rB), .val (.int 0), .val (.int 0), .val (.int 0), .val (.int 0)] [(.int 0)]))
                        refine Gl.st (fun _ kq => XS.iload X40.here hx rfl (hb hby at_347) rfl kq) ?_
                        show Gl p.tables e below _ (T40.setTop (mkF m 349 #[.val (.int p0), .val (.int p1), .val (.int p2), .val (.int p3), .val (.int p4), .val (.int fA), .val (.int fB), .val (.int gq7), .val (.int gq8), .val (.int (((p4.toUInt32 >>> ((3 : Int32) &&& 31).toUInt32).toInt32) &&& (3 : Int32))), .val (.int ((p0 &&& (2147483647 : Int32)) % (3 : Int32))), .val (.int lB), .val (.int cB), .val (.ref v1), .val (.ref v9), .val (.ref rA), .val (.ref rB), .val (.int 0), .val (.int 0), .val (.int 0), .val (.int 0)] [(.int 0), (.int 0)]))
                        refine Gl.st (fun _ kq => XS.icmpNo X40.here hx rfl (hb hby at_349) rfl (teq ((by decide) : (0 : Int32) = (0 : Int32))).2 kq) ?_
                        show Gl p.tables e below _ (T40.setTop (mkF m 352 #[.val (.int p0), .val (.int p1), .val (.int p2), .val (.int p3), .val (.int p4), .val (.int fA), .val (.int fB), .val (.int gq7), .val (.int gq8), .val (.int (((p4.toUInt32 >>> ((3 : Int32) &&& 31).toUInt32).toInt32) &&& (3 : Int32))), .val (.int ((p0 &&& (2147483647 : Int32)) % (3 : Int32))), .val (.int lB), .val (.int cB), .val (.ref v1), .val (.ref v9), .val (.ref rA), .val (.ref rB), .val (.int 0), .val (.int 0), .val (.int 0), .val (.int 0)] []))
                        refine Gl.st (fun _ kq => XS.iconst X40.here hx rfl (hb hby at_352) kq) ?_
                        show Gl p.tables e below _ (T40.setTop (mkF m 353 #[.val (.int p0), .val (.int p1), .val (.int p2), .val (.int p3), .val (.int p4), .val (.int fA), .val (.int fB), .val (.int gq7), .val (.int gq8), .val (.int (((p4.toUInt32 >>> ((3 : Int32) &&& 31).toUInt32).toInt32) &&& (3 : Int32))), .val (.int ((p0 &&& (2147483647 : Int32)) % (3 : Int32))), .val (.int lB), .val (.int cB), .val (.ref v1), .val (.ref v9), .val (.ref rA), .val (.ref rB), .val (.int 0), .val (.int 0), .val (.int 0), .val (.int 0)] [(.int 1)]))
                        refine Gl.st (fun _ kq => XS.goto X40.here hx rfl (pc0 := 353) (pc' := 357) rfl (hb hby at_353) (by decide) (by decide) kq) ?_
                        show Gl p.tables e below _ (T40.setTop (mkF m 357 #[.val (.int p0), .val (.int p1), .val (.int p2), .val (.int p3), .val (.int p4), .val (.int fA), .val (.int fB), .val (.int gq7), .val (.int gq8), .val (.int (((p4.toUInt32 >>> ((3 : Int32) &&& 31).toUInt32).toInt32) &&& (3 : Int32))), .val (.int ((p0 &&& (2147483647 : Int32)) % (3 : Int32))), .val (.int lB), .val (.int cB), .val (.ref v1), .val (.ref v9), .val (.ref rA), .val (.ref rB), .val (.int 0), .val (.int 0), .val (.int 0), .val (.int 0)] [(.int 1)]))
                        exact Gl.retNH X40 hx hSs (Nat.le_trans hks (Nat.le_of_eq (congrArg Array.size e40).symm)) (by rw [hh, e40]; exact Cs.trans (CHv.at X40 hZs (elW hw) Cs.1)) (t := .boolean) Bd.returns (by simp) (hb hby at_357) hlk (by decide) (by decide) (by rw [e40]; exact ⟨rfl, M40⟩)
                    · have M39 := Fr.app Ns N39
                      refine Gl.to st39 ?_
                      show Gl p.tables e below _ (T39.setTop (mkF m 327 #[.val (.int p0), .val (.int p1), .val (.int p2), .val (.int p3), .val (.int p4), .val (.int fA), .val (.int fB), .val (.int gq7), .val (.int gq8), .val (.int (((p4.toUInt32 >>> ((3 : Int32) &&& 31).toUInt32).toInt32) &&& (3 : Int32))), .val (.int ((p0 &&& (2147483647 : Int32)) % (3 : Int32))), .val (.int lB), .val (.int cB), .val (.ref v1), .val (.ref v9), .val (.ref rA), .val (.ref rB), .val (.int 0), .val (.int 0), .unset, .unset] [(.int 0)]))
                      refine Gl.st (fun _ kq => XS.istore X39.here hx rfl (hb hby at_327) rfl (l' := #[.val (.int p0), .val (.int p1), .val (.int p2), .val (.int p3), .val (.int p4), .val (.int fA), .val (.int fB), .val (.int gq7), .val (.int gq8), .val (.int (((p4.toUInt32 >>> ((3 : Int32) &&& 31).toUInt32).toInt32) &&& (3 : Int32))), .val (.int ((p0 &&& (2147483647 : Int32)) % (3 : Int32))), .val (.int lB), .val (.int cB), .val (.ref v1), .val (.ref v9), .val (.ref rA), .val (.ref rB), .val (.int 0), .val (.int 0), .val (.int 0), .unset]) rfl kq) ?_
                      show Gl p.tables e below _ (T39.setTop (mkF m 329 #[.val (.int p0), .val (.int p1), .val (.int p2), .val (.int p3), .val (.int p4), .val (.int fA), .val (.int fB), .val (.int gq7), .val (.int gq8), .val (.int (((p4.toUInt32 >>> ((3 : Int32) &&& 31).toUInt32).toInt32) &&& (3 : Int32))), .val (.int ((p0 &&& (2147483647 : Int32)) % (3 : Int32))), .val (.int lB), .val (.int cB), .val (.ref v1), .val (.ref v9), .val (.ref rA), .val (.ref rB), .val (.int 0), .val (.int 0), .val (.int 0), .unset] []))
                      refine Gl.st (fun _ kq => XS.aload X39.here hx rfl (hb hby at_329) rfl rfl kq) ?_
                      show Gl p.tables e below _ (T39.setTop (mkF m 331 #[.val (.int p0), .val (.int p1), .val (.int p2), .val (.int p3), .val (.int p4), .val (.int fA), .val (.int fB), .val (.int gq7), .val (.int gq8), .val (.int (((p4.toUInt32 >>> ((3 : Int32) &&& 31).toUInt32).toInt32) &&& (3 : Int32))), .val (.int ((p0 &&& (2147483647 : Int32)) % (3 : Int32))), .val (.int lB), .val (.int cB), .val (.ref v1), .val (.ref v9), .val (.ref rA), .val (.ref rB), .val (.int 0), .val (.int 0), .val (.int 0), .unset] [(.ref rB)]))
                      refine Gl.st (fun _ kq => XS.aload X39.here hx rfl (hb hby at_331) rfl rfl kq) ?_
                      show Gl p.tables e below _ (T39.setTop (mkF m 333 #[.val (.int p0), .val (.int p1), .val (.int p2), .val (.int p3), .val (.int p4), .val (.int fA), .val (.int fB), .val (.int gq7), .val (.int gq8), .val (.int (((p4.toUInt32 >>> ((3 : Int32) &&& 31).toUInt32).toInt32) &&& (3 : Int32))), .val (.int ((p0 &&& (2147483647 : Int32)) % (3 : Int32))), .val (.int lB), .val (.int cB), .val (.ref v1), .val (.ref v9), .val (.ref rA), .val (.ref rB), .val (.int 0), .val (.int 0), .val (.int 0), .unset] [(.ref rA), (.ref rB)]))
                      obtain ⟨cq41, kq41, q41a, q41b, q41c⟩ := isOf (s := s.setVm vms) hZs e39 fs_0
                      obtain ⟨_, _, ⟨T41, L41, k41, n41⟩, -, X41, ⟨Lc41, hQ41, l41, y41, z41⟩, st41⟩ := X39.virtualBack hx (y := (⟨"com/example/rooted_tableau/rootedtableau/model/Role", "equals", "(Ljava/lang/Object;)Z"⟩ : MethodName)) (z := (⟨"com/example/rooted_tableau/rootedtableau/model/Role", "equals", "(Ljava/lang/Object;)Z"⟩ : MethodName)) hos (mvT hZs (tw hw 58 rfl)) (mvT hZs (tw hw 59 rfl)) (notFace_of_selects (args := #[]) (mvT hZs (tw hw 61 rfl))) (mvT hZs (tw hw 61 rfl)) (mvT hZs (tw hw 60 rfl)) (by decide) (backOf (W := 0) (rm_eqr l Z a0 hw [] (rB) (rA) (fB) (fA) (v9) (v10) (v11) (v12) (v1) (v2) (v3) (v4) (Y1) hs n0 zs fs_3 fs_2 fs_5 fs_1 fs_4 fs_11 fs_12 fs_13 fs_14 fs_7 fs_8 fs_9 fs_10 fs_6 (fun c hc => mk_rng _ _ c (y13_0 ▸ hc)) (by rw [y13_0]; exact mk_len _ _) (fun c hc => mk_rng _ _ c (y5_0 ▸ hc)) (by rw [y5_0]; exact mk_len _ _) O2 P5) hZs (tw hw 62 rfl) (tw hw 40 rfl) (by decide) (by decide)) q41a q41c (g := (mkF m 333 #[.val (.int p0), .val (.int p1), .val (.int p2), .val (.int p3), .val (.int p4), .val (.int fA), .val (.int fB), .val (.int gq7), .val (.int gq8), .val (.int (((p4.toUInt32 >>> ((3 : Int32) &&& 31).toUInt32).toInt32) &&& (3 : Int32))), .val (.int ((p0 &&& (2147483647 : Int32)) % (3 : Int32))), .val (.int lB), .val (.int cB), .val (.ref v1), .val (.ref v9), .val (.ref rA), .val (.ref rB), .val (.int 0), .val (.int 0), .val (.int 0), .unset] [(.ref rA), (.ref rB)])) rfl (by rw [hml]; rfl) (Steps.refl _) (argsL := [(.ref rA)]) (rest := []) (lenOf pd__Ljava_lang_Object__Z rfl) rfl (by show 2 * 0 + _ ≤ _; exact Nat.le_of_eq rfl) (hb hby at_333) (fun _ _ => ⟨rfl, e39, (by decide : 30 + 0 ≤ _), (by decide : 140 + 0 ≤ _)⟩)
                      dsimp only [Pt.U, Pt.locs, Pt.cells, Pt.slots] at X41 l41 y41 z41 st41 hQ41
                      subst l41 y41 z41
                      rcases hQ41 with ⟨rfl, N41, e41, y41_0, y41_1⟩ | ⟨rfl, N41, e41, y41_0⟩ | ⟨rfl, N41, e41, y41_0⟩
                      · exact absurd y41_1 (fun q => hcs q.symm)
                      · have M41 := Fr.app M39 N41
                        refine Gl.to st41 ?_
                        show Gl p.tables e below _ (T41.setTop (mkF m 336 #[.val (.int p0), .val (.int p1), .val (.int p2), .val (.int p3), .val (.int p4), .val (.int fA), .val (.int fB), .val (.int gq7), .val (.int gq8), .val (.int (((p4.toUInt32 >>> ((3 : Int32) &&& 31).toUInt32).toInt32) &&& (3 : Int32))), .val (.int ((p0 &&& (2147483647 : Int32)) % (3 : Int32))), .val (.int lB), .val (.int cB), .val (.ref v1), .val (.ref v9), .val (.ref rA), .val (.ref rB), .val (.int 0), .val (.int 0), .val (.int 0), .unset] [(.int 0)]))
                        refine Gl.st (fun _ kq => XS.istore X41.here hx rfl (hb hby at_336) rfl (l' := #[.val (.int p0), .val (.int p1), .val (.int p2), .val (.int p3), .val (.int p4), .val (.int fA), .val (.int fB), .val (.int gq7), .val (.int gq8), .val (.int (((p4.toUInt32 >>> ((3 : Int32) &&& 31).toUInt32).toInt32) &&& (3 : Int32))), .val (.int ((p0 &&& (2147483647 : Int32)) % (3 : Int32))), .val (.int lB), .val (.int cB), .val (.ref v1), .val (.ref v9), .val (.ref rA), .val (.ref rB), .val (.int 0), .val (.int 0), .val (.int 0), .val (.int 0)]) rfl kq) ?_
                        show Gl p.tables e below _ (T41.setTop (mkF m 338 #[.val (.int p0), .val (.int p1), .val (.int p2), .val (.int p3), .val (.int p4), .val (.int fA), .val (.int fB), .val (.int gq7), .val (.int gq8), .val (.int (((p4.toUInt32 >>> ((3 : Int32) &&& 31).toUInt32).toInt32) &&& (3 : Int32))), .val (.int ((p0 &&& (2147483647 : Int32)) % (3 : Int32))), .val (.int lB), .val (.int cB), .val (.ref v1), .val (.ref v9), .val (.ref rA), .val (.ref rB), .val (.int 0), .val (.int 0), .val (.int 0), .val (.int 0)] []))
                        refine Gl.st (fun _ kq => XS.iload X41.here hx rfl (hb hby at_338) rfl kq) ?_
                        show Gl p.tables e below _ (T41.setTop (mkF m 340 #[.val (.int p0), .val (.int p1), .val (.int p2), .val (.int p3), .val (.int p4), .val (.int fA), .val (.int fB), .val (.int gq7), .val (.int gq8), .val (.int (((p4.toUInt32 >>> ((3 : Int32) &&& 31).toUInt32).toInt32) &&& (3 : Int32))), .val (.int ((p0 &&& (2147483647 : Int32)) % (3 : Int32))), .val (.int lB), .val (.int cB), .val (.ref v1), .val (.ref v9), .val (.ref rA), .val (.ref rB), .val (.int 0), .val (.int 0), .val (.int 0), .val (.int 0)] [(.int 0)]))
                        refine Gl.st (fun _ kq => XS.iload X41.here hx rfl (hb hby at_340) rfl kq) ?_
                        show Gl p.tables e below _ (T41.setTop (mkF m 342 #[.val (.int p0), .val (.int p1), .val (.int p2), .val (.int p3), .val (.int p4), .val (.int fA), .val (.int fB), .val (.int gq7), .val (.int gq8), .val (.int (((p4.toUInt32 >>> ((3 : Int32) &&& 31).toUInt32).toInt32) &&& (3 : Int32))), .val (.int ((p0 &&& (2147483647 : Int32)) % (3 : Int32))), .val (.int lB), .val (.int cB), .val (.ref v1), .val (.ref v9), .val (.ref rA), .val (.ref rB), .val (.int 0), .val (.int 0), .val (.int 0), .val (.int 0)] [(.int 0), (.int 0)]))
                        refine Gl.st (fun _ kq => XS.icmpNo X41.here hx rfl (hb hby at_342) rfl (teq ((by decide) : (0 : Int32) = (0 : Int32))).2 kq) ?_
                        show Gl p.tables e below _ (T41.setTop (mkF m 345 #[.val (.int p0), .val (.int p1), .val (.int p2), .val (.int p3), .val (.int p4), .val (.int fA), .val (.int fB), .val (.int gq7), .val (.int gq8), .val (.int (((p4.toUInt32 >>> ((3 : Int32) &&& 31).toUInt32).toInt32) &&& (3 : Int32))), .val (.int ((p0 &&& (2147483647 : Int32)) % (3 : Int32))), .val (.int lB), .val (.int cB), .val (.ref v1), .val (.ref v9), .val (.ref rA), .val (.ref rB), .val (.int 0), .val (.int 0), .val (.int 0), .val (.int 0)] []))
                        refine Gl.st (fun _ kq => XS.iload X41.here hx rfl (hb hby at_345) rfl kq) ?_
                        show Gl p.tables e below _ (T41.setTop (mkF m 347 #[.val (.int p0), .val (.int p1), .val (.int p2), .val (.int p3), .val (.int p4), .val (.int fA), .val (.int fB), .val (.int gq7), .val (.int gq8), .val (.int (((p4.toUInt32 >>> ((3 : Int32) &&& 31).toUInt32).toInt32) &&& (3 : Int32))), .val (.int ((p0 &&& (2147483647 : Int32)) % (3 : Int32))), .val (.int lB), .val (.int cB), .val (.ref v1), .val (.ref v9), .val (.ref rA), .val (.ref rB), .val (.int 0), .val (.int 0), .val (.int 0), .val (.int 0)] [(.int 0)]))
                        refine Gl.st (fun _ kq => XS.iload X41.here hx rfl (hb hby at_347) rfl kq) ?_
                        show Gl p.tables e below _ (T41.setTop (mkF m 349 #[.val (.int p0), .val (.int p1), .val (.int p2), .val (.int p3), .val (.int p4), .val (.int fA), .val (.int fB), .val (.int gq7), .val (.int gq8), .val (.int (((p4.toUInt32 >>> ((3 : Int32) &&& 31).toUInt32).toInt32) &&& (3 : Int32))), .val (.int ((p0 &&& (2147483647 : Int32)) % (3 : Int32))), .val (.int lB), .val (.int cB), .val (.ref v1), .val (.ref v9), .val (.ref rA), .val (.ref rB), .val (.int 0), .val (.int 0), .val (.int 0), .val (.int 0)] [(.int 0), (.int 0)]))
                        refine Gl.st (fun _ kq => XS.icmpNo X41.here hx rfl (hb hby at_349) rfl (teq ((by decide) : (0 : Int32) = (0 : Int32))).2 kq) ?_
                        show Gl p.tables e below _ (T41.setTop (mkF m 352 #[.val (.int p0), .val (.int p1), .val (.int p2), .val (.int p3), .val (.int p4), .val (.int fA), .val (.int fB), .val (.int gq7), .val (.int gq8), .val (.int (((p4.toUInt32 >>> ((3 : Int32) &&& 31).toUInt32).toInt32) &&& (3 : Int32))), .val (.int ((p0 &&& (2147483647 : Int32)) % (3 : Int32))), .val (.int lB), .val (.int cB), .val (.ref v1), .val (.ref v9), .val (.ref rA), .val (.ref rB), .val (.int 0), .val (.int 0), .val (.int 0), .val (.int 0)] []))
                        refine Gl.st (fun _ kq => XS.iconst X41.here hx rfl (hb hby at_352) kq) ?_
                        show Gl p.tables e below _ (T41.setTop (mkF m 353 #[.val (.int p0), .val (.int p1), .val (.int p2), .val (.int p3), .val (.int p4), .val (.int fA), .val (.int fB), .val (.int gq7), .val (.int gq8), .val (.int (((p4.toUInt32 >>> ((3 : Int32) &&& 31).toUInt32).toInt32) &&& (3 : Int32))), .val (.int ((p0 &&& (2147483647 : Int32)) % (3 : Int32))), .val (.int lB), .val (.int cB), .val (.ref v1), .val (.ref v9), .val (.ref rA), .val (.ref rB), .val (.int 0), .val (.int 0), .val (.int 0), .val (.int 0)] [(.int 1)]))
                        refine Gl.st (fun _ kq => XS.goto X41.here hx rfl (pc0 := 353) (pc' := 357) rfl (hb hby at_353) (by decide) (by decide) kq) ?_
                        show Gl p.tables e below _ (T41.setTop (mkF m 357 #[.val (.int p0), .val (.int p1), .val (.int p2), .val (.int p3), .val (.int p4), .val (.int fA), .val (.int fB), .val (.int gq7), .val (.int gq8), .val (.int (((p4.toUInt32 >>> ((3 : Int32) &&& 31).toUInt32).toInt32) &&& (3 : Int32))), .val (.int ((p0 &&& (2147483647 : Int32)) % (3 : Int32))), .val (.int lB), .val (.int cB), .val (.ref v1), .val (.ref v9), .val (.ref rA), .val (.ref rB), .val (.int 0), .val (.int 0), .val (.int 0), .val (.int 0)] [(.int 1)]))
                        exact Gl.retNH X41 hx hSs (Nat.le_trans hks (Nat.le_of_eq (congrArg Array.size e41).symm)) (by rw [hh, e41]; exact Cs.trans (CHv.at X41 hZs (elW hw) Cs.1)) (t := .boolean) Bd.returns (by simp) (hb hby at_357) hlk (by decide) (by decide) (by rw [e41]; exact ⟨rfl, M41⟩)
                      · have M41 := Fr.app M39 N41
                        refine Gl.to st41 ?_
                        show Gl p.tables e below _ (T41.setTop (mkF m 336 #[.val (.int p0), .val (.int p1), .val (.int p2), .val (.int p3), .val (.int p4), .val (.int fA), .val (.int fB), .val (.int gq7), .val (.int gq8), .val (.int (((p4.toUInt32 >>> ((3 : Int32) &&& 31).toUInt32).toInt32) &&& (3 : Int32))), .val (.int ((p0 &&& (2147483647 : Int32)) % (3 : Int32))), .val (.int lB), .val (.int cB), .val (.ref v1), .val (.ref v9), .val (.ref rA), .val (.ref rB), .val (.int 0), .val (.int 0), .val (.int 0), .unset] [(.int 0)]))
                        refine Gl.st (fun _ kq => XS.istore X41.here hx rfl (hb hby at_336) rfl (l' := #[.val (.int p0), .val (.int p1), .val (.int p2), .val (.int p3), .val (.int p4), .val (.int fA), .val (.int fB), .val (.int gq7), .val (.int gq8), .val (.int (((p4.toUInt32 >>> ((3 : Int32) &&& 31).toUInt32).toInt32) &&& (3 : Int32))), .val (.int ((p0 &&& (2147483647 : Int32)) % (3 : Int32))), .val (.int lB), .val (.int cB), .val (.ref v1), .val (.ref v9), .val (.ref rA), .val (.ref rB), .val (.int 0), .val (.int 0), .val (.int 0), .val (.int 0)]) rfl kq) ?_
                        show Gl p.tables e below _ (T41.setTop (mkF m 338 #[.val (.int p0), .val (.int p1), .val (.int p2), .val (.int p3), .val (.int p4), .val (.int fA), .val (.int fB), .val (.int gq7), .val (.int gq8), .val (.int (((p4.toUInt32 >>> ((3 : Int32) &&& 31).toUInt32).toInt32) &&& (3 : Int32))), .val (.int ((p0 &&& (2147483647 : Int32)) % (3 : Int32))), .val (.int lB), .val (.int cB), .val (.ref v1), .val (.ref v9), .val (.ref rA), .val (.ref rB), .val (.int 0), .val (.int 0), .val (.int 0), .val (.int 0)] []))
                        refine Gl.st (fun _ kq => XS.iload X41.here hx rfl (hb hby at_338) rfl kq) ?_
                        show Gl p.tables e below _ (T41.setTop (mkF m 340 #[.val (.int p0), .val (.int p1), .val (.int p2), .val (.int p3), .val (.int p4), .val (.int fA), .val (.int fB), .val (.int gq7), .val (.int gq8), .val (.int (((p4.toUInt32 >>> ((3 : Int32) &&& 31).toUInt32).toInt32) &&& (3 : Int32))), .val (.int ((p0 &&& (2147483647 : Int32)) % (3 : Int32))), .val (.int lB), .val (.int cB), .val (.ref v1), .val (.ref v9), .val (.ref rA), .val (.ref rB), .val (.int 0), .val (.int 0), .val (.int 0), .val (.int 0)] [(.int 0)]))
                        refine Gl.st (fun _ kq => XS.iload X41.here hx rfl (hb hby at_340) rfl kq) ?_
                        show Gl p.tables e below _ (T41.setTop (mkF m 342 #[.val (.int p0), .val (.int p1), .val (.int p2), .val (.int p3), .val (.int p4), .val (.int fA), .val (.int fB), .val (.int gq7), .val (.int gq8), .val (.int (((p4.toUInt32 >>> ((3 : Int32) &&& 31).toUInt32).toInt32) &&& (3 : Int32))), .val (.int ((p0 &&& (2147483647 : Int32)) % (3 : Int32))), .val (.int lB), .val (.int cB), .val (.ref v1), .val (.ref v9), .val (.ref rA), .val (.ref rB), .val (.int 0), .val (.int 0), .val (.int 0), .val (.int 0)] [(.int 0), (.int 0)]))
                        refine Gl.st (fun _ kq => XS.icmpNo X41.here hx rfl (hb hby at_342) rfl (teq ((by decide) : (0 : Int32) = (0 : Int32))).2 kq) ?_
                        show Gl p.tables e below _ (T41.setTop (mkF m 345 #[.val (.int p0), .val (.int p1), .val (.int p2), .val (.int p3), .val (.int p4), .val (.int fA), .val (.int fB), .val (.int gq7), .val (.int gq8), .val (.int (((p4.toUInt32 >>> ((3 : Int32) &&& 31).toUInt32).toInt32) &&& (3 : Int32))), .val (.int ((p0 &&& (2147483647 : Int32)) % (3 : Int32))), .val (.int lB), .val (.int cB), .val (.ref v1), .val (.ref v9), .val (.ref rA), .val (.ref rB), .val (.int 0), .val (.int 0), .val (.int 0), .val (.int 0)] []))
                        refine Gl.st (fun _ kq => XS.iload X41.here hx rfl (hb hby at_345) rfl kq) ?_
                        show Gl p.tables e below _ (T41.setTop (mkF m 347 #[.val (.int p0), .val (.int p1), .val (.int p2), .val (.int p3), .val (.int p4), .val (.int fA), .val (.int fB), .val (.int gq7), .val (.int gq8), .val (.int (((p4.toUInt32 >>> ((3 : Int32) &&& 31).toUInt32).toInt32) &&& (3 : Int32))), .val (.int ((p0 &&& (2147483647 : Int32)) % (3 : Int32))), .val (.int lB), .val (.int cB), .val (.ref v1), .val (.ref v9), .val (.ref rA), .val (.ref rB), .val (.int 0), .val (.int 0), .val (.int 0), .val (.int 0)] [(.int 0)]))
                        refine Gl.st (fun _ kq => XS.iload X41.here hx rfl (hb hby at_347) rfl kq) ?_
                        show Gl p.tables e below _ (T41.setTop (mkF m 349 #[.val (.int p0), .val (.int p1), .val (.int p2), .val (.int p3), .val (.int p4), .val (.int fA), .val (.int fB), .val (.int gq7), .val (.int gq8), .val (.int (((p4.toUInt32 >>> ((3 : Int32) &&& 31).toUInt32).toInt32) &&& (3 : Int32))), .val (.int ((p0 &&& (2147483647 : Int32)) % (3 : Int32))), .val (.int lB), .val (.int cB), .val (.ref v1), .val (.ref v9), .val (.ref rA), .val (.ref rB), .val (.int 0), .val (.int 0), .val (.int 0), .val (.int 0)] [(.int 0), (.int 0)]))
                        refine Gl.st (fun _ kq => XS.icmpNo X41.here hx rfl (hb hby at_349) rfl (teq ((by decide) : (0 : Int32) = (0 : Int32))).2 kq) ?_
                        show Gl p.tables e below _ (T41.setTop (mkF m 352 #[.val (.int p0), .val (.int p1), .val (.int p2), .val (.int p3), .val (.int p4), .val (.int fA), .val (.int fB), .val (.int gq7), .val (.int gq8), .val (.int (((p4.toUInt32 >>> ((3 : Int32) &&& 31).toUInt32).toInt32) &&& (3 : Int32))), .val (.int ((p0 &&& (2147483647 : Int32)) % (3 : Int32))), .val (.int lB), .val (.int cB), .val (.ref v1), .val (.ref v9), .val (.ref rA), .val (.ref rB), .val (.int 0), .val (.int 0), .val (.int 0), .val (.int 0)] []))
                        refine Gl.st (fun _ kq => XS.iconst X41.here hx rfl (hb hby at_352) kq) ?_
                        show Gl p.tables e below _ (T41.setTop (mkF m 353 #[.val (.int p0), .val (.int p1), .val (.int p2), .val (.int p3), .val (.int p4), .val (.int fA), .val (.int fB), .val (.int gq7), .val (.int gq8), .val (.int (((p4.toUInt32 >>> ((3 : Int32) &&& 31).toUInt32).toInt32) &&& (3 : Int32))), .val (.int ((p0 &&& (2147483647 : Int32)) % (3 : Int32))), .val (.int lB), .val (.int cB), .val (.ref v1), .val (.ref v9), .val (.ref rA), .val (.ref rB), .val (.int 0), .val (.int 0), .val (.int 0), .val (.int 0)] [(.int 1)]))
                        refine Gl.st (fun _ kq => XS.goto X41.here hx rfl (pc0 := 353) (pc' := 357) rfl (hb hby at_353) (by decide) (by decide) kq) ?_
                        show Gl p.tables e below _ (T41.setTop (mkF m 357 #[.val (.int p0), .val (.int p1), .val (.int p2), .val (.int p3), .val (.int p4), .val (.int fA), .val (.int fB), .val (.int gq7), .val (.int gq8), .val (.int (((p4.toUInt32 >>> ((3 : Int32) &&& 31).toUInt32).toInt32) &&& (3 : Int32))), .val (.int ((p0 &&& (2147483647 : Int32)) % (3 : Int32))), .val (.int lB), .val (.int cB), .val (.ref v1), .val (.ref v9), .val (.ref rA), .val (.ref rB), .val (.int 0), .val (.int 0), .val (.int 0), .val (.int 0)] [(.int 1)]))
                        exact Gl.retNH X41 hx hSs (Nat.le_trans hks (Nat.le_of_eq (congrArg Array.size e41).symm)) (by rw [hh, e41]; exact Cs.trans (CHv.at X41 hZs (elW hw) Cs.1)) (t := .boolean) Bd.returns (by simp) (hb hby at_357) hlk (by decide) (by decide) (by rw [e41]; exact ⟨rfl, M41⟩)
                refine Gl.st (fun _ kq => XS.iload Xbb.here hx rfl (hb hby at_241) rfl kq) ?_
                show Gl p.tables e below _ (Tbb.setTop (mkF m 243 #[.val (.int p0), .val (.int p1), .val (.int p2), .val (.int p3), .val (.int p4), .val (.int fA), .val (.int fB), .val (.int gq7), .val (.int gq8), .val (.int (((p4.toUInt32 >>> ((3 : Int32) &&& 31).toUInt32).toInt32) &&& (3 : Int32))), .val (.int ((p0 &&& (2147483647 : Int32)) % (3 : Int32))), .val (.int lB), .val (.int cB), .val (.ref v1), .val (.ref v9), .val (.ref rA), .val (.ref rB), .unset, .unset, .unset, .unset] [(.int ((p0 &&& (2147483647 : Int32)) % (3 : Int32)))]))
                refine Gl.st (fun _ kq => XS.iload Xbb.here hx rfl (hb hby at_243) rfl kq) ?_
                show Gl p.tables e below _ (Tbb.setTop (mkF m 245 #[.val (.int p0), .val (.int p1), .val (.int p2), .val (.int p3), .val (.int p4), .val (.int fA), .val (.int fB), .val (.int gq7), .val (.int gq8), .val (.int (((p4.toUInt32 >>> ((3 : Int32) &&& 31).toUInt32).toInt32) &&& (3 : Int32))), .val (.int ((p0 &&& (2147483647 : Int32)) % (3 : Int32))), .val (.int lB), .val (.int cB), .val (.ref v1), .val (.ref v9), .val (.ref rA), .val (.ref rB), .unset, .unset, .unset, .unset] [(.int lB), (.int ((p0 &&& (2147483647 : Int32)) % (3 : Int32)))]))
                by_cases hc42 : ((p0 &&& (2147483647 : Int32)) % (3 : Int32)) = lB
                · refine Gl.st (fun _ kq => XS.icmpNo Xbb.here hx rfl (hb hby at_245) rfl (teq (hc42 : ((p0 &&& (2147483647 : Int32)) % (3 : Int32)) = lB)).2 kq) ?_
                  show Gl p.tables e below _ (Tbb.setTop (mkF m 248 #[.val (.int p0), .val (.int p1), .val (.int p2), .val (.int p3), .val (.int p4), .val (.int fA), .val (.int fB), .val (.int gq7), .val (.int gq8), .val (.int (((p4.toUInt32 >>> ((3 : Int32) &&& 31).toUInt32).toInt32) &&& (3 : Int32))), .val (.int ((p0 &&& (2147483647 : Int32)) % (3 : Int32))), .val (.int lB), .val (.int cB), .val (.ref v1), .val (.ref v9), .val (.ref rA), .val (.ref rB), .unset, .unset, .unset, .unset] []))
                  refine Gl.st (fun _ kq => XS.iload Xbb.here hx rfl (hb hby at_248) rfl kq) ?_
                  show Gl p.tables e below _ (Tbb.setTop (mkF m 250 #[.val (.int p0), .val (.int p1), .val (.int p2), .val (.int p3), .val (.int p4), .val (.int fA), .val (.int fB), .val (.int gq7), .val (.int gq8), .val (.int (((p4.toUInt32 >>> ((3 : Int32) &&& 31).toUInt32).toInt32) &&& (3 : Int32))), .val (.int ((p0 &&& (2147483647 : Int32)) % (3 : Int32))), .val (.int lB), .val (.int cB), .val (.ref v1), .val (.ref v9), .val (.ref rA), .val (.ref rB), .unset, .unset, .unset, .unset] [(.int ((p0 &&& (2147483647 : Int32)) % (3 : Int32)))]))
                  refine Gl.st (fun _ kq => XS.iconst Xbb.here hx rfl (hb hby at_250) kq) ?_
                  show Gl p.tables e below _ (Tbb.setTop (mkF m 251 #[.val (.int p0), .val (.int p1), .val (.int p2), .val (.int p3), .val (.int p4), .val (.int fA), .val (.int fB), .val (.int gq7), .val (.int gq8), .val (.int (((p4.toUInt32 >>> ((3 : Int32) &&& 31).toUInt32).toInt32) &&& (3 : Int32))), .val (.int ((p0 &&& (2147483647 : Int32)) % (3 : Int32))), .val (.int lB), .val (.int cB), .val (.ref v1), .val (.ref v9), .val (.ref rA), .val (.ref rB), .unset, .unset, .unset, .unset] [(.int 1), (.int ((p0 &&& (2147483647 : Int32)) % (3 : Int32)))]))
                  by_cases hc43 : ((p0 &&& (2147483647 : Int32)) % (3 : Int32)) < (1 : Int32)
                  · refine Gl.st (fun _ kq => XS.icmpYes Xbb.here hx rfl (pc0 := 251) (pc' := 268) rfl (hb hby at_251) rfl (tlt (hc43 : ((p0 &&& (2147483647 : Int32)) % (3 : Int32)) < (1 : Int32))).1 (by decide) (by decide) kq) ?_
                    show Gl p.tables e below _ (Tbb.setTop (mkF m 268 #[.val (.int p0), .val (.int p1), .val (.int p2), .val (.int p3), .val (.int p4), .val (.int fA), .val (.int fB), .val (.int gq7), .val (.int gq8), .val (.int (((p4.toUInt32 >>> ((3 : Int32) &&& 31).toUInt32).toInt32) &&& (3 : Int32))), .val (.int ((p0 &&& (2147483647 : Int32)) % (3 : Int32))), .val (.int lB), .val (.int cB), .val (.ref v1), .val (.ref v9), .val (.ref rA), .val (.ref rB), .unset, .unset, .unset, .unset] []))
                    refine Gl.st (fun _ kq => XS.iload Xbb.here hx rfl (hb hby at_268) rfl kq) ?_
                    show Gl p.tables e below _ (Tbb.setTop (mkF m 270 #[.val (.int p0), .val (.int p1), .val (.int p2), .val (.int p3), .val (.int p4), .val (.int fA), .val (.int fB), .val (.int gq7), .val (.int gq8), .val (.int (((p4.toUInt32 >>> ((3 : Int32) &&& 31).toUInt32).toInt32) &&& (3 : Int32))), .val (.int ((p0 &&& (2147483647 : Int32)) % (3 : Int32))), .val (.int lB), .val (.int cB), .val (.ref v1), .val (.ref v9), .val (.ref rA), .val (.ref rB), .unset, .unset, .unset, .unset] [(.int ((p0 &&& (2147483647 : Int32)) % (3 : Int32)))]))
                    refine Gl.st (fun _ kq => XS.iconst Xbb.here hx rfl (hb hby at_270) kq) ?_
                    show Gl p.tables e below _ (Tbb.setTop (mkF m 271 #[.val (.int p0), .val (.int p1), .val (.int p2), .val (.int p3), .val (.int p4), .val (.int fA), .val (.int fB), .val (.int gq7), .val (.int gq8), .val (.int (((p4.toUInt32 >>> ((3 : Int32) &&& 31).toUInt32).toInt32) &&& (3 : Int32))), .val (.int ((p0 &&& (2147483647 : Int32)) % (3 : Int32))), .val (.int lB), .val (.int cB), .val (.ref v1), .val (.ref v9), .val (.ref rA), .val (.ref rB), .unset, .unset, .unset, .unset] [(.int 2), (.int ((p0 &&& (2147483647 : Int32)) % (3 : Int32)))]))
                    by_cases hc44 : ((p0 &&& (2147483647 : Int32)) % (3 : Int32)) < (2 : Int32)
                    · refine Gl.st (fun _ kq => XS.icmpYes Xbb.here hx rfl (pc0 := 271) (pc' := 294) rfl (hb hby at_271) rfl (tlt (hc44 : ((p0 &&& (2147483647 : Int32)) % (3 : Int32)) < (2 : Int32))).1 (by decide) (by decide) kq) ?_
                      show Gl p.tables e below _ (Tbb.setTop (mkF m 294 #[.val (.int p0), .val (.int p1), .val (.int p2), .val (.int p3), .val (.int p4), .val (.int fA), .val (.int fB), .val (.int gq7), .val (.int gq8), .val (.int (((p4.toUInt32 >>> ((3 : Int32) &&& 31).toUInt32).toInt32) &&& (3 : Int32))), .val (.int ((p0 &&& (2147483647 : Int32)) % (3 : Int32))), .val (.int lB), .val (.int cB), .val (.ref v1), .val (.ref v9), .val (.ref rA), .val (.ref rB), .unset, .unset, .unset, .unset] []))
                      refine Gl.st (fun _ kq => XS.iconst Xbb.here hx rfl (hb hby at_294) kq) ?_
                      show Gl p.tables e below _ (Tbb.setTop (mkF m 295 #[.val (.int p0), .val (.int p1), .val (.int p2), .val (.int p3), .val (.int p4), .val (.int fA), .val (.int fB), .val (.int gq7), .val (.int gq8), .val (.int (((p4.toUInt32 >>> ((3 : Int32) &&& 31).toUInt32).toInt32) &&& (3 : Int32))), .val (.int ((p0 &&& (2147483647 : Int32)) % (3 : Int32))), .val (.int lB), .val (.int cB), .val (.ref v1), .val (.ref v9), .val (.ref rA), .val (.ref rB), .unset, .unset, .unset, .unset] [(.int 1)]))
                      refine Gl.st (fun _ kq => XS.goto Xbb.here hx rfl (pc0 := 295) (pc' := 299) rfl (hb hby at_295) (by decide) (by decide) kq) ?_
                      show Gl p.tables e below _ (Tbb.setTop (mkF m 299 #[.val (.int p0), .val (.int p1), .val (.int p2), .val (.int p3), .val (.int p4), .val (.int fA), .val (.int fB), .val (.int gq7), .val (.int gq8), .val (.int (((p4.toUInt32 >>> ((3 : Int32) &&& 31).toUInt32).toInt32) &&& (3 : Int32))), .val (.int ((p0 &&& (2147483647 : Int32)) % (3 : Int32))), .val (.int lB), .val (.int cB), .val (.ref v1), .val (.ref v9), .val (.ref rA), .val (.ref rB), .unset, .unset, .unset, .unset] [(.int 1)]))
                      refine Gl.st (fun _ kq => XS.istore Xbb.here hx rfl (hb hby at_299) rfl (l' := #[.val (.int p0), .val (.int p1), .val (.int p2), .val (.int p3), .val (.int p4), .val (.int fA), .val (.int fB), .val (.int gq7), .val (.int gq8), .val (.int (((p4.toUInt32 >>> ((3 : Int32) &&& 31).toUInt32).toInt32) &&& (3 : Int32))), .val (.int ((p0 &&& (2147483647 : Int32)) % (3 : Int32))), .val (.int lB), .val (.int cB), .val (.ref v1), .val (.ref v9), .val (.ref rA), .val (.ref rB), .val (.int 1), .unset, .unset, .unset]) rfl kq) ?_
                      show Gl p.tables e below _ (Tbb.setTop (mkF m 301 #[.val (.int p0), .val (.int p1), .val (.int p2), .val (.int p3), .val (.int p4), .val (.int fA), .val (.int fB), .val (.int gq7), .val (.int gq8), .val (.int (((p4.toUInt32 >>> ((3 : Int32) &&& 31).toUInt32).toInt32) &&& (3 : Int32))), .val (.int ((p0 &&& (2147483647 : Int32)) % (3 : Int32))), .val (.int lB), .val (.int cB), .val (.ref v1), .val (.ref v9), .val (.ref rA), .val (.ref rB), .val (.int 1), .unset, .unset, .unset] []))
                      have iff45 := mk_iff p1 cB (k3_rem _ : own_k3 ((p0 &&& (2147483647 : Int32)) % (3 : Int32))) yj_0
                      rw [← y5_0, ← y13_0] at iff45
                      exact Js _ _ _ _ _ hSbb hZbb hobb hkbb Cbb (Xbb.more (by decide) (by decide)) ebb Nbb zbb ((1 : Int32)) fbb_0 fbb_1 fbb_2 fbb_3 fbb_4 fbb_5 fbb_6 fbb_7 fbb_8 fbb_9 fbb_10 fbb_11 fbb_12 fbb_13 fbb_14 (Or.inl ⟨rfl, iff45.mpr ⟨hc42, Or.inl hc43, Or.inl hc44⟩⟩)
                    · refine Gl.st (fun _ kq => XS.icmpNo Xbb.here hx rfl (hb hby at_271) rfl (flt (hc44 : ¬ (((p0 &&& (2147483647 : Int32)) % (3 : Int32)) < (2 : Int32)))).1 kq) ?_
                      show Gl p.tables e below _ (Tbb.setTop (mkF m 274 #[.val (.int p0), .val (.int p1), .val (.int p2), .val (.int p3), .val (.int p4), .val (.int fA), .val (.int fB), .val (.int gq7), .val (.int gq8), .val (.int (((p4.toUInt32 >>> ((3 : Int32) &&& 31).toUInt32).toInt32) &&& (3 : Int32))), .val (.int ((p0 &&& (2147483647 : Int32)) % (3 : Int32))), .val (.int lB), .val (.int cB), .val (.ref v1), .val (.ref v9), .val (.ref rA), .val (.ref rB), .unset, .unset, .unset, .unset] []))
                      refine Gl.st (fun _ kq => XS.iloadN Xbb.here hx rfl (hb hby at_274) rfl kq) ?_
                      show Gl p.tables e below _ (Tbb.setTop (mkF m 275 #[.val (.int p0), .val (.int p1), .val (.int p2), .val (.int p3), .val (.int p4), .val (.int fA), .val (.int fB), .val (.int gq7), .val (.int gq8), .val (.int (((p4.toUInt32 >>> ((3 : Int32) &&& 31).toUInt32).toInt32) &&& (3 : Int32))), .val (.int ((p0 &&& (2147483647 : Int32)) % (3 : Int32))), .val (.int lB), .val (.int cB), .val (.ref v1), .val (.ref v9), .val (.ref rA), .val (.ref rB), .unset, .unset, .unset, .unset] [(.int p1)]))
                      refine Gl.st (fun _ kq => XS.bipush Xbb.here hx rfl (hb hby at_275) kq) ?_
                      show Gl p.tables e below _ (Tbb.setTop (mkF m 277 #[.val (.int p0), .val (.int p1), .val (.int p2), .val (.int p3), .val (.int p4), .val (.int fA), .val (.int fB), .val (.int gq7), .val (.int gq8), .val (.int (((p4.toUInt32 >>> ((3 : Int32) &&& 31).toUInt32).toInt32) &&& (3 : Int32))), .val (.int ((p0 &&& (2147483647 : Int32)) % (3 : Int32))), .val (.int lB), .val (.int cB), .val (.ref v1), .val (.ref v9), .val (.ref rA), .val (.ref rB), .unset, .unset, .unset, .unset] [(.int 8), (.int p1)]))
                      refine Gl.st (fun _ kq => XS.iushr Xbb.here hx rfl (hb hby at_277) rfl kq) ?_
                      show Gl p.tables e below _ (Tbb.setTop (mkF m 278 #[.val (.int p0), .val (.int p1), .val (.int p2), .val (.int p3), .val (.int p4), .val (.int fA), .val (.int fB), .val (.int gq7), .val (.int gq8), .val (.int (((p4.toUInt32 >>> ((3 : Int32) &&& 31).toUInt32).toInt32) &&& (3 : Int32))), .val (.int ((p0 &&& (2147483647 : Int32)) % (3 : Int32))), .val (.int lB), .val (.int cB), .val (.ref v1), .val (.ref v9), .val (.ref rA), .val (.ref rB), .unset, .unset, .unset, .unset] [(.int ((p1.toUInt32 >>> ((8 : Int32) &&& 31).toUInt32).toInt32))]))
                      refine Gl.st (fun _ kq => XS.sipush Xbb.here hx rfl (hb hby at_278) kq) ?_
                      show Gl p.tables e below _ (Tbb.setTop (mkF m 281 #[.val (.int p0), .val (.int p1), .val (.int p2), .val (.int p3), .val (.int p4), .val (.int fA), .val (.int fB), .val (.int gq7), .val (.int gq8), .val (.int (((p4.toUInt32 >>> ((3 : Int32) &&& 31).toUInt32).toInt32) &&& (3 : Int32))), .val (.int ((p0 &&& (2147483647 : Int32)) % (3 : Int32))), .val (.int lB), .val (.int cB), .val (.ref v1), .val (.ref v9), .val (.ref rA), .val (.ref rB), .unset, .unset, .unset, .unset] [(.int 255), (.int ((p1.toUInt32 >>> ((8 : Int32) &&& 31).toUInt32).toInt32))]))
                      refine Gl.st (fun _ kq => XS.iand Xbb.here hx rfl (hb hby at_281) rfl kq) ?_
                      show Gl p.tables e below _ (Tbb.setTop (mkF m 282 #[.val (.int p0), .val (.int p1), .val (.int p2), .val (.int p3), .val (.int p4), .val (.int fA), .val (.int fB), .val (.int gq7), .val (.int gq8), .val (.int (((p4.toUInt32 >>> ((3 : Int32) &&& 31).toUInt32).toInt32) &&& (3 : Int32))), .val (.int ((p0 &&& (2147483647 : Int32)) % (3 : Int32))), .val (.int lB), .val (.int cB), .val (.ref v1), .val (.ref v9), .val (.ref rA), .val (.ref rB), .unset, .unset, .unset, .unset] [(.int (((p1.toUInt32 >>> ((8 : Int32) &&& 31).toUInt32).toInt32) &&& (255 : Int32)))]))
                      refine Gl.st (fun _ kq => XS.iload Xbb.here hx rfl (hb hby at_282) rfl kq) ?_
                      show Gl p.tables e below _ (Tbb.setTop (mkF m 284 #[.val (.int p0), .val (.int p1), .val (.int p2), .val (.int p3), .val (.int p4), .val (.int fA), .val (.int fB), .val (.int gq7), .val (.int gq8), .val (.int (((p4.toUInt32 >>> ((3 : Int32) &&& 31).toUInt32).toInt32) &&& (3 : Int32))), .val (.int ((p0 &&& (2147483647 : Int32)) % (3 : Int32))), .val (.int lB), .val (.int cB), .val (.ref v1), .val (.ref v9), .val (.ref rA), .val (.ref rB), .unset, .unset, .unset, .unset] [(.int cB), (.int (((p1.toUInt32 >>> ((8 : Int32) &&& 31).toUInt32).toInt32) &&& (255 : Int32)))]))
                      refine Gl.st (fun _ kq => XS.bipush Xbb.here hx rfl (hb hby at_284) kq) ?_
                      show Gl p.tables e below _ (Tbb.setTop (mkF m 286 #[.val (.int p0), .val (.int p1), .val (.int p2), .val (.int p3), .val (.int p4), .val (.int fA), .val (.int fB), .val (.int gq7), .val (.int gq8), .val (.int (((p4.toUInt32 >>> ((3 : Int32) &&& 31).toUInt32).toInt32) &&& (3 : Int32))), .val (.int ((p0 &&& (2147483647 : Int32)) % (3 : Int32))), .val (.int lB), .val (.int cB), .val (.ref v1), .val (.ref v9), .val (.ref rA), .val (.ref rB), .unset, .unset, .unset, .unset] [(.int 8), (.int cB), (.int (((p1.toUInt32 >>> ((8 : Int32) &&& 31).toUInt32).toInt32) &&& (255 : Int32)))]))
                      refine Gl.st (fun _ kq => XS.iushr Xbb.here hx rfl (hb hby at_286) rfl kq) ?_
                      show Gl p.tables e below _ (Tbb.setTop (mkF m 287 #[.val (.int p0), .val (.int p1), .val (.int p2), .val (.int p3), .val (.int p4), .val (.int fA), .val (.int fB), .val (.int gq7), .val (.int gq8), .val (.int (((p4.toUInt32 >>> ((3 : Int32) &&& 31).toUInt32).toInt32) &&& (3 : Int32))), .val (.int ((p0 &&& (2147483647 : Int32)) % (3 : Int32))), .val (.int lB), .val (.int cB), .val (.ref v1), .val (.ref v9), .val (.ref rA), .val (.ref rB), .unset, .unset, .unset, .unset] [(.int ((cB.toUInt32 >>> ((8 : Int32) &&& 31).toUInt32).toInt32)), (.int (((p1.toUInt32 >>> ((8 : Int32) &&& 31).toUInt32).toInt32) &&& (255 : Int32)))]))
                      refine Gl.st (fun _ kq => XS.sipush Xbb.here hx rfl (hb hby at_287) kq) ?_
                      show Gl p.tables e below _ (Tbb.setTop (mkF m 290 #[.val (.int p0), .val (.int p1), .val (.int p2), .val (.int p3), .val (.int p4), .val (.int fA), .val (.int fB), .val (.int gq7), .val (.int gq8), .val (.int (((p4.toUInt32 >>> ((3 : Int32) &&& 31).toUInt32).toInt32) &&& (3 : Int32))), .val (.int ((p0 &&& (2147483647 : Int32)) % (3 : Int32))), .val (.int lB), .val (.int cB), .val (.ref v1), .val (.ref v9), .val (.ref rA), .val (.ref rB), .unset, .unset, .unset, .unset] [(.int 255), (.int ((cB.toUInt32 >>> ((8 : Int32) &&& 31).toUInt32).toInt32)), (.int (((p1.toUInt32 >>> ((8 : Int32) &&& 31).toUInt32).toInt32) &&& (255 : Int32)))]))
                      refine Gl.st (fun _ kq => XS.iand Xbb.here hx rfl (hb hby at_290) rfl kq) ?_
                      show Gl p.tables e below _ (Tbb.setTop (mkF m 291 #[.val (.int p0), .val (.int p1), .val (.int p2), .val (.int p3), .val (.int p4), .val (.int fA), .val (.int fB), .val (.int gq7), .val (.int gq8), .val (.int (((p4.toUInt32 >>> ((3 : Int32) &&& 31).toUInt32).toInt32) &&& (3 : Int32))), .val (.int ((p0 &&& (2147483647 : Int32)) % (3 : Int32))), .val (.int lB), .val (.int cB), .val (.ref v1), .val (.ref v9), .val (.ref rA), .val (.ref rB), .unset, .unset, .unset, .unset] [(.int (((cB.toUInt32 >>> ((8 : Int32) &&& 31).toUInt32).toInt32) &&& (255 : Int32))), (.int (((p1.toUInt32 >>> ((8 : Int32) &&& 31).toUInt32).toInt32) &&& (255 : Int32)))]))
                      by_cases hc46 : (((p1.toUInt32 >>> ((8 : Int32) &&& 31).toUInt32).toInt32) &&& (255 : Int32)) = (((cB.toUInt32 >>> ((8 : Int32) &&& 31).toUInt32).toInt32) &&& (255 : Int32))
                      · refine Gl.st (fun _ kq => XS.icmpNo Xbb.here hx rfl (hb hby at_291) rfl (teq (hc46 : (((p1.toUInt32 >>> ((8 : Int32) &&& 31).toUInt32).toInt32) &&& (255 : Int32)) = (((cB.toUInt32 >>> ((8 : Int32) &&& 31).toUInt32).toInt32) &&& (255 : Int32)))).2 kq) ?_
                        show Gl p.tables e below _ (Tbb.setTop (mkF m 294 #[.val (.int p0), .val (.int p1), .val (.int p2), .val (.int p3), .val (.int p4), .val (.int fA), .val (.int fB), .val (.int gq7), .val (.int gq8), .val (.int (((p4.toUInt32 >>> ((3 : Int32) &&& 31).toUInt32).toInt32) &&& (3 : Int32))), .val (.int ((p0 &&& (2147483647 : Int32)) % (3 : Int32))), .val (.int lB), .val (.int cB), .val (.ref v1), .val (.ref v9), .val (.ref rA), .val (.ref rB), .unset, .unset, .unset, .unset] []))
                        refine Gl.st (fun _ kq => XS.iconst Xbb.here hx rfl (hb hby at_294) kq) ?_
                        show Gl p.tables e below _ (Tbb.setTop (mkF m 295 #[.val (.int p0), .val (.int p1), .val (.int p2), .val (.int p3), .val (.int p4), .val (.int fA), .val (.int fB), .val (.int gq7), .val (.int gq8), .val (.int (((p4.toUInt32 >>> ((3 : Int32) &&& 31).toUInt32).toInt32) &&& (3 : Int32))), .val (.int ((p0 &&& (2147483647 : Int32)) % (3 : Int32))), .val (.int lB), .val (.int cB), .val (.ref v1), .val (.ref v9), .val (.ref rA), .val (.ref rB), .unset, .unset, .unset, .unset] [(.int 1)]))
                        refine Gl.st (fun _ kq => XS.goto Xbb.here hx rfl (pc0 := 295) (pc' := 299) rfl (hb hby at_295) (by decide) (by decide) kq) ?_
                        show Gl p.tables e below _ (Tbb.setTop (mkF m 299 #[.val (.int p0), .val (.int p1), .val (.int p2), .val (.int p3), .val (.int p4), .val (.int fA), .val (.int fB), .val (.int gq7), .val (.int gq8), .val (.int (((p4.toUInt32 >>> ((3 : Int32) &&& 31).toUInt32).toInt32) &&& (3 : Int32))), .val (.int ((p0 &&& (2147483647 : Int32)) % (3 : Int32))), .val (.int lB), .val (.int cB), .val (.ref v1), .val (.ref v9), .val (.ref rA), .val (.ref rB), .unset, .unset, .unset, .unset] [(.int 1)]))
                        refine Gl.st (fun _ kq => XS.istore Xbb.here hx rfl (hb hby at_299) rfl (l' := #[.val (.int p0), .val (.int p1), .val (.int p2), .val (.int p3), .val (.int p4), .val (.int fA), .val (.int fB), .val (.int gq7), .val (.int gq8), .val (.int (((p4.toUInt32 >>> ((3 : Int32) &&& 31).toUInt32).toInt32) &&& (3 : Int32))), .val (.int ((p0 &&& (2147483647 : Int32)) % (3 : Int32))), .val (.int lB), .val (.int cB), .val (.ref v1), .val (.ref v9), .val (.ref rA), .val (.ref rB), .val (.int 1), .unset, .unset, .unset]) rfl kq) ?_
                        show Gl p.tables e below _ (Tbb.setTop (mkF m 301 #[.val (.int p0), .val (.int p1), .val (.int p2), .val (.int p3), .val (.int p4), .val (.int fA), .val (.int fB), .val (.int gq7), .val (.int gq8), .val (.int (((p4.toUInt32 >>> ((3 : Int32) &&& 31).toUInt32).toInt32) &&& (3 : Int32))), .val (.int ((p0 &&& (2147483647 : Int32)) % (3 : Int32))), .val (.int lB), .val (.int cB), .val (.ref v1), .val (.ref v9), .val (.ref rA), .val (.ref rB), .val (.int 1), .unset, .unset, .unset] []))
                        have iff47 := mk_iff p1 cB (k3_rem _ : own_k3 ((p0 &&& (2147483647 : Int32)) % (3 : Int32))) yj_0
                        rw [← y5_0, ← y13_0] at iff47
                        exact Js _ _ _ _ _ hSbb hZbb hobb hkbb Cbb (Xbb.more (by decide) (by decide)) ebb Nbb zbb ((1 : Int32)) fbb_0 fbb_1 fbb_2 fbb_3 fbb_4 fbb_5 fbb_6 fbb_7 fbb_8 fbb_9 fbb_10 fbb_11 fbb_12 fbb_13 fbb_14 (Or.inl ⟨rfl, iff47.mpr ⟨hc42, Or.inl hc43, Or.inr hc46⟩⟩)
                      · refine Gl.st (fun _ kq => XS.icmpYes Xbb.here hx rfl (pc0 := 291) (pc' := 298) rfl (hb hby at_291) rfl (feq (hc46 : ¬ ((((p1.toUInt32 >>> ((8 : Int32) &&& 31).toUInt32).toInt32) &&& (255 : Int32)) = (((cB.toUInt32 >>> ((8 : Int32) &&& 31).toUInt32).toInt32) &&& (255 : Int32))))).2 (by decide) (by decide) kq) ?_
                        show Gl p.tables e below _ (Tbb.setTop (mkF m 298 #[.val (.int p0), .val (.int p1), .val (.int p2), .val (.int p3), .val (.int p4), .val (.int fA), .val (.int fB), .val (.int gq7), .val (.int gq8), .val (.int (((p4.toUInt32 >>> ((3 : Int32) &&& 31).toUInt32).toInt32) &&& (3 : Int32))), .val (.int ((p0 &&& (2147483647 : Int32)) % (3 : Int32))), .val (.int lB), .val (.int cB), .val (.ref v1), .val (.ref v9), .val (.ref rA), .val (.ref rB), .unset, .unset, .unset, .unset] []))
                        refine Gl.st (fun _ kq => XS.iconst Xbb.here hx rfl (hb hby at_298) kq) ?_
                        show Gl p.tables e below _ (Tbb.setTop (mkF m 299 #[.val (.int p0), .val (.int p1), .val (.int p2), .val (.int p3), .val (.int p4), .val (.int fA), .val (.int fB), .val (.int gq7), .val (.int gq8), .val (.int (((p4.toUInt32 >>> ((3 : Int32) &&& 31).toUInt32).toInt32) &&& (3 : Int32))), .val (.int ((p0 &&& (2147483647 : Int32)) % (3 : Int32))), .val (.int lB), .val (.int cB), .val (.ref v1), .val (.ref v9), .val (.ref rA), .val (.ref rB), .unset, .unset, .unset, .unset] [(.int 0)]))
                        refine Gl.st (fun _ kq => XS.istore Xbb.here hx rfl (hb hby at_299) rfl (l' := #[.val (.int p0), .val (.int p1), .val (.int p2), .val (.int p3), .val (.int p4), .val (.int fA), .val (.int fB), .val (.int gq7), .val (.int gq8), .val (.int (((p4.toUInt32 >>> ((3 : Int32) &&& 31).toUInt32).toInt32) &&& (3 : Int32))), .val (.int ((p0 &&& (2147483647 : Int32)) % (3 : Int32))), .val (.int lB), .val (.int cB), .val (.ref v1), .val (.ref v9), .val (.ref rA), .val (.ref rB), .val (.int 0), .unset, .unset, .unset]) rfl kq) ?_
                        show Gl p.tables e below _ (Tbb.setTop (mkF m 301 #[.val (.int p0), .val (.int p1), .val (.int p2), .val (.int p3), .val (.int p4), .val (.int fA), .val (.int fB), .val (.int gq7), .val (.int gq8), .val (.int (((p4.toUInt32 >>> ((3 : Int32) &&& 31).toUInt32).toInt32) &&& (3 : Int32))), .val (.int ((p0 &&& (2147483647 : Int32)) % (3 : Int32))), .val (.int lB), .val (.int cB), .val (.ref v1), .val (.ref v9), .val (.ref rA), .val (.ref rB), .val (.int 0), .unset, .unset, .unset] []))
                        have iff48 := mk_iff p1 cB (k3_rem _ : own_k3 ((p0 &&& (2147483647 : Int32)) % (3 : Int32))) yj_0
                        rw [← y5_0, ← y13_0] at iff48
                        exact Js _ _ _ _ _ hSbb hZbb hobb hkbb Cbb (Xbb.more (by decide) (by decide)) ebb Nbb zbb ((0 : Int32)) fbb_0 fbb_1 fbb_2 fbb_3 fbb_4 fbb_5 fbb_6 fbb_7 fbb_8 fbb_9 fbb_10 fbb_11 fbb_12 fbb_13 fbb_14 (Or.inr ⟨rfl, fun q => (iff48.mp q).2.2.elim hc44 hc46⟩)
                  · refine Gl.st (fun _ kq => XS.icmpNo Xbb.here hx rfl (hb hby at_251) rfl (flt (hc43 : ¬ (((p0 &&& (2147483647 : Int32)) % (3 : Int32)) < (1 : Int32)))).1 kq) ?_
                    show Gl p.tables e below _ (Tbb.setTop (mkF m 254 #[.val (.int p0), .val (.int p1), .val (.int p2), .val (.int p3), .val (.int p4), .val (.int fA), .val (.int fB), .val (.int gq7), .val (.int gq8), .val (.int (((p4.toUInt32 >>> ((3 : Int32) &&& 31).toUInt32).toInt32) &&& (3 : Int32))), .val (.int ((p0 &&& (2147483647 : Int32)) % (3 : Int32))), .val (.int lB), .val (.int cB), .val (.ref v1), .val (.ref v9), .val (.ref rA), .val (.ref rB), .unset, .unset, .unset, .unset] []))
                    refine Gl.st (fun _ kq => XS.iloadN Xbb.here hx rfl (hb hby at_254) rfl kq) ?_
                    show Gl p.tables e below _ (Tbb.setTop (mkF m 255 #[.val (.int p0), .val (.int p1), .val (.int p2), .val (.int p3), .val (.int p4), .val (.int fA), .val (.int fB), .val (.int gq7), .val (.int gq8), .val (.int (((p4.toUInt32 >>> ((3 : Int32) &&& 31).toUInt32).toInt32) &&& (3 : Int32))), .val (.int ((p0 &&& (2147483647 : Int32)) % (3 : Int32))), .val (.int lB), .val (.int cB), .val (.ref v1), .val (.ref v9), .val (.ref rA), .val (.ref rB), .unset, .unset, .unset, .unset] [(.int p1)]))
                    refine Gl.st (fun _ kq => XS.sipush Xbb.here hx rfl (hb hby at_255) kq) ?_
                    show Gl p.tables e below _ (Tbb.setTop (mkF m 258 #[.val (.int p0), .val (.int p1), .val (.int p2), .val (.int p3), .val (.int p4), .val (.int fA), .val (.int fB), .val (.int gq7), .val (.int gq8), .val (.int (((p4.toUInt32 >>> ((3 : Int32) &&& 31).toUInt32).toInt32) &&& (3 : Int32))), .val (.int ((p0 &&& (2147483647 : Int32)) % (3 : Int32))), .val (.int lB), .val (.int cB), .val (.ref v1), .val (.ref v9), .val (.ref rA), .val (.ref rB), .unset, .unset, .unset, .unset] [(.int 255), (.int p1)]))
                    refine Gl.st (fun _ kq => XS.iand Xbb.here hx rfl (hb hby at_258) rfl kq) ?_
                    show Gl p.tables e below _ (Tbb.setTop (mkF m 259 #[.val (.int p0), .val (.int p1), .val (.int p2), .val (.int p3), .val (.int p4), .val (.int fA), .val (.int fB), .val (.int gq7), .val (.int gq8), .val (.int (((p4.toUInt32 >>> ((3 : Int32) &&& 31).toUInt32).toInt32) &&& (3 : Int32))), .val (.int ((p0 &&& (2147483647 : Int32)) % (3 : Int32))), .val (.int lB), .val (.int cB), .val (.ref v1), .val (.ref v9), .val (.ref rA), .val (.ref rB), .unset, .unset, .unset, .unset] [(.int (p1 &&& (255 : Int32)))]))
                    refine Gl.st (fun _ kq => XS.iload Xbb.here hx rfl (hb hby at_259) rfl kq) ?_
                    show Gl p.tables e below _ (Tbb.setTop (mkF m 261 #[.val (.int p0), .val (.int p1), .val (.int p2), .val (.int p3), .val (.int p4), .val (.int fA), .val (.int fB), .val (.int gq7), .val (.int gq8), .val (.int (((p4.toUInt32 >>> ((3 : Int32) &&& 31).toUInt32).toInt32) &&& (3 : Int32))), .val (.int ((p0 &&& (2147483647 : Int32)) % (3 : Int32))), .val (.int lB), .val (.int cB), .val (.ref v1), .val (.ref v9), .val (.ref rA), .val (.ref rB), .unset, .unset, .unset, .unset] [(.int cB), (.int (p1 &&& (255 : Int32)))]))
                    refine Gl.st (fun _ kq => XS.sipush Xbb.here hx rfl (hb hby at_261) kq) ?_
                    show Gl p.tables e below _ (Tbb.setTop (mkF m 264 #[.val (.int p0), .val (.int p1), .val (.int p2), .val (.int p3), .val (.int p4), .val (.int fA), .val (.int fB), .val (.int gq7), .val (.int gq8), .val (.int (((p4.toUInt32 >>> ((3 : Int32) &&& 31).toUInt32).toInt32) &&& (3 : Int32))), .val (.int ((p0 &&& (2147483647 : Int32)) % (3 : Int32))), .val (.int lB), .val (.int cB), .val (.ref v1), .val (.ref v9), .val (.ref rA), .val (.ref rB), .unset, .unset, .unset, .unset] [(.int 255), (.int cB), (.int (p1 &&& (255 : Int32)))]))
                    refine Gl.st (fun _ kq => XS.iand Xbb.here hx rfl (hb hby at_264) rfl kq) ?_
                    show Gl p.tables e below _ (Tbb.setTop (mkF m 265 #[.val (.int p0), .val (.int p1), .val (.int p2), .val (.int p3), .val (.int p4), .val (.int fA), .val (.int fB), .val (.int gq7), .val (.int gq8), .val (.int (((p4.toUInt32 >>> ((3 : Int32) &&& 31).toUInt32).toInt32) &&& (3 : Int32))), .val (.int ((p0 &&& (2147483647 : Int32)) % (3 : Int32))), .val (.int lB), .val (.int cB), .val (.ref v1), .val (.ref v9), .val (.ref rA), .val (.ref rB), .unset, .unset, .unset, .unset] [(.int (cB &&& (255 : Int32))), (.int (p1 &&& (255 : Int32)))]))
                    by_cases hc49 : (p1 &&& (255 : Int32)) = (cB &&& (255 : Int32))
                    · refine Gl.st (fun _ kq => XS.icmpNo Xbb.here hx rfl (hb hby at_265) rfl (teq (hc49 : (p1 &&& (255 : Int32)) = (cB &&& (255 : Int32)))).2 kq) ?_
                      show Gl p.tables e below _ (Tbb.setTop (mkF m 268 #[.val (.int p0), .val (.int p1), .val (.int p2), .val (.int p3), .val (.int p4), .val (.int fA), .val (.int fB), .val (.int gq7), .val (.int gq8), .val (.int (((p4.toUInt32 >>> ((3 : Int32) &&& 31).toUInt32).toInt32) &&& (3 : Int32))), .val (.int ((p0 &&& (2147483647 : Int32)) % (3 : Int32))), .val (.int lB), .val (.int cB), .val (.ref v1), .val (.ref v9), .val (.ref rA), .val (.ref rB), .unset, .unset, .unset, .unset] []))
                      refine Gl.st (fun _ kq => XS.iload Xbb.here hx rfl (hb hby at_268) rfl kq) ?_
                      show Gl p.tables e below _ (Tbb.setTop (mkF m 270 #[.val (.int p0), .val (.int p1), .val (.int p2), .val (.int p3), .val (.int p4), .val (.int fA), .val (.int fB), .val (.int gq7), .val (.int gq8), .val (.int (((p4.toUInt32 >>> ((3 : Int32) &&& 31).toUInt32).toInt32) &&& (3 : Int32))), .val (.int ((p0 &&& (2147483647 : Int32)) % (3 : Int32))), .val (.int lB), .val (.int cB), .val (.ref v1), .val (.ref v9), .val (.ref rA), .val (.ref rB), .unset, .unset, .unset, .unset] [(.int ((p0 &&& (2147483647 : Int32)) % (3 : Int32)))]))
                      refine Gl.st (fun _ kq => XS.iconst Xbb.here hx rfl (hb hby at_270) kq) ?_
                      show Gl p.tables e below _ (Tbb.setTop (mkF m 271 #[.val (.int p0), .val (.int p1), .val (.int p2), .val (.int p3), .val (.int p4), .val (.int fA), .val (.int fB), .val (.int gq7), .val (.int gq8), .val (.int (((p4.toUInt32 >>> ((3 : Int32) &&& 31).toUInt32).toInt32) &&& (3 : Int32))), .val (.int ((p0 &&& (2147483647 : Int32)) % (3 : Int32))), .val (.int lB), .val (.int cB), .val (.ref v1), .val (.ref v9), .val (.ref rA), .val (.ref rB), .unset, .unset, .unset, .unset] [(.int 2), (.int ((p0 &&& (2147483647 : Int32)) % (3 : Int32)))]))
                      by_cases hc50 : ((p0 &&& (2147483647 : Int32)) % (3 : Int32)) < (2 : Int32)
                      · refine Gl.st (fun _ kq => XS.icmpYes Xbb.here hx rfl (pc0 := 271) (pc' := 294) rfl (hb hby at_271) rfl (tlt (hc50 : ((p0 &&& (2147483647 : Int32)) % (3 : Int32)) < (2 : Int32))).1 (by decide) (by decide) kq) ?_
                        show Gl p.tables e below _ (Tbb.setTop (mkF m 294 #[.val (.int p0), .val (.int p1), .val (.int p2), .val (.int p3), .val (.int p4), .val (.int fA), .val (.int fB), .val (.int gq7), .val (.int gq8), .val (.int (((p4.toUInt32 >>> ((3 : Int32) &&& 31).toUInt32).toInt32) &&& (3 : Int32))), .val (.int ((p0 &&& (2147483647 : Int32)) % (3 : Int32))), .val (.int lB), .val (.int cB), .val (.ref v1), .val (.ref v9), .val (.ref rA), .val (.ref rB), .unset, .unset, .unset, .unset] []))
                        refine Gl.st (fun _ kq => XS.iconst Xbb.here hx rfl (hb hby at_294) kq) ?_
                        show Gl p.tables e below _ (Tbb.setTop (mkF m 295 #[.val (.int p0), .val (.int p1), .val (.int p2), .val (.int p3), .val (.int p4), .val (.int fA), .val (.int fB), .val (.int gq7), .val (.int gq8), .val (.int (((p4.toUInt32 >>> ((3 : Int32) &&& 31).toUInt32).toInt32) &&& (3 : Int32))), .val (.int ((p0 &&& (2147483647 : Int32)) % (3 : Int32))), .val (.int lB), .val (.int cB), .val (.ref v1), .val (.ref v9), .val (.ref rA), .val (.ref rB), .unset, .unset, .unset, .unset] [(.int 1)]))
                        refine Gl.st (fun _ kq => XS.goto Xbb.here hx rfl (pc0 := 295) (pc' := 299) rfl (hb hby at_295) (by decide) (by decide) kq) ?_
                        show Gl p.tables e below _ (Tbb.setTop (mkF m 299 #[.val (.int p0), .val (.int p1), .val (.int p2), .val (.int p3), .val (.int p4), .val (.int fA), .val (.int fB), .val (.int gq7), .val (.int gq8), .val (.int (((p4.toUInt32 >>> ((3 : Int32) &&& 31).toUInt32).toInt32) &&& (3 : Int32))), .val (.int ((p0 &&& (2147483647 : Int32)) % (3 : Int32))), .val (.int lB), .val (.int cB), .val (.ref v1), .val (.ref v9), .val (.ref rA), .val (.ref rB), .unset, .unset, .unset, .unset] [(.int 1)]))
                        refine Gl.st (fun _ kq => XS.istore Xbb.here hx rfl (hb hby at_299) rfl (l' := #[.val (.int p0), .val (.int p1), .val (.int p2), .val (.int p3), .val (.int p4), .val (.int fA), .val (.int fB), .val (.int gq7), .val (.int gq8), .val (.int (((p4.toUInt32 >>> ((3 : Int32) &&& 31).toUInt32).toInt32) &&& (3 : Int32))), .val (.int ((p0 &&& (2147483647 : Int32)) % (3 : Int32))), .val (.int lB), .val (.int cB), .val (.ref v1), .val (.ref v9), .val (.ref rA), .val (.ref rB), .val (.int 1), .unset, .unset, .unset]) rfl kq) ?_
                        show Gl p.tables e below _ (Tbb.setTop (mkF m 301 #[.val (.int p0), .val (.int p1), .val (.int p2), .val (.int p3), .val (.int p4), .val (.int fA), .val (.int fB), .val (.int gq7), .val (.int gq8), .val (.int (((p4.toUInt32 >>> ((3 : Int32) &&& 31).toUInt32).toInt32) &&& (3 : Int32))), .val (.int ((p0 &&& (2147483647 : Int32)) % (3 : Int32))), .val (.int lB), .val (.int cB), .val (.ref v1), .val (.ref v9), .val (.ref rA), .val (.ref rB), .val (.int 1), .unset, .unset, .unset] []))
                        have iff51 := mk_iff p1 cB (k3_rem _ : own_k3 ((p0 &&& (2147483647 : Int32)) % (3 : Int32))) yj_0
                        rw [← y5_0, ← y13_0] at iff51
                        exact Js _ _ _ _ _ hSbb hZbb hobb hkbb Cbb (Xbb.more (by decide) (by decide)) ebb Nbb zbb ((1 : Int32)) fbb_0 fbb_1 fbb_2 fbb_3 fbb_4 fbb_5 fbb_6 fbb_7 fbb_8 fbb_9 fbb_10 fbb_11 fbb_12 fbb_13 fbb_14 (Or.inl ⟨rfl, iff51.mpr ⟨hc42, Or.inr hc49, Or.inl hc50⟩⟩)
                      · refine Gl.st (fun _ kq => XS.icmpNo Xbb.here hx rfl (hb hby at_271) rfl (flt (hc50 : ¬ (((p0 &&& (2147483647 : Int32)) % (3 : Int32)) < (2 : Int32)))).1 kq) ?_
                        show Gl p.tables e below _ (Tbb.setTop (mkF m 274 #[.val (.int p0), .val (.int p1), .val (.int p2), .val (.int p3), .val (.int p4), .val (.int fA), .val (.int fB), .val (.int gq7), .val (.int gq8), .val (.int (((p4.toUInt32 >>> ((3 : Int32) &&& 31).toUInt32).toInt32) &&& (3 : Int32))), .val (.int ((p0 &&& (2147483647 : Int32)) % (3 : Int32))), .val (.int lB), .val (.int cB), .val (.ref v1), .val (.ref v9), .val (.ref rA), .val (.ref rB), .unset, .unset, .unset, .unset] []))
                        refine Gl.st (fun _ kq => XS.iloadN Xbb.here hx rfl (hb hby at_274) rfl kq) ?_
                        show Gl p.tables e below _ (Tbb.setTop (mkF m 275 #[.val (.int p0), .val (.int p1), .val (.int p2), .val (.int p3), .val (.int p4), .val (.int fA), .val (.int fB), .val (.int gq7), .val (.int gq8), .val (.int (((p4.toUInt32 >>> ((3 : Int32) &&& 31).toUInt32).toInt32) &&& (3 : Int32))), .val (.int ((p0 &&& (2147483647 : Int32)) % (3 : Int32))), .val (.int lB), .val (.int cB), .val (.ref v1), .val (.ref v9), .val (.ref rA), .val (.ref rB), .unset, .unset, .unset, .unset] [(.int p1)]))
                        refine Gl.st (fun _ kq => XS.bipush Xbb.here hx rfl (hb hby at_275) kq) ?_
                        show Gl p.tables e below _ (Tbb.setTop (mkF m 277 #[.val (.int p0), .val (.int p1), .val (.int p2), .val (.int p3), .val (.int p4), .val (.int fA), .val (.int fB), .val (.int gq7), .val (.int gq8), .val (.int (((p4.toUInt32 >>> ((3 : Int32) &&& 31).toUInt32).toInt32) &&& (3 : Int32))), .val (.int ((p0 &&& (2147483647 : Int32)) % (3 : Int32))), .val (.int lB), .val (.int cB), .val (.ref v1), .val (.ref v9), .val (.ref rA), .val (.ref rB), .unset, .unset, .unset, .unset] [(.int 8), (.int p1)]))
                        refine Gl.st (fun _ kq => XS.iushr Xbb.here hx rfl (hb hby at_277) rfl kq) ?_
                        show Gl p.tables e below _ (Tbb.setTop (mkF m 278 #[.val (.int p0), .val (.int p1), .val (.int p2), .val (.int p3), .val (.int p4), .val (.int fA), .val (.int fB), .val (.int gq7), .val (.int gq8), .val (.int (((p4.toUInt32 >>> ((3 : Int32) &&& 31).toUInt32).toInt32) &&& (3 : Int32))), .val (.int ((p0 &&& (2147483647 : Int32)) % (3 : Int32))), .val (.int lB), .val (.int cB), .val (.ref v1), .val (.ref v9), .val (.ref rA), .val (.ref rB), .unset, .unset, .unset, .unset] [(.int ((p1.toUInt32 >>> ((8 : Int32) &&& 31).toUInt32).toInt32))]))
                        refine Gl.st (fun _ kq => XS.sipush Xbb.here hx rfl (hb hby at_278) kq) ?_
                        show Gl p.tables e below _ (Tbb.setTop (mkF m 281 #[.val (.int p0), .val (.int p1), .val (.int p2), .val (.int p3), .val (.int p4), .val (.int fA), .val (.int fB), .val (.int gq7), .val (.int gq8), .val (.int (((p4.toUInt32 >>> ((3 : Int32) &&& 31).toUInt32).toInt32) &&& (3 : Int32))), .val (.int ((p0 &&& (2147483647 : Int32)) % (3 : Int32))), .val (.int lB), .val (.int cB), .val (.ref v1), .val (.ref v9), .val (.ref rA), .val (.ref rB), .unset, .unset, .unset, .unset] [(.int 255), (.int ((p1.toUInt32 >>> ((8 : Int32) &&& 31).toUInt32).toInt32))]))
                        refine Gl.st (fun _ kq => XS.iand Xbb.here hx rfl (hb hby at_281) rfl kq) ?_
                        show Gl p.tables e below _ (Tbb.setTop (mkF m 282 #[.val (.int p0), .val (.int p1), .val (.int p2), .val (.int p3), .val (.int p4), .val (.int fA), .val (.int fB), .val (.int gq7), .val (.int gq8), .val (.int (((p4.toUInt32 >>> ((3 : Int32) &&& 31).toUInt32).toInt32) &&& (3 : Int32))), .val (.int ((p0 &&& (2147483647 : Int32)) % (3 : Int32))), .val (.int lB), .val (.int cB), .val (.ref v1), .val (.ref v9), .val (.ref rA), .val (.ref rB), .unset, .unset, .unset, .unset] [(.int (((p1.toUInt32 >>> ((8 : Int32) &&& 31).toUInt32).toInt32) &&& (255 : Int32)))]))
                        refine Gl.st (fun _ kq => XS.iload Xbb.here hx rfl (hb hby at_282) rfl kq) ?_
                        show Gl p.tables e below _ (Tbb.setTop (mkF m 284 #[.val (.int p0), .val (.int p1), .val (.int p2), .val (.int p3), .val (.int p4), .val (.int fA), .val (.int fB), .val (.int gq7), .val (.int gq8), .val (.int (((p4.toUInt32 >>> ((3 : Int32) &&& 31).toUInt32).toInt32) &&& (3 : Int32))), .val (.int ((p0 &&& (2147483647 : Int32)) % (3 : Int32))), .val (.int lB), .val (.int cB), .val (.ref v1), .val (.ref v9), .val (.ref rA), .val (.ref rB), .unset, .unset, .unset, .unset] [(.int cB), (.int (((p1.toUInt32 >>> ((8 : Int32) &&& 31).toUInt32).toInt32) &&& (255 : Int32)))]))
                        refine Gl.st (fun _ kq => XS.bipush Xbb.here hx rfl (hb hby at_284) kq) ?_
                        show Gl p.tables e below _ (Tbb.setTop (mkF m 286 #[.val (.int p0), .val (.int p1), .val (.int p2), .val (.int p3), .val (.int p4), .val (.int fA), .val (.int fB), .val (.int gq7), .val (.int gq8), .val (.int (((p4.toUInt32 >>> ((3 : Int32) &&& 31).toUInt32).toInt32) &&& (3 : Int32))), .val (.int ((p0 &&& (2147483647 : Int32)) % (3 : Int32))), .val (.int lB), .val (.int cB), .val (.ref v1), .val (.ref v9), .val (.ref rA), .val (.ref rB), .unset, .unset, .unset, .unset] [(.int 8), (.int cB), (.int (((p1.toUInt32 >>> ((8 : Int32) &&& 31).toUInt32).toInt32) &&& (255 : Int32)))]))
                        refine Gl.st (fun _ kq => XS.iushr Xbb.here hx rfl (hb hby at_286) rfl kq) ?_
                        show Gl p.tables e below _ (Tbb.setTop (mkF m 287 #[.val (.int p0), .val (.int p1), .val (.int p2), .val (.int p3), .val (.int p4), .val (.int fA), .val (.int fB), .val (.int gq7), .val (.int gq8), .val (.int (((p4.toUInt32 >>> ((3 : Int32) &&& 31).toUInt32).toInt32) &&& (3 : Int32))), .val (.int ((p0 &&& (2147483647 : Int32)) % (3 : Int32))), .val (.int lB), .val (.int cB), .val (.ref v1), .val (.ref v9), .val (.ref rA), .val (.ref rB), .unset, .unset, .unset, .unset] [(.int ((cB.toUInt32 >>> ((8 : Int32) &&& 31).toUInt32).toInt32)), (.int (((p1.toUInt32 >>> ((8 : Int32) &&& 31).toUInt32).toInt32) &&& (255 : Int32)))]))
                        refine Gl.st (fun _ kq => XS.sipush Xbb.here hx rfl (hb hby at_287) kq) ?_
                        show Gl p.tables e below _ (Tbb.setTop (mkF m 290 #[.val (.int p0), .val (.int p1), .val (.int p2), .val (.int p3), .val (.int p4), .val (.int fA), .val (.int fB), .val (.int gq7), .val (.int gq8), .val (.int (((p4.toUInt32 >>> ((3 : Int32) &&& 31).toUInt32).toInt32) &&& (3 : Int32))), .val (.int ((p0 &&& (2147483647 : Int32)) % (3 : Int32))), .val (.int lB), .val (.int cB), .val (.ref v1), .val (.ref v9), .val (.ref rA), .val (.ref rB), .unset, .unset, .unset, .unset] [(.int 255), (.int ((cB.toUInt32 >>> ((8 : Int32) &&& 31).toUInt32).toInt32)), (.int (((p1.toUInt32 >>> ((8 : Int32) &&& 31).toUInt32).toInt32) &&& (255 : Int32)))]))
                        refine Gl.st (fun _ kq => XS.iand Xbb.here hx rfl (hb hby at_290) rfl kq) ?_
                        show Gl p.tables e below _ (Tbb.setTop (mkF m 291 #[.val (.int p0), .val (.int p1), .val (.int p2), .val (.int p3), .val (.int p4), .val (.int fA), .val (.int fB), .val (.int gq7), .val (.int gq8), .val (.int (((p4.toUInt32 >>> ((3 : Int32) &&& 31).toUInt32).toInt32) &&& (3 : Int32))), .val (.int ((p0 &&& (2147483647 : Int32)) % (3 : Int32))), .val (.int lB), .val (.int cB), .val (.ref v1), .val (.ref v9), .val (.ref rA), .val (.ref rB), .unset, .unset, .unset, .unset] [(.int (((cB.toUInt32 >>> ((8 : Int32) &&& 31).toUInt32).toInt32) &&& (255 : Int32))), (.int (((p1.toUInt32 >>> ((8 : Int32) &&& 31).toUInt32).toInt32) &&& (255 : Int32)))]))
                        by_cases hc52 : (((p1.toUInt32 >>> ((8 : Int32) &&& 31).toUInt32).toInt32) &&& (255 : Int32)) = (((cB.toUInt32 >>> ((8 : Int32) &&& 31).toUInt32).toInt32) &&& (255 : Int32))
                        · refine Gl.st (fun _ kq => XS.icmpNo Xbb.here hx rfl (hb hby at_291) rfl (teq (hc52 : (((p1.toUInt32 >>> ((8 : Int32) &&& 31).toUInt32).toInt32) &&& (255 : Int32)) = (((cB.toUInt32 >>> ((8 : Int32) &&& 31).toUInt32).toInt32) &&& (255 : Int32)))).2 kq) ?_
                          show Gl p.tables e below _ (Tbb.setTop (mkF m 294 #[.val (.int p0), .val (.int p1), .val (.int p2), .val (.int p3), .val (.int p4), .val (.int fA), .val (.int fB), .val (.int gq7), .val (.int gq8), .val (.int (((p4.toUInt32 >>> ((3 : Int32) &&& 31).toUInt32).toInt32) &&& (3 : Int32))), .val (.int ((p0 &&& (2147483647 : Int32)) % (3 : Int32))), .val (.int lB), .val (.int cB), .val (.ref v1), .val (.ref v9), .val (.ref rA), .val (.ref rB), .unset, .unset, .unset, .unset] []))
                          refine Gl.st (fun _ kq => XS.iconst Xbb.here hx rfl (hb hby at_294) kq) ?_
                          show Gl p.tables e below _ (Tbb.setTop (mkF m 295 #[.val (.int p0), .val (.int p1), .val (.int p2), .val (.int p3), .val (.int p4), .val (.int fA), .val (.int fB), .val (.int gq7), .val (.int gq8), .val (.int (((p4.toUInt32 >>> ((3 : Int32) &&& 31).toUInt32).toInt32) &&& (3 : Int32))), .val (.int ((p0 &&& (2147483647 : Int32)) % (3 : Int32))), .val (.int lB), .val (.int cB), .val (.ref v1), .val (.ref v9), .val (.ref rA), .val (.ref rB), .unset, .unset, .unset, .unset] [(.int 1)]))
                          refine Gl.st (fun _ kq => XS.goto Xbb.here hx rfl (pc0 := 295) (pc' := 299) rfl (hb hby at_295) (by decide) (by decide) kq) ?_
                          show Gl p.tables e below _ (Tbb.setTop (mkF m 299 #[.val (.int p0), .val (.int p1), .val (.int p2), .val (.int p3), .val (.int p4), .val (.int fA), .val (.int fB), .val (.int gq7), .val (.int gq8), .val (.int (((p4.toUInt32 >>> ((3 : Int32) &&& 31).toUInt32).toInt32) &&& (3 : Int32))), .val (.int ((p0 &&& (2147483647 : Int32)) % (3 : Int32))), .val (.int lB), .val (.int cB), .val (.ref v1), .val (.ref v9), .val (.ref rA), .val (.ref rB), .unset, .unset, .unset, .unset] [(.int 1)]))
                          refine Gl.st (fun _ kq => XS.istore Xbb.here hx rfl (hb hby at_299) rfl (l' := #[.val (.int p0), .val (.int p1), .val (.int p2), .val (.int p3), .val (.int p4), .val (.int fA), .val (.int fB), .val (.int gq7), .val (.int gq8), .val (.int (((p4.toUInt32 >>> ((3 : Int32) &&& 31).toUInt32).toInt32) &&& (3 : Int32))), .val (.int ((p0 &&& (2147483647 : Int32)) % (3 : Int32))), .val (.int lB), .val (.int cB), .val (.ref v1), .val (.ref v9), .val (.ref rA), .val (.ref rB), .val (.int 1), .unset, .unset, .unset]) rfl kq) ?_
                          show Gl p.tables e below _ (Tbb.setTop (mkF m 301 #[.val (.int p0), .val (.int p1), .val (.int p2), .val (.int p3), .val (.int p4), .val (.int fA), .val (.int fB), .val (.int gq7), .val (.int gq8), .val (.int (((p4.toUInt32 >>> ((3 : Int32) &&& 31).toUInt32).toInt32) &&& (3 : Int32))), .val (.int ((p0 &&& (2147483647 : Int32)) % (3 : Int32))), .val (.int lB), .val (.int cB), .val (.ref v1), .val (.ref v9), .val (.ref rA), .val (.ref rB), .val (.int 1), .unset, .unset, .unset] []))
                          have iff53 := mk_iff p1 cB (k3_rem _ : own_k3 ((p0 &&& (2147483647 : Int32)) % (3 : Int32))) yj_0
                          rw [← y5_0, ← y13_0] at iff53
                          exact Js _ _ _ _ _ hSbb hZbb hobb hkbb Cbb (Xbb.more (by decide) (by decide)) ebb Nbb zbb ((1 : Int32)) fbb_0 fbb_1 fbb_2 fbb_3 fbb_4 fbb_5 fbb_6 fbb_7 fbb_8 fbb_9 fbb_10 fbb_11 fbb_12 fbb_13 fbb_14 (Or.inl ⟨rfl, iff53.mpr ⟨hc42, Or.inr hc49, Or.inr hc52⟩⟩)
                        · refine Gl.st (fun _ kq => XS.icmpYes Xbb.here hx rfl (pc0 := 291) (pc' := 298) rfl (hb hby at_291) rfl (feq (hc52 : ¬ ((((p1.toUInt32 >>> ((8 : Int32) &&& 31).toUInt32).toInt32) &&& (255 : Int32)) = (((cB.toUInt32 >>> ((8 : Int32) &&& 31).toUInt32).toInt32) &&& (255 : Int32))))).2 (by decide) (by decide) kq) ?_
                          show Gl p.tables e below _ (Tbb.setTop (mkF m 298 #[.val (.int p0), .val (.int p1), .val (.int p2), .val (.int p3), .val (.int p4), .val (.int fA), .val (.int fB), .val (.int gq7), .val (.int gq8), .val (.int (((p4.toUInt32 >>> ((3 : Int32) &&& 31).toUInt32).toInt32) &&& (3 : Int32))), .val (.int ((p0 &&& (2147483647 : Int32)) % (3 : Int32))), .val (.int lB), .val (.int cB), .val (.ref v1), .val (.ref v9), .val (.ref rA), .val (.ref rB), .unset, .unset, .unset, .unset] []))
                          refine Gl.st (fun _ kq => XS.iconst Xbb.here hx rfl (hb hby at_298) kq) ?_
                          show Gl p.tables e below _ (Tbb.setTop (mkF m 299 #[.val (.int p0), .val (.int p1), .val (.int p2), .val (.int p3), .val (.int p4), .val (.int fA), .val (.int fB), .val (.int gq7), .val (.int gq8), .val (.int (((p4.toUInt32 >>> ((3 : Int32) &&& 31).toUInt32).toInt32) &&& (3 : Int32))), .val (.int ((p0 &&& (2147483647 : Int32)) % (3 : Int32))), .val (.int lB), .val (.int cB), .val (.ref v1), .val (.ref v9), .val (.ref rA), .val (.ref rB), .unset, .unset, .unset, .unset] [(.int 0)]))
                          refine Gl.st (fun _ kq => XS.istore Xbb.here hx rfl (hb hby at_299) rfl (l' := #[.val (.int p0), .val (.int p1), .val (.int p2), .val (.int p3), .val (.int p4), .val (.int fA), .val (.int fB), .val (.int gq7), .val (.int gq8), .val (.int (((p4.toUInt32 >>> ((3 : Int32) &&& 31).toUInt32).toInt32) &&& (3 : Int32))), .val (.int ((p0 &&& (2147483647 : Int32)) % (3 : Int32))), .val (.int lB), .val (.int cB), .val (.ref v1), .val (.ref v9), .val (.ref rA), .val (.ref rB), .val (.int 0), .unset, .unset, .unset]) rfl kq) ?_
                          show Gl p.tables e below _ (Tbb.setTop (mkF m 301 #[.val (.int p0), .val (.int p1), .val (.int p2), .val (.int p3), .val (.int p4), .val (.int fA), .val (.int fB), .val (.int gq7), .val (.int gq8), .val (.int (((p4.toUInt32 >>> ((3 : Int32) &&& 31).toUInt32).toInt32) &&& (3 : Int32))), .val (.int ((p0 &&& (2147483647 : Int32)) % (3 : Int32))), .val (.int lB), .val (.int cB), .val (.ref v1), .val (.ref v9), .val (.ref rA), .val (.ref rB), .val (.int 0), .unset, .unset, .unset] []))
                          have iff54 := mk_iff p1 cB (k3_rem _ : own_k3 ((p0 &&& (2147483647 : Int32)) % (3 : Int32))) yj_0
                          rw [← y5_0, ← y13_0] at iff54
                          exact Js _ _ _ _ _ hSbb hZbb hobb hkbb Cbb (Xbb.more (by decide) (by decide)) ebb Nbb zbb ((0 : Int32)) fbb_0 fbb_1 fbb_2 fbb_3 fbb_4 fbb_5 fbb_6 fbb_7 fbb_8 fbb_9 fbb_10 fbb_11 fbb_12 fbb_13 fbb_14 (Or.inr ⟨rfl, fun q => (iff54.mp q).2.2.elim hc50 hc52⟩)
                    · refine Gl.st (fun _ kq => XS.icmpYes Xbb.here hx rfl (pc0 := 265) (pc' := 298) rfl (hb hby at_265) rfl (feq (hc49 : ¬ ((p1 &&& (255 : Int32)) = (cB &&& (255 : Int32))))).2 (by decide) (by decide) kq) ?_
                      show Gl p.tables e below _ (Tbb.setTop (mkF m 298 #[.val (.int p0), .val (.int p1), .val (.int p2), .val (.int p3), .val (.int p4), .val (.int fA), .val (.int fB), .val (.int gq7), .val (.int gq8), .val (.int (((p4.toUInt32 >>> ((3 : Int32) &&& 31).toUInt32).toInt32) &&& (3 : Int32))), .val (.int ((p0 &&& (2147483647 : Int32)) % (3 : Int32))), .val (.int lB), .val (.int cB), .val (.ref v1), .val (.ref v9), .val (.ref rA), .val (.ref rB), .unset, .unset, .unset, .unset] []))
                      refine Gl.st (fun _ kq => XS.iconst Xbb.here hx rfl (hb hby at_298) kq) ?_
                      show Gl p.tables e below _ (Tbb.setTop (mkF m 299 #[.val (.int p0), .val (.int p1), .val (.int p2), .val (.int p3), .val (.int p4), .val (.int fA), .val (.int fB), .val (.int gq7), .val (.int gq8), .val (.int (((p4.toUInt32 >>> ((3 : Int32) &&& 31).toUInt32).toInt32) &&& (3 : Int32))), .val (.int ((p0 &&& (2147483647 : Int32)) % (3 : Int32))), .val (.int lB), .val (.int cB), .val (.ref v1), .val (.ref v9), .val (.ref rA), .val (.ref rB), .unset, .unset, .unset, .unset] [(.int 0)]))
                      refine Gl.st (fun _ kq => XS.istore Xbb.here hx rfl (hb hby at_299) rfl (l' := #[.val (.int p0), .val (.int p1), .val (.int p2), .val (.int p3), .val (.int p4), .val (.int fA), .val (.int fB), .val (.int gq7), .val (.int gq8), .val (.int (((p4.toUInt32 >>> ((3 : Int32) &&& 31).toUInt32).toInt32) &&& (3 : Int32))), .val (.int ((p0 &&& (2147483647 : Int32)) % (3 : Int32))), .val (.int lB), .val (.int cB), .val (.ref v1), .val (.ref v9), .val (.ref rA), .val (.ref rB), .val (.int 0), .unset, .unset, .unset]) rfl kq) ?_
                      show Gl p.tables e below _ (Tbb.setTop (mkF m 301 #[.val (.int p0), .val (.int p1), .val (.int p2), .val (.int p3), .val (.int p4), .val (.int fA), .val (.int fB), .val (.int gq7), .val (.int gq8), .val (.int (((p4.toUInt32 >>> ((3 : Int32) &&& 31).toUInt32).toInt32) &&& (3 : Int32))), .val (.int ((p0 &&& (2147483647 : Int32)) % (3 : Int32))), .val (.int lB), .val (.int cB), .val (.ref v1), .val (.ref v9), .val (.ref rA), .val (.ref rB), .val (.int 0), .unset, .unset, .unset] []))
                      have iff55 := mk_iff p1 cB (k3_rem _ : own_k3 ((p0 &&& (2147483647 : Int32)) % (3 : Int32))) yj_0
                      rw [← y5_0, ← y13_0] at iff55
                      exact Js _ _ _ _ _ hSbb hZbb hobb hkbb Cbb (Xbb.more (by decide) (by decide)) ebb Nbb zbb ((0 : Int32)) fbb_0 fbb_1 fbb_2 fbb_3 fbb_4 fbb_5 fbb_6 fbb_7 fbb_8 fbb_9 fbb_10 fbb_11 fbb_12 fbb_13 fbb_14 (Or.inr ⟨rfl, fun q => (iff55.mp q).2.1.elim hc43 hc49⟩)
                · refine Gl.st (fun _ kq => XS.icmpYes Xbb.here hx rfl (pc0 := 245) (pc' := 298) rfl (hb hby at_245) rfl (feq (hc42 : ¬ (((p0 &&& (2147483647 : Int32)) % (3 : Int32)) = lB))).2 (by decide) (by decide) kq) ?_
                  show Gl p.tables e below _ (Tbb.setTop (mkF m 298 #[.val (.int p0), .val (.int p1), .val (.int p2), .val (.int p3), .val (.int p4), .val (.int fA), .val (.int fB), .val (.int gq7), .val (.int gq8), .val (.int (((p4.toUInt32 >>> ((3 : Int32) &&& 31).toUInt32).toInt32) &&& (3 : Int32))), .val (.int ((p0 &&& (2147483647 : Int32)) % (3 : Int32))), .val (.int lB), .val (.int cB), .val (.ref v1), .val (.ref v9), .val (.ref rA), .val (.ref rB), .unset, .unset, .unset, .unset] []))
                  refine Gl.st (fun _ kq => XS.iconst Xbb.here hx rfl (hb hby at_298) kq) ?_
                  show Gl p.tables e below _ (Tbb.setTop (mkF m 299 #[.val (.int p0), .val (.int p1), .val (.int p2), .val (.int p3), .val (.int p4), .val (.int fA), .val (.int fB), .val (.int gq7), .val (.int gq8), .val (.int (((p4.toUInt32 >>> ((3 : Int32) &&& 31).toUInt32).toInt32) &&& (3 : Int32))), .val (.int ((p0 &&& (2147483647 : Int32)) % (3 : Int32))), .val (.int lB), .val (.int cB), .val (.ref v1), .val (.ref v9), .val (.ref rA), .val (.ref rB), .unset, .unset, .unset, .unset] [(.int 0)]))
                  refine Gl.st (fun _ kq => XS.istore Xbb.here hx rfl (hb hby at_299) rfl (l' := #[.val (.int p0), .val (.int p1), .val (.int p2), .val (.int p3), .val (.int p4), .val (.int fA), .val (.int fB), .val (.int gq7), .val (.int gq8), .val (.int (((p4.toUInt32 >>> ((3 : Int32) &&& 31).toUInt32).toInt32) &&& (3 : Int32))), .val (.int ((p0 &&& (2147483647 : Int32)) % (3 : Int32))), .val (.int lB), .val (.int cB), .val (.ref v1), .val (.ref v9), .val (.ref rA), .val (.ref rB), .val (.int 0), .unset, .unset, .unset]) rfl kq) ?_
                  show Gl p.tables e below _ (Tbb.setTop (mkF m 301 #[.val (.int p0), .val (.int p1), .val (.int p2), .val (.int p3), .val (.int p4), .val (.int fA), .val (.int fB), .val (.int gq7), .val (.int gq8), .val (.int (((p4.toUInt32 >>> ((3 : Int32) &&& 31).toUInt32).toInt32) &&& (3 : Int32))), .val (.int ((p0 &&& (2147483647 : Int32)) % (3 : Int32))), .val (.int lB), .val (.int cB), .val (.ref v1), .val (.ref v9), .val (.ref rA), .val (.ref rB), .val (.int 0), .unset, .unset, .unset] []))
                  have iff56 := mk_iff p1 cB (k3_rem _ : own_k3 ((p0 &&& (2147483647 : Int32)) % (3 : Int32))) yj_0
                  rw [← y5_0, ← y13_0] at iff56
                  exact Js _ _ _ _ _ hSbb hZbb hobb hkbb Cbb (Xbb.more (by decide) (by decide)) ebb Nbb zbb ((0 : Int32)) fbb_0 fbb_1 fbb_2 fbb_3 fbb_4 fbb_5 fbb_6 fbb_7 fbb_8 fbb_9 fbb_10 fbb_11 fbb_12 fbb_13 fbb_14 (Or.inr ⟨rfl, fun q => hc42 (iff56.mp q).1⟩)
              refine Gl.st (fun _ kq => XS.iload X32.here hx rfl (hb hby at_229) rfl kq) ?_
              show Gl p.tables e below _ (T32.setTop (mkF m 231 #[.val (.int p0), .val (.int p1), .val (.int p2), .val (.int p3), .val (.int p4), .val (.int fA), .val (.int fB), .val (.int gq7), .val (.int gq8), .val (.int (((p4.toUInt32 >>> ((3 : Int32) &&& 31).toUInt32).toInt32) &&& (3 : Int32))), .val (.int ((p0 &&& (2147483647 : Int32)) % (3 : Int32))), .val (.int lB), .val (.int cB), .val (.ref v1), .val (.ref v9), .val (.ref rA), .val (.ref b28), .unset, .unset, .unset, .unset] [(.int fB)]))
              by_cases hc57 : fB = (0 : Int32)
              · refine Gl.st (fun _ kq => XS.ifYes X32.here hx rfl (pc0 := 231) (pc' := 241) rfl (hb hby at_231) rfl ((if0 _ _).trans (teq (hc57 : fB = (0 : Int32))).1) (by decide) (by decide) kq) ?_
                show Gl p.tables e below _ (T32.setTop (mkF m 241 #[.val (.int p0), .val (.int p1), .val (.int p2), .val (.int p3), .val (.int p4), .val (.int fA), .val (.int fB), .val (.int gq7), .val (.int gq8), .val (.int (((p4.toUInt32 >>> ((3 : Int32) &&& 31).toUInt32).toInt32) &&& (3 : Int32))), .val (.int ((p0 &&& (2147483647 : Int32)) % (3 : Int32))), .val (.int lB), .val (.int cB), .val (.ref v1), .val (.ref v9), .val (.ref rA), .val (.ref b28), .unset, .unset, .unset, .unset] []))
                have f58 : Exa Z T32.heap rA "com/example/rooted_tableau/rootedtableau/model/Role" := ((fa_0.ext E28).keep K32)
                have ne59 : rA ≠ b28 := Nat.ne_of_lt (Nat.lt_of_lt_of_le fa_0.lt (Nat.le_of_eq g28.symm))
                have f60 : Fld Z T32.heap rA "com/example/rooted_tableau/rootedtableau/model/Role" "iri" "Ljava/lang/String;" (.ref v1) := ((fa_1.ext E28).keep K32 (ninS ne59 nin0))
                have f61 : Fld Z T32.heap rA "com/example/rooted_tableau/rootedtableau/model/Role" "inverse" "Z" (.int fA) := ((fa_2.ext E28).keep K32 (ninS ne59 nin0))
                have f62 : Old Z n0 T32.heap := ((fa_3.ext E28).keep K32 (allS g29 all0))
                have f63 : Exa Z T32.heap v1 "java/lang/String" := ((fa_4.ext E28).keep K32)
                have ne64 : v1 ≠ b28 := Nat.ne_of_lt (Nat.lt_of_lt_of_le fa_4.lt (Nat.le_of_eq g28.symm))
                have f65 : Fld Z T32.heap v1 "java/lang/String" "coder" "B" (.int 0) := ((fa_5.ext E28).keep K32 (ninS ne64 nin0))
                have f66 : Fld Z T32.heap v1 "java/lang/String" "value" "[B" (.ref v2) := ((fa_6.ext E28).keep K32 (ninS ne64 nin0))
                have ne67 : v2 ≠ b28 := Nat.ne_of_lt (Nat.lt_of_lt_of_le fa_7.lt (Nat.le_of_eq g28.symm))
                have f68 : Arv Z T32.heap v2 v3 .byte (Int32.ofNat v4.length) ((v4.map (fun c => c.toInt8.toInt32)).map Value.int) (.int 0) := ((fa_7.ext E28).keep K32 (ninS ne67 nin0))
                have f69 : Exa Z T32.heap v9 "java/lang/String" := (f31.keep K32)
                have ne70 : v9 ≠ b28 := Nat.ne_of_lt (Nat.lt_of_lt_of_le fa_8.lt (Nat.le_of_eq g28.symm))
                have f71 : Fld Z T32.heap v9 "java/lang/String" "coder" "B" (.int 0) := ((fa_9.ext E28).keep K32 (ninS ne70 nin0))
                have f72 : Fld Z T32.heap v9 "java/lang/String" "value" "[B" (.ref v10) := ((fa_10.ext E28).keep K32 (ninS ne70 nin0))
                have ne73 : v10 ≠ b28 := Nat.ne_of_lt (Nat.lt_of_lt_of_le fa_11.lt (Nat.le_of_eq g28.symm))
                have f74 : Arv Z T32.heap v10 v11 .byte (Int32.ofNat v12.length) ((v12.map (fun c => c.toInt8.toInt32)).map Value.int) (.int 0) := ((fa_11.ext E28).keep K32 (ninS ne73 nin0))
                exact Jbb _ _ _ _ _ S32 hZ32 ho32 (Nat.le_refl _) C33 (X32.more (by decide) (by decide)) rfl M32 (Nat.le_trans (Nat.le_trans za E28.1) K32.1) (b28) q32_0 q32_1 (by rw [hc57]; exact q32_2) f58 f60 f61 f62 f63 f65 f66 f68 f69 f71 f72 f74
              · refine Gl.st (fun _ kq => XS.ifNo X32.here hx rfl (hb hby at_231) rfl ((if0 _ _).trans (feq (hc57 : ¬ (fB = (0 : Int32)))).1) kq) ?_
                show Gl p.tables e below _ (T32.setTop (mkF m 234 #[.val (.int p0), .val (.int p1), .val (.int p2), .val (.int p3), .val (.int p4), .val (.int fA), .val (.int fB), .val (.int gq7), .val (.int gq8), .val (.int (((p4.toUInt32 >>> ((3 : Int32) &&& 31).toUInt32).toInt32) &&& (3 : Int32))), .val (.int ((p0 &&& (2147483647 : Int32)) % (3 : Int32))), .val (.int lB), .val (.int cB), .val (.ref v1), .val (.ref v9), .val (.ref rA), .val (.ref b28), .unset, .unset, .unset, .unset] []))
                refine Gl.st (fun _ kq => XS.aload X32.here hx rfl (hb hby at_234) rfl rfl kq) ?_
                show Gl p.tables e below _ (T32.setTop (mkF m 236 #[.val (.int p0), .val (.int p1), .val (.int p2), .val (.int p3), .val (.int p4), .val (.int fA), .val (.int fB), .val (.int gq7), .val (.int gq8), .val (.int (((p4.toUInt32 >>> ((3 : Int32) &&& 31).toUInt32).toInt32) &&& (3 : Int32))), .val (.int ((p0 &&& (2147483647 : Int32)) % (3 : Int32))), .val (.int lB), .val (.int cB), .val (.ref v1), .val (.ref v9), .val (.ref rA), .val (.ref b28), .unset, .unset, .unset, .unset] [(.ref b28)]))
                have f75 : Exa Z T32.heap v9 "java/lang/String" := (f31.keep K32)
                obtain ⟨cq77, kq77, q77a, q77b, q77c⟩ := isOf hZ32 rfl q32_0
                obtain ⟨_, _, ⟨T77, L77, k77, n77⟩, -, X77, S77, g77, ⟨Lc77, hQ77, l77, y77, z77, R77⟩, st77⟩ := X32.virtualBackS hx (y := (⟨"com/example/rooted_tableau/rootedtableau/model/Role", "inverse", "()Lcom/example/rooted_tableau/rootedtableau/model/Role;"⟩ : MethodName)) (z := (⟨"com/example/rooted_tableau/rootedtableau/model/Role", "inverse", "()Lcom/example/rooted_tableau/rootedtableau/model/Role;"⟩ : MethodName)) ho32 (mvT hZ32 (tw hw 75 rfl)) (mvT hZ32 (tw hw 76 rfl)) (notFace_of_selects (args := #[]) (mvT hZ32 (tw hw 78 rfl))) (mvT hZ32 (tw hw 78 rfl)) (mvT hZ32 (tw hw 77 rfl)) (by decide) (backOfSH (W := 0) (rm_nv l Z a0 hw [] (b28) (v9) T32.heap n0 (Nat.le_trans (Nat.le_trans za E28.1) K32.1) q32_1 q32_2 f75) hZ32 (tw hw 79 rfl) (tw hw 40 rfl) (by decide) (by decide) (elW hw) C33.1) q77a q77c (g := (mkF m 236 #[.val (.int p0), .val (.int p1), .val (.int p2), .val (.int p3), .val (.int p4), .val (.int fA), .val (.int fB), .val (.int gq7), .val (.int gq8), .val (.int (((p4.toUInt32 >>> ((3 : Int32) &&& 31).toUInt32).toInt32) &&& (3 : Int32))), .val (.int ((p0 &&& (2147483647 : Int32)) % (3 : Int32))), .val (.int lB), .val (.int cB), .val (.ref v1), .val (.ref v9), .val (.ref rA), .val (.ref b28), .unset, .unset, .unset, .unset] [(.ref b28)])) rfl (by rw [hml]; rfl) (Steps.refl _) (argsL := []) (rest := []) (lenOf pd___Lcom_example_rooted_tableau_rootedtableau_model_Role_ rfl) rfl (by show 2 * 0 + _ ≤ _; exact Nat.le_of_eq rfl) (hb hby at_236) (fun _ _ => ⟨rfl, rfl, (by decide : 24 + 3 ≤ _), (by decide : 100 + 18 ≤ _)⟩)
                dsimp only [Pt.U, Pt.locs, Pt.cells, Pt.slots] at X77 l77 y77 z77 st77 hQ77 R77
                subst l77 y77 z77
                obtain ⟨X77, S77, hZ77, ho77⟩ := rebS S32 (Nat.le_trans (Nat.le_refl _) (Nat.le_of_eq (congrArg Array.size rfl).symm)) X77 S77 g77 hZ32 ho32
                obtain ⟨v76, rfl, N77, K77, q77_0, q77_1, q77_2, y77_0⟩ := hQ77
                have C78 : CHr Z consts_1 s.vm h0 T77.vm T77.heap := C33.trans R77
                have M77 := Fr.app M32 N77
                have g79 : n0 ≤ v76 := Nat.le_trans (Nat.le_trans (Nat.le_trans za E28.1) K32.1) y77_0
                refine Gl.to st77 ?_
                show Gl p.tables e below _ (T77.setTop (mkF m 239 #[.val (.int p0), .val (.int p1), .val (.int p2), .val (.int p3), .val (.int p4), .val (.int fA), .val (.int fB), .val (.int gq7), .val (.int gq8), .val (.int (((p4.toUInt32 >>> ((3 : Int32) &&& 31).toUInt32).toInt32) &&& (3 : Int32))), .val (.int ((p0 &&& (2147483647 : Int32)) % (3 : Int32))), .val (.int lB), .val (.int cB), .val (.ref v1), .val (.ref v9), .val (.ref rA), .val (.ref b28), .unset, .unset, .unset, .unset] [(.ref v76)]))
                show Gl p.tables e below _ (T77.setTop (mkF m 239 #[.val (.int p0), .val (.int p1), .val (.int p2), .val (.int p3), .val (.int p4), .val (.int fA), .val (.int fB), .val (.int gq7), .val (.int gq8), .val (.int (((p4.toUInt32 >>> ((3 : Int32) &&& 31).toUInt32).toInt32) &&& (3 : Int32))), .val (.int ((p0 &&& (2147483647 : Int32)) % (3 : Int32))), .val (.int lB), .val (.int cB), .val (.ref v1), .val (.ref v9), .val (.ref rA), .val (.ref b28), .unset, .unset, .unset, .unset] [(.ref v76)]))
                refine Gl.st (fun _ kq => XS.astore X77.here hx rfl (hb hby at_239) rfl rfl (l' := #[.val (.int p0), .val (.int p1), .val (.int p2), .val (.int p3), .val (.int p4), .val (.int fA), .val (.int fB), .val (.int gq7), .val (.int gq8), .val (.int (((p4.toUInt32 >>> ((3 : Int32) &&& 31).toUInt32).toInt32) &&& (3 : Int32))), .val (.int ((p0 &&& (2147483647 : Int32)) % (3 : Int32))), .val (.int lB), .val (.int cB), .val (.ref v1), .val (.ref v9), .val (.ref rA), .val (.ref v76), .unset, .unset, .unset, .unset]) rfl kq) ?_
                show Gl p.tables e below _ (T77.setTop (mkF m 241 #[.val (.int p0), .val (.int p1), .val (.int p2), .val (.int p3), .val (.int p4), .val (.int fA), .val (.int fB), .val (.int gq7), .val (.int gq8), .val (.int (((p4.toUInt32 >>> ((3 : Int32) &&& 31).toUInt32).toInt32) &&& (3 : Int32))), .val (.int ((p0 &&& (2147483647 : Int32)) % (3 : Int32))), .val (.int lB), .val (.int cB), .val (.ref v1), .val (.ref v9), .val (.ref rA), .val (.ref v76), .unset, .unset, .unset, .unset] []))
                have f80 : Exa Z T77.heap rA "com/example/rooted_tableau/rootedtableau/model/Role" := (((fa_0.ext E28).keep K32).keep K77)
                have ne81 : rA ≠ b28 := Nat.ne_of_lt (Nat.lt_of_lt_of_le fa_0.lt (Nat.le_of_eq g28.symm))
                have f82 : Fld Z T77.heap rA "com/example/rooted_tableau/rootedtableau/model/Role" "iri" "Ljava/lang/String;" (.ref v1) := (((fa_1.ext E28).keep K32 (ninS ne81 nin0)).keep K77 nin0)
                have f83 : Fld Z T77.heap rA "com/example/rooted_tableau/rootedtableau/model/Role" "inverse" "Z" (.int fA) := (((fa_2.ext E28).keep K32 (ninS ne81 nin0)).keep K77 nin0)
                have f84 : Old Z n0 T77.heap := (((fa_3.ext E28).keep K32 (allS g29 all0)).keep K77 all0)
                have f85 : Exa Z T77.heap v1 "java/lang/String" := (((fa_4.ext E28).keep K32).keep K77)
                have ne86 : v1 ≠ b28 := Nat.ne_of_lt (Nat.lt_of_lt_of_le fa_4.lt (Nat.le_of_eq g28.symm))
                have f87 : Fld Z T77.heap v1 "java/lang/String" "coder" "B" (.int 0) := (((fa_5.ext E28).keep K32 (ninS ne86 nin0)).keep K77 nin0)
                have f88 : Fld Z T77.heap v1 "java/lang/String" "value" "[B" (.ref v2) := (((fa_6.ext E28).keep K32 (ninS ne86 nin0)).keep K77 nin0)
                have ne89 : v2 ≠ b28 := Nat.ne_of_lt (Nat.lt_of_lt_of_le fa_7.lt (Nat.le_of_eq g28.symm))
                have f90 : Arv Z T77.heap v2 v3 .byte (Int32.ofNat v4.length) ((v4.map (fun c => c.toInt8.toInt32)).map Value.int) (.int 0) := (((fa_7.ext E28).keep K32 (ninS ne89 nin0)).keep K77 nin0)
                have f91 : Exa Z T77.heap v9 "java/lang/String" := (f75.keep K77)
                have ne92 : v9 ≠ b28 := Nat.ne_of_lt (Nat.lt_of_lt_of_le fa_8.lt (Nat.le_of_eq g28.symm))
                have f93 : Fld Z T77.heap v9 "java/lang/String" "coder" "B" (.int 0) := (((fa_9.ext E28).keep K32 (ninS ne92 nin0)).keep K77 nin0)
                have f94 : Fld Z T77.heap v9 "java/lang/String" "value" "[B" (.ref v10) := (((fa_10.ext E28).keep K32 (ninS ne92 nin0)).keep K77 nin0)
                have ne95 : v10 ≠ b28 := Nat.ne_of_lt (Nat.lt_of_lt_of_le fa_11.lt (Nat.le_of_eq g28.symm))
                have f96 : Arv Z T77.heap v10 v11 .byte (Int32.ofNat v12.length) ((v12.map (fun c => c.toInt8.toInt32)).map Value.int) (.int 0) := (((fa_11.ext E28).keep K32 (ninS ne95 nin0)).keep K77 nin0)
                exact Jbb _ _ _ _ _ S77 hZ77 ho77 (Nat.le_refl _) C78 (X77.more (by decide) (by decide)) rfl M77 (Nat.le_trans (Nat.le_trans (Nat.le_trans za E28.1) K32.1) K77.1) (v76) q77_0 q77_1 (by rw [(yf_1.resolve_left hc57)]; exact q77_2) f80 f82 f83 f84 f85 f87 f88 f90 f91 f93 f94 f96
      refine Gl.st (fun _ kq => XS.iload X20.here hx rfl (hb hby at_149) rfl kq) ?_
      show Gl p.tables e below _ (T20.setTop (mkF m 151 #[.val (.int p0), .val (.int p1), .val (.int p2), .val (.int p3), .val (.int p4), .val (.int fA), .val (.int fB), .val (.int gq7), .val (.int gq8), .val (.int (((p4.toUInt32 >>> ((3 : Int32) &&& 31).toUInt32).toInt32) &&& (3 : Int32))), .val (.int ((p0 &&& (2147483647 : Int32)) % (3 : Int32))), .val (.int lB), .val (.int cB), .val (.ref v1), .val (.ref v9), .val (.ref b16), .unset, .unset, .unset, .unset, .unset] [(.int fA)]))
      by_cases hc97 : fA = (0 : Int32)
      · refine Gl.st (fun _ kq => XS.ifYes X20.here hx rfl (pc0 := 151) (pc' := 161) rfl (hb hby at_151) rfl ((if0 _ _).trans (teq (hc97 : fA = (0 : Int32))).1) (by decide) (by decide) kq) ?_
        show Gl p.tables e below _ (T20.setTop (mkF m 161 #[.val (.int p0), .val (.int p1), .val (.int p2), .val (.int p3), .val (.int p4), .val (.int fA), .val (.int fB), .val (.int gq7), .val (.int gq8), .val (.int (((p4.toUInt32 >>> ((3 : Int32) &&& 31).toUInt32).toInt32) &&& (3 : Int32))), .val (.int ((p0 &&& (2147483647 : Int32)) % (3 : Int32))), .val (.int lB), .val (.int cB), .val (.ref v1), .val (.ref v9), .val (.ref b16), .unset, .unset, .unset, .unset, .unset] []))
        have f98 : Old Z n0 T20.heap := (((f8.keep K13 all0).ext E16).keep K20 (allS g17 all0))
        have f99 : Exa Z T20.heap v1 "java/lang/String" := (f19.keep K20)
        have ne100 : v1 ≠ b16 := Nat.ne_of_lt (Nat.lt_of_lt_of_le (Nat.lt_of_lt_of_le q5_0.lt K13.1) (Nat.le_of_eq g16.symm))
        have f101 : Fld Z T20.heap v1 "java/lang/String" "coder" "B" (.int 0) := (((q5_1.keep K13 nin0).ext E16).keep K20 (ninS ne100 nin0))
        have f102 : Fld Z T20.heap v1 "java/lang/String" "value" "[B" (.ref v2) := (((q5_2.keep K13 nin0).ext E16).keep K20 (ninS ne100 nin0))
        have ne103 : v2 ≠ b16 := Nat.ne_of_lt (Nat.lt_of_lt_of_le (Nat.lt_of_lt_of_le q5_3.lt K13.1) (Nat.le_of_eq g16.symm))
        have f104 : Arv Z T20.heap v2 v3 .byte (Int32.ofNat v4.length) ((v4.map (fun c => c.toInt8.toInt32)).map Value.int) (.int 0) := (((q5_3.keep K13 nin0).ext E16).keep K20 (ninS ne103 nin0))
        have f105 : Exa Z T20.heap v9 "java/lang/String" := ((q13_0.ext E16).keep K20)
        have ne106 : v9 ≠ b16 := Nat.ne_of_lt (Nat.lt_of_lt_of_le q13_0.lt (Nat.le_of_eq g16.symm))
        have f107 : Fld Z T20.heap v9 "java/lang/String" "coder" "B" (.int 0) := ((q13_1.ext E16).keep K20 (ninS ne106 nin0))
        have f108 : Fld Z T20.heap v9 "java/lang/String" "value" "[B" (.ref v10) := ((q13_2.ext E16).keep K20 (ninS ne106 nin0))
        have ne109 : v10 ≠ b16 := Nat.ne_of_lt (Nat.lt_of_lt_of_le q13_3.lt (Nat.le_of_eq g16.symm))
        have f110 : Arv Z T20.heap v10 v11 .byte (Int32.ofNat v12.length) ((v12.map (fun c => c.toInt8.toInt32)).map Value.int) (.int 0) := ((q13_3.ext E16).keep K20 (ninS ne109 nin0))
        exact Ja _ _ _ _ _ S20 hZ20 ho20 (Nat.le_refl _) C21 (X20.more (by decide) (by decide)) rfl M20 (Nat.le_trans (Nat.le_trans (Nat.le_trans (Nat.le_trans zj K5.1) K13.1) E16.1) K20.1) (b16) q20_0 q20_1 (by rw [hc97]; exact q20_2) f98 f99 f101 f102 f104 f105 f107 f108 f110
      · refine Gl.st (fun _ kq => XS.ifNo X20.here hx rfl (hb hby at_151) rfl ((if0 _ _).trans (feq (hc97 : ¬ (fA = (0 : Int32)))).1) kq) ?_
        show Gl p.tables e below _ (T20.setTop (mkF m 154 #[.val (.int p0), .val (.int p1), .val (.int p2), .val (.int p3), .val (.int p4), .val (.int fA), .val (.int fB), .val (.int gq7), .val (.int gq8), .val (.int (((p4.toUInt32 >>> ((3 : Int32) &&& 31).toUInt32).toInt32) &&& (3 : Int32))), .val (.int ((p0 &&& (2147483647 : Int32)) % (3 : Int32))), .val (.int lB), .val (.int cB), .val (.ref v1), .val (.ref v9), .val (.ref b16), .unset, .unset, .unset, .unset, .unset] []))
        refine Gl.st (fun _ kq => XS.aload X20.here hx rfl (hb hby at_154) rfl rfl kq) ?_
        show Gl p.tables e below _ (T20.setTop (mkF m 156 #[.val (.int p0), .val (.int p1), .val (.int p2), .val (.int p3), .val (.int p4), .val (.int fA), .val (.int fB), .val (.int gq7), .val (.int gq8), .val (.int (((p4.toUInt32 >>> ((3 : Int32) &&& 31).toUInt32).toInt32) &&& (3 : Int32))), .val (.int ((p0 &&& (2147483647 : Int32)) % (3 : Int32))), .val (.int lB), .val (.int cB), .val (.ref v1), .val (.ref v9), .val (.ref b16), .unset, .unset, .unset, .unset, .unset] [(.ref b16)]))
        have f111 : Exa Z T20.heap v1 "java/lang/String" := (f19.keep K20)
        obtain ⟨cq113, kq113, q113a, q113b, q113c⟩ := isOf hZ20 rfl q20_0
        obtain ⟨_, _, ⟨T113, L113, k113, n113⟩, -, X113, S113, g113, ⟨Lc113, hQ113, l113, y113, z113, R113⟩, st113⟩ := X20.virtualBackS hx (y := (⟨"com/example/rooted_tableau/rootedtableau/model/Role", "inverse", "()Lcom/example/rooted_tableau/rootedtableau/model/Role;"⟩ : MethodName)) (z := (⟨"com/example/rooted_tableau/rootedtableau/model/Role", "inverse", "()Lcom/example/rooted_tableau/rootedtableau/model/Role;"⟩ : MethodName)) ho20 (mvT hZ20 (tw hw 75 rfl)) (mvT hZ20 (tw hw 76 rfl)) (notFace_of_selects (args := #[]) (mvT hZ20 (tw hw 78 rfl))) (mvT hZ20 (tw hw 78 rfl)) (mvT hZ20 (tw hw 77 rfl)) (by decide) (backOfSH (W := 0) (rm_nv l Z a0 hw [] (b16) (v1) T20.heap n0 (Nat.le_trans (Nat.le_trans (Nat.le_trans (Nat.le_trans zj K5.1) K13.1) E16.1) K20.1) q20_1 q20_2 f111) hZ20 (tw hw 79 rfl) (tw hw 40 rfl) (by decide) (by decide) (elW hw) C21.1) q113a q113c (g := (mkF m 156 #[.val (.int p0), .val (.int p1), .val (.int p2), .val (.int p3), .val (.int p4), .val (.int fA), .val (.int fB), .val (.int gq7), .val (.int gq8), .val (.int (((p4.toUInt32 >>> ((3 : Int32) &&& 31).toUInt32).toInt32) &&& (3 : Int32))), .val (.int ((p0 &&& (2147483647 : Int32)) % (3 : Int32))), .val (.int lB), .val (.int cB), .val (.ref v1), .val (.ref v9), .val (.ref b16), .unset, .unset, .unset, .unset, .unset] [(.ref b16)])) rfl (by rw [hml]; rfl) (Steps.refl _) (argsL := []) (rest := []) (lenOf pd___Lcom_example_rooted_tableau_rootedtableau_model_Role_ rfl) rfl (by show 2 * 0 + _ ≤ _; exact Nat.le_of_eq rfl) (hb hby at_156) (fun _ _ => ⟨rfl, rfl, (by decide : 15 + 3 ≤ _), (by decide : 42 + 18 ≤ _)⟩)
        dsimp only [Pt.U, Pt.locs, Pt.cells, Pt.slots] at X113 l113 y113 z113 st113 hQ113 R113
        subst l113 y113 z113
        obtain ⟨X113, S113, hZ113, ho113⟩ := rebS S20 (Nat.le_trans (Nat.le_refl _) (Nat.le_of_eq (congrArg Array.size rfl).symm)) X113 S113 g113 hZ20 ho20
        obtain ⟨v112, rfl, N113, K113, q113_0, q113_1, q113_2, y113_0⟩ := hQ113
        have C114 : CHr Z consts_1 s.vm h0 T113.vm T113.heap := C21.trans R113
        have M113 := Fr.app M20 N113
        have g115 : n0 ≤ v112 := Nat.le_trans (Nat.le_trans (Nat.le_trans (Nat.le_trans (Nat.le_trans zj K5.1) K13.1) E16.1) K20.1) y113_0
        refine Gl.to st113 ?_
        show Gl p.tables e below _ (T113.setTop (mkF m 159 #[.val (.int p0), .val (.int p1), .val (.int p2), .val (.int p3), .val (.int p4), .val (.int fA), .val (.int fB), .val (.int gq7), .val (.int gq8), .val (.int (((p4.toUInt32 >>> ((3 : Int32) &&& 31).toUInt32).toInt32) &&& (3 : Int32))), .val (.int ((p0 &&& (2147483647 : Int32)) % (3 : Int32))), .val (.int lB), .val (.int cB), .val (.ref v1), .val (.ref v9), .val (.ref b16), .unset, .unset, .unset, .unset, .unset] [(.ref v112)]))
        show Gl p.tables e below _ (T113.setTop (mkF m 159 #[.val (.int p0), .val (.int p1), .val (.int p2), .val (.int p3), .val (.int p4), .val (.int fA), .val (.int fB), .val (.int gq7), .val (.int gq8), .val (.int (((p4.toUInt32 >>> ((3 : Int32) &&& 31).toUInt32).toInt32) &&& (3 : Int32))), .val (.int ((p0 &&& (2147483647 : Int32)) % (3 : Int32))), .val (.int lB), .val (.int cB), .val (.ref v1), .val (.ref v9), .val (.ref b16), .unset, .unset, .unset, .unset, .unset] [(.ref v112)]))
        refine Gl.st (fun _ kq => XS.astore X113.here hx rfl (hb hby at_159) rfl rfl (l' := #[.val (.int p0), .val (.int p1), .val (.int p2), .val (.int p3), .val (.int p4), .val (.int fA), .val (.int fB), .val (.int gq7), .val (.int gq8), .val (.int (((p4.toUInt32 >>> ((3 : Int32) &&& 31).toUInt32).toInt32) &&& (3 : Int32))), .val (.int ((p0 &&& (2147483647 : Int32)) % (3 : Int32))), .val (.int lB), .val (.int cB), .val (.ref v1), .val (.ref v9), .val (.ref v112), .unset, .unset, .unset, .unset, .unset]) rfl kq) ?_
        show Gl p.tables e below _ (T113.setTop (mkF m 161 #[.val (.int p0), .val (.int p1), .val (.int p2), .val (.int p3), .val (.int p4), .val (.int fA), .val (.int fB), .val (.int gq7), .val (.int gq8), .val (.int (((p4.toUInt32 >>> ((3 : Int32) &&& 31).toUInt32).toInt32) &&& (3 : Int32))), .val (.int ((p0 &&& (2147483647 : Int32)) % (3 : Int32))), .val (.int lB), .val (.int cB), .val (.ref v1), .val (.ref v9), .val (.ref v112), .unset, .unset, .unset, .unset, .unset] []))
        have f116 : Old Z n0 T113.heap := ((((f8.keep K13 all0).ext E16).keep K20 (allS g17 all0)).keep K113 all0)
        have f117 : Exa Z T113.heap v1 "java/lang/String" := (f111.keep K113)
        have ne118 : v1 ≠ b16 := Nat.ne_of_lt (Nat.lt_of_lt_of_le (Nat.lt_of_lt_of_le q5_0.lt K13.1) (Nat.le_of_eq g16.symm))
        have f119 : Fld Z T113.heap v1 "java/lang/String" "coder" "B" (.int 0) := ((((q5_1.keep K13 nin0).ext E16).keep K20 (ninS ne118 nin0)).keep K113 nin0)
        have f120 : Fld Z T113.heap v1 "java/lang/String" "value" "[B" (.ref v2) := ((((q5_2.keep K13 nin0).ext E16).keep K20 (ninS ne118 nin0)).keep K113 nin0)
        have ne121 : v2 ≠ b16 := Nat.ne_of_lt (Nat.lt_of_lt_of_le (Nat.lt_of_lt_of_le q5_3.lt K13.1) (Nat.le_of_eq g16.symm))
        have f122 : Arv Z T113.heap v2 v3 .byte (Int32.ofNat v4.length) ((v4.map (fun c => c.toInt8.toInt32)).map Value.int) (.int 0) := ((((q5_3.keep K13 nin0).ext E16).keep K20 (ninS ne121 nin0)).keep K113 nin0)
        have f123 : Exa Z T113.heap v9 "java/lang/String" := (((q13_0.ext E16).keep K20).keep K113)
        have ne124 : v9 ≠ b16 := Nat.ne_of_lt (Nat.lt_of_lt_of_le q13_0.lt (Nat.le_of_eq g16.symm))
        have f125 : Fld Z T113.heap v9 "java/lang/String" "coder" "B" (.int 0) := (((q13_1.ext E16).keep K20 (ninS ne124 nin0)).keep K113 nin0)
        have f126 : Fld Z T113.heap v9 "java/lang/String" "value" "[B" (.ref v10) := (((q13_2.ext E16).keep K20 (ninS ne124 nin0)).keep K113 nin0)
        have ne127 : v10 ≠ b16 := Nat.ne_of_lt (Nat.lt_of_lt_of_le q13_3.lt (Nat.le_of_eq g16.symm))
        have f128 : Arv Z T113.heap v10 v11 .byte (Int32.ofNat v12.length) ((v12.map (fun c => c.toInt8.toInt32)).map Value.int) (.int 0) := (((q13_3.ext E16).keep K20 (ninS ne127 nin0)).keep K113 nin0)
        exact Ja _ _ _ _ _ S113 hZ113 ho113 (Nat.le_refl _) C114 (X113.more (by decide) (by decide)) rfl M113 (Nat.le_trans (Nat.le_trans (Nat.le_trans (Nat.le_trans (Nat.le_trans zj K5.1) K13.1) E16.1) K20.1) K113.1) (v112) q113_0 q113_1 (by rw [(yf_0.resolve_left hc97)]; exact q113_2) f116 f117 f119 f120 f122 f123 f125 f126 f128
    refine Gl.st (fun _ kq => XS.iload Xf.here hx rfl (hb hby at_73) rfl kq) ?_
    show Gl p.tables e below _ (Tf.setTop (mkF m 75 #[.val (.int p0), .val (.int p1), .val (.int p2), .val (.int p3), .val (.int p4), .val (.int fA), .val (.int fB), .val (.int fC), .val (.int fH), .val (.int (((p4.toUInt32 >>> ((3 : Int32) &&& 31).toUInt32).toInt32) &&& (3 : Int32))), .val (.int ((p0 &&& (2147483647 : Int32)) % (3 : Int32))), .unset, .unset, .unset, .unset, .unset, .unset, .unset, .unset, .unset, .unset] [(.int fC)]))
    by_cases hc129 : fC = (0 : Int32)
    · refine Gl.st (fun _ kq => XS.ifYes Xf.here hx rfl (pc0 := 75) (pc' := 83) rfl (hb hby at_75) rfl ((if0 _ _).trans (teq (hc129 : fC = (0 : Int32))).1) (by decide) (by decide) kq) ?_
      show Gl p.tables e below _ (Tf.setTop (mkF m 83 #[.val (.int p0), .val (.int p1), .val (.int p2), .val (.int p3), .val (.int p4), .val (.int fA), .val (.int fB), .val (.int fC), .val (.int fH), .val (.int (((p4.toUInt32 >>> ((3 : Int32) &&& 31).toUInt32).toInt32) &&& (3 : Int32))), .val (.int ((p0 &&& (2147483647 : Int32)) % (3 : Int32))), .unset, .unset, .unset, .unset, .unset, .unset, .unset, .unset, .unset, .unset] []))
      refine Gl.st (fun _ kq => XS.iloadN Xf.here hx rfl (hb hby at_83) rfl kq) ?_
      show Gl p.tables e below _ (Tf.setTop (mkF m 84 #[.val (.int p0), .val (.int p1), .val (.int p2), .val (.int p3), .val (.int p4), .val (.int fA), .val (.int fB), .val (.int fC), .val (.int fH), .val (.int (((p4.toUInt32 >>> ((3 : Int32) &&& 31).toUInt32).toInt32) &&& (3 : Int32))), .val (.int ((p0 &&& (2147483647 : Int32)) % (3 : Int32))), .unset, .unset, .unset, .unset, .unset, .unset, .unset, .unset, .unset, .unset] [(.int p2)]))
      refine Gl.st (fun _ kq => Xf.ldcInt hx hof (mvT hZf (tw hw 0 rfl)) (g := (mkF m 84 #[.val (.int p0), .val (.int p1), .val (.int p2), .val (.int p3), .val (.int p4), .val (.int fA), .val (.int fB), .val (.int fC), .val (.int fH), .val (.int (((p4.toUInt32 >>> ((3 : Int32) &&& 31).toUInt32).toInt32) &&& (3 : Int32))), .val (.int ((p0 &&& (2147483647 : Int32)) % (3 : Int32))), .unset, .unset, .unset, .unset, .unset, .unset, .unset, .unset, .unset, .unset] [(.int p2)])) rfl (hb hby at_84) _ kq) ?_
      show Gl p.tables e below _ (Tf.setTop (mkF m 86 #[.val (.int p0), .val (.int p1), .val (.int p2), .val (.int p3), .val (.int p4), .val (.int fA), .val (.int fB), .val (.int fC), .val (.int fH), .val (.int (((p4.toUInt32 >>> ((3 : Int32) &&& 31).toUInt32).toInt32) &&& (3 : Int32))), .val (.int ((p0 &&& (2147483647 : Int32)) % (3 : Int32))), .unset, .unset, .unset, .unset, .unset, .unset, .unset, .unset, .unset, .unset] [(.int 2147483647), (.int p2)]))
      refine Gl.st (fun _ kq => XS.iand Xf.here hx rfl (hb hby at_86) rfl kq) ?_
      show Gl p.tables e below _ (Tf.setTop (mkF m 87 #[.val (.int p0), .val (.int p1), .val (.int p2), .val (.int p3), .val (.int p4), .val (.int fA), .val (.int fB), .val (.int fC), .val (.int fH), .val (.int (((p4.toUInt32 >>> ((3 : Int32) &&& 31).toUInt32).toInt32) &&& (3 : Int32))), .val (.int ((p0 &&& (2147483647 : Int32)) % (3 : Int32))), .unset, .unset, .unset, .unset, .unset, .unset, .unset, .unset, .unset, .unset] [(.int (p2 &&& (2147483647 : Int32)))]))
      refine Gl.st (fun _ kq => XS.iconst Xf.here hx rfl (hb hby at_87) kq) ?_
      show Gl p.tables e below _ (Tf.setTop (mkF m 88 #[.val (.int p0), .val (.int p1), .val (.int p2), .val (.int p3), .val (.int p4), .val (.int fA), .val (.int fB), .val (.int fC), .val (.int fH), .val (.int (((p4.toUInt32 >>> ((3 : Int32) &&& 31).toUInt32).toInt32) &&& (3 : Int32))), .val (.int ((p0 &&& (2147483647 : Int32)) % (3 : Int32))), .unset, .unset, .unset, .unset, .unset, .unset, .unset, .unset, .unset, .unset] [(.int 3), (.int (p2 &&& (2147483647 : Int32)))]))
      refine Gl.st (fun _ kq => iremM (g := (mkF m 88 #[.val (.int p0), .val (.int p1), .val (.int p2), .val (.int p3), .val (.int p4), .val (.int fA), .val (.int fB), .val (.int fC), .val (.int fH), .val (.int (((p4.toUInt32 >>> ((3 : Int32) &&& 31).toUInt32).toInt32) &&& (3 : Int32))), .val (.int ((p0 &&& (2147483647 : Int32)) % (3 : Int32))), .unset, .unset, .unset, .unset, .unset, .unset, .unset, .unset, .unset, .unset] [(.int 3), (.int (p2 &&& (2147483647 : Int32)))])) Xf hx rfl (hb hby at_88) rfl (by decide) kq) ?_
      show Gl p.tables e below _ (Tf.setTop (mkF m 89 #[.val (.int p0), .val (.int p1), .val (.int p2), .val (.int p3), .val (.int p4), .val (.int fA), .val (.int fB), .val (.int fC), .val (.int fH), .val (.int (((p4.toUInt32 >>> ((3 : Int32) &&& 31).toUInt32).toInt32) &&& (3 : Int32))), .val (.int ((p0 &&& (2147483647 : Int32)) % (3 : Int32))), .unset, .unset, .unset, .unset, .unset, .unset, .unset, .unset, .unset, .unset] [(.int ((p2 &&& (2147483647 : Int32)) % (3 : Int32)))]))
      refine Gl.st (fun _ kq => XS.istore Xf.here hx rfl (hb hby at_89) rfl (l' := #[.val (.int p0), .val (.int p1), .val (.int p2), .val (.int p3), .val (.int p4), .val (.int fA), .val (.int fB), .val (.int fC), .val (.int fH), .val (.int (((p4.toUInt32 >>> ((3 : Int32) &&& 31).toUInt32).toInt32) &&& (3 : Int32))), .val (.int ((p0 &&& (2147483647 : Int32)) % (3 : Int32))), .val (.int ((p2 &&& (2147483647 : Int32)) % (3 : Int32))), .unset, .unset, .unset, .unset, .unset, .unset, .unset, .unset, .unset]) rfl kq) ?_
      show Gl p.tables e below _ (Tf.setTop (mkF m 91 #[.val (.int p0), .val (.int p1), .val (.int p2), .val (.int p3), .val (.int p4), .val (.int fA), .val (.int fB), .val (.int fC), .val (.int fH), .val (.int (((p4.toUInt32 >>> ((3 : Int32) &&& 31).toUInt32).toInt32) &&& (3 : Int32))), .val (.int ((p0 &&& (2147483647 : Int32)) % (3 : Int32))), .val (.int ((p2 &&& (2147483647 : Int32)) % (3 : Int32))), .unset, .unset, .unset, .unset, .unset, .unset, .unset, .unset, .unset] []))
      refine Gl.st (fun _ kq => XS.iload Xf.here hx rfl (hb hby at_91) rfl kq) ?_
      show Gl p.tables e below _ (Tf.setTop (mkF m 93 #[.val (.int p0), .val (.int p1), .val (.int p2), .val (.int p3), .val (.int p4), .val (.int fA), .val (.int fB), .val (.int fC), .val (.int fH), .val (.int (((p4.toUInt32 >>> ((3 : Int32) &&& 31).toUInt32).toInt32) &&& (3 : Int32))), .val (.int ((p0 &&& (2147483647 : Int32)) % (3 : Int32))), .val (.int ((p2 &&& (2147483647 : Int32)) % (3 : Int32))), .unset, .unset, .unset, .unset, .unset, .unset, .unset, .unset, .unset] [(.int fC)]))
      refine Gl.st (fun _ kq => XS.ifYes Xf.here hx rfl (pc0 := 93) (pc' := 100) rfl (hb hby at_93) rfl ((if0 _ _).trans (teq (hc129 : fC = (0 : Int32))).1) (by decide) (by decide) kq) ?_
      show Gl p.tables e below _ (Tf.setTop (mkF m 100 #[.val (.int p0), .val (.int p1), .val (.int p2), .val (.int p3), .val (.int p4), .val (.int fA), .val (.int fB), .val (.int fC), .val (.int fH), .val (.int (((p4.toUInt32 >>> ((3 : Int32) &&& 31).toUInt32).toInt32) &&& (3 : Int32))), .val (.int ((p0 &&& (2147483647 : Int32)) % (3 : Int32))), .val (.int ((p2 &&& (2147483647 : Int32)) % (3 : Int32))), .unset, .unset, .unset, .unset, .unset, .unset, .unset, .unset, .unset] []))
      refine Gl.st (fun _ kq => XS.iload Xf.here hx rfl (hb hby at_100) rfl kq) ?_
      show Gl p.tables e below _ (Tf.setTop (mkF m 102 #[.val (.int p0), .val (.int p1), .val (.int p2), .val (.int p3), .val (.int p4), .val (.int fA), .val (.int fB), .val (.int fC), .val (.int fH), .val (.int (((p4.toUInt32 >>> ((3 : Int32) &&& 31).toUInt32).toInt32) &&& (3 : Int32))), .val (.int ((p0 &&& (2147483647 : Int32)) % (3 : Int32))), .val (.int ((p2 &&& (2147483647 : Int32)) % (3 : Int32))), .unset, .unset, .unset, .unset, .unset, .unset, .unset, .unset, .unset] [(.int fH)]))
      by_cases hc130 : fH = (0 : Int32)
      · refine Gl.st (fun _ kq => XS.ifYes Xf.here hx rfl (pc0 := 102) (pc' := 118) rfl (hb hby at_102) rfl ((if0 _ _).trans (teq (hc130 : fH = (0 : Int32))).1) (by decide) (by decide) kq) ?_
        show Gl p.tables e below _ (Tf.setTop (mkF m 118 #[.val (.int p0), .val (.int p1), .val (.int p2), .val (.int p3), .val (.int p4), .val (.int fA), .val (.int fB), .val (.int fC), .val (.int fH), .val (.int (((p4.toUInt32 >>> ((3 : Int32) &&& 31).toUInt32).toInt32) &&& (3 : Int32))), .val (.int ((p0 &&& (2147483647 : Int32)) % (3 : Int32))), .val (.int ((p2 &&& (2147483647 : Int32)) % (3 : Int32))), .unset, .unset, .unset, .unset, .unset, .unset, .unset, .unset, .unset] []))
        refine Gl.st (fun _ kq => XS.iloadN Xf.here hx rfl (hb hby at_118) rfl kq) ?_
        show Gl p.tables e below _ (Tf.setTop (mkF m 119 #[.val (.int p0), .val (.int p1), .val (.int p2), .val (.int p3), .val (.int p4), .val (.int fA), .val (.int fB), .val (.int fC), .val (.int fH), .val (.int (((p4.toUInt32 >>> ((3 : Int32) &&& 31).toUInt32).toInt32) &&& (3 : Int32))), .val (.int ((p0 &&& (2147483647 : Int32)) % (3 : Int32))), .val (.int ((p2 &&& (2147483647 : Int32)) % (3 : Int32))), .unset, .unset, .unset, .unset, .unset, .unset, .unset, .unset, .unset] [(.int p3)]))
        refine Gl.st (fun _ kq => XS.istore Xf.here hx rfl (hb hby at_119) rfl (l' := #[.val (.int p0), .val (.int p1), .val (.int p2), .val (.int p3), .val (.int p4), .val (.int fA), .val (.int fB), .val (.int fC), .val (.int fH), .val (.int (((p4.toUInt32 >>> ((3 : Int32) &&& 31).toUInt32).toInt32) &&& (3 : Int32))), .val (.int ((p0 &&& (2147483647 : Int32)) % (3 : Int32))), .val (.int ((p2 &&& (2147483647 : Int32)) % (3 : Int32))), .val (.int p3), .unset, .unset, .unset, .unset, .unset, .unset, .unset, .unset]) rfl kq) ?_
        show Gl p.tables e below _ (Tf.setTop (mkF m 121 #[.val (.int p0), .val (.int p1), .val (.int p2), .val (.int p3), .val (.int p4), .val (.int fA), .val (.int fB), .val (.int fC), .val (.int fH), .val (.int (((p4.toUInt32 >>> ((3 : Int32) &&& 31).toUInt32).toInt32) &&& (3 : Int32))), .val (.int ((p0 &&& (2147483647 : Int32)) % (3 : Int32))), .val (.int ((p2 &&& (2147483647 : Int32)) % (3 : Int32))), .val (.int p3), .unset, .unset, .unset, .unset, .unset, .unset, .unset, .unset] []))
        exact Jj _ _ _ _ _ hSf hZf hof hkf Cf (Xf.more (by decide) (by decide)) ef Nf zf (fC) (fH) (((p2 &&& (2147483647 : Int32)) % (3 : Int32))) (p3) ff_0 (k3_rem _)
      · refine Gl.st (fun _ kq => XS.ifNo Xf.here hx rfl (hb hby at_102) rfl ((if0 _ _).trans (feq (hc130 : ¬ (fH = (0 : Int32)))).1) kq) ?_
        show Gl p.tables e below _ (Tf.setTop (mkF m 105 #[.val (.int p0), .val (.int p1), .val (.int p2), .val (.int p3), .val (.int p4), .val (.int fA), .val (.int fB), .val (.int fC), .val (.int fH), .val (.int (((p4.toUInt32 >>> ((3 : Int32) &&& 31).toUInt32).toInt32) &&& (3 : Int32))), .val (.int ((p0 &&& (2147483647 : Int32)) % (3 : Int32))), .val (.int ((p2 &&& (2147483647 : Int32)) % (3 : Int32))), .unset, .unset, .unset, .unset, .unset, .unset, .unset, .unset, .unset] []))
        refine Gl.st (fun _ kq => XS.iloadN Xf.here hx rfl (hb hby at_105) rfl kq) ?_
        show Gl p.tables e below _ (Tf.setTop (mkF m 106 #[.val (.int p0), .val (.int p1), .val (.int p2), .val (.int p3), .val (.int p4), .val (.int fA), .val (.int fB), .val (.int fC), .val (.int fH), .val (.int (((p4.toUInt32 >>> ((3 : Int32) &&& 31).toUInt32).toInt32) &&& (3 : Int32))), .val (.int ((p0 &&& (2147483647 : Int32)) % (3 : Int32))), .val (.int ((p2 &&& (2147483647 : Int32)) % (3 : Int32))), .unset, .unset, .unset, .unset, .unset, .unset, .unset, .unset, .unset] [(.int p1)]))
        refine Gl.st (fun _ kq => XS.sipush Xf.here hx rfl (hb hby at_106) kq) ?_
        show Gl p.tables e below _ (Tf.setTop (mkF m 109 #[.val (.int p0), .val (.int p1), .val (.int p2), .val (.int p3), .val (.int p4), .val (.int fA), .val (.int fB), .val (.int fC), .val (.int fH), .val (.int (((p4.toUInt32 >>> ((3 : Int32) &&& 31).toUInt32).toInt32) &&& (3 : Int32))), .val (.int ((p0 &&& (2147483647 : Int32)) % (3 : Int32))), .val (.int ((p2 &&& (2147483647 : Int32)) % (3 : Int32))), .unset, .unset, .unset, .unset, .unset, .unset, .unset, .unset, .unset] [(.int 255), (.int p1)]))
        refine Gl.st (fun _ kq => XS.iand Xf.here hx rfl (hb hby at_109) rfl kq) ?_
        show Gl p.tables e below _ (Tf.setTop (mkF m 110 #[.val (.int p0), .val (.int p1), .val (.int p2), .val (.int p3), .val (.int p4), .val (.int fA), .val (.int fB), .val (.int fC), .val (.int fH), .val (.int (((p4.toUInt32 >>> ((3 : Int32) &&& 31).toUInt32).toInt32) &&& (3 : Int32))), .val (.int ((p0 &&& (2147483647 : Int32)) % (3 : Int32))), .val (.int ((p2 &&& (2147483647 : Int32)) % (3 : Int32))), .unset, .unset, .unset, .unset, .unset, .unset, .unset, .unset, .unset] [(.int (p1 &&& (255 : Int32)))]))
        refine Gl.st (fun _ kq => XS.iloadN Xf.here hx rfl (hb hby at_110) rfl kq) ?_
        show Gl p.tables e below _ (Tf.setTop (mkF m 111 #[.val (.int p0), .val (.int p1), .val (.int p2), .val (.int p3), .val (.int p4), .val (.int fA), .val (.int fB), .val (.int fC), .val (.int fH), .val (.int (((p4.toUInt32 >>> ((3 : Int32) &&& 31).toUInt32).toInt32) &&& (3 : Int32))), .val (.int ((p0 &&& (2147483647 : Int32)) % (3 : Int32))), .val (.int ((p2 &&& (2147483647 : Int32)) % (3 : Int32))), .unset, .unset, .unset, .unset, .unset, .unset, .unset, .unset, .unset] [(.int p3), (.int (p1 &&& (255 : Int32)))]))
        refine Gl.st (fun _ kq => Xf.ldcInt hx hof (mvT hZf (tw hw 80 rfl)) (g := (mkF m 111 #[.val (.int p0), .val (.int p1), .val (.int p2), .val (.int p3), .val (.int p4), .val (.int fA), .val (.int fB), .val (.int fC), .val (.int fH), .val (.int (((p4.toUInt32 >>> ((3 : Int32) &&& 31).toUInt32).toInt32) &&& (3 : Int32))), .val (.int ((p0 &&& (2147483647 : Int32)) % (3 : Int32))), .val (.int ((p2 &&& (2147483647 : Int32)) % (3 : Int32))), .unset, .unset, .unset, .unset, .unset, .unset, .unset, .unset, .unset] [(.int p3), (.int (p1 &&& (255 : Int32)))])) rfl (hb hby at_111) _ kq) ?_
        show Gl p.tables e below _ (Tf.setTop (mkF m 113 #[.val (.int p0), .val (.int p1), .val (.int p2), .val (.int p3), .val (.int p4), .val (.int fA), .val (.int fB), .val (.int fC), .val (.int fH), .val (.int (((p4.toUInt32 >>> ((3 : Int32) &&& 31).toUInt32).toInt32) &&& (3 : Int32))), .val (.int ((p0 &&& (2147483647 : Int32)) % (3 : Int32))), .val (.int ((p2 &&& (2147483647 : Int32)) % (3 : Int32))), .unset, .unset, .unset, .unset, .unset, .unset, .unset, .unset, .unset] [(.int 65280), (.int p3), (.int (p1 &&& (255 : Int32)))]))
        refine Gl.st (fun _ kq => XS.iand Xf.here hx rfl (hb hby at_113) rfl kq) ?_
        show Gl p.tables e below _ (Tf.setTop (mkF m 114 #[.val (.int p0), .val (.int p1), .val (.int p2), .val (.int p3), .val (.int p4), .val (.int fA), .val (.int fB), .val (.int fC), .val (.int fH), .val (.int (((p4.toUInt32 >>> ((3 : Int32) &&& 31).toUInt32).toInt32) &&& (3 : Int32))), .val (.int ((p0 &&& (2147483647 : Int32)) % (3 : Int32))), .val (.int ((p2 &&& (2147483647 : Int32)) % (3 : Int32))), .unset, .unset, .unset, .unset, .unset, .unset, .unset, .unset, .unset] [(.int (p3 &&& (65280 : Int32))), (.int (p1 &&& (255 : Int32)))]))
        refine Gl.st (fun _ kq => XS.ior Xf.here hx rfl (hb hby at_114) rfl kq) ?_
        show Gl p.tables e below _ (Tf.setTop (mkF m 115 #[.val (.int p0), .val (.int p1), .val (.int p2), .val (.int p3), .val (.int p4), .val (.int fA), .val (.int fB), .val (.int fC), .val (.int fH), .val (.int (((p4.toUInt32 >>> ((3 : Int32) &&& 31).toUInt32).toInt32) &&& (3 : Int32))), .val (.int ((p0 &&& (2147483647 : Int32)) % (3 : Int32))), .val (.int ((p2 &&& (2147483647 : Int32)) % (3 : Int32))), .unset, .unset, .unset, .unset, .unset, .unset, .unset, .unset, .unset] [(.int ((p1 &&& (255 : Int32)) ||| (p3 &&& (65280 : Int32))))]))
        refine Gl.st (fun _ kq => XS.goto Xf.here hx rfl (pc0 := 115) (pc' := 119) rfl (hb hby at_115) (by decide) (by decide) kq) ?_
        show Gl p.tables e below _ (Tf.setTop (mkF m 119 #[.val (.int p0), .val (.int p1), .val (.int p2), .val (.int p3), .val (.int p4), .val (.int fA), .val (.int fB), .val (.int fC), .val (.int fH), .val (.int (((p4.toUInt32 >>> ((3 : Int32) &&& 31).toUInt32).toInt32) &&& (3 : Int32))), .val (.int ((p0 &&& (2147483647 : Int32)) % (3 : Int32))), .val (.int ((p2 &&& (2147483647 : Int32)) % (3 : Int32))), .unset, .unset, .unset, .unset, .unset, .unset, .unset, .unset, .unset] [(.int ((p1 &&& (255 : Int32)) ||| (p3 &&& (65280 : Int32))))]))
        refine Gl.st (fun _ kq => XS.istore Xf.here hx rfl (hb hby at_119) rfl (l' := #[.val (.int p0), .val (.int p1), .val (.int p2), .val (.int p3), .val (.int p4), .val (.int fA), .val (.int fB), .val (.int fC), .val (.int fH), .val (.int (((p4.toUInt32 >>> ((3 : Int32) &&& 31).toUInt32).toInt32) &&& (3 : Int32))), .val (.int ((p0 &&& (2147483647 : Int32)) % (3 : Int32))), .val (.int ((p2 &&& (2147483647 : Int32)) % (3 : Int32))), .val (.int ((p1 &&& (255 : Int32)) ||| (p3 &&& (65280 : Int32)))), .unset, .unset, .unset, .unset, .unset, .unset, .unset, .unset]) rfl kq) ?_
        show Gl p.tables e below _ (Tf.setTop (mkF m 121 #[.val (.int p0), .val (.int p1), .val (.int p2), .val (.int p3), .val (.int p4), .val (.int fA), .val (.int fB), .val (.int fC), .val (.int fH), .val (.int (((p4.toUInt32 >>> ((3 : Int32) &&& 31).toUInt32).toInt32) &&& (3 : Int32))), .val (.int ((p0 &&& (2147483647 : Int32)) % (3 : Int32))), .val (.int ((p2 &&& (2147483647 : Int32)) % (3 : Int32))), .val (.int ((p1 &&& (255 : Int32)) ||| (p3 &&& (65280 : Int32)))), .unset, .unset, .unset, .unset, .unset, .unset, .unset, .unset] []))
        exact Jj _ _ _ _ _ hSf hZf hof hkf Cf (Xf.more (by decide) (by decide)) ef Nf zf (fC) (fH) (((p2 &&& (2147483647 : Int32)) % (3 : Int32))) (((p1 &&& (255 : Int32)) ||| (p3 &&& (65280 : Int32)))) ff_0 (k3_rem _)
    · refine Gl.st (fun _ kq => XS.ifNo Xf.here hx rfl (hb hby at_75) rfl ((if0 _ _).trans (feq (hc129 : ¬ (fC = (0 : Int32)))).1) kq) ?_
      show Gl p.tables e below _ (Tf.setTop (mkF m 78 #[.val (.int p0), .val (.int p1), .val (.int p2), .val (.int p3), .val (.int p4), .val (.int fA), .val (.int fB), .val (.int fC), .val (.int fH), .val (.int (((p4.toUInt32 >>> ((3 : Int32) &&& 31).toUInt32).toInt32) &&& (3 : Int32))), .val (.int ((p0 &&& (2147483647 : Int32)) % (3 : Int32))), .unset, .unset, .unset, .unset, .unset, .unset, .unset, .unset, .unset, .unset] []))
      refine Gl.st (fun _ kq => XS.iload Xf.here hx rfl (hb hby at_78) rfl kq) ?_
      show Gl p.tables e below _ (Tf.setTop (mkF m 80 #[.val (.int p0), .val (.int p1), .val (.int p2), .val (.int p3), .val (.int p4), .val (.int fA), .val (.int fB), .val (.int fC), .val (.int fH), .val (.int (((p4.toUInt32 >>> ((3 : Int32) &&& 31).toUInt32).toInt32) &&& (3 : Int32))), .val (.int ((p0 &&& (2147483647 : Int32)) % (3 : Int32))), .unset, .unset, .unset, .unset, .unset, .unset, .unset, .unset, .unset, .unset] [(.int ((p0 &&& (2147483647 : Int32)) % (3 : Int32)))]))
      refine Gl.st (fun _ kq => XS.goto Xf.here hx rfl (pc0 := 80) (pc' := 89) rfl (hb hby at_80) (by decide) (by decide) kq) ?_
      show Gl p.tables e below _ (Tf.setTop (mkF m 89 #[.val (.int p0), .val (.int p1), .val (.int p2), .val (.int p3), .val (.int p4), .val (.int fA), .val (.int fB), .val (.int fC), .val (.int fH), .val (.int (((p4.toUInt32 >>> ((3 : Int32) &&& 31).toUInt32).toInt32) &&& (3 : Int32))), .val (.int ((p0 &&& (2147483647 : Int32)) % (3 : Int32))), .unset, .unset, .unset, .unset, .unset, .unset, .unset, .unset, .unset, .unset] [(.int ((p0 &&& (2147483647 : Int32)) % (3 : Int32)))]))
      refine Gl.st (fun _ kq => XS.istore Xf.here hx rfl (hb hby at_89) rfl (l' := #[.val (.int p0), .val (.int p1), .val (.int p2), .val (.int p3), .val (.int p4), .val (.int fA), .val (.int fB), .val (.int fC), .val (.int fH), .val (.int (((p4.toUInt32 >>> ((3 : Int32) &&& 31).toUInt32).toInt32) &&& (3 : Int32))), .val (.int ((p0 &&& (2147483647 : Int32)) % (3 : Int32))), .val (.int ((p0 &&& (2147483647 : Int32)) % (3 : Int32))), .unset, .unset, .unset, .unset, .unset, .unset, .unset, .unset, .unset]) rfl kq) ?_
      show Gl p.tables e below _ (Tf.setTop (mkF m 91 #[.val (.int p0), .val (.int p1), .val (.int p2), .val (.int p3), .val (.int p4), .val (.int fA), .val (.int fB), .val (.int fC), .val (.int fH), .val (.int (((p4.toUInt32 >>> ((3 : Int32) &&& 31).toUInt32).toInt32) &&& (3 : Int32))), .val (.int ((p0 &&& (2147483647 : Int32)) % (3 : Int32))), .val (.int ((p0 &&& (2147483647 : Int32)) % (3 : Int32))), .unset, .unset, .unset, .unset, .unset, .unset, .unset, .unset, .unset] []))
      refine Gl.st (fun _ kq => XS.iload Xf.here hx rfl (hb hby at_91) rfl kq) ?_
      show Gl p.tables e below _ (Tf.setTop (mkF m 93 #[.val (.int p0), .val (.int p1), .val (.int p2), .val (.int p3), .val (.int p4), .val (.int fA), .val (.int fB), .val (.int fC), .val (.int fH), .val (.int (((p4.toUInt32 >>> ((3 : Int32) &&& 31).toUInt32).toInt32) &&& (3 : Int32))), .val (.int ((p0 &&& (2147483647 : Int32)) % (3 : Int32))), .val (.int ((p0 &&& (2147483647 : Int32)) % (3 : Int32))), .unset, .unset, .unset, .unset, .unset, .unset, .unset, .unset, .unset] [(.int fC)]))
      refine Gl.st (fun _ kq => XS.ifNo Xf.here hx rfl (hb hby at_93) rfl ((if0 _ _).trans (feq (hc129 : ¬ (fC = (0 : Int32)))).1) kq) ?_
      show Gl p.tables e below _ (Tf.setTop (mkF m 96 #[.val (.int p0), .val (.int p1), .val (.int p2), .val (.int p3), .val (.int p4), .val (.int fA), .val (.int fB), .val (.int fC), .val (.int fH), .val (.int (((p4.toUInt32 >>> ((3 : Int32) &&& 31).toUInt32).toInt32) &&& (3 : Int32))), .val (.int ((p0 &&& (2147483647 : Int32)) % (3 : Int32))), .val (.int ((p0 &&& (2147483647 : Int32)) % (3 : Int32))), .unset, .unset, .unset, .unset, .unset, .unset, .unset, .unset, .unset] []))
      refine Gl.st (fun _ kq => XS.iloadN Xf.here hx rfl (hb hby at_96) rfl kq) ?_
      show Gl p.tables e below _ (Tf.setTop (mkF m 97 #[.val (.int p0), .val (.int p1), .val (.int p2), .val (.int p3), .val (.int p4), .val (.int fA), .val (.int fB), .val (.int fC), .val (.int fH), .val (.int (((p4.toUInt32 >>> ((3 : Int32) &&& 31).toUInt32).toInt32) &&& (3 : Int32))), .val (.int ((p0 &&& (2147483647 : Int32)) % (3 : Int32))), .val (.int ((p0 &&& (2147483647 : Int32)) % (3 : Int32))), .unset, .unset, .unset, .unset, .unset, .unset, .unset, .unset, .unset] [(.int p1)]))
      refine Gl.st (fun _ kq => XS.goto Xf.here hx rfl (pc0 := 97) (pc' := 119) rfl (hb hby at_97) (by decide) (by decide) kq) ?_
      show Gl p.tables e below _ (Tf.setTop (mkF m 119 #[.val (.int p0), .val (.int p1), .val (.int p2), .val (.int p3), .val (.int p4), .val (.int fA), .val (.int fB), .val (.int fC), .val (.int fH), .val (.int (((p4.toUInt32 >>> ((3 : Int32) &&& 31).toUInt32).toInt32) &&& (3 : Int32))), .val (.int ((p0 &&& (2147483647 : Int32)) % (3 : Int32))), .val (.int ((p0 &&& (2147483647 : Int32)) % (3 : Int32))), .unset, .unset, .unset, .unset, .unset, .unset, .unset, .unset, .unset] [(.int p1)]))
      refine Gl.st (fun _ kq => XS.istore Xf.here hx rfl (hb hby at_119) rfl (l' := #[.val (.int p0), .val (.int p1), .val (.int p2), .val (.int p3), .val (.int p4), .val (.int fA), .val (.int fB), .val (.int fC), .val (.int fH), .val (.int (((p4.toUInt32 >>> ((3 : Int32) &&& 31).toUInt32).toInt32) &&& (3 : Int32))), .val (.int ((p0 &&& (2147483647 : Int32)) % (3 : Int32))), .val (.int ((p0 &&& (2147483647 : Int32)) % (3 : Int32))), .val (.int p1), .unset, .unset, .unset, .unset, .unset, .unset, .unset, .unset]) rfl kq) ?_
      show Gl p.tables e below _ (Tf.setTop (mkF m 121 #[.val (.int p0), .val (.int p1), .val (.int p2), .val (.int p3), .val (.int p4), .val (.int fA), .val (.int fB), .val (.int fC), .val (.int fH), .val (.int (((p4.toUInt32 >>> ((3 : Int32) &&& 31).toUInt32).toInt32) &&& (3 : Int32))), .val (.int ((p0 &&& (2147483647 : Int32)) % (3 : Int32))), .val (.int ((p0 &&& (2147483647 : Int32)) % (3 : Int32))), .val (.int p1), .unset, .unset, .unset, .unset, .unset, .unset, .unset, .unset] []))
      exact Jj _ _ _ _ _ hSf hZf hof hkf Cf (Xf.more (by decide) (by decide)) ef Nf zf (fC) (fH) (((p0 &&& (2147483647 : Int32)) % (3 : Int32))) (p1) ff_0 (k3_rem _)
  refine Gl.st (fun _ kq => XS.iload X0.here hx rfl (hb hby at_0) rfl kq) ?_
  show Gl p.tables e below _ (s₁.setTop (mkF m 2 #[.val (.int p0), .val (.int p1), .val (.int p2), .val (.int p3), .val (.int p4), .unset, .unset, .unset, .unset, .unset, .unset, .unset, .unset, .unset, .unset, .unset, .unset, .unset, .unset, .unset, .unset] [(.int p4)]))
  refine Gl.st (fun _ kq => XS.iconst X0.here hx rfl (hb hby at_2) kq) ?_
  show Gl p.tables e below _ (s₁.setTop (mkF m 3 #[.val (.int p0), .val (.int p1), .val (.int p2), .val (.int p3), .val (.int p4), .unset, .unset, .unset, .unset, .unset, .unset, .unset, .unset, .unset, .unset, .unset, .unset, .unset, .unset, .unset, .unset] [(.int 1), (.int p4)]))
  refine Gl.st (fun _ kq => XS.iand X0.here hx rfl (hb hby at_3) rfl kq) ?_
  show Gl p.tables e below _ (s₁.setTop (mkF m 4 #[.val (.int p0), .val (.int p1), .val (.int p2), .val (.int p3), .val (.int p4), .unset, .unset, .unset, .unset, .unset, .unset, .unset, .unset, .unset, .unset, .unset, .unset, .unset, .unset, .unset, .unset] [(.int (p4 &&& (1 : Int32)))]))
  by_cases hc131 : (p4 &&& (1 : Int32)) = (0 : Int32)
  · refine Gl.st (fun _ kq => XS.ifYes X0.here hx rfl (pc0 := 4) (pc' := 11) rfl (hb hby at_4) rfl ((if0 _ _).trans (teq (hc131 : (p4 &&& (1 : Int32)) = (0 : Int32))).1) (by decide) (by decide) kq) ?_
    show Gl p.tables e below _ (s₁.setTop (mkF m 11 #[.val (.int p0), .val (.int p1), .val (.int p2), .val (.int p3), .val (.int p4), .unset, .unset, .unset, .unset, .unset, .unset, .unset, .unset, .unset, .unset, .unset, .unset, .unset, .unset, .unset, .unset] []))
    refine Gl.st (fun _ kq => XS.iconst X0.here hx rfl (hb hby at_11) kq) ?_
    show Gl p.tables e below _ (s₁.setTop (mkF m 12 #[.val (.int p0), .val (.int p1), .val (.int p2), .val (.int p3), .val (.int p4), .unset, .unset, .unset, .unset, .unset, .unset, .unset, .unset, .unset, .unset, .unset, .unset, .unset, .unset, .unset, .unset] [(.int 0)]))
    refine Gl.st (fun _ kq => XS.istore X0.here hx rfl (hb hby at_12) rfl (l' := #[.val (.int p0), .val (.int p1), .val (.int p2), .val (.int p3), .val (.int p4), .val (.int 0), .unset, .unset, .unset, .unset, .unset, .unset, .unset, .unset, .unset, .unset, .unset, .unset, .unset, .unset, .unset]) rfl kq) ?_
    show Gl p.tables e below _ (s₁.setTop (mkF m 14 #[.val (.int p0), .val (.int p1), .val (.int p2), .val (.int p3), .val (.int p4), .val (.int 0), .unset, .unset, .unset, .unset, .unset, .unset, .unset, .unset, .unset, .unset, .unset, .unset, .unset, .unset, .unset] []))
    refine Gl.st (fun _ kq => XS.iload X0.here hx rfl (hb hby at_14) rfl kq) ?_
    show Gl p.tables e below _ (s₁.setTop (mkF m 16 #[.val (.int p0), .val (.int p1), .val (.int p2), .val (.int p3), .val (.int p4), .val (.int 0), .unset, .unset, .unset, .unset, .unset, .unset, .unset, .unset, .unset, .unset, .unset, .unset, .unset, .unset, .unset] [(.int p4)]))
    refine Gl.st (fun _ kq => XS.iconst X0.here hx rfl (hb hby at_16) kq) ?_
    show Gl p.tables e below _ (s₁.setTop (mkF m 17 #[.val (.int p0), .val (.int p1), .val (.int p2), .val (.int p3), .val (.int p4), .val (.int 0), .unset, .unset, .unset, .unset, .unset, .unset, .unset, .unset, .unset, .unset, .unset, .unset, .unset, .unset, .unset] [(.int 2), (.int p4)]))
    refine Gl.st (fun _ kq => XS.iand X0.here hx rfl (hb hby at_17) rfl kq) ?_
    show Gl p.tables e below _ (s₁.setTop (mkF m 18 #[.val (.int p0), .val (.int p1), .val (.int p2), .val (.int p3), .val (.int p4), .val (.int 0), .unset, .unset, .unset, .unset, .unset, .unset, .unset, .unset, .unset, .unset, .unset, .unset, .unset, .unset, .unset] [(.int (p4 &&& (2 : Int32)))]))
    by_cases hc132 : (p4 &&& (2 : Int32)) = (0 : Int32)
    · refine Gl.st (fun _ kq => XS.ifYes X0.here hx rfl (pc0 := 18) (pc' := 25) rfl (hb hby at_18) rfl ((if0 _ _).trans (teq (hc132 : (p4 &&& (2 : Int32)) = (0 : Int32))).1) (by decide) (by decide) kq) ?_
      show Gl p.tables e below _ (s₁.setTop (mkF m 25 #[.val (.int p0), .val (.int p1), .val (.int p2), .val (.int p3), .val (.int p4), .val (.int 0), .unset, .unset, .unset, .unset, .unset, .unset, .unset, .unset, .unset, .unset, .unset, .unset, .unset, .unset, .unset] []))
      refine Gl.st (fun _ kq => XS.iconst X0.here hx rfl (hb hby at_25) kq) ?_
      show Gl p.tables e below _ (s₁.setTop (mkF m 26 #[.val (.int p0), .val (.int p1), .val (.int p2), .val (.int p3), .val (.int p4), .val (.int 0), .unset, .unset, .unset, .unset, .unset, .unset, .unset, .unset, .unset, .unset, .unset, .unset, .unset, .unset, .unset] [(.int 0)]))
      refine Gl.st (fun _ kq => XS.istore X0.here hx rfl (hb hby at_26) rfl (l' := #[.val (.int p0), .val (.int p1), .val (.int p2), .val (.int p3), .val (.int p4), .val (.int 0), .val (.int 0), .unset, .unset, .unset, .unset, .unset, .unset, .unset, .unset, .unset, .unset, .unset, .unset, .unset, .unset]) rfl kq) ?_
      show Gl p.tables e below _ (s₁.setTop (mkF m 28 #[.val (.int p0), .val (.int p1), .val (.int p2), .val (.int p3), .val (.int p4), .val (.int 0), .val (.int 0), .unset, .unset, .unset, .unset, .unset, .unset, .unset, .unset, .unset, .unset, .unset, .unset, .unset, .unset] []))
      refine Gl.st (fun _ kq => XS.iload X0.here hx rfl (hb hby at_28) rfl kq) ?_
      show Gl p.tables e below _ (s₁.setTop (mkF m 30 #[.val (.int p0), .val (.int p1), .val (.int p2), .val (.int p3), .val (.int p4), .val (.int 0), .val (.int 0), .unset, .unset, .unset, .unset, .unset, .unset, .unset, .unset, .unset, .unset, .unset, .unset, .unset, .unset] [(.int p4)]))
      refine Gl.st (fun _ kq => XS.iconst X0.here hx rfl (hb hby at_30) kq) ?_
      show Gl p.tables e below _ (s₁.setTop (mkF m 31 #[.val (.int p0), .val (.int p1), .val (.int p2), .val (.int p3), .val (.int p4), .val (.int 0), .val (.int 0), .unset, .unset, .unset, .unset, .unset, .unset, .unset, .unset, .unset, .unset, .unset, .unset, .unset, .unset] [(.int 4), (.int p4)]))
      refine Gl.st (fun _ kq => XS.iand X0.here hx rfl (hb hby at_31) rfl kq) ?_
      show Gl p.tables e below _ (s₁.setTop (mkF m 32 #[.val (.int p0), .val (.int p1), .val (.int p2), .val (.int p3), .val (.int p4), .val (.int 0), .val (.int 0), .unset, .unset, .unset, .unset, .unset, .unset, .unset, .unset, .unset, .unset, .unset, .unset, .unset, .unset] [(.int (p4 &&& (4 : Int32)))]))
      by_cases hc133 : (p4 &&& (4 : Int32)) = (0 : Int32)
      · refine Gl.st (fun _ kq => XS.ifYes X0.here hx rfl (pc0 := 32) (pc' := 39) rfl (hb hby at_32) rfl ((if0 _ _).trans (teq (hc133 : (p4 &&& (4 : Int32)) = (0 : Int32))).1) (by decide) (by decide) kq) ?_
        show Gl p.tables e below _ (s₁.setTop (mkF m 39 #[.val (.int p0), .val (.int p1), .val (.int p2), .val (.int p3), .val (.int p4), .val (.int 0), .val (.int 0), .unset, .unset, .unset, .unset, .unset, .unset, .unset, .unset, .unset, .unset, .unset, .unset, .unset, .unset] []))
        refine Gl.st (fun _ kq => XS.iconst X0.here hx rfl (hb hby at_39) kq) ?_
        show Gl p.tables e below _ (s₁.setTop (mkF m 40 #[.val (.int p0), .val (.int p1), .val (.int p2), .val (.int p3), .val (.int p4), .val (.int 0), .val (.int 0), .unset, .unset, .unset, .unset, .unset, .unset, .unset, .unset, .unset, .unset, .unset, .unset, .unset, .unset] [(.int 0)]))
        refine Gl.st (fun _ kq => XS.istore X0.here hx rfl (hb hby at_40) rfl (l' := #[.val (.int p0), .val (.int p1), .val (.int p2), .val (.int p3), .val (.int p4), .val (.int 0), .val (.int 0), .val (.int 0), .unset, .unset, .unset, .unset, .unset, .unset, .unset, .unset, .unset, .unset, .unset, .unset, .unset]) rfl kq) ?_
        show Gl p.tables e below _ (s₁.setTop (mkF m 42 #[.val (.int p0), .val (.int p1), .val (.int p2), .val (.int p3), .val (.int p4), .val (.int 0), .val (.int 0), .val (.int 0), .unset, .unset, .unset, .unset, .unset, .unset, .unset, .unset, .unset, .unset, .unset, .unset, .unset] []))
        refine Gl.st (fun _ kq => XS.iload X0.here hx rfl (hb hby at_42) rfl kq) ?_
        show Gl p.tables e below _ (s₁.setTop (mkF m 44 #[.val (.int p0), .val (.int p1), .val (.int p2), .val (.int p3), .val (.int p4), .val (.int 0), .val (.int 0), .val (.int 0), .unset, .unset, .unset, .unset, .unset, .unset, .unset, .unset, .unset, .unset, .unset, .unset, .unset] [(.int p4)]))
        refine Gl.st (fun _ kq => XS.bipush X0.here hx rfl (hb hby at_44) kq) ?_
        show Gl p.tables e below _ (s₁.setTop (mkF m 46 #[.val (.int p0), .val (.int p1), .val (.int p2), .val (.int p3), .val (.int p4), .val (.int 0), .val (.int 0), .val (.int 0), .unset, .unset, .unset, .unset, .unset, .unset, .unset, .unset, .unset, .unset, .unset, .unset, .unset] [(.int 32), (.int p4)]))
        refine Gl.st (fun _ kq => XS.iand X0.here hx rfl (hb hby at_46) rfl kq) ?_
        show Gl p.tables e below _ (s₁.setTop (mkF m 47 #[.val (.int p0), .val (.int p1), .val (.int p2), .val (.int p3), .val (.int p4), .val (.int 0), .val (.int 0), .val (.int 0), .unset, .unset, .unset, .unset, .unset, .unset, .unset, .unset, .unset, .unset, .unset, .unset, .unset] [(.int (p4 &&& (32 : Int32)))]))
        by_cases hc134 : (p4 &&& (32 : Int32)) = (0 : Int32)
        · refine Gl.st (fun _ kq => XS.ifYes X0.here hx rfl (pc0 := 47) (pc' := 54) rfl (hb hby at_47) rfl ((if0 _ _).trans (teq (hc134 : (p4 &&& (32 : Int32)) = (0 : Int32))).1) (by decide) (by decide) kq) ?_
          show Gl p.tables e below _ (s₁.setTop (mkF m 54 #[.val (.int p0), .val (.int p1), .val (.int p2), .val (.int p3), .val (.int p4), .val (.int 0), .val (.int 0), .val (.int 0), .unset, .unset, .unset, .unset, .unset, .unset, .unset, .unset, .unset, .unset, .unset, .unset, .unset] []))
          refine Gl.st (fun _ kq => XS.iconst X0.here hx rfl (hb hby at_54) kq) ?_
          show Gl p.tables e below _ (s₁.setTop (mkF m 55 #[.val (.int p0), .val (.int p1), .val (.int p2), .val (.int p3), .val (.int p4), .val (.int 0), .val (.int 0), .val (.int 0), .unset, .unset, .unset, .unset, .unset, .unset, .unset, .unset, .unset, .unset, .unset, .unset, .unset] [(.int 0)]))
          refine Gl.st (fun _ kq => XS.istore X0.here hx rfl (hb hby at_55) rfl (l' := #[.val (.int p0), .val (.int p1), .val (.int p2), .val (.int p3), .val (.int p4), .val (.int 0), .val (.int 0), .val (.int 0), .val (.int 0), .unset, .unset, .unset, .unset, .unset, .unset, .unset, .unset, .unset, .unset, .unset, .unset]) rfl kq) ?_
          show Gl p.tables e below _ (s₁.setTop (mkF m 57 #[.val (.int p0), .val (.int p1), .val (.int p2), .val (.int p3), .val (.int p4), .val (.int 0), .val (.int 0), .val (.int 0), .val (.int 0), .unset, .unset, .unset, .unset, .unset, .unset, .unset, .unset, .unset, .unset, .unset, .unset] []))
          exact Jf _ _ _ _ _ hS0 hZ hown (Nat.le_of_eq (congrArg Array.size e0)) C0 (X0.more (by decide) (by decide)) e0 N0 Z0 ((0 : Int32)) ((0 : Int32)) ((0 : Int32)) ((0 : Int32)) pf0 (Or.inl rfl) (Or.inl rfl)
        · refine Gl.st (fun _ kq => XS.ifNo X0.here hx rfl (hb hby at_47) rfl ((if0 _ _).trans (feq (hc134 : ¬ ((p4 &&& (32 : Int32)) = (0 : Int32)))).1) kq) ?_
          show Gl p.tables e below _ (s₁.setTop (mkF m 50 #[.val (.int p0), .val (.int p1), .val (.int p2), .val (.int p3), .val (.int p4), .val (.int 0), .val (.int 0), .val (.int 0), .unset, .unset, .unset, .unset, .unset, .unset, .unset, .unset, .unset, .unset, .unset, .unset, .unset] []))
          refine Gl.st (fun _ kq => XS.iconst X0.here hx rfl (hb hby at_50) kq) ?_
          show Gl p.tables e below _ (s₁.setTop (mkF m 51 #[.val (.int p0), .val (.int p1), .val (.int p2), .val (.int p3), .val (.int p4), .val (.int 0), .val (.int 0), .val (.int 0), .unset, .unset, .unset, .unset, .unset, .unset, .unset, .unset, .unset, .unset, .unset, .unset, .unset] [(.int 1)]))
          refine Gl.st (fun _ kq => XS.goto X0.here hx rfl (pc0 := 51) (pc' := 55) rfl (hb hby at_51) (by decide) (by decide) kq) ?_
          show Gl p.tables e below _ (s₁.setTop (mkF m 55 #[.val (.int p0), .val (.int p1), .val (.int p2), .val (.int p3), .val (.int p4), .val (.int 0), .val (.int 0), .val (.int 0), .unset, .unset, .unset, .unset, .unset, .unset, .unset, .unset, .unset, .unset, .unset, .unset, .unset] [(.int 1)]))
          refine Gl.st (fun _ kq => XS.istore X0.here hx rfl (hb hby at_55) rfl (l' := #[.val (.int p0), .val (.int p1), .val (.int p2), .val (.int p3), .val (.int p4), .val (.int 0), .val (.int 0), .val (.int 0), .val (.int 1), .unset, .unset, .unset, .unset, .unset, .unset, .unset, .unset, .unset, .unset, .unset, .unset]) rfl kq) ?_
          show Gl p.tables e below _ (s₁.setTop (mkF m 57 #[.val (.int p0), .val (.int p1), .val (.int p2), .val (.int p3), .val (.int p4), .val (.int 0), .val (.int 0), .val (.int 0), .val (.int 1), .unset, .unset, .unset, .unset, .unset, .unset, .unset, .unset, .unset, .unset, .unset, .unset] []))
          exact Jf _ _ _ _ _ hS0 hZ hown (Nat.le_of_eq (congrArg Array.size e0)) C0 (X0.more (by decide) (by decide)) e0 N0 Z0 ((0 : Int32)) ((0 : Int32)) ((0 : Int32)) ((1 : Int32)) pf0 (Or.inl rfl) (Or.inl rfl)
      · refine Gl.st (fun _ kq => XS.ifNo X0.here hx rfl (hb hby at_32) rfl ((if0 _ _).trans (feq (hc133 : ¬ ((p4 &&& (4 : Int32)) = (0 : Int32)))).1) kq) ?_
        show Gl p.tables e below _ (s₁.setTop (mkF m 35 #[.val (.int p0), .val (.int p1), .val (.int p2), .val (.int p3), .val (.int p4), .val (.int 0), .val (.int 0), .unset, .unset, .unset, .unset, .unset, .unset, .unset, .unset, .unset, .unset, .unset, .unset, .unset, .unset] []))
        refine Gl.st (fun _ kq => XS.iconst X0.here hx rfl (hb hby at_35) kq) ?_
        show Gl p.tables e below _ (s₁.setTop (mkF m 36 #[.val (.int p0), .val (.int p1), .val (.int p2), .val (.int p3), .val (.int p4), .val (.int 0), .val (.int 0), .unset, .unset, .unset, .unset, .unset, .unset, .unset, .unset, .unset, .unset, .unset, .unset, .unset, .unset] [(.int 1)]))
        refine Gl.st (fun _ kq => XS.goto X0.here hx rfl (pc0 := 36) (pc' := 40) rfl (hb hby at_36) (by decide) (by decide) kq) ?_
        show Gl p.tables e below _ (s₁.setTop (mkF m 40 #[.val (.int p0), .val (.int p1), .val (.int p2), .val (.int p3), .val (.int p4), .val (.int 0), .val (.int 0), .unset, .unset, .unset, .unset, .unset, .unset, .unset, .unset, .unset, .unset, .unset, .unset, .unset, .unset] [(.int 1)]))
        refine Gl.st (fun _ kq => XS.istore X0.here hx rfl (hb hby at_40) rfl (l' := #[.val (.int p0), .val (.int p1), .val (.int p2), .val (.int p3), .val (.int p4), .val (.int 0), .val (.int 0), .val (.int 1), .unset, .unset, .unset, .unset, .unset, .unset, .unset, .unset, .unset, .unset, .unset, .unset, .unset]) rfl kq) ?_
        show Gl p.tables e below _ (s₁.setTop (mkF m 42 #[.val (.int p0), .val (.int p1), .val (.int p2), .val (.int p3), .val (.int p4), .val (.int 0), .val (.int 0), .val (.int 1), .unset, .unset, .unset, .unset, .unset, .unset, .unset, .unset, .unset, .unset, .unset, .unset, .unset] []))
        refine Gl.st (fun _ kq => XS.iload X0.here hx rfl (hb hby at_42) rfl kq) ?_
        show Gl p.tables e below _ (s₁.setTop (mkF m 44 #[.val (.int p0), .val (.int p1), .val (.int p2), .val (.int p3), .val (.int p4), .val (.int 0), .val (.int 0), .val (.int 1), .unset, .unset, .unset, .unset, .unset, .unset, .unset, .unset, .unset, .unset, .unset, .unset, .unset] [(.int p4)]))
        refine Gl.st (fun _ kq => XS.bipush X0.here hx rfl (hb hby at_44) kq) ?_
        show Gl p.tables e below _ (s₁.setTop (mkF m 46 #[.val (.int p0), .val (.int p1), .val (.int p2), .val (.int p3), .val (.int p4), .val (.int 0), .val (.int 0), .val (.int 1), .unset, .unset, .unset, .unset, .unset, .unset, .unset, .unset, .unset, .unset, .unset, .unset, .unset] [(.int 32), (.int p4)]))
        refine Gl.st (fun _ kq => XS.iand X0.here hx rfl (hb hby at_46) rfl kq) ?_
        show Gl p.tables e below _ (s₁.setTop (mkF m 47 #[.val (.int p0), .val (.int p1), .val (.int p2), .val (.int p3), .val (.int p4), .val (.int 0), .val (.int 0), .val (.int 1), .unset, .unset, .unset, .unset, .unset, .unset, .unset, .unset, .unset, .unset, .unset, .unset, .unset] [(.int (p4 &&& (32 : Int32)))]))
        by_cases hc135 : (p4 &&& (32 : Int32)) = (0 : Int32)
        · refine Gl.st (fun _ kq => XS.ifYes X0.here hx rfl (pc0 := 47) (pc' := 54) rfl (hb hby at_47) rfl ((if0 _ _).trans (teq (hc135 : (p4 &&& (32 : Int32)) = (0 : Int32))).1) (by decide) (by decide) kq) ?_
          show Gl p.tables e below _ (s₁.setTop (mkF m 54 #[.val (.int p0), .val (.int p1), .val (.int p2), .val (.int p3), .val (.int p4), .val (.int 0), .val (.int 0), .val (.int 1), .unset, .unset, .unset, .unset, .unset, .unset, .unset, .unset, .unset, .unset, .unset, .unset, .unset] []))
          refine Gl.st (fun _ kq => XS.iconst X0.here hx rfl (hb hby at_54) kq) ?_
          show Gl p.tables e below _ (s₁.setTop (mkF m 55 #[.val (.int p0), .val (.int p1), .val (.int p2), .val (.int p3), .val (.int p4), .val (.int 0), .val (.int 0), .val (.int 1), .unset, .unset, .unset, .unset, .unset, .unset, .unset, .unset, .unset, .unset, .unset, .unset, .unset] [(.int 0)]))
          refine Gl.st (fun _ kq => XS.istore X0.here hx rfl (hb hby at_55) rfl (l' := #[.val (.int p0), .val (.int p1), .val (.int p2), .val (.int p3), .val (.int p4), .val (.int 0), .val (.int 0), .val (.int 1), .val (.int 0), .unset, .unset, .unset, .unset, .unset, .unset, .unset, .unset, .unset, .unset, .unset, .unset]) rfl kq) ?_
          show Gl p.tables e below _ (s₁.setTop (mkF m 57 #[.val (.int p0), .val (.int p1), .val (.int p2), .val (.int p3), .val (.int p4), .val (.int 0), .val (.int 0), .val (.int 1), .val (.int 0), .unset, .unset, .unset, .unset, .unset, .unset, .unset, .unset, .unset, .unset, .unset, .unset] []))
          exact Jf _ _ _ _ _ hS0 hZ hown (Nat.le_of_eq (congrArg Array.size e0)) C0 (X0.more (by decide) (by decide)) e0 N0 Z0 ((0 : Int32)) ((0 : Int32)) ((1 : Int32)) ((0 : Int32)) pf0 (Or.inl rfl) (Or.inl rfl)
        · refine Gl.st (fun _ kq => XS.ifNo X0.here hx rfl (hb hby at_47) rfl ((if0 _ _).trans (feq (hc135 : ¬ ((p4 &&& (32 : Int32)) = (0 : Int32)))).1) kq) ?_
          show Gl p.tables e below _ (s₁.setTop (mkF m 50 #[.val (.int p0), .val (.int p1), .val (.int p2), .val (.int p3), .val (.int p4), .val (.int 0), .val (.int 0), .val (.int 1), .unset, .unset, .unset, .unset, .unset, .unset, .unset, .unset, .unset, .unset, .unset, .unset, .unset] []))
          refine Gl.st (fun _ kq => XS.iconst X0.here hx rfl (hb hby at_50) kq) ?_
          show Gl p.tables e below _ (s₁.setTop (mkF m 51 #[.val (.int p0), .val (.int p1), .val (.int p2), .val (.int p3), .val (.int p4), .val (.int 0), .val (.int 0), .val (.int 1), .unset, .unset, .unset, .unset, .unset, .unset, .unset, .unset, .unset, .unset, .unset, .unset, .unset] [(.int 1)]))
          refine Gl.st (fun _ kq => XS.goto X0.here hx rfl (pc0 := 51) (pc' := 55) rfl (hb hby at_51) (by decide) (by decide) kq) ?_
          show Gl p.tables e below _ (s₁.setTop (mkF m 55 #[.val (.int p0), .val (.int p1), .val (.int p2), .val (.int p3), .val (.int p4), .val (.int 0), .val (.int 0), .val (.int 1), .unset, .unset, .unset, .unset, .unset, .unset, .unset, .unset, .unset, .unset, .unset, .unset, .unset] [(.int 1)]))
          refine Gl.st (fun _ kq => XS.istore X0.here hx rfl (hb hby at_55) rfl (l' := #[.val (.int p0), .val (.int p1), .val (.int p2), .val (.int p3), .val (.int p4), .val (.int 0), .val (.int 0), .val (.int 1), .val (.int 1), .unset, .unset, .unset, .unset, .unset, .unset, .unset, .unset, .unset, .unset, .unset, .unset]) rfl kq) ?_
          show Gl p.tables e below _ (s₁.setTop (mkF m 57 #[.val (.int p0), .val (.int p1), .val (.int p2), .val (.int p3), .val (.int p4), .val (.int 0), .val (.int 0), .val (.int 1), .val (.int 1), .unset, .unset, .unset, .unset, .unset, .unset, .unset, .unset, .unset, .unset, .unset, .unset] []))
          exact Jf _ _ _ _ _ hS0 hZ hown (Nat.le_of_eq (congrArg Array.size e0)) C0 (X0.more (by decide) (by decide)) e0 N0 Z0 ((0 : Int32)) ((0 : Int32)) ((1 : Int32)) ((1 : Int32)) pf0 (Or.inl rfl) (Or.inl rfl)
    · refine Gl.st (fun _ kq => XS.ifNo X0.here hx rfl (hb hby at_18) rfl ((if0 _ _).trans (feq (hc132 : ¬ ((p4 &&& (2 : Int32)) = (0 : Int32)))).1) kq) ?_
      show Gl p.tables e below _ (s₁.setTop (mkF m 21 #[.val (.int p0), .val (.int p1), .val (.int p2), .val (.int p3), .val (.int p4), .val (.int 0), .unset, .unset, .unset, .unset, .unset, .unset, .unset, .unset, .unset, .unset, .unset, .unset, .unset, .unset, .unset] []))
      refine Gl.st (fun _ kq => XS.iconst X0.here hx rfl (hb hby at_21) kq) ?_
      show Gl p.tables e below _ (s₁.setTop (mkF m 22 #[.val (.int p0), .val (.int p1), .val (.int p2), .val (.int p3), .val (.int p4), .val (.int 0), .unset, .unset, .unset, .unset, .unset, .unset, .unset, .unset, .unset, .unset, .unset, .unset, .unset, .unset, .unset] [(.int 1)]))
      refine Gl.st (fun _ kq => XS.goto X0.here hx rfl (pc0 := 22) (pc' := 26) rfl (hb hby at_22) (by decide) (by decide) kq) ?_
      show Gl p.tables e below _ (s₁.setTop (mkF m 26 #[.val (.int p0), .val (.int p1), .val (.int p2), .val (.int p3), .val (.int p4), .val (.int 0), .unset, .unset, .unset, .unset, .unset, .unset, .unset, .unset, .unset, .unset, .unset, .unset, .unset, .unset, .unset] [(.int 1)]))
      refine Gl.st (fun _ kq => XS.istore X0.here hx rfl (hb hby at_26) rfl (l' := #[.val (.int p0), .val (.int p1), .val (.int p2), .val (.int p3), .val (.int p4), .val (.int 0), .val (.int 1), .unset, .unset, .unset, .unset, .unset, .unset, .unset, .unset, .unset, .unset, .unset, .unset, .unset, .unset]) rfl kq) ?_
      show Gl p.tables e below _ (s₁.setTop (mkF m 28 #[.val (.int p0), .val (.int p1), .val (.int p2), .val (.int p3), .val (.int p4), .val (.int 0), .val (.int 1), .unset, .unset, .unset, .unset, .unset, .unset, .unset, .unset, .unset, .unset, .unset, .unset, .unset, .unset] []))
      refine Gl.st (fun _ kq => XS.iload X0.here hx rfl (hb hby at_28) rfl kq) ?_
      show Gl p.tables e below _ (s₁.setTop (mkF m 30 #[.val (.int p0), .val (.int p1), .val (.int p2), .val (.int p3), .val (.int p4), .val (.int 0), .val (.int 1), .unset, .unset, .unset, .unset, .unset, .unset, .unset, .unset, .unset, .unset, .unset, .unset, .unset, .unset] [(.int p4)]))
      refine Gl.st (fun _ kq => XS.iconst X0.here hx rfl (hb hby at_30) kq) ?_
      show Gl p.tables e below _ (s₁.setTop (mkF m 31 #[.val (.int p0), .val (.int p1), .val (.int p2), .val (.int p3), .val (.int p4), .val (.int 0), .val (.int 1), .unset, .unset, .unset, .unset, .unset, .unset, .unset, .unset, .unset, .unset, .unset, .unset, .unset, .unset] [(.int 4), (.int p4)]))
      refine Gl.st (fun _ kq => XS.iand X0.here hx rfl (hb hby at_31) rfl kq) ?_
      show Gl p.tables e below _ (s₁.setTop (mkF m 32 #[.val (.int p0), .val (.int p1), .val (.int p2), .val (.int p3), .val (.int p4), .val (.int 0), .val (.int 1), .unset, .unset, .unset, .unset, .unset, .unset, .unset, .unset, .unset, .unset, .unset, .unset, .unset, .unset] [(.int (p4 &&& (4 : Int32)))]))
      by_cases hc136 : (p4 &&& (4 : Int32)) = (0 : Int32)
      · refine Gl.st (fun _ kq => XS.ifYes X0.here hx rfl (pc0 := 32) (pc' := 39) rfl (hb hby at_32) rfl ((if0 _ _).trans (teq (hc136 : (p4 &&& (4 : Int32)) = (0 : Int32))).1) (by decide) (by decide) kq) ?_
        show Gl p.tables e below _ (s₁.setTop (mkF m 39 #[.val (.int p0), .val (.int p1), .val (.int p2), .val (.int p3), .val (.int p4), .val (.int 0), .val (.int 1), .unset, .unset, .unset, .unset, .unset, .unset, .unset, .unset, .unset, .unset, .unset, .unset, .unset, .unset] []))
        refine Gl.st (fun _ kq => XS.iconst X0.here hx rfl (hb hby at_39) kq) ?_
        show Gl p.tables e below _ (s₁.setTop (mkF m 40 #[.val (.int p0), .val (.int p1), .val (.int p2), .val (.int p3), .val (.int p4), .val (.int 0), .val (.int 1), .unset, .unset, .unset, .unset, .unset, .unset, .unset, .unset, .unset, .unset, .unset, .unset, .unset, .unset] [(.int 0)]))
        refine Gl.st (fun _ kq => XS.istore X0.here hx rfl (hb hby at_40) rfl (l' := #[.val (.int p0), .val (.int p1), .val (.int p2), .val (.int p3), .val (.int p4), .val (.int 0), .val (.int 1), .val (.int 0), .unset, .unset, .unset, .unset, .unset, .unset, .unset, .unset, .unset, .unset, .unset, .unset, .unset]) rfl kq) ?_
        show Gl p.tables e below _ (s₁.setTop (mkF m 42 #[.val (.int p0), .val (.int p1), .val (.int p2), .val (.int p3), .val (.int p4), .val (.int 0), .val (.int 1), .val (.int 0), .unset, .unset, .unset, .unset, .unset, .unset, .unset, .unset, .unset, .unset, .unset, .unset, .unset] []))
        refine Gl.st (fun _ kq => XS.iload X0.here hx rfl (hb hby at_42) rfl kq) ?_
        show Gl p.tables e below _ (s₁.setTop (mkF m 44 #[.val (.int p0), .val (.int p1), .val (.int p2), .val (.int p3), .val (.int p4), .val (.int 0), .val (.int 1), .val (.int 0), .unset, .unset, .unset, .unset, .unset, .unset, .unset, .unset, .unset, .unset, .unset, .unset, .unset] [(.int p4)]))
        refine Gl.st (fun _ kq => XS.bipush X0.here hx rfl (hb hby at_44) kq) ?_
        show Gl p.tables e below _ (s₁.setTop (mkF m 46 #[.val (.int p0), .val (.int p1), .val (.int p2), .val (.int p3), .val (.int p4), .val (.int 0), .val (.int 1), .val (.int 0), .unset, .unset, .unset, .unset, .unset, .unset, .unset, .unset, .unset, .unset, .unset, .unset, .unset] [(.int 32), (.int p4)]))
        refine Gl.st (fun _ kq => XS.iand X0.here hx rfl (hb hby at_46) rfl kq) ?_
        show Gl p.tables e below _ (s₁.setTop (mkF m 47 #[.val (.int p0), .val (.int p1), .val (.int p2), .val (.int p3), .val (.int p4), .val (.int 0), .val (.int 1), .val (.int 0), .unset, .unset, .unset, .unset, .unset, .unset, .unset, .unset, .unset, .unset, .unset, .unset, .unset] [(.int (p4 &&& (32 : Int32)))]))
        by_cases hc137 : (p4 &&& (32 : Int32)) = (0 : Int32)
        · refine Gl.st (fun _ kq => XS.ifYes X0.here hx rfl (pc0 := 47) (pc' := 54) rfl (hb hby at_47) rfl ((if0 _ _).trans (teq (hc137 : (p4 &&& (32 : Int32)) = (0 : Int32))).1) (by decide) (by decide) kq) ?_
          show Gl p.tables e below _ (s₁.setTop (mkF m 54 #[.val (.int p0), .val (.int p1), .val (.int p2), .val (.int p3), .val (.int p4), .val (.int 0), .val (.int 1), .val (.int 0), .unset, .unset, .unset, .unset, .unset, .unset, .unset, .unset, .unset, .unset, .unset, .unset, .unset] []))
          refine Gl.st (fun _ kq => XS.iconst X0.here hx rfl (hb hby at_54) kq) ?_
          show Gl p.tables e below _ (s₁.setTop (mkF m 55 #[.val (.int p0), .val (.int p1), .val (.int p2), .val (.int p3), .val (.int p4), .val (.int 0), .val (.int 1), .val (.int 0), .unset, .unset, .unset, .unset, .unset, .unset, .unset, .unset, .unset, .unset, .unset, .unset, .unset] [(.int 0)]))
          refine Gl.st (fun _ kq => XS.istore X0.here hx rfl (hb hby at_55) rfl (l' := #[.val (.int p0), .val (.int p1), .val (.int p2), .val (.int p3), .val (.int p4), .val (.int 0), .val (.int 1), .val (.int 0), .val (.int 0), .unset, .unset, .unset, .unset, .unset, .unset, .unset, .unset, .unset, .unset, .unset, .unset]) rfl kq) ?_
          show Gl p.tables e below _ (s₁.setTop (mkF m 57 #[.val (.int p0), .val (.int p1), .val (.int p2), .val (.int p3), .val (.int p4), .val (.int 0), .val (.int 1), .val (.int 0), .val (.int 0), .unset, .unset, .unset, .unset, .unset, .unset, .unset, .unset, .unset, .unset, .unset, .unset] []))
          exact Jf _ _ _ _ _ hS0 hZ hown (Nat.le_of_eq (congrArg Array.size e0)) C0 (X0.more (by decide) (by decide)) e0 N0 Z0 ((0 : Int32)) ((1 : Int32)) ((0 : Int32)) ((0 : Int32)) pf0 (Or.inl rfl) (Or.inr rfl)
        · refine Gl.st (fun _ kq => XS.ifNo X0.here hx rfl (hb hby at_47) rfl ((if0 _ _).trans (feq (hc137 : ¬ ((p4 &&& (32 : Int32)) = (0 : Int32)))).1) kq) ?_
          show Gl p.tables e below _ (s₁.setTop (mkF m 50 #[.val (.int p0), .val (.int p1), .val (.int p2), .val (.int p3), .val (.int p4), .val (.int 0), .val (.int 1), .val (.int 0), .unset, .unset, .unset, .unset, .unset, .unset, .unset, .unset, .unset, .unset, .unset, .unset, .unset] []))
          refine Gl.st (fun _ kq => XS.iconst X0.here hx rfl (hb hby at_50) kq) ?_
          show Gl p.tables e below _ (s₁.setTop (mkF m 51 #[.val (.int p0), .val (.int p1), .val (.int p2), .val (.int p3), .val (.int p4), .val (.int 0), .val (.int 1), .val (.int 0), .unset, .unset, .unset, .unset, .unset, .unset, .unset, .unset, .unset, .unset, .unset, .unset, .unset] [(.int 1)]))
          refine Gl.st (fun _ kq => XS.goto X0.here hx rfl (pc0 := 51) (pc' := 55) rfl (hb hby at_51) (by decide) (by decide) kq) ?_
          show Gl p.tables e below _ (s₁.setTop (mkF m 55 #[.val (.int p0), .val (.int p1), .val (.int p2), .val (.int p3), .val (.int p4), .val (.int 0), .val (.int 1), .val (.int 0), .unset, .unset, .unset, .unset, .unset, .unset, .unset, .unset, .unset, .unset, .unset, .unset, .unset] [(.int 1)]))
          refine Gl.st (fun _ kq => XS.istore X0.here hx rfl (hb hby at_55) rfl (l' := #[.val (.int p0), .val (.int p1), .val (.int p2), .val (.int p3), .val (.int p4), .val (.int 0), .val (.int 1), .val (.int 0), .val (.int 1), .unset, .unset, .unset, .unset, .unset, .unset, .unset, .unset, .unset, .unset, .unset, .unset]) rfl kq) ?_
          show Gl p.tables e below _ (s₁.setTop (mkF m 57 #[.val (.int p0), .val (.int p1), .val (.int p2), .val (.int p3), .val (.int p4), .val (.int 0), .val (.int 1), .val (.int 0), .val (.int 1), .unset, .unset, .unset, .unset, .unset, .unset, .unset, .unset, .unset, .unset, .unset, .unset] []))
          exact Jf _ _ _ _ _ hS0 hZ hown (Nat.le_of_eq (congrArg Array.size e0)) C0 (X0.more (by decide) (by decide)) e0 N0 Z0 ((0 : Int32)) ((1 : Int32)) ((0 : Int32)) ((1 : Int32)) pf0 (Or.inl rfl) (Or.inr rfl)
      · refine Gl.st (fun _ kq => XS.ifNo X0.here hx rfl (hb hby at_32) rfl ((if0 _ _).trans (feq (hc136 : ¬ ((p4 &&& (4 : Int32)) = (0 : Int32)))).1) kq) ?_
        show Gl p.tables e below _ (s₁.setTop (mkF m 35 #[.val (.int p0), .val (.int p1), .val (.int p2), .val (.int p3), .val (.int p4), .val (.int 0), .val (.int 1), .unset, .unset, .unset, .unset, .unset, .unset, .unset, .unset, .unset, .unset, .unset, .unset, .unset, .unset] []))
        refine Gl.st (fun _ kq => XS.iconst X0.here hx rfl (hb hby at_35) kq) ?_
        show Gl p.tables e below _ (s₁.setTop (mkF m 36 #[.val (.int p0), .val (.int p1), .val (.int p2), .val (.int p3), .val (.int p4), .val (.int 0), .val (.int 1), .unset, .unset, .unset, .unset, .unset, .unset, .unset, .unset, .unset, .unset, .unset, .unset, .unset, .unset] [(.int 1)]))
        refine Gl.st (fun _ kq => XS.goto X0.here hx rfl (pc0 := 36) (pc' := 40) rfl (hb hby at_36) (by decide) (by decide) kq) ?_
        show Gl p.tables e below _ (s₁.setTop (mkF m 40 #[.val (.int p0), .val (.int p1), .val (.int p2), .val (.int p3), .val (.int p4), .val (.int 0), .val (.int 1), .unset, .unset, .unset, .unset, .unset, .unset, .unset, .unset, .unset, .unset, .unset, .unset, .unset, .unset] [(.int 1)]))
        refine Gl.st (fun _ kq => XS.istore X0.here hx rfl (hb hby at_40) rfl (l' := #[.val (.int p0), .val (.int p1), .val (.int p2), .val (.int p3), .val (.int p4), .val (.int 0), .val (.int 1), .val (.int 1), .unset, .unset, .unset, .unset, .unset, .unset, .unset, .unset, .unset, .unset, .unset, .unset, .unset]) rfl kq) ?_
        show Gl p.tables e below _ (s₁.setTop (mkF m 42 #[.val (.int p0), .val (.int p1), .val (.int p2), .val (.int p3), .val (.int p4), .val (.int 0), .val (.int 1), .val (.int 1), .unset, .unset, .unset, .unset, .unset, .unset, .unset, .unset, .unset, .unset, .unset, .unset, .unset] []))
        refine Gl.st (fun _ kq => XS.iload X0.here hx rfl (hb hby at_42) rfl kq) ?_
        show Gl p.tables e below _ (s₁.setTop (mkF m 44 #[.val (.int p0), .val (.int p1), .val (.int p2), .val (.int p3), .val (.int p4), .val (.int 0), .val (.int 1), .val (.int 1), .unset, .unset, .unset, .unset, .unset, .unset, .unset, .unset, .unset, .unset, .unset, .unset, .unset] [(.int p4)]))
        refine Gl.st (fun _ kq => XS.bipush X0.here hx rfl (hb hby at_44) kq) ?_
        show Gl p.tables e below _ (s₁.setTop (mkF m 46 #[.val (.int p0), .val (.int p1), .val (.int p2), .val (.int p3), .val (.int p4), .val (.int 0), .val (.int 1), .val (.int 1), .unset, .unset, .unset, .unset, .unset, .unset, .unset, .unset, .unset, .unset, .unset, .unset, .unset] [(.int 32), (.int p4)]))
        refine Gl.st (fun _ kq => XS.iand X0.here hx rfl (hb hby at_46) rfl kq) ?_
        show Gl p.tables e below _ (s₁.setTop (mkF m 47 #[.val (.int p0), .val (.int p1), .val (.int p2), .val (.int p3), .val (.int p4), .val (.int 0), .val (.int 1), .val (.int 1), .unset, .unset, .unset, .unset, .unset, .unset, .unset, .unset, .unset, .unset, .unset, .unset, .unset] [(.int (p4 &&& (32 : Int32)))]))
        by_cases hc138 : (p4 &&& (32 : Int32)) = (0 : Int32)
        · refine Gl.st (fun _ kq => XS.ifYes X0.here hx rfl (pc0 := 47) (pc' := 54) rfl (hb hby at_47) rfl ((if0 _ _).trans (teq (hc138 : (p4 &&& (32 : Int32)) = (0 : Int32))).1) (by decide) (by decide) kq) ?_
          show Gl p.tables e below _ (s₁.setTop (mkF m 54 #[.val (.int p0), .val (.int p1), .val (.int p2), .val (.int p3), .val (.int p4), .val (.int 0), .val (.int 1), .val (.int 1), .unset, .unset, .unset, .unset, .unset, .unset, .unset, .unset, .unset, .unset, .unset, .unset, .unset] []))
          refine Gl.st (fun _ kq => XS.iconst X0.here hx rfl (hb hby at_54) kq) ?_
          show Gl p.tables e below _ (s₁.setTop (mkF m 55 #[.val (.int p0), .val (.int p1), .val (.int p2), .val (.int p3), .val (.int p4), .val (.int 0), .val (.int 1), .val (.int 1), .unset, .unset, .unset, .unset, .unset, .unset, .unset, .unset, .unset, .unset, .unset, .unset, .unset] [(.int 0)]))
          refine Gl.st (fun _ kq => XS.istore X0.here hx rfl (hb hby at_55) rfl (l' := #[.val (.int p0), .val (.int p1), .val (.int p2), .val (.int p3), .val (.int p4), .val (.int 0), .val (.int 1), .val (.int 1), .val (.int 0), .unset, .unset, .unset, .unset, .unset, .unset, .unset, .unset, .unset, .unset, .unset, .unset]) rfl kq) ?_
          show Gl p.tables e below _ (s₁.setTop (mkF m 57 #[.val (.int p0), .val (.int p1), .val (.int p2), .val (.int p3), .val (.int p4), .val (.int 0), .val (.int 1), .val (.int 1), .val (.int 0), .unset, .unset, .unset, .unset, .unset, .unset, .unset, .unset, .unset, .unset, .unset, .unset] []))
          exact Jf _ _ _ _ _ hS0 hZ hown (Nat.le_of_eq (congrArg Array.size e0)) C0 (X0.more (by decide) (by decide)) e0 N0 Z0 ((0 : Int32)) ((1 : Int32)) ((1 : Int32)) ((0 : Int32)) pf0 (Or.inl rfl) (Or.inr rfl)
        · refine Gl.st (fun _ kq => XS.ifNo X0.here hx rfl (hb hby at_47) rfl ((if0 _ _).trans (feq (hc138 : ¬ ((p4 &&& (32 : Int32)) = (0 : Int32)))).1) kq) ?_
          show Gl p.tables e below _ (s₁.setTop (mkF m 50 #[.val (.int p0), .val (.int p1), .val (.int p2), .val (.int p3), .val (.int p4), .val (.int 0), .val (.int 1), .val (.int 1), .unset, .unset, .unset, .unset, .unset, .unset, .unset, .unset, .unset, .unset, .unset, .unset, .unset] []))
          refine Gl.st (fun _ kq => XS.iconst X0.here hx rfl (hb hby at_50) kq) ?_
          show Gl p.tables e below _ (s₁.setTop (mkF m 51 #[.val (.int p0), .val (.int p1), .val (.int p2), .val (.int p3), .val (.int p4), .val (.int 0), .val (.int 1), .val (.int 1), .unset, .unset, .unset, .unset, .unset, .unset, .unset, .unset, .unset, .unset, .unset, .unset, .unset] [(.int 1)]))
          refine Gl.st (fun _ kq => XS.goto X0.here hx rfl (pc0 := 51) (pc' := 55) rfl (hb hby at_51) (by decide) (by decide) kq) ?_
          show Gl p.tables e below _ (s₁.setTop (mkF m 55 #[.val (.int p0), .val (.int p1), .val (.int p2), .val (.int p3), .val (.int p4), .val (.int 0), .val (.int 1), .val (.int 1), .unset, .unset, .unset, .unset, .unset, .unset, .unset, .unset, .unset, .unset, .unset, .unset, .unset] [(.int 1)]))
          refine Gl.st (fun _ kq => XS.istore X0.here hx rfl (hb hby at_55) rfl (l' := #[.val (.int p0), .val (.int p1), .val (.int p2), .val (.int p3), .val (.int p4), .val (.int 0), .val (.int 1), .val (.int 1), .val (.int 1), .unset, .unset, .unset, .unset, .unset, .unset, .unset, .unset, .unset, .unset, .unset, .unset]) rfl kq) ?_
          show Gl p.tables e below _ (s₁.setTop (mkF m 57 #[.val (.int p0), .val (.int p1), .val (.int p2), .val (.int p3), .val (.int p4), .val (.int 0), .val (.int 1), .val (.int 1), .val (.int 1), .unset, .unset, .unset, .unset, .unset, .unset, .unset, .unset, .unset, .unset, .unset, .unset] []))
          exact Jf _ _ _ _ _ hS0 hZ hown (Nat.le_of_eq (congrArg Array.size e0)) C0 (X0.more (by decide) (by decide)) e0 N0 Z0 ((0 : Int32)) ((1 : Int32)) ((1 : Int32)) ((1 : Int32)) pf0 (Or.inl rfl) (Or.inr rfl)
  · refine Gl.st (fun _ kq => XS.ifNo X0.here hx rfl (hb hby at_4) rfl ((if0 _ _).trans (feq (hc131 : ¬ ((p4 &&& (1 : Int32)) = (0 : Int32)))).1) kq) ?_
    show Gl p.tables e below _ (s₁.setTop (mkF m 7 #[.val (.int p0), .val (.int p1), .val (.int p2), .val (.int p3), .val (.int p4), .unset, .unset, .unset, .unset, .unset, .unset, .unset, .unset, .unset, .unset, .unset, .unset, .unset, .unset, .unset, .unset] []))
    refine Gl.st (fun _ kq => XS.iconst X0.here hx rfl (hb hby at_7) kq) ?_
    show Gl p.tables e below _ (s₁.setTop (mkF m 8 #[.val (.int p0), .val (.int p1), .val (.int p2), .val (.int p3), .val (.int p4), .unset, .unset, .unset, .unset, .unset, .unset, .unset, .unset, .unset, .unset, .unset, .unset, .unset, .unset, .unset, .unset] [(.int 1)]))
    refine Gl.st (fun _ kq => XS.goto X0.here hx rfl (pc0 := 8) (pc' := 12) rfl (hb hby at_8) (by decide) (by decide) kq) ?_
    show Gl p.tables e below _ (s₁.setTop (mkF m 12 #[.val (.int p0), .val (.int p1), .val (.int p2), .val (.int p3), .val (.int p4), .unset, .unset, .unset, .unset, .unset, .unset, .unset, .unset, .unset, .unset, .unset, .unset, .unset, .unset, .unset, .unset] [(.int 1)]))
    refine Gl.st (fun _ kq => XS.istore X0.here hx rfl (hb hby at_12) rfl (l' := #[.val (.int p0), .val (.int p1), .val (.int p2), .val (.int p3), .val (.int p4), .val (.int 1), .unset, .unset, .unset, .unset, .unset, .unset, .unset, .unset, .unset, .unset, .unset, .unset, .unset, .unset, .unset]) rfl kq) ?_
    show Gl p.tables e below _ (s₁.setTop (mkF m 14 #[.val (.int p0), .val (.int p1), .val (.int p2), .val (.int p3), .val (.int p4), .val (.int 1), .unset, .unset, .unset, .unset, .unset, .unset, .unset, .unset, .unset, .unset, .unset, .unset, .unset, .unset, .unset] []))
    refine Gl.st (fun _ kq => XS.iload X0.here hx rfl (hb hby at_14) rfl kq) ?_
    show Gl p.tables e below _ (s₁.setTop (mkF m 16 #[.val (.int p0), .val (.int p1), .val (.int p2), .val (.int p3), .val (.int p4), .val (.int 1), .unset, .unset, .unset, .unset, .unset, .unset, .unset, .unset, .unset, .unset, .unset, .unset, .unset, .unset, .unset] [(.int p4)]))
    refine Gl.st (fun _ kq => XS.iconst X0.here hx rfl (hb hby at_16) kq) ?_
    show Gl p.tables e below _ (s₁.setTop (mkF m 17 #[.val (.int p0), .val (.int p1), .val (.int p2), .val (.int p3), .val (.int p4), .val (.int 1), .unset, .unset, .unset, .unset, .unset, .unset, .unset, .unset, .unset, .unset, .unset, .unset, .unset, .unset, .unset] [(.int 2), (.int p4)]))
    refine Gl.st (fun _ kq => XS.iand X0.here hx rfl (hb hby at_17) rfl kq) ?_
    show Gl p.tables e below _ (s₁.setTop (mkF m 18 #[.val (.int p0), .val (.int p1), .val (.int p2), .val (.int p3), .val (.int p4), .val (.int 1), .unset, .unset, .unset, .unset, .unset, .unset, .unset, .unset, .unset, .unset, .unset, .unset, .unset, .unset, .unset] [(.int (p4 &&& (2 : Int32)))]))
    by_cases hc139 : (p4 &&& (2 : Int32)) = (0 : Int32)
    · refine Gl.st (fun _ kq => XS.ifYes X0.here hx rfl (pc0 := 18) (pc' := 25) rfl (hb hby at_18) rfl ((if0 _ _).trans (teq (hc139 : (p4 &&& (2 : Int32)) = (0 : Int32))).1) (by decide) (by decide) kq) ?_
      show Gl p.tables e below _ (s₁.setTop (mkF m 25 #[.val (.int p0), .val (.int p1), .val (.int p2), .val (.int p3), .val (.int p4), .val (.int 1), .unset, .unset, .unset, .unset, .unset, .unset, .unset, .unset, .unset, .unset, .unset, .unset, .unset, .unset, .unset] []))
      refine Gl.st (fun _ kq => XS.iconst X0.here hx rfl (hb hby at_25) kq) ?_
      show Gl p.tables e below _ (s₁.setTop (mkF m 26 #[.val (.int p0), .val (.int p1), .val (.int p2), .val (.int p3), .val (.int p4), .val (.int 1), .unset, .unset, .unset, .unset, .unset, .unset, .unset, .unset, .unset, .unset, .unset, .unset, .unset, .unset, .unset] [(.int 0)]))
      refine Gl.st (fun _ kq => XS.istore X0.here hx rfl (hb hby at_26) rfl (l' := #[.val (.int p0), .val (.int p1), .val (.int p2), .val (.int p3), .val (.int p4), .val (.int 1), .val (.int 0), .unset, .unset, .unset, .unset, .unset, .unset, .unset, .unset, .unset, .unset, .unset, .unset, .unset, .unset]) rfl kq) ?_
      show Gl p.tables e below _ (s₁.setTop (mkF m 28 #[.val (.int p0), .val (.int p1), .val (.int p2), .val (.int p3), .val (.int p4), .val (.int 1), .val (.int 0), .unset, .unset, .unset, .unset, .unset, .unset, .unset, .unset, .unset, .unset, .unset, .unset, .unset, .unset] []))
      refine Gl.st (fun _ kq => XS.iload X0.here hx rfl (hb hby at_28) rfl kq) ?_
      show Gl p.tables e below _ (s₁.setTop (mkF m 30 #[.val (.int p0), .val (.int p1), .val (.int p2), .val (.int p3), .val (.int p4), .val (.int 1), .val (.int 0), .unset, .unset, .unset, .unset, .unset, .unset, .unset, .unset, .unset, .unset, .unset, .unset, .unset, .unset] [(.int p4)]))
      refine Gl.st (fun _ kq => XS.iconst X0.here hx rfl (hb hby at_30) kq) ?_
      show Gl p.tables e below _ (s₁.setTop (mkF m 31 #[.val (.int p0), .val (.int p1), .val (.int p2), .val (.int p3), .val (.int p4), .val (.int 1), .val (.int 0), .unset, .unset, .unset, .unset, .unset, .unset, .unset, .unset, .unset, .unset, .unset, .unset, .unset, .unset] [(.int 4), (.int p4)]))
      refine Gl.st (fun _ kq => XS.iand X0.here hx rfl (hb hby at_31) rfl kq) ?_
      show Gl p.tables e below _ (s₁.setTop (mkF m 32 #[.val (.int p0), .val (.int p1), .val (.int p2), .val (.int p3), .val (.int p4), .val (.int 1), .val (.int 0), .unset, .unset, .unset, .unset, .unset, .unset, .unset, .unset, .unset, .unset, .unset, .unset, .unset, .unset] [(.int (p4 &&& (4 : Int32)))]))
      by_cases hc140 : (p4 &&& (4 : Int32)) = (0 : Int32)
      · refine Gl.st (fun _ kq => XS.ifYes X0.here hx rfl (pc0 := 32) (pc' := 39) rfl (hb hby at_32) rfl ((if0 _ _).trans (teq (hc140 : (p4 &&& (4 : Int32)) = (0 : Int32))).1) (by decide) (by decide) kq) ?_
        show Gl p.tables e below _ (s₁.setTop (mkF m 39 #[.val (.int p0), .val (.int p1), .val (.int p2), .val (.int p3), .val (.int p4), .val (.int 1), .val (.int 0), .unset, .unset, .unset, .unset, .unset, .unset, .unset, .unset, .unset, .unset, .unset, .unset, .unset, .unset] []))
        refine Gl.st (fun _ kq => XS.iconst X0.here hx rfl (hb hby at_39) kq) ?_
        show Gl p.tables e below _ (s₁.setTop (mkF m 40 #[.val (.int p0), .val (.int p1), .val (.int p2), .val (.int p3), .val (.int p4), .val (.int 1), .val (.int 0), .unset, .unset, .unset, .unset, .unset, .unset, .unset, .unset, .unset, .unset, .unset, .unset, .unset, .unset] [(.int 0)]))
        refine Gl.st (fun _ kq => XS.istore X0.here hx rfl (hb hby at_40) rfl (l' := #[.val (.int p0), .val (.int p1), .val (.int p2), .val (.int p3), .val (.int p4), .val (.int 1), .val (.int 0), .val (.int 0), .unset, .unset, .unset, .unset, .unset, .unset, .unset, .unset, .unset, .unset, .unset, .unset, .unset]) rfl kq) ?_
        show Gl p.tables e below _ (s₁.setTop (mkF m 42 #[.val (.int p0), .val (.int p1), .val (.int p2), .val (.int p3), .val (.int p4), .val (.int 1), .val (.int 0), .val (.int 0), .unset, .unset, .unset, .unset, .unset, .unset, .unset, .unset, .unset, .unset, .unset, .unset, .unset] []))
        refine Gl.st (fun _ kq => XS.iload X0.here hx rfl (hb hby at_42) rfl kq) ?_
        show Gl p.tables e below _ (s₁.setTop (mkF m 44 #[.val (.int p0), .val (.int p1), .val (.int p2), .val (.int p3), .val (.int p4), .val (.int 1), .val (.int 0), .val (.int 0), .unset, .unset, .unset, .unset, .unset, .unset, .unset, .unset, .unset, .unset, .unset, .unset, .unset] [(.int p4)]))
        refine Gl.st (fun _ kq => XS.bipush X0.here hx rfl (hb hby at_44) kq) ?_
        show Gl p.tables e below _ (s₁.setTop (mkF m 46 #[.val (.int p0), .val (.int p1), .val (.int p2), .val (.int p3), .val (.int p4), .val (.int 1), .val (.int 0), .val (.int 0), .unset, .unset, .unset, .unset, .unset, .unset, .unset, .unset, .unset, .unset, .unset, .unset, .unset] [(.int 32), (.int p4)]))
        refine Gl.st (fun _ kq => XS.iand X0.here hx rfl (hb hby at_46) rfl kq) ?_
        show Gl p.tables e below _ (s₁.setTop (mkF m 47 #[.val (.int p0), .val (.int p1), .val (.int p2), .val (.int p3), .val (.int p4), .val (.int 1), .val (.int 0), .val (.int 0), .unset, .unset, .unset, .unset, .unset, .unset, .unset, .unset, .unset, .unset, .unset, .unset, .unset] [(.int (p4 &&& (32 : Int32)))]))
        by_cases hc141 : (p4 &&& (32 : Int32)) = (0 : Int32)
        · refine Gl.st (fun _ kq => XS.ifYes X0.here hx rfl (pc0 := 47) (pc' := 54) rfl (hb hby at_47) rfl ((if0 _ _).trans (teq (hc141 : (p4 &&& (32 : Int32)) = (0 : Int32))).1) (by decide) (by decide) kq) ?_
          show Gl p.tables e below _ (s₁.setTop (mkF m 54 #[.val (.int p0), .val (.int p1), .val (.int p2), .val (.int p3), .val (.int p4), .val (.int 1), .val (.int 0), .val (.int 0), .unset, .unset, .unset, .unset, .unset, .unset, .unset, .unset, .unset, .unset, .unset, .unset, .unset] []))
          refine Gl.st (fun _ kq => XS.iconst X0.here hx rfl (hb hby at_54) kq) ?_
          show Gl p.tables e below _ (s₁.setTop (mkF m 55 #[.val (.int p0), .val (.int p1), .val (.int p2), .val (.int p3), .val (.int p4), .val (.int 1), .val (.int 0), .val (.int 0), .unset, .unset, .unset, .unset, .unset, .unset, .unset, .unset, .unset, .unset, .unset, .unset, .unset] [(.int 0)]))
          refine Gl.st (fun _ kq => XS.istore X0.here hx rfl (hb hby at_55) rfl (l' := #[.val (.int p0), .val (.int p1), .val (.int p2), .val (.int p3), .val (.int p4), .val (.int 1), .val (.int 0), .val (.int 0), .val (.int 0), .unset, .unset, .unset, .unset, .unset, .unset, .unset, .unset, .unset, .unset, .unset, .unset]) rfl kq) ?_
          show Gl p.tables e below _ (s₁.setTop (mkF m 57 #[.val (.int p0), .val (.int p1), .val (.int p2), .val (.int p3), .val (.int p4), .val (.int 1), .val (.int 0), .val (.int 0), .val (.int 0), .unset, .unset, .unset, .unset, .unset, .unset, .unset, .unset, .unset, .unset, .unset, .unset] []))
          exact Jf _ _ _ _ _ hS0 hZ hown (Nat.le_of_eq (congrArg Array.size e0)) C0 (X0.more (by decide) (by decide)) e0 N0 Z0 ((1 : Int32)) ((0 : Int32)) ((0 : Int32)) ((0 : Int32)) pf0 (Or.inr rfl) (Or.inl rfl)
        · refine Gl.st (fun _ kq => XS.ifNo X0.here hx rfl (hb hby at_47) rfl ((if0 _ _).trans (feq (hc141 : ¬ ((p4 &&& (32 : Int32)) = (0 : Int32)))).1) kq) ?_
          show Gl p.tables e below _ (s₁.setTop (mkF m 50 #[.val (.int p0), .val (.int p1), .val (.int p2), .val (.int p3), .val (.int p4), .val (.int 1), .val (.int 0), .val (.int 0), .unset, .unset, .unset, .unset, .unset, .unset, .unset, .unset, .unset, .unset, .unset, .unset, .unset] []))
          refine Gl.st (fun _ kq => XS.iconst X0.here hx rfl (hb hby at_50) kq) ?_
          show Gl p.tables e below _ (s₁.setTop (mkF m 51 #[.val (.int p0), .val (.int p1), .val (.int p2), .val (.int p3), .val (.int p4), .val (.int 1), .val (.int 0), .val (.int 0), .unset, .unset, .unset, .unset, .unset, .unset, .unset, .unset, .unset, .unset, .unset, .unset, .unset] [(.int 1)]))
          refine Gl.st (fun _ kq => XS.goto X0.here hx rfl (pc0 := 51) (pc' := 55) rfl (hb hby at_51) (by decide) (by decide) kq) ?_
          show Gl p.tables e below _ (s₁.setTop (mkF m 55 #[.val (.int p0), .val (.int p1), .val (.int p2), .val (.int p3), .val (.int p4), .val (.int 1), .val (.int 0), .val (.int 0), .unset, .unset, .unset, .unset, .unset, .unset, .unset, .unset, .unset, .unset, .unset, .unset, .unset] [(.int 1)]))
          refine Gl.st (fun _ kq => XS.istore X0.here hx rfl (hb hby at_55) rfl (l' := #[.val (.int p0), .val (.int p1), .val (.int p2), .val (.int p3), .val (.int p4), .val (.int 1), .val (.int 0), .val (.int 0), .val (.int 1), .unset, .unset, .unset, .unset, .unset, .unset, .unset, .unset, .unset, .unset, .unset, .unset]) rfl kq) ?_
          show Gl p.tables e below _ (s₁.setTop (mkF m 57 #[.val (.int p0), .val (.int p1), .val (.int p2), .val (.int p3), .val (.int p4), .val (.int 1), .val (.int 0), .val (.int 0), .val (.int 1), .unset, .unset, .unset, .unset, .unset, .unset, .unset, .unset, .unset, .unset, .unset, .unset] []))
          exact Jf _ _ _ _ _ hS0 hZ hown (Nat.le_of_eq (congrArg Array.size e0)) C0 (X0.more (by decide) (by decide)) e0 N0 Z0 ((1 : Int32)) ((0 : Int32)) ((0 : Int32)) ((1 : Int32)) pf0 (Or.inr rfl) (Or.inl rfl)
      · refine Gl.st (fun _ kq => XS.ifNo X0.here hx rfl (hb hby at_32) rfl ((if0 _ _).trans (feq (hc140 : ¬ ((p4 &&& (4 : Int32)) = (0 : Int32)))).1) kq) ?_
        show Gl p.tables e below _ (s₁.setTop (mkF m 35 #[.val (.int p0), .val (.int p1), .val (.int p2), .val (.int p3), .val (.int p4), .val (.int 1), .val (.int 0), .unset, .unset, .unset, .unset, .unset, .unset, .unset, .unset, .unset, .unset, .unset, .unset, .unset, .unset] []))
        refine Gl.st (fun _ kq => XS.iconst X0.here hx rfl (hb hby at_35) kq) ?_
        show Gl p.tables e below _ (s₁.setTop (mkF m 36 #[.val (.int p0), .val (.int p1), .val (.int p2), .val (.int p3), .val (.int p4), .val (.int 1), .val (.int 0), .unset, .unset, .unset, .unset, .unset, .unset, .unset, .unset, .unset, .unset, .unset, .unset, .unset, .unset] [(.int 1)]))
        refine Gl.st (fun _ kq => XS.goto X0.here hx rfl (pc0 := 36) (pc' := 40) rfl (hb hby at_36) (by decide) (by decide) kq) ?_
        show Gl p.tables e below _ (s₁.setTop (mkF m 40 #[.val (.int p0), .val (.int p1), .val (.int p2), .val (.int p3), .val (.int p4), .val (.int 1), .val (.int 0), .unset, .unset, .unset, .unset, .unset, .unset, .unset, .unset, .unset, .unset, .unset, .unset, .unset, .unset] [(.int 1)]))
        refine Gl.st (fun _ kq => XS.istore X0.here hx rfl (hb hby at_40) rfl (l' := #[.val (.int p0), .val (.int p1), .val (.int p2), .val (.int p3), .val (.int p4), .val (.int 1), .val (.int 0), .val (.int 1), .unset, .unset, .unset, .unset, .unset, .unset, .unset, .unset, .unset, .unset, .unset, .unset, .unset]) rfl kq) ?_
        show Gl p.tables e below _ (s₁.setTop (mkF m 42 #[.val (.int p0), .val (.int p1), .val (.int p2), .val (.int p3), .val (.int p4), .val (.int 1), .val (.int 0), .val (.int 1), .unset, .unset, .unset, .unset, .unset, .unset, .unset, .unset, .unset, .unset, .unset, .unset, .unset] []))
        refine Gl.st (fun _ kq => XS.iload X0.here hx rfl (hb hby at_42) rfl kq) ?_
        show Gl p.tables e below _ (s₁.setTop (mkF m 44 #[.val (.int p0), .val (.int p1), .val (.int p2), .val (.int p3), .val (.int p4), .val (.int 1), .val (.int 0), .val (.int 1), .unset, .unset, .unset, .unset, .unset, .unset, .unset, .unset, .unset, .unset, .unset, .unset, .unset] [(.int p4)]))
        refine Gl.st (fun _ kq => XS.bipush X0.here hx rfl (hb hby at_44) kq) ?_
        show Gl p.tables e below _ (s₁.setTop (mkF m 46 #[.val (.int p0), .val (.int p1), .val (.int p2), .val (.int p3), .val (.int p4), .val (.int 1), .val (.int 0), .val (.int 1), .unset, .unset, .unset, .unset, .unset, .unset, .unset, .unset, .unset, .unset, .unset, .unset, .unset] [(.int 32), (.int p4)]))
        refine Gl.st (fun _ kq => XS.iand X0.here hx rfl (hb hby at_46) rfl kq) ?_
        show Gl p.tables e below _ (s₁.setTop (mkF m 47 #[.val (.int p0), .val (.int p1), .val (.int p2), .val (.int p3), .val (.int p4), .val (.int 1), .val (.int 0), .val (.int 1), .unset, .unset, .unset, .unset, .unset, .unset, .unset, .unset, .unset, .unset, .unset, .unset, .unset] [(.int (p4 &&& (32 : Int32)))]))
        by_cases hc142 : (p4 &&& (32 : Int32)) = (0 : Int32)
        · refine Gl.st (fun _ kq => XS.ifYes X0.here hx rfl (pc0 := 47) (pc' := 54) rfl (hb hby at_47) rfl ((if0 _ _).trans (teq (hc142 : (p4 &&& (32 : Int32)) = (0 : Int32))).1) (by decide) (by decide) kq) ?_
          show Gl p.tables e below _ (s₁.setTop (mkF m 54 #[.val (.int p0), .val (.int p1), .val (.int p2), .val (.int p3), .val (.int p4), .val (.int 1), .val (.int 0), .val (.int 1), .unset, .unset, .unset, .unset, .unset, .unset, .unset, .unset, .unset, .unset, .unset, .unset, .unset] []))
          refine Gl.st (fun _ kq => XS.iconst X0.here hx rfl (hb hby at_54) kq) ?_
          show Gl p.tables e below _ (s₁.setTop (mkF m 55 #[.val (.int p0), .val (.int p1), .val (.int p2), .val (.int p3), .val (.int p4), .val (.int 1), .val (.int 0), .val (.int 1), .unset, .unset, .unset, .unset, .unset, .unset, .unset, .unset, .unset, .unset, .unset, .unset, .unset] [(.int 0)]))
          refine Gl.st (fun _ kq => XS.istore X0.here hx rfl (hb hby at_55) rfl (l' := #[.val (.int p0), .val (.int p1), .val (.int p2), .val (.int p3), .val (.int p4), .val (.int 1), .val (.int 0), .val (.int 1), .val (.int 0), .unset, .unset, .unset, .unset, .unset, .unset, .unset, .unset, .unset, .unset, .unset, .unset]) rfl kq) ?_
          show Gl p.tables e below _ (s₁.setTop (mkF m 57 #[.val (.int p0), .val (.int p1), .val (.int p2), .val (.int p3), .val (.int p4), .val (.int 1), .val (.int 0), .val (.int 1), .val (.int 0), .unset, .unset, .unset, .unset, .unset, .unset, .unset, .unset, .unset, .unset, .unset, .unset] []))
          exact Jf _ _ _ _ _ hS0 hZ hown (Nat.le_of_eq (congrArg Array.size e0)) C0 (X0.more (by decide) (by decide)) e0 N0 Z0 ((1 : Int32)) ((0 : Int32)) ((1 : Int32)) ((0 : Int32)) pf0 (Or.inr rfl) (Or.inl rfl)
        · refine Gl.st (fun _ kq => XS.ifNo X0.here hx rfl (hb hby at_47) rfl ((if0 _ _).trans (feq (hc142 : ¬ ((p4 &&& (32 : Int32)) = (0 : Int32)))).1) kq) ?_
          show Gl p.tables e below _ (s₁.setTop (mkF m 50 #[.val (.int p0), .val (.int p1), .val (.int p2), .val (.int p3), .val (.int p4), .val (.int 1), .val (.int 0), .val (.int 1), .unset, .unset, .unset, .unset, .unset, .unset, .unset, .unset, .unset, .unset, .unset, .unset, .unset] []))
          refine Gl.st (fun _ kq => XS.iconst X0.here hx rfl (hb hby at_50) kq) ?_
          show Gl p.tables e below _ (s₁.setTop (mkF m 51 #[.val (.int p0), .val (.int p1), .val (.int p2), .val (.int p3), .val (.int p4), .val (.int 1), .val (.int 0), .val (.int 1), .unset, .unset, .unset, .unset, .unset, .unset, .unset, .unset, .unset, .unset, .unset, .unset, .unset] [(.int 1)]))
          refine Gl.st (fun _ kq => XS.goto X0.here hx rfl (pc0 := 51) (pc' := 55) rfl (hb hby at_51) (by decide) (by decide) kq) ?_
          show Gl p.tables e below _ (s₁.setTop (mkF m 55 #[.val (.int p0), .val (.int p1), .val (.int p2), .val (.int p3), .val (.int p4), .val (.int 1), .val (.int 0), .val (.int 1), .unset, .unset, .unset, .unset, .unset, .unset, .unset, .unset, .unset, .unset, .unset, .unset, .unset] [(.int 1)]))
          refine Gl.st (fun _ kq => XS.istore X0.here hx rfl (hb hby at_55) rfl (l' := #[.val (.int p0), .val (.int p1), .val (.int p2), .val (.int p3), .val (.int p4), .val (.int 1), .val (.int 0), .val (.int 1), .val (.int 1), .unset, .unset, .unset, .unset, .unset, .unset, .unset, .unset, .unset, .unset, .unset, .unset]) rfl kq) ?_
          show Gl p.tables e below _ (s₁.setTop (mkF m 57 #[.val (.int p0), .val (.int p1), .val (.int p2), .val (.int p3), .val (.int p4), .val (.int 1), .val (.int 0), .val (.int 1), .val (.int 1), .unset, .unset, .unset, .unset, .unset, .unset, .unset, .unset, .unset, .unset, .unset, .unset] []))
          exact Jf _ _ _ _ _ hS0 hZ hown (Nat.le_of_eq (congrArg Array.size e0)) C0 (X0.more (by decide) (by decide)) e0 N0 Z0 ((1 : Int32)) ((0 : Int32)) ((1 : Int32)) ((1 : Int32)) pf0 (Or.inr rfl) (Or.inl rfl)
    · refine Gl.st (fun _ kq => XS.ifNo X0.here hx rfl (hb hby at_18) rfl ((if0 _ _).trans (feq (hc139 : ¬ ((p4 &&& (2 : Int32)) = (0 : Int32)))).1) kq) ?_
      show Gl p.tables e below _ (s₁.setTop (mkF m 21 #[.val (.int p0), .val (.int p1), .val (.int p2), .val (.int p3), .val (.int p4), .val (.int 1), .unset, .unset, .unset, .unset, .unset, .unset, .unset, .unset, .unset, .unset, .unset, .unset, .unset, .unset, .unset] []))
      refine Gl.st (fun _ kq => XS.iconst X0.here hx rfl (hb hby at_21) kq) ?_
      show Gl p.tables e below _ (s₁.setTop (mkF m 22 #[.val (.int p0), .val (.int p1), .val (.int p2), .val (.int p3), .val (.int p4), .val (.int 1), .unset, .unset, .unset, .unset, .unset, .unset, .unset, .unset, .unset, .unset, .unset, .unset, .unset, .unset, .unset] [(.int 1)]))
      refine Gl.st (fun _ kq => XS.goto X0.here hx rfl (pc0 := 22) (pc' := 26) rfl (hb hby at_22) (by decide) (by decide) kq) ?_
      show Gl p.tables e below _ (s₁.setTop (mkF m 26 #[.val (.int p0), .val (.int p1), .val (.int p2), .val (.int p3), .val (.int p4), .val (.int 1), .unset, .unset, .unset, .unset, .unset, .unset, .unset, .unset, .unset, .unset, .unset, .unset, .unset, .unset, .unset] [(.int 1)]))
      refine Gl.st (fun _ kq => XS.istore X0.here hx rfl (hb hby at_26) rfl (l' := #[.val (.int p0), .val (.int p1), .val (.int p2), .val (.int p3), .val (.int p4), .val (.int 1), .val (.int 1), .unset, .unset, .unset, .unset, .unset, .unset, .unset, .unset, .unset, .unset, .unset, .unset, .unset, .unset]) rfl kq) ?_
      show Gl p.tables e below _ (s₁.setTop (mkF m 28 #[.val (.int p0), .val (.int p1), .val (.int p2), .val (.int p3), .val (.int p4), .val (.int 1), .val (.int 1), .unset, .unset, .unset, .unset, .unset, .unset, .unset, .unset, .unset, .unset, .unset, .unset, .unset, .unset] []))
      refine Gl.st (fun _ kq => XS.iload X0.here hx rfl (hb hby at_28) rfl kq) ?_
      show Gl p.tables e below _ (s₁.setTop (mkF m 30 #[.val (.int p0), .val (.int p1), .val (.int p2), .val (.int p3), .val (.int p4), .val (.int 1), .val (.int 1), .unset, .unset, .unset, .unset, .unset, .unset, .unset, .unset, .unset, .unset, .unset, .unset, .unset, .unset] [(.int p4)]))
      refine Gl.st (fun _ kq => XS.iconst X0.here hx rfl (hb hby at_30) kq) ?_
      show Gl p.tables e below _ (s₁.setTop (mkF m 31 #[.val (.int p0), .val (.int p1), .val (.int p2), .val (.int p3), .val (.int p4), .val (.int 1), .val (.int 1), .unset, .unset, .unset, .unset, .unset, .unset, .unset, .unset, .unset, .unset, .unset, .unset, .unset, .unset] [(.int 4), (.int p4)]))
      refine Gl.st (fun _ kq => XS.iand X0.here hx rfl (hb hby at_31) rfl kq) ?_
      show Gl p.tables e below _ (s₁.setTop (mkF m 32 #[.val (.int p0), .val (.int p1), .val (.int p2), .val (.int p3), .val (.int p4), .val (.int 1), .val (.int 1), .unset, .unset, .unset, .unset, .unset, .unset, .unset, .unset, .unset, .unset, .unset, .unset, .unset, .unset] [(.int (p4 &&& (4 : Int32)))]))
      by_cases hc143 : (p4 &&& (4 : Int32)) = (0 : Int32)
      · refine Gl.st (fun _ kq => XS.ifYes X0.here hx rfl (pc0 := 32) (pc' := 39) rfl (hb hby at_32) rfl ((if0 _ _).trans (teq (hc143 : (p4 &&& (4 : Int32)) = (0 : Int32))).1) (by decide) (by decide) kq) ?_
        show Gl p.tables e below _ (s₁.setTop (mkF m 39 #[.val (.int p0), .val (.int p1), .val (.int p2), .val (.int p3), .val (.int p4), .val (.int 1), .val (.int 1), .unset, .unset, .unset, .unset, .unset, .unset, .unset, .unset, .unset, .unset, .unset, .unset, .unset, .unset] []))
        refine Gl.st (fun _ kq => XS.iconst X0.here hx rfl (hb hby at_39) kq) ?_
        show Gl p.tables e below _ (s₁.setTop (mkF m 40 #[.val (.int p0), .val (.int p1), .val (.int p2), .val (.int p3), .val (.int p4), .val (.int 1), .val (.int 1), .unset, .unset, .unset, .unset, .unset, .unset, .unset, .unset, .unset, .unset, .unset, .unset, .unset, .unset] [(.int 0)]))
        refine Gl.st (fun _ kq => XS.istore X0.here hx rfl (hb hby at_40) rfl (l' := #[.val (.int p0), .val (.int p1), .val (.int p2), .val (.int p3), .val (.int p4), .val (.int 1), .val (.int 1), .val (.int 0), .unset, .unset, .unset, .unset, .unset, .unset, .unset, .unset, .unset, .unset, .unset, .unset, .unset]) rfl kq) ?_
        show Gl p.tables e below _ (s₁.setTop (mkF m 42 #[.val (.int p0), .val (.int p1), .val (.int p2), .val (.int p3), .val (.int p4), .val (.int 1), .val (.int 1), .val (.int 0), .unset, .unset, .unset, .unset, .unset, .unset, .unset, .unset, .unset, .unset, .unset, .unset, .unset] []))
        refine Gl.st (fun _ kq => XS.iload X0.here hx rfl (hb hby at_42) rfl kq) ?_
        show Gl p.tables e below _ (s₁.setTop (mkF m 44 #[.val (.int p0), .val (.int p1), .val (.int p2), .val (.int p3), .val (.int p4), .val (.int 1), .val (.int 1), .val (.int 0), .unset, .unset, .unset, .unset, .unset, .unset, .unset, .unset, .unset, .unset, .unset, .unset, .unset] [(.int p4)]))
        refine Gl.st (fun _ kq => XS.bipush X0.here hx rfl (hb hby at_44) kq) ?_
        show Gl p.tables e below _ (s₁.setTop (mkF m 46 #[.val (.int p0), .val (.int p1), .val (.int p2), .val (.int p3), .val (.int p4), .val (.int 1), .val (.int 1), .val (.int 0), .unset, .unset, .unset, .unset, .unset, .unset, .unset, .unset, .unset, .unset, .unset, .unset, .unset] [(.int 32), (.int p4)]))
        refine Gl.st (fun _ kq => XS.iand X0.here hx rfl (hb hby at_46) rfl kq) ?_
        show Gl p.tables e below _ (s₁.setTop (mkF m 47 #[.val (.int p0), .val (.int p1), .val (.int p2), .val (.int p3), .val (.int p4), .val (.int 1), .val (.int 1), .val (.int 0), .unset, .unset, .unset, .unset, .unset, .unset, .unset, .unset, .unset, .unset, .unset, .unset, .unset] [(.int (p4 &&& (32 : Int32)))]))
        by_cases hc144 : (p4 &&& (32 : Int32)) = (0 : Int32)
        · refine Gl.st (fun _ kq => XS.ifYes X0.here hx rfl (pc0 := 47) (pc' := 54) rfl (hb hby at_47) rfl ((if0 _ _).trans (teq (hc144 : (p4 &&& (32 : Int32)) = (0 : Int32))).1) (by decide) (by decide) kq) ?_
          show Gl p.tables e below _ (s₁.setTop (mkF m 54 #[.val (.int p0), .val (.int p1), .val (.int p2), .val (.int p3), .val (.int p4), .val (.int 1), .val (.int 1), .val (.int 0), .unset, .unset, .unset, .unset, .unset, .unset, .unset, .unset, .unset, .unset, .unset, .unset, .unset] []))
          refine Gl.st (fun _ kq => XS.iconst X0.here hx rfl (hb hby at_54) kq) ?_
          show Gl p.tables e below _ (s₁.setTop (mkF m 55 #[.val (.int p0), .val (.int p1), .val (.int p2), .val (.int p3), .val (.int p4), .val (.int 1), .val (.int 1), .val (.int 0), .unset, .unset, .unset, .unset, .unset, .unset, .unset, .unset, .unset, .unset, .unset, .unset, .unset] [(.int 0)]))
          refine Gl.st (fun _ kq => XS.istore X0.here hx rfl (hb hby at_55) rfl (l' := #[.val (.int p0), .val (.int p1), .val (.int p2), .val (.int p3), .val (.int p4), .val (.int 1), .val (.int 1), .val (.int 0), .val (.int 0), .unset, .unset, .unset, .unset, .unset, .unset, .unset, .unset, .unset, .unset, .unset, .unset]) rfl kq) ?_
          show Gl p.tables e below _ (s₁.setTop (mkF m 57 #[.val (.int p0), .val (.int p1), .val (.int p2), .val (.int p3), .val (.int p4), .val (.int 1), .val (.int 1), .val (.int 0), .val (.int 0), .unset, .unset, .unset, .unset, .unset, .unset, .unset, .unset, .unset, .unset, .unset, .unset] []))
          exact Jf _ _ _ _ _ hS0 hZ hown (Nat.le_of_eq (congrArg Array.size e0)) C0 (X0.more (by decide) (by decide)) e0 N0 Z0 ((1 : Int32)) ((1 : Int32)) ((0 : Int32)) ((0 : Int32)) pf0 (Or.inr rfl) (Or.inr rfl)
        · refine Gl.st (fun _ kq => XS.ifNo X0.here hx rfl (hb hby at_47) rfl ((if0 _ _).trans (feq (hc144 : ¬ ((p4 &&& (32 : Int32)) = (0 : Int32)))).1) kq) ?_
          show Gl p.tables e below _ (s₁.setTop (mkF m 50 #[.val (.int p0), .val (.int p1), .val (.int p2), .val (.int p3), .val (.int p4), .val (.int 1), .val (.int 1), .val (.int 0), .unset, .unset, .unset, .unset, .unset, .unset, .unset, .unset, .unset, .unset, .unset, .unset, .unset] []))
          refine Gl.st (fun _ kq => XS.iconst X0.here hx rfl (hb hby at_50) kq) ?_
          show Gl p.tables e below _ (s₁.setTop (mkF m 51 #[.val (.int p0), .val (.int p1), .val (.int p2), .val (.int p3), .val (.int p4), .val (.int 1), .val (.int 1), .val (.int 0), .unset, .unset, .unset, .unset, .unset, .unset, .unset, .unset, .unset, .unset, .unset, .unset, .unset] [(.int 1)]))
          refine Gl.st (fun _ kq => XS.goto X0.here hx rfl (pc0 := 51) (pc' := 55) rfl (hb hby at_51) (by decide) (by decide) kq) ?_
          show Gl p.tables e below _ (s₁.setTop (mkF m 55 #[.val (.int p0), .val (.int p1), .val (.int p2), .val (.int p3), .val (.int p4), .val (.int 1), .val (.int 1), .val (.int 0), .unset, .unset, .unset, .unset, .unset, .unset, .unset, .unset, .unset, .unset, .unset, .unset, .unset] [(.int 1)]))
          refine Gl.st (fun _ kq => XS.istore X0.here hx rfl (hb hby at_55) rfl (l' := #[.val (.int p0), .val (.int p1), .val (.int p2), .val (.int p3), .val (.int p4), .val (.int 1), .val (.int 1), .val (.int 0), .val (.int 1), .unset, .unset, .unset, .unset, .unset, .unset, .unset, .unset, .unset, .unset, .unset, .unset]) rfl kq) ?_
          show Gl p.tables e below _ (s₁.setTop (mkF m 57 #[.val (.int p0), .val (.int p1), .val (.int p2), .val (.int p3), .val (.int p4), .val (.int 1), .val (.int 1), .val (.int 0), .val (.int 1), .unset, .unset, .unset, .unset, .unset, .unset, .unset, .unset, .unset, .unset, .unset, .unset] []))
          exact Jf _ _ _ _ _ hS0 hZ hown (Nat.le_of_eq (congrArg Array.size e0)) C0 (X0.more (by decide) (by decide)) e0 N0 Z0 ((1 : Int32)) ((1 : Int32)) ((0 : Int32)) ((1 : Int32)) pf0 (Or.inr rfl) (Or.inr rfl)
      · refine Gl.st (fun _ kq => XS.ifNo X0.here hx rfl (hb hby at_32) rfl ((if0 _ _).trans (feq (hc143 : ¬ ((p4 &&& (4 : Int32)) = (0 : Int32)))).1) kq) ?_
        show Gl p.tables e below _ (s₁.setTop (mkF m 35 #[.val (.int p0), .val (.int p1), .val (.int p2), .val (.int p3), .val (.int p4), .val (.int 1), .val (.int 1), .unset, .unset, .unset, .unset, .unset, .unset, .unset, .unset, .unset, .unset, .unset, .unset, .unset, .unset] []))
        refine Gl.st (fun _ kq => XS.iconst X0.here hx rfl (hb hby at_35) kq) ?_
        show Gl p.tables e below _ (s₁.setTop (mkF m 36 #[.val (.int p0), .val (.int p1), .val (.int p2), .val (.int p3), .val (.int p4), .val (.int 1), .val (.int 1), .unset, .unset, .unset, .unset, .unset, .unset, .unset, .unset, .unset, .unset, .unset, .unset, .unset, .unset] [(.int 1)]))
        refine Gl.st (fun _ kq => XS.goto X0.here hx rfl (pc0 := 36) (pc' := 40) rfl (hb hby at_36) (by decide) (by decide) kq) ?_
        show Gl p.tables e below _ (s₁.setTop (mkF m 40 #[.val (.int p0), .val (.int p1), .val (.int p2), .val (.int p3), .val (.int p4), .val (.int 1), .val (.int 1), .unset, .unset, .unset, .unset, .unset, .unset, .unset, .unset, .unset, .unset, .unset, .unset, .unset, .unset] [(.int 1)]))
        refine Gl.st (fun _ kq => XS.istore X0.here hx rfl (hb hby at_40) rfl (l' := #[.val (.int p0), .val (.int p1), .val (.int p2), .val (.int p3), .val (.int p4), .val (.int 1), .val (.int 1), .val (.int 1), .unset, .unset, .unset, .unset, .unset, .unset, .unset, .unset, .unset, .unset, .unset, .unset, .unset]) rfl kq) ?_
        show Gl p.tables e below _ (s₁.setTop (mkF m 42 #[.val (.int p0), .val (.int p1), .val (.int p2), .val (.int p3), .val (.int p4), .val (.int 1), .val (.int 1), .val (.int 1), .unset, .unset, .unset, .unset, .unset, .unset, .unset, .unset, .unset, .unset, .unset, .unset, .unset] []))
        refine Gl.st (fun _ kq => XS.iload X0.here hx rfl (hb hby at_42) rfl kq) ?_
        show Gl p.tables e below _ (s₁.setTop (mkF m 44 #[.val (.int p0), .val (.int p1), .val (.int p2), .val (.int p3), .val (.int p4), .val (.int 1), .val (.int 1), .val (.int 1), .unset, .unset, .unset, .unset, .unset, .unset, .unset, .unset, .unset, .unset, .unset, .unset, .unset] [(.int p4)]))
        refine Gl.st (fun _ kq => XS.bipush X0.here hx rfl (hb hby at_44) kq) ?_
        show Gl p.tables e below _ (s₁.setTop (mkF m 46 #[.val (.int p0), .val (.int p1), .val (.int p2), .val (.int p3), .val (.int p4), .val (.int 1), .val (.int 1), .val (.int 1), .unset, .unset, .unset, .unset, .unset, .unset, .unset, .unset, .unset, .unset, .unset, .unset, .unset] [(.int 32), (.int p4)]))
        refine Gl.st (fun _ kq => XS.iand X0.here hx rfl (hb hby at_46) rfl kq) ?_
        show Gl p.tables e below _ (s₁.setTop (mkF m 47 #[.val (.int p0), .val (.int p1), .val (.int p2), .val (.int p3), .val (.int p4), .val (.int 1), .val (.int 1), .val (.int 1), .unset, .unset, .unset, .unset, .unset, .unset, .unset, .unset, .unset, .unset, .unset, .unset, .unset] [(.int (p4 &&& (32 : Int32)))]))
        by_cases hc145 : (p4 &&& (32 : Int32)) = (0 : Int32)
        · refine Gl.st (fun _ kq => XS.ifYes X0.here hx rfl (pc0 := 47) (pc' := 54) rfl (hb hby at_47) rfl ((if0 _ _).trans (teq (hc145 : (p4 &&& (32 : Int32)) = (0 : Int32))).1) (by decide) (by decide) kq) ?_
          show Gl p.tables e below _ (s₁.setTop (mkF m 54 #[.val (.int p0), .val (.int p1), .val (.int p2), .val (.int p3), .val (.int p4), .val (.int 1), .val (.int 1), .val (.int 1), .unset, .unset, .unset, .unset, .unset, .unset, .unset, .unset, .unset, .unset, .unset, .unset, .unset] []))
          refine Gl.st (fun _ kq => XS.iconst X0.here hx rfl (hb hby at_54) kq) ?_
          show Gl p.tables e below _ (s₁.setTop (mkF m 55 #[.val (.int p0), .val (.int p1), .val (.int p2), .val (.int p3), .val (.int p4), .val (.int 1), .val (.int 1), .val (.int 1), .unset, .unset, .unset, .unset, .unset, .unset, .unset, .unset, .unset, .unset, .unset, .unset, .unset] [(.int 0)]))
          refine Gl.st (fun _ kq => XS.istore X0.here hx rfl (hb hby at_55) rfl (l' := #[.val (.int p0), .val (.int p1), .val (.int p2), .val (.int p3), .val (.int p4), .val (.int 1), .val (.int 1), .val (.int 1), .val (.int 0), .unset, .unset, .unset, .unset, .unset, .unset, .unset, .unset, .unset, .unset, .unset, .unset]) rfl kq) ?_
          show Gl p.tables e below _ (s₁.setTop (mkF m 57 #[.val (.int p0), .val (.int p1), .val (.int p2), .val (.int p3), .val (.int p4), .val (.int 1), .val (.int 1), .val (.int 1), .val (.int 0), .unset, .unset, .unset, .unset, .unset, .unset, .unset, .unset, .unset, .unset, .unset, .unset] []))
          exact Jf _ _ _ _ _ hS0 hZ hown (Nat.le_of_eq (congrArg Array.size e0)) C0 (X0.more (by decide) (by decide)) e0 N0 Z0 ((1 : Int32)) ((1 : Int32)) ((1 : Int32)) ((0 : Int32)) pf0 (Or.inr rfl) (Or.inr rfl)
        · refine Gl.st (fun _ kq => XS.ifNo X0.here hx rfl (hb hby at_47) rfl ((if0 _ _).trans (feq (hc145 : ¬ ((p4 &&& (32 : Int32)) = (0 : Int32)))).1) kq) ?_
          show Gl p.tables e below _ (s₁.setTop (mkF m 50 #[.val (.int p0), .val (.int p1), .val (.int p2), .val (.int p3), .val (.int p4), .val (.int 1), .val (.int 1), .val (.int 1), .unset, .unset, .unset, .unset, .unset, .unset, .unset, .unset, .unset, .unset, .unset, .unset, .unset] []))
          refine Gl.st (fun _ kq => XS.iconst X0.here hx rfl (hb hby at_50) kq) ?_
          show Gl p.tables e below _ (s₁.setTop (mkF m 51 #[.val (.int p0), .val (.int p1), .val (.int p2), .val (.int p3), .val (.int p4), .val (.int 1), .val (.int 1), .val (.int 1), .unset, .unset, .unset, .unset, .unset, .unset, .unset, .unset, .unset, .unset, .unset, .unset, .unset] [(.int 1)]))
          refine Gl.st (fun _ kq => XS.goto X0.here hx rfl (pc0 := 51) (pc' := 55) rfl (hb hby at_51) (by decide) (by decide) kq) ?_
          show Gl p.tables e below _ (s₁.setTop (mkF m 55 #[.val (.int p0), .val (.int p1), .val (.int p2), .val (.int p3), .val (.int p4), .val (.int 1), .val (.int 1), .val (.int 1), .unset, .unset, .unset, .unset, .unset, .unset, .unset, .unset, .unset, .unset, .unset, .unset, .unset] [(.int 1)]))
          refine Gl.st (fun _ kq => XS.istore X0.here hx rfl (hb hby at_55) rfl (l' := #[.val (.int p0), .val (.int p1), .val (.int p2), .val (.int p3), .val (.int p4), .val (.int 1), .val (.int 1), .val (.int 1), .val (.int 1), .unset, .unset, .unset, .unset, .unset, .unset, .unset, .unset, .unset, .unset, .unset, .unset]) rfl kq) ?_
          show Gl p.tables e below _ (s₁.setTop (mkF m 57 #[.val (.int p0), .val (.int p1), .val (.int p2), .val (.int p3), .val (.int p4), .val (.int 1), .val (.int 1), .val (.int 1), .val (.int 1), .unset, .unset, .unset, .unset, .unset, .unset, .unset, .unset, .unset, .unset, .unset, .unset] []))
          exact Jf _ _ _ _ _ hS0 hZ hown (Nat.le_of_eq (congrArg Array.size e0)) C0 (X0.more (by decide) (by decide)) e0 N0 Z0 ((1 : Int32)) ((1 : Int32)) ((1 : Int32)) ((1 : Int32)) pf0 (Or.inr rfl) (Or.inr rfl)
set_option maxRecDepth 65536 in
set_option maxHeartbeats 40000000 in
theorem comes_1 {Post : Tables → Env → Array Value → State → Outcome → State → Prop} (hpost : ∀ tb e args s v u, (limb_1_1.after args s (.returned v) u = true ∧ limb_1_2.after args s (.returned v) u = true ∧ True) → Jvm.ReturnedEndW s (.returned v) u (Jvm.fieldLocs frame_1_writes args s ++ Jvm.arrayLocs frame_1_arrays args s ++ Jvm.staticLocs frame_1_statics s) 32 2176 → Post tb e args s (.returned v) u) :
    ArmFor flags0 classFile x code maxLocals ret World_1 tables_1 room_1 Calls_1 rest_1 Pre_1 Post := by
  intro l hfl _ _ p e ha hc hk s m args below hf hA hF happ hP
  obtain ⟨hcalls, hrest, hpre⟩ := hP
  obtain ⟨-, -, -, hnamed, -, -, -, hat⟩ := (Spec.applies_iff hf).mp happ
  obtain ⟨hg, hn⟩ := and_e (Cond.before_iff.mp (show (Jvm.Cond.and given_1 narrow_1).before args s = true from hpre))
  obtain ⟨hcnt, g0⟩ := and_e hg
  obtain ⟨u0, g1⟩ := and_e g0
  obtain ⟨u1, g2⟩ := and_e g1
  obtain ⟨u2, g3⟩ := and_e g2
  obtain ⟨u3, g4⟩ := and_e g3
  have u4 := g4
  obtain ⟨w0, w1, w2, w3, w4, rfl⟩ : ∃ w0 w1 w2 w3 w4 : Value, args = #[w0, w1, w2, w3, w4] := by
    have hs : args.size = 5 := by simpa [Cond.value, given_1] using hcnt
    obtain ⟨L⟩ := args
    match L, hs with
    | [w0, w1, w2, w3, w4], _ => exact ⟨w0, w1, w2, w3, w4, rfl⟩
  have hw := fun d (hd : d ∈ tables_1) => atoms_spec (ws := Jvm.Cond.code x code maxLocals ret :: tables_1) hat d (List.mem_cons_of_mem _ hd)
  have hfit : Fit s := fun {y c} hc i hi => by
    obtain ⟨ha, rfl⟩ := Array.getElem?_eq_some_iff.mp hc
    have q := List.all_eq_true.mp ((Array.all_eq_true_iff_forall_mem.mp hF) _ (Array.getElem_mem ha)) i (List.mem_range.mpr hi)
    simpa [Array.getElem?_eq_getElem hi] using q
  obtain ⟨hsets, hown0⟩ := atoms_of _ (rest_1_c_eq ▸ (show rest_1_c.before _ s = true from hrest))
  have hr0 := Cond.before_iff.mp hown0
  obtain ⟨i0, ei0⟩ := is_v u0
  obtain rfl : w0 = (.int i0) := Option.some.inj ei0
  obtain ⟨i1, ei1⟩ := is_v u1
  obtain rfl : w1 = (.int i1) := Option.some.inj ei1
  obtain ⟨i2, ei2⟩ := is_v u2
  obtain rfl : w2 = (.int i2) := Option.some.inj ei2
  obtain ⟨i3, ei3⟩ := is_v u3
  obtain rfl : w3 = (.int i3) := Option.some.inj ei3
  obtain ⟨i4, ei4⟩ := is_v u4
  obtain rfl : w4 = (.int i4) := Option.some.inj ei4
  obtain ⟨iG, eG⟩ := is_v (Cond.before_iff.mp (hsets _ (List.mem_of_getElem? (i := 1) rfl)))
  have SG : Sta s s.heap "java/lang/String" "COMPACT_STRINGS" "Z" (.int iG) := Sta.start eG (Or.inl (hsets _ (List.mem_of_getElem? (i := 0) rfl)))
  have cG : ¬ (iG = (0 : Int32)) := gotF (Cond.eq_ints eG (Term.int_eval (0))) (not_v (Cond.before_iff.mp (hsets _ (List.mem_of_getElem? (i := 2) rfl))))
  have hCH : CHv s consts_1 s.vm s.heap := CHv.start (elW hw) (fun p hp => hcalls.1 p hp) (hsets _ (List.mem_of_getElem? (i := 2) rfl)) (tw hw 20 rfl) (tw hw 6 rfl)
  obtain ⟨n, o, h1, h2, h3, _, L, rfl, ⟨rfl, N⟩, -, hq⟩ := rm_law l s _ hw tables_1 i0 i1 i2 i3 i4 iG s.heap s.heap.size (Nat.le_refl _) (Old.start s) SG cG p e ha hc hk s m _ below hf ((Spec.applies_iff_loose hf).mp happ).1 ⟨rfl, State.Warmed39.refl s, rfl, hCH⟩ trivial
  refine ⟨n, _, h1, h2, h3, hpost _ _ _ _ _ _ ⟨Cond.after_iff.mpr rfl, Cond.after_iff.mpr (eq_i res_at (Term.int_eval (1)) rfl), trivial⟩ ⟨hq.1, hq.2.1, hq.2.2.1, (hq.2.2.2.sift fun y hy => Or.inr (N y hy)).mono (by decide) (by decide)⟩⟩
theorem main_1_1 : Claimed_1_1 := comes_1 fun _ _ _ _ _ _ h hF => ⟨h.1, hF⟩
theorem main_1_2 : Claimed_1_2 := comes_1 fun _ _ _ _ _ _ h hF => ⟨h.2.1, hF⟩
end Jvm.Pilot.@@N@@
namespace Jvm.Pilot.@@N@@
open Jvm Jvm.ClassFile Sem Op Lib Jvm.Free Jvm.Stand Jvm.Pilot.@@N@@.Jvm.D
/-! MADE BY PROGRAM (witnessworld.py) out of the Statement's table words and the real class files: 21 classes; the members and pool entries that the words name. The judged class is class 1, her method 2. -/
namespace start1
open Jvm.ClassFile
def u (s : String) : CpInfo := .utf8 (stringToUtf16 s)
/-- a pool by its gaps: so many unusable entries, then the entry; so many at the end -/
def gap : Nat → List CpInfo → List CpInfo
  | 0, r => r
  | n + 1, r => .unusable :: gap n r
def poolList (es : List (Nat × CpInfo)) (last : Nat) : List CpInfo := es.foldr (fun e r => gap e.1 (e.2 :: r)) (gap last [])
def pool (es : List (Nat × CpInfo)) (last : Nat) : Array CpInfo := ⟨poolList es last⟩
def fileOf (pool : Array CpInfo) (this : Nat) (attrs : Array Attribute := #[]) (ms : Array MethodInfo := #[]) (fl : Nat := 33) (sup : Nat := 0) (ifs : Array Nat := #[]) (fds : Array FieldInfo := #[]) : ClassFile where
  minorVersion := 0
  majorVersion := 65
  constantPool := pool
  accessFlags := fl
  thisClass := this
  superClass := sup
  interfaces := ifs
  fields := fds
  methods := ms
  attributes := attrs
def plain (name : String) (sup : Option ClassId) : Class where
  name := name
  kind := .ordinary
  loader := none
  accessFlags := 33
  super := sup
  interfaces := #[]
  cf := none
  fields := #[]
  methods := #[]
  instanceTypes := #[]
  staticTypes := #[]
  resolved := #[]
  callSites := []
  init := .initialized
  statics := none
  mirror := none

def pool0 : Array CpInfo := pool [(5, u "<init>"), (0, u "()V"), (1, .class_ 10), (1, u "java/lang/Object")] 113

def k0c0 : Code := { maxStack := 0, maxLocals := 1, code := object_method_1_code, exceptionTable := #[], attributes := #[] }
def k0m0 : Method := { name := "<init>", desc := "()V", sig := { parameters := [], returnType := none }, accessFlags := 1, code := some k0c0 }
/-- java/lang/Object -/
def k0 : Class := { plain "java/lang/Object" none with
  accessFlags := 33
  interfaces := #[]
  cf := some (fileOf pool0 8 #[] #[{ accessFlags := 1, nameIndex := 5, descriptorIndex := 6, attributes := #[] }] 33 0 #[] #[])
  fields := #[]
  methods := #[k0m0]
  instanceTypes := #[]
  staticTypes := #[]
  resolved := Array.replicate 124 none
  statics := none }

def pool1 : Array CpInfo := pool [(2, .class_ 4), (1, u "java/lang/Object"), (0, u "<init>"), (0, u "()V"), (0, .class_ 8), (0, u "java/lang/String"), (0, .methodref 7 10), (0, .nameAndType 5 11), (0, u "([C)V"), (0, .integer 2147483647), (0, .integer 65280), (0, .methodref 15 16), (0, .class_ 17), (0, .nameAndType 18 19), (0, u "com/example/rooted_tableau/rootedtableau/model/RoleEqualsPinLaw"), (0, u "mk"), (0, u "(II)Ljava/lang/String;"), (0, .class_ 21), (0, u "com/example/rooted_tableau/rootedtableau/model/Role"), (0, .methodref 20 23), (0, .nameAndType 5 24), (0, u "(Ljava/lang/String;)V"), (0, .methodref 20 26), (0, .nameAndType 27 28), (0, u "inverse"), (0, u "()Lcom/example/rooted_tableau/rootedtableau/model/Role;"), (0, .methodref 20 30), (0, .nameAndType 31 32), (0, u "equals"), (0, u "(Ljava/lang/Object;)Z"), (3, u "law"), (0, u "(IIIII)Z")] 2

def k1m0 : Method := { name := "<init>", desc := "()V", sig := { parameters := [], returnType := none }, accessFlags := 1, code := none }
def k1c1 : Code := { maxStack := 3, maxLocals := 5, code := method_2_code, exceptionTable := #[], attributes := #[] }
def k1m1 : Method := { name := "mk", desc := "(II)Ljava/lang/String;", sig := { parameters := [.int, .int], returnType := some (.object "java/lang/String") }, accessFlags := 10, code := some k1c1 }
def k1c2 : Code := { maxStack := 3, maxLocals := 21, code := code, exceptionTable := #[], attributes := #[] }
def k1m2 : Method := { name := "law", desc := "(IIIII)Z", sig := { parameters := [.int, .int, .int, .int, .int], returnType := some .boolean }, accessFlags := 9, code := some k1c2 }
/-- com/example/rooted_tableau/rootedtableau/model/RoleEqualsPinLaw -/
def k1 : Class := { plain "com/example/rooted_tableau/rootedtableau/model/RoleEqualsPinLaw" (some 0) with
  accessFlags := 49
  interfaces := #[]
  cf := some (fileOf pool1 15 #[] #[{ accessFlags := 1, nameIndex := 5, descriptorIndex := 6, attributes := #[] }, { accessFlags := 10, nameIndex := 18, descriptorIndex := 19, attributes := #[] }, { accessFlags := 9, nameIndex := 36, descriptorIndex := 37, attributes := #[] }] 49 2 #[] #[])
  fields := #[]
  methods := #[k1m0, k1m1, k1m2]
  instanceTypes := #[]
  staticTypes := #[]
  resolved := Array.replicate 40 none
  statics := none }

def pool2 : Array CpInfo := pool [(1, .class_ 2), (0, u "java/io/Serializable"), (0, .class_ 4), (0, u "java/lang/Object")] 2

/-- java/io/Serializable -/
def k2 : Class := { plain "java/io/Serializable" (some 0) with
  accessFlags := 1537
  interfaces := #[]
  cf := some (fileOf pool2 1 #[] #[] 1537 3 #[] #[])
  fields := #[]
  methods := #[]
  instanceTypes := #[]
  staticTypes := #[]
  resolved := Array.replicate 7 none
  statics := none }

def pool3 : Array CpInfo := pool [(1, .class_ 2), (0, u "java/lang/Comparable"), (0, .class_ 4), (0, u "java/lang/Object")] 7

/-- java/lang/Comparable -/
def k3 : Class := { plain "java/lang/Comparable" (some 0) with
  accessFlags := 1537
  interfaces := #[]
  cf := some (fileOf pool3 1 #[] #[] 1537 3 #[] #[])
  fields := #[]
  methods := #[]
  instanceTypes := #[]
  staticTypes := #[]
  resolved := Array.replicate 12 none
  statics := none }

def pool4 : Array CpInfo := pool [(2, .class_ 4), (1, u "java/lang/CharSequence"), (42, .class_ 48), (0, u "java/lang/CharSequence$1CodePointIterator"), (10, .class_ 60), (0, u "java/lang/CharSequence$1CharIterator"), (5, .class_ 67), (0, u "java/lang/Object")] 63

/-- java/lang/CharSequence -/
def k4 : Class := { plain "java/lang/CharSequence" (some 0) with
  accessFlags := 1537
  interfaces := #[]
  cf := some (fileOf pool4 2 #[.nestMembers #[47, 59]] #[] 1537 66 #[] #[])
  fields := #[]
  methods := #[]
  instanceTypes := #[]
  staticTypes := #[]
  resolved := Array.replicate 131 none
  statics := none }

def pool5 : Array CpInfo := pool [(1, .class_ 2), (0, u "java/lang/constant/Constable"), (0, .class_ 4), (0, u "java/lang/Object")] 6

/-- java/lang/constant/Constable -/
def k5 : Class := { plain "java/lang/constant/Constable" (some 0) with
  accessFlags := 1537
  interfaces := #[]
  cf := some (fileOf pool5 1 #[] #[] 1537 3 #[] #[])
  fields := #[]
  methods := #[]
  instanceTypes := #[]
  staticTypes := #[]
  resolved := Array.replicate 11 none
  statics := none }

def pool6 : Array CpInfo := pool [(1, .class_ 2), (0, u "java/lang/constant/ConstantDesc"), (0, .class_ 4), (0, u "java/lang/Object")] 32

/-- java/lang/constant/ConstantDesc -/
def k6 : Class := { plain "java/lang/constant/ConstantDesc" (some 0) with
  accessFlags := 1537
  interfaces := #[]
  cf := some (fileOf pool6 1 #[] #[] 1537 3 #[] #[])
  fields := #[]
  methods := #[]
  instanceTypes := #[]
  staticTypes := #[]
  resolved := Array.replicate 37 none
  statics := none }

def pool7 : Array CpInfo := pool [(1, .methodref 2 3), (0, .class_ 4), (0, .nameAndType 5 6), (0, u "java/lang/Object"), (0, u "<init>"), (0, u "()V"), (0, .string 8), (0, u ""), (0, .fieldref 10 11), (0, .class_ 12), (0, .nameAndType 13 14), (0, u "java/lang/String"), (0, u "value"), (0, u "[B"), (0, .fieldref 10 16), (0, .nameAndType 17 18), (0, u "coder"), (0, u "B"), (2, u "hash"), (0, u "I"), (2, u "hashIsZero"), (0, u "Z"), (0, .methodref 10 28), (0, .nameAndType 5 29), (0, u "([CIILjava/lang/Void;)V"), (8, .fieldref 10 39), (0, .nameAndType 40 26), (0, u "COMPACT_STRINGS"), (1, .class_ 44), (1, u "java/lang/StringUTF16"), (0, u "compress"), (1, .methodref 42 48), (0, .nameAndType 49 50), (0, u "coderFromArrayLen"), (0, u "([BI)B"), (56, .class_ 109), (1, u "java/lang/StringLatin1"), (67, .methodref 42 178), (0, .nameAndType 45 179), (0, u "([CII)[B"), (361, .methodref 107 542), (0, .nameAndType 543 544), (0, u "equals"), (0, u "([B[B)Z"), (28, u "(Ljava/lang/Object;)Z"), (1, .class_ 576), (0, u "java/lang/CharSequence"), (22, u "CASE_INSENSITIVE_ORDER"), (0, u "Ljava/util/Comparator;"), (409, u "([C)V"), (90, u "serialPersistentFields"), (0, u "[Ljava/io/ObjectStreamField;"), (0, .class_ 1104), (0, u "java/lang/String$CaseInsensitiveComparator"), (1, .class_ 1107), (0, u "java/io/Serializable"), (0, .class_ 1109), (0, u "java/lang/Comparable"), (0, .class_ 1111), (0, u "java/lang/constant/Constable"), (0, .class_ 1113), (0, u "java/lang/constant/ConstantDesc"), (2, u "serialVersionUID"), (0, u "J"), (3, u "REPL"), (0, u "C"), (2, u "LATIN1"), (1, u "UTF16")] 323

def k7m0 : Method := { name := "<init>", desc := "()V", sig := { parameters := [], returnType := none }, accessFlags := 1, code := none }
def k7c1 : Code := { maxStack := 5, maxLocals := 2, code := jdk_42_method_3_code, exceptionTable := #[], attributes := #[] }
def k7m1 : Method := { name := "<init>", desc := "([C)V", sig := { parameters := [(.array .char)], returnType := none }, accessFlags := 1, code := some k7c1 }
def k7c2 : Code := { maxStack := 2, maxLocals := 3, code := jdk_42_method_66_code, exceptionTable := #[], attributes := #[] }
def k7m2 : Method := { name := "equals", desc := "(Ljava/lang/Object;)Z", sig := { parameters := [(.object "java/lang/Object")], returnType := some .boolean }, accessFlags := 1, code := some k7c2 }
def k7c3 : Code := { maxStack := 4, maxLocals := 6, code := jdk_42_method_149_code, exceptionTable := #[], attributes := #[] }
def k7m3 : Method := { name := "<init>", desc := "([CIILjava/lang/Void;)V", sig := { parameters := [(.array .char), .int, .int, (.object "java/lang/Void")], returnType := none }, accessFlags := 2, code := some k7c3 }
/-- java/lang/String -/
def k7 : Class := { plain "java/lang/String" (some 0) with
  accessFlags := 49
  interfaces := #[2, 3, 4, 5, 6]
  cf := some (fileOf pool7 10 #[.nestMembers #[1103]] #[{ accessFlags := 1, nameIndex := 5, descriptorIndex := 6, attributes := #[] }, { accessFlags := 1, nameIndex := 5, descriptorIndex := 1010, attributes := #[] }, { accessFlags := 1, nameIndex := 543, descriptorIndex := 573, attributes := #[] }, { accessFlags := 2, nameIndex := 5, descriptorIndex := 29, attributes := #[] }] 49 2 #[1106, 1108, 575, 1110, 1112] #[{ accessFlags := 18, nameIndex := 13, descriptorIndex := 14, attributes := #[] }, { accessFlags := 18, nameIndex := 17, descriptorIndex := 18, attributes := #[] }, { accessFlags := 2, nameIndex := 21, descriptorIndex := 22, attributes := #[] }, { accessFlags := 2, nameIndex := 25, descriptorIndex := 26, attributes := #[] }, { accessFlags := 26, nameIndex := 1116, descriptorIndex := 1117, attributes := #[] }, { accessFlags := 24, nameIndex := 40, descriptorIndex := 26, attributes := #[] }, { accessFlags := 26, nameIndex := 1101, descriptorIndex := 1102, attributes := #[] }, { accessFlags := 26, nameIndex := 1121, descriptorIndex := 1122, attributes := #[] }, { accessFlags := 25, nameIndex := 599, descriptorIndex := 600, attributes := #[] }, { accessFlags := 24, nameIndex := 1125, descriptorIndex := 18, attributes := #[] }, { accessFlags := 24, nameIndex := 1127, descriptorIndex := 18, attributes := #[] }])
  fields := #[{ name := "value", type := (.array .byte), accessFlags := 18, slot := 0, constantValue := 0 }, { name := "coder", type := .byte, accessFlags := 18, slot := 1, constantValue := 0 }, { name := "hash", type := .int, accessFlags := 2, slot := 2, constantValue := 0 }, { name := "hashIsZero", type := .boolean, accessFlags := 2, slot := 3, constantValue := 0 }, { name := "serialVersionUID", type := .long, accessFlags := 26, slot := 0, constantValue := 0 }, { name := "COMPACT_STRINGS", type := .boolean, accessFlags := 24, slot := 1, constantValue := 0 }, { name := "serialPersistentFields", type := (.array (.object "java/io/ObjectStreamField")), accessFlags := 26, slot := 2, constantValue := 0 }, { name := "REPL", type := .char, accessFlags := 26, slot := 3, constantValue := 0 }, { name := "CASE_INSENSITIVE_ORDER", type := (.object "java/util/Comparator"), accessFlags := 25, slot := 4, constantValue := 0 }, { name := "LATIN1", type := .byte, accessFlags := 24, slot := 5, constantValue := 0 }, { name := "UTF16", type := .byte, accessFlags := 24, slot := 6, constantValue := 0 }]
  methods := #[k7m0, k7m1, k7m2, k7m3]
  instanceTypes := #[(.array .byte), .byte, .int, .boolean]
  staticTypes := #[.long, .boolean, (.array (.object "java/io/ObjectStreamField")), .char, (.object "java/util/Comparator"), .byte, .byte]
  resolved := Array.replicate 1451 none
  statics := some 0 }

def pool8 : Array CpInfo := pool [(6, .class_ 8), (1, u "java/lang/Object"), (0, u "<init>"), (0, u "()V"), (1, .class_ 14), (1, u "java/lang/StringUTF16"), (31, u "$assertionsDisabled"), (0, u "Z"), (13, u "HI_BYTE_SHIFT"), (0, u "I"), (2, u "LO_BYTE_SHIFT"), (49, .methodref 12 116), (0, .nameAndType 117 118), (0, u "compress"), (0, u "([CI[BII)I"), (3, u "([CII)[B"), (138, u "coderFromArrayLen"), (0, u "([BI)B"), (106, .class_ 371), (1, u "java/lang/StringUTF16$LinesSpliterator"), (58, u "MAX_LENGTH"), (196, .class_ 628), (0, u "java/lang/StringUTF16$CodePointsSpliterator"), (0, .class_ 630), (0, u "java/lang/StringUTF16$CharsSpliterator")] 4

def k8m0 : Method := { name := "<init>", desc := "()V", sig := { parameters := [], returnType := none }, accessFlags := 0, code := none }
def k8c1 : Code := { maxStack := 2, maxLocals := 2, code := jdk_52_method_15_code, exceptionTable := #[], attributes := #[] }
def k8m1 : Method := { name := "coderFromArrayLen", desc := "([BI)B", sig := { parameters := [(.array .byte), .int], returnType := some .byte }, accessFlags := 8, code := some k8c1 }
def k8c2 : Code := { maxStack := 5, maxLocals := 6, code := jdk_52_method_16_code, exceptionTable := #[], attributes := #[] }
def k8m2 : Method := { name := "compress", desc := "([CII)[B", sig := { parameters := [(.array .char), .int, .int], returnType := some (.array .byte) }, accessFlags := 9, code := some k8c2 }
def k8c3 : Code := { maxStack := 3, maxLocals := 7, code := jdk_52_method_21_code, exceptionTable := #[], attributes := #[] }
def k8m3 : Method := { name := "compress", desc := "([CI[BII)I", sig := { parameters := [(.array .char), .int, (.array .byte), .int, .int], returnType := some .int }, accessFlags := 9, code := some k8c3 }
/-- java/lang/StringUTF16 -/
def k8 : Class := { plain "java/lang/StringUTF16" (some 0) with
  accessFlags := 48
  interfaces := #[]
  cf := some (fileOf pool8 12 #[.nestMembers #[627, 629, 369]] #[{ accessFlags := 0, nameIndex := 9, descriptorIndex := 10, attributes := #[] }, { accessFlags := 8, nameIndex := 261, descriptorIndex := 262, attributes := #[] }, { accessFlags := 9, nameIndex := 117, descriptorIndex := 122, attributes := #[] }, { accessFlags := 9, nameIndex := 117, descriptorIndex := 118, attributes := #[] }] 48 6 #[] #[{ accessFlags := 26, nameIndex := 61, descriptorIndex := 62, attributes := #[] }, { accessFlags := 26, nameIndex := 65, descriptorIndex := 62, attributes := #[] }, { accessFlags := 24, nameIndex := 430, descriptorIndex := 62, attributes := #[] }, { accessFlags := 4120, nameIndex := 46, descriptorIndex := 47, attributes := #[] }])
  fields := #[{ name := "HI_BYTE_SHIFT", type := .int, accessFlags := 26, slot := 0, constantValue := 0 }, { name := "LO_BYTE_SHIFT", type := .int, accessFlags := 26, slot := 1, constantValue := 0 }, { name := "MAX_LENGTH", type := .int, accessFlags := 24, slot := 2, constantValue := 0 }, { name := "$assertionsDisabled", type := .boolean, accessFlags := 4120, slot := 3, constantValue := 0 }]
  methods := #[k8m0, k8m1, k8m2, k8m3]
  instanceTypes := #[]
  staticTypes := #[.int, .int, .int, .boolean]
  resolved := Array.replicate 635 none
  statics := none }

def pool9 : Array CpInfo := pool [(1, .methodref 2 3), (0, .class_ 4), (0, .nameAndType 5 6), (0, u "com/example/rooted_tableau/rootedtableau/model/Role"), (0, u "<init>"), (0, u "(Ljava/lang/String;Z)V"), (0, .methodref 8 9), (0, .class_ 10), (0, .nameAndType 5 11), (0, u "java/lang/Object"), (0, u "()V"), (0, .string 13), (0, u "iri"), (0, .methodref 15 16), (0, .class_ 17), (0, .nameAndType 18 19), (0, u "java/util/Objects"), (0, u "requireNonNull"), (0, u "(Ljava/lang/Object;Ljava/lang/String;)Ljava/lang/Object;"), (0, .class_ 21), (0, u "java/lang/String"), (0, .fieldref 2 23), (0, .nameAndType 13 24), (0, u "Ljava/lang/String;"), (0, .fieldref 2 26), (0, .nameAndType 27 28), (0, u "inverse"), (0, u "Z"), (2, u "()Lcom/example/rooted_tableau/rootedtableau/model/Role;"), (0, .methodref 20 33), (0, .nameAndType 34 35), (0, u "equals"), (0, u "(Ljava/lang/Object;)Z"), (9, u "(Ljava/lang/String;)V")] 28

def k9c0 : Code := { maxStack := 3, maxLocals := 2, code := prog_57_method_1_code, exceptionTable := #[], attributes := #[] }
def k9m0 : Method := { name := "<init>", desc := "(Ljava/lang/String;)V", sig := { parameters := [(.object "java/lang/String")], returnType := none }, accessFlags := 1, code := some k9c0 }
def k9c1 : Code := { maxStack := 3, maxLocals := 3, code := prog_57_method_2_code, exceptionTable := #[], attributes := #[] }
def k9m1 : Method := { name := "<init>", desc := "(Ljava/lang/String;Z)V", sig := { parameters := [(.object "java/lang/String"), .boolean], returnType := none }, accessFlags := 2, code := some k9c1 }
def k9c2 : Code := { maxStack := 4, maxLocals := 1, code := prog_57_method_6_code, exceptionTable := #[], attributes := #[] }
def k9m2 : Method := { name := "inverse", desc := "()Lcom/example/rooted_tableau/rootedtableau/model/Role;", sig := { parameters := [], returnType := some (.object "com/example/rooted_tableau/rootedtableau/model/Role") }, accessFlags := 1, code := some k9c2 }
def k9c3 : Code := { maxStack := 2, maxLocals := 3, code := prog_57_method_7_code, exceptionTable := #[], attributes := #[] }
def k9m3 : Method := { name := "equals", desc := "(Ljava/lang/Object;)Z", sig := { parameters := [(.object "java/lang/Object")], returnType := some .boolean }, accessFlags := 1, code := some k9c3 }
/-- com/example/rooted_tableau/rootedtableau/model/Role -/
def k9 : Class := { plain "com/example/rooted_tableau/rootedtableau/model/Role" (some 0) with
  accessFlags := 49
  interfaces := #[]
  cf := some (fileOf pool9 2 #[] #[{ accessFlags := 1, nameIndex := 5, descriptorIndex := 45, attributes := #[] }, { accessFlags := 2, nameIndex := 5, descriptorIndex := 6, attributes := #[] }, { accessFlags := 1, nameIndex := 27, descriptorIndex := 31, attributes := #[] }, { accessFlags := 1, nameIndex := 34, descriptorIndex := 35, attributes := #[] }] 49 8 #[] #[{ accessFlags := 18, nameIndex := 13, descriptorIndex := 24, attributes := #[] }, { accessFlags := 18, nameIndex := 27, descriptorIndex := 28, attributes := #[] }])
  fields := #[{ name := "iri", type := (.object "java/lang/String"), accessFlags := 18, slot := 0, constantValue := 0 }, { name := "inverse", type := .boolean, accessFlags := 18, slot := 1, constantValue := 0 }]
  methods := #[k9m0, k9m1, k9m2, k9m3]
  instanceTypes := #[(.object "java/lang/String"), .boolean]
  staticTypes := #[]
  resolved := Array.replicate 74 none
  statics := none }

def pool10 : Array CpInfo := pool [(2, .class_ 4), (1, u "java/lang/Object"), (0, u "<init>"), (0, u "()V"), (35, .class_ 44), (1, u "java/util/Objects"), (0, u "requireNonNull"), (48, u "(Ljava/lang/Object;Ljava/lang/String;)Ljava/lang/Object;")] 89

def k10m0 : Method := { name := "<init>", desc := "()V", sig := { parameters := [], returnType := none }, accessFlags := 2, code := none }
def k10c1 : Code := { maxStack := 3, maxLocals := 2, code := jdk_31_method_11_code, exceptionTable := #[], attributes := #[] }
def k10m1 : Method := { name := "requireNonNull", desc := "(Ljava/lang/Object;Ljava/lang/String;)Ljava/lang/Object;", sig := { parameters := [(.object "java/lang/Object"), (.object "java/lang/String")], returnType := some (.object "java/lang/Object") }, accessFlags := 9, code := some k10c1 }
/-- java/util/Objects -/
def k10 : Class := { plain "java/util/Objects" (some 0) with
  accessFlags := 49
  interfaces := #[]
  cf := some (fileOf pool10 42 #[] #[{ accessFlags := 2, nameIndex := 5, descriptorIndex := 6, attributes := #[] }, { accessFlags := 9, nameIndex := 45, descriptorIndex := 94, attributes := #[] }] 49 2 #[] #[])
  fields := #[]
  methods := #[k10m0, k10m1]
  instanceTypes := #[]
  staticTypes := #[]
  resolved := Array.replicate 184 none
  statics := none }

def pool11 : Array CpInfo := pool [(4, .class_ 6), (1, u "java/lang/Object"), (0, u "<init>"), (0, u "()V"), (5, .class_ 16), (1, u "java/lang/StringLatin1"), (104, u "$assertionsDisabled"), (0, u "Z"), (98, .class_ 223), (1, u "java/lang/StringLatin1$LinesSpliterator"), (57, u "equals"), (0, u "([B[B)Z"), (107, .class_ 391), (0, u "java/lang/StringLatin1$CharsSpliterator")] 3

def k11m0 : Method := { name := "<init>", desc := "()V", sig := { parameters := [], returnType := none }, accessFlags := 0, code := none }
def k11c1 : Code := { maxStack := 3, maxLocals := 3, code := jdk_43_method_13_code, exceptionTable := #[], attributes := #[] }
def k11m1 : Method := { name := "equals", desc := "([B[B)Z", sig := { parameters := [(.array .byte), (.array .byte)], returnType := some .boolean }, accessFlags := 9, code := some k11c1 }
/-- java/lang/StringLatin1 -/
def k11 : Class := { plain "java/lang/StringLatin1" (some 0) with
  accessFlags := 48
  interfaces := #[]
  cf := some (fileOf pool11 14 #[.nestMembers #[390, 221]] #[{ accessFlags := 0, nameIndex := 7, descriptorIndex := 8, attributes := #[] }, { accessFlags := 9, nameIndex := 281, descriptorIndex := 282, attributes := #[] }] 48 4 #[] #[{ accessFlags := 4120, nameIndex := 121, descriptorIndex := 122, attributes := #[] }])
  fields := #[{ name := "$assertionsDisabled", type := .boolean, accessFlags := 4120, slot := 0, constantValue := 0 }]
  methods := #[k11m0, k11m1]
  instanceTypes := #[]
  staticTypes := #[.boolean]
  resolved := Array.replicate 395 none
  statics := none }

def pool12 : Array CpInfo := pool [(2, .class_ 4), (1, u "java/lang/Object"), (0, u "<init>"), (0, u "()V"), (17, .class_ 26), (1, u "jdk/internal/util/Preconditions"), (28, .class_ 56), (0, u "jdk/internal/util/Preconditions$4"), (57, .class_ 115), (0, u "jdk/internal/util/Preconditions$1"), (7, u "SIOOBE_FORMATTER"), (0, u "Ljava/util/function/BiFunction;"), (0, .class_ 126), (0, u "jdk/internal/util/Preconditions$2"), (3, u "AIOOBE_FORMATTER"), (0, .class_ 132), (0, u "jdk/internal/util/Preconditions$3"), (3, u "IOOBE_FORMATTER")] 57

def k12m0 : Method := { name := "<init>", desc := "()V", sig := { parameters := [], returnType := none }, accessFlags := 1, code := none }
/-- jdk/internal/util/Preconditions -/
def k12 : Class := { plain "jdk/internal/util/Preconditions" (some 0) with
  accessFlags := 33
  interfaces := #[]
  cf := some (fileOf pool12 24 #[.nestMembers #[55, 131, 125, 114]] #[{ accessFlags := 1, nameIndex := 5, descriptorIndex := 6, attributes := #[] }] 33 2 #[] #[{ accessFlags := 25, nameIndex := 123, descriptorIndex := 124, attributes := #[] }, { accessFlags := 25, nameIndex := 130, descriptorIndex := 124, attributes := #[] }, { accessFlags := 25, nameIndex := 136, descriptorIndex := 124, attributes := #[] }])
  fields := #[{ name := "SIOOBE_FORMATTER", type := (.object "java/util/function/BiFunction"), accessFlags := 25, slot := 0, constantValue := 0 }, { name := "AIOOBE_FORMATTER", type := (.object "java/util/function/BiFunction"), accessFlags := 25, slot := 1, constantValue := 0 }, { name := "IOOBE_FORMATTER", type := (.object "java/util/function/BiFunction"), accessFlags := 25, slot := 2, constantValue := 0 }]
  methods := #[k12m0]
  instanceTypes := #[]
  staticTypes := #[(.object "java/util/function/BiFunction"), (.object "java/util/function/BiFunction"), (.object "java/util/function/BiFunction")]
  resolved := Array.replicate 194 none
  statics := some 1 }

def pool13 : Array CpInfo := pool [(9, u "<init>"), (6, .class_ 18), (1, u "java/lang/Object"), (0, u "()V"), (1, .class_ 23), (1, u "jdk/internal/util/ArraysSupport"), (0, u "LOG2_ARRAY_LONG_INDEX_SCALE"), (0, u "I"), (2, u "U"), (0, u "Ljdk/internal/misc/Unsafe;"), (8, u "BIG_ENDIAN"), (0, u "Z"), (8, u "LOG2_BYTE_BIT_SIZE"), (4, u "LOG2_ARRAY_INT_INDEX_SCALE"), (54, u "JLA"), (0, u "Ljdk/internal/access/JavaLangAccess;"), (11, u "LOG2_ARRAY_BOOLEAN_INDEX_SCALE"), (9, u "LOG2_ARRAY_BYTE_INDEX_SCALE"), (5, u "LOG2_ARRAY_CHAR_INDEX_SCALE"), (5, u "LOG2_ARRAY_SHORT_INDEX_SCALE"), (18, u "LOG2_ARRAY_FLOAT_INDEX_SCALE"), (24, u "LOG2_ARRAY_DOUBLE_INDEX_SCALE"), (89, u "T_BOOLEAN"), (2, u "T_CHAR"), (1, u "T_FLOAT"), (1, u "T_DOUBLE"), (1, u "T_BYTE"), (1, u "T_SHORT"), (1, u "T_INT"), (1, u "T_LONG"), (1, u "SOFT_MAX_ARRAY_LENGTH")] 83

def k13m0 : Method := { name := "<init>", desc := "()V", sig := { parameters := [], returnType := none }, accessFlags := 2, code := none }
/-- jdk/internal/util/ArraysSupport -/
def k13 : Class := { plain "jdk/internal/util/ArraysSupport" (some 0) with
  accessFlags := 33
  interfaces := #[]
  cf := some (fileOf pool13 21 #[] #[{ accessFlags := 2, nameIndex := 9, descriptorIndex := 19, attributes := #[] }] 33 16 #[] #[{ accessFlags := 24, nameIndex := 28, descriptorIndex := 29, attributes := #[] }, { accessFlags := 26, nameIndex := 38, descriptorIndex := 39, attributes := #[] }, { accessFlags := 25, nameIndex := 121, descriptorIndex := 25, attributes := #[] }, { accessFlags := 25, nameIndex := 131, descriptorIndex := 25, attributes := #[] }, { accessFlags := 25, nameIndex := 137, descriptorIndex := 25, attributes := #[] }, { accessFlags := 25, nameIndex := 143, descriptorIndex := 25, attributes := #[] }, { accessFlags := 25, nameIndex := 53, descriptorIndex := 25, attributes := #[] }, { accessFlags := 25, nameIndex := 24, descriptorIndex := 25, attributes := #[] }, { accessFlags := 25, nameIndex := 162, descriptorIndex := 25, attributes := #[] }, { accessFlags := 25, nameIndex := 187, descriptorIndex := 25, attributes := #[] }, { accessFlags := 26, nameIndex := 48, descriptorIndex := 25, attributes := #[] }, { accessFlags := 25, nameIndex := 277, descriptorIndex := 25, attributes := #[] }, { accessFlags := 25, nameIndex := 280, descriptorIndex := 25, attributes := #[] }, { accessFlags := 25, nameIndex := 282, descriptorIndex := 25, attributes := #[] }, { accessFlags := 25, nameIndex := 284, descriptorIndex := 25, attributes := #[] }, { accessFlags := 25, nameIndex := 286, descriptorIndex := 25, attributes := #[] }, { accessFlags := 25, nameIndex := 288, descriptorIndex := 25, attributes := #[] }, { accessFlags := 25, nameIndex := 290, descriptorIndex := 25, attributes := #[] }, { accessFlags := 25, nameIndex := 292, descriptorIndex := 25, attributes := #[] }, { accessFlags := 26, nameIndex := 108, descriptorIndex := 109, attributes := #[] }, { accessFlags := 25, nameIndex := 294, descriptorIndex := 25, attributes := #[] }])
  fields := #[{ name := "U", type := (.object "jdk/internal/misc/Unsafe"), accessFlags := 24, slot := 0, constantValue := 0 }, { name := "BIG_ENDIAN", type := .boolean, accessFlags := 26, slot := 1, constantValue := 0 }, { name := "LOG2_ARRAY_BOOLEAN_INDEX_SCALE", type := .int, accessFlags := 25, slot := 2, constantValue := 0 }, { name := "LOG2_ARRAY_BYTE_INDEX_SCALE", type := .int, accessFlags := 25, slot := 3, constantValue := 0 }, { name := "LOG2_ARRAY_CHAR_INDEX_SCALE", type := .int, accessFlags := 25, slot := 4, constantValue := 0 }, { name := "LOG2_ARRAY_SHORT_INDEX_SCALE", type := .int, accessFlags := 25, slot := 5, constantValue := 0 }, { name := "LOG2_ARRAY_INT_INDEX_SCALE", type := .int, accessFlags := 25, slot := 6, constantValue := 0 }, { name := "LOG2_ARRAY_LONG_INDEX_SCALE", type := .int, accessFlags := 25, slot := 7, constantValue := 0 }, { name := "LOG2_ARRAY_FLOAT_INDEX_SCALE", type := .int, accessFlags := 25, slot := 8, constantValue := 0 }, { name := "LOG2_ARRAY_DOUBLE_INDEX_SCALE", type := .int, accessFlags := 25, slot := 9, constantValue := 0 }, { name := "LOG2_BYTE_BIT_SIZE", type := .int, accessFlags := 26, slot := 10, constantValue := 0 }, { name := "T_BOOLEAN", type := .int, accessFlags := 25, slot := 11, constantValue := 0 }, { name := "T_CHAR", type := .int, accessFlags := 25, slot := 12, constantValue := 0 }, { name := "T_FLOAT", type := .int, accessFlags := 25, slot := 13, constantValue := 0 }, { name := "T_DOUBLE", type := .int, accessFlags := 25, slot := 14, constantValue := 0 }, { name := "T_BYTE", type := .int, accessFlags := 25, slot := 15, constantValue := 0 }, { name := "T_SHORT", type := .int, accessFlags := 25, slot := 16, constantValue := 0 }, { name := "T_INT", type := .int, accessFlags := 25, slot := 17, constantValue := 0 }, { name := "T_LONG", type := .int, accessFlags := 25, slot := 18, constantValue := 0 }, { name := "JLA", type := (.object "jdk/internal/access/JavaLangAccess"), accessFlags := 26, slot := 19, constantValue := 0 }, { name := "SOFT_MAX_ARRAY_LENGTH", type := .int, accessFlags := 25, slot := 20, constantValue := 0 }]
  methods := #[k13m0]
  instanceTypes := #[]
  staticTypes := #[(.object "jdk/internal/misc/Unsafe"), .boolean, .int, .int, .int, .int, .int, .int, .int, .int, .int, .int, .int, .int, .int, .int, .int, .int, .int, (.object "jdk/internal/access/JavaLangAccess"), .int]
  resolved := Array.replicate 378 none
  statics := none }

def pool14 : Array CpInfo := pool [(1, u "java/lang/Cloneable"), (0, .class_ 1), (0, u "java/lang/Object"), (0, .class_ 3)] 3

/-- java/lang/Cloneable -/
def k14 : Class := { plain "java/lang/Cloneable" (some 0) with
  accessFlags := 1537
  interfaces := #[]
  cf := some (fileOf pool14 2 #[] #[] 1537 4 #[] #[])
  fields := #[]
  methods := #[]
  instanceTypes := #[]
  staticTypes := #[]
  resolved := Array.replicate 8 none
  statics := none }

/-- the primitive byte -/
def k15 : Class := { plain "byte" none with kind := .primitive 'B', accessFlags := 0x411 }
/-- [B -/
def k16 : Class := { plain "[B" (some 0) with kind := .array 15 .byte, interfaces := #[14, 2], accessFlags := 1041 }

/-- the primitive char -/
def k17 : Class := { plain "char" none with kind := .primitive 'C', accessFlags := 0x411 }
/-- [C -/
def k18 : Class := { plain "[C" (some 0) with kind := .array 17 .char, interfaces := #[14, 2], accessFlags := 1041 }

/-- the primitive int -/
def k19 : Class := { plain "int" none with kind := .primitive 'I', accessFlags := 0x411 }
/-- [I -/
def k20 : Class := { plain "[I" (some 0) with kind := .array 19 .int, interfaces := #[14, 2], accessFlags := 1041 }

def heap : Heap := #[{ cls := 7, slots := #[.long 0, .int 1, .null, .int 0, .null, .int 0, .int 0], vm := .statics 7 },
  { cls := 12, slots := #[.null, .null, .null], vm := .statics 12 }]
def classes : Array Class := #[k0, k1, k2, k3, k4, k5, k6, k7, k8, k9, k10, k11, k12, k13, k14, k15, k16, k17, k18, k19, k20]
def interned : List (Array UInt16 × Addr) := []
def slotsUsed : Nat := 10
def theMethod : MethodId := ⟨1, 2⟩
def args0 : Array Value := #[.int 5, .int 7, .int 9, .int 40, .int 3]
def aboutOver (below : List Frame) : State where
  vm := { classes := classes, interned := interned.toArray }
  heap := heap
  slotsUsed := slotsUsed
  threads := #[{ frames := .invoking theMethod args0 :: below }]
def below0 : List Frame := [.native { method := ⟨0, 0⟩, args := #[] }]
def about1 : State := aboutOver below0
def p0 : Program := .bare "" "" ""
def e0 : Env := launch0.env 0 0 0
theorem w_frames : about1.frames = Frame.invoking theMethod args0 :: below0 := rfl
set_option maxRecDepth 65536 in
theorem w_args : argsFit about1.vm theMethod args0 = true := by decide +kernel
set_option maxRecDepth 65536 in
theorem w_heap : heapFits about1 = true := by decide +kernel
set_option maxRecDepth 65536 in
theorem w_runnable : about1.curStatus? = some .runnable := by decide +kernel
set_option maxRecDepth 65536 in
theorem w_alone : about1.alone = true := by decide +kernel
set_option maxRecDepth 65536 in
theorem w_named : about1.methodNamed? x = some theMethod := by decide +kernel
set_option maxRecDepth 65536 in
theorem w_hears : about1.hears theMethod below0 = true := by decide +kernel
set_option maxRecDepth 65536 in
theorem w_ripe : about1.ripe theMethod args0 below0 = true := by decide +kernel
theorem w_running : about1.status = .running := rfl
set_option maxRecDepth 65536 in
theorem w_room : about1.hasRoom e0.platform room_1 = true :=
  launch0.hasRoom_least _ room_1 (by decide +kernel) (by decide +kernel) (by decide +kernel) (by decide +kernel) (by decide +kernel) (by decide +kernel)
theorem allAtoms_all (ts : List Jvm.Cond) (a : Array Jvm.Value) (st : Jvm.State) : (allAtoms ts).before a st = ts.all (fun c => c.before a st) := by
  induction ts with
  | nil => rfl
  | cons c t ih =>
    show (Jvm.Cond.and c (allAtoms t)).before a st = _
    rw [Jvm.Cond.before_and, ih, List.all_cons]
def words1 : List Jvm.Cond := Jvm.Cond.code x code maxLocals ret :: tables_1
/-- a 'code' word, met by the world's own term for the bytes: nothing is compared byte by byte -/
theorem code_word {y : MethodName} {bytes : ByteArray} {mx : Nat} {rt : Option FieldType} {a : Array Value} {s : State} {m : MethodId} {meth : Method} {c : Code} (h1 : s.methodNamed? y = some m) (h2 : s.vm.method? m = some meth) (h3 : meth.code = some c) (h4 : c.code = bytes)
    (h5 : (c.maxLocals == mx && c.exceptionTable.isEmpty && decide (c.maxStack ≤ mostOperands) && decide (meth.sig.returnType = rt) && !meth.locks && decide (parseMethodDescriptor y.desc = some meth.sig)) = true) : (Jvm.Cond.code y bytes mx rt).before a s = true := by
  simp only [Bool.and_eq_true, beq_iff_eq, Bool.not_eq_true', decide_eq_true_eq] at h5
  obtain ⟨⟨⟨⟨⟨g1, g2⟩, g3⟩, g4⟩, g5⟩, g6⟩ := h5
  simp [Cond.before, Cond.holds, Cond.value, h1, h2, h3, h4, g1, g2, g3, g4, g5, g6]
def isCode : Jvm.Cond → Bool
  | .code _ _ _ _ => true
  | _ => false
theorem all_split {L : List Jvm.Cond} {P : Jvm.Cond → Bool} (h1 : L.all (fun c => isCode c || P c) = true) (h2 : ∀ c ∈ L.filter isCode, P c = true) : L.all P = true := by
  refine List.all_eq_true.mpr fun c hc => ?_
  have h := List.all_eq_true.mp h1 c hc
  rcases Bool.eq_false_or_eq_true (isCode c) with hi | hi
  · exact h2 c (List.mem_filter.mpr ⟨hc, hi⟩)
  · simpa [hi] using h
set_option maxRecDepth 65536 in
theorem w_c0 : (Jvm.Cond.code x code maxLocals ret).before args0 about1 = true := code_word (m := ⟨1, 2⟩) (meth := k1m2) (c := k1c2) (by decide +kernel) rfl rfl rfl (by decide +kernel)
set_option maxRecDepth 65536 in
theorem w_c1 : (Jvm.Cond.code ({ cls := "com/example/rooted_tableau/rootedtableau/model/RoleEqualsPinLaw", name := "mk", desc := "(II)Ljava/lang/String;" } : Jvm.MethodName) method_2_code (5 : Nat) (Option.some (Jvm.ClassFile.FieldType.object "java/lang/String"))).before args0 about1 = true := code_word (m := ⟨1, 1⟩) (meth := k1m1) (c := k1c1) (by decide +kernel) rfl rfl rfl (by decide +kernel)
set_option maxRecDepth 65536 in
theorem w_c2 : (Jvm.Cond.code ({ cls := "java/lang/String", name := "<init>", desc := "([C)V" } : Jvm.MethodName) jdk_42_method_3_code (2 : Nat) (Option.none : Option Jvm.ClassFile.FieldType)).before args0 about1 = true := code_word (m := ⟨7, 1⟩) (meth := k7m1) (c := k7c1) (by decide +kernel) rfl rfl rfl (by decide +kernel)
set_option maxRecDepth 65536 in
theorem w_c3 : (Jvm.Cond.code ({ cls := "java/lang/String", name := "<init>", desc := "([CIILjava/lang/Void;)V" } : Jvm.MethodName) jdk_42_method_149_code (6 : Nat) (Option.none : Option Jvm.ClassFile.FieldType)).before args0 about1 = true := code_word (m := ⟨7, 3⟩) (meth := k7m3) (c := k7c3) (by decide +kernel) rfl rfl rfl (by decide +kernel)
set_option maxRecDepth 65536 in
theorem w_c4 : (Jvm.Cond.code ({ cls := "java/lang/Object", name := "<init>", desc := "()V" } : Jvm.MethodName) object_method_1_code (1 : Nat) (Option.none : Option Jvm.ClassFile.FieldType)).before args0 about1 = true := code_word (m := ⟨0, 0⟩) (meth := k0m0) (c := k0c0) (by decide +kernel) rfl rfl rfl (by decide +kernel)
set_option maxRecDepth 65536 in
theorem w_c5 : (Jvm.Cond.code ({ cls := "java/lang/StringUTF16", name := "compress", desc := "([CII)[B" } : Jvm.MethodName) jdk_52_method_16_code (6 : Nat) (Option.some (Jvm.ClassFile.FieldType.array Jvm.ClassFile.FieldType.byte))).before args0 about1 = true := code_word (m := ⟨8, 2⟩) (meth := k8m2) (c := k8c2) (by decide +kernel) rfl rfl rfl (by decide +kernel)
set_option maxRecDepth 65536 in
theorem w_c6 : (Jvm.Cond.code ({ cls := "java/lang/StringUTF16", name := "compress", desc := "([CI[BII)I" } : Jvm.MethodName) jdk_52_method_21_code (7 : Nat) (Option.some Jvm.ClassFile.FieldType.int)).before args0 about1 = true := code_word (m := ⟨8, 3⟩) (meth := k8m3) (c := k8c3) (by decide +kernel) rfl rfl rfl (by decide +kernel)
set_option maxRecDepth 65536 in
theorem w_c7 : (Jvm.Cond.code ({ cls := "java/lang/StringUTF16", name := "coderFromArrayLen", desc := "([BI)B" } : Jvm.MethodName) jdk_52_method_15_code (2 : Nat) (Option.some Jvm.ClassFile.FieldType.byte)).before args0 about1 = true := code_word (m := ⟨8, 1⟩) (meth := k8m1) (c := k8c1) (by decide +kernel) rfl rfl rfl (by decide +kernel)
set_option maxRecDepth 65536 in
theorem w_c8 : (Jvm.Cond.code ({ cls := "com/example/rooted_tableau/rootedtableau/model/Role", name := "<init>", desc := "(Ljava/lang/String;)V" } : Jvm.MethodName) prog_57_method_1_code (2 : Nat) (Option.none : Option Jvm.ClassFile.FieldType)).before args0 about1 = true := code_word (m := ⟨9, 0⟩) (meth := k9m0) (c := k9c0) (by decide +kernel) rfl rfl rfl (by decide +kernel)
set_option maxRecDepth 65536 in
theorem w_c9 : (Jvm.Cond.code ({ cls := "com/example/rooted_tableau/rootedtableau/model/Role", name := "<init>", desc := "(Ljava/lang/String;Z)V" } : Jvm.MethodName) prog_57_method_2_code (3 : Nat) (Option.none : Option Jvm.ClassFile.FieldType)).before args0 about1 = true := code_word (m := ⟨9, 1⟩) (meth := k9m1) (c := k9c1) (by decide +kernel) rfl rfl rfl (by decide +kernel)
set_option maxRecDepth 65536 in
theorem w_c10 : (Jvm.Cond.code ({ cls := "java/util/Objects", name := "requireNonNull", desc := "(Ljava/lang/Object;Ljava/lang/String;)Ljava/lang/Object;" } : Jvm.MethodName) jdk_31_method_11_code (2 : Nat) (Option.some (Jvm.ClassFile.FieldType.object "java/lang/Object"))).before args0 about1 = true := code_word (m := ⟨10, 1⟩) (meth := k10m1) (c := k10c1) (by decide +kernel) rfl rfl rfl (by decide +kernel)
set_option maxRecDepth 65536 in
theorem w_c11 : (Jvm.Cond.code ({ cls := "com/example/rooted_tableau/rootedtableau/model/Role", name := "equals", desc := "(Ljava/lang/Object;)Z" } : Jvm.MethodName) prog_57_method_7_code (3 : Nat) (Option.some Jvm.ClassFile.FieldType.boolean)).before args0 about1 = true := code_word (m := ⟨9, 3⟩) (meth := k9m3) (c := k9c3) (by decide +kernel) rfl rfl rfl (by decide +kernel)
set_option maxRecDepth 65536 in
theorem w_c12 : (Jvm.Cond.code ({ cls := "java/lang/String", name := "equals", desc := "(Ljava/lang/Object;)Z" } : Jvm.MethodName) jdk_42_method_66_code (3 : Nat) (Option.some Jvm.ClassFile.FieldType.boolean)).before args0 about1 = true := code_word (m := ⟨7, 2⟩) (meth := k7m2) (c := k7c2) (by decide +kernel) rfl rfl rfl (by decide +kernel)
set_option maxRecDepth 65536 in
theorem w_c13 : (Jvm.Cond.code ({ cls := "java/lang/StringLatin1", name := "equals", desc := "([B[B)Z" } : Jvm.MethodName) jdk_43_method_13_code (3 : Nat) (Option.some Jvm.ClassFile.FieldType.boolean)).before args0 about1 = true := code_word (m := ⟨11, 1⟩) (meth := k11m1) (c := k11c1) (by decide +kernel) rfl rfl rfl (by decide +kernel)
set_option maxRecDepth 65536 in
theorem w_c14 : (Jvm.Cond.code ({ cls := "com/example/rooted_tableau/rootedtableau/model/Role", name := "inverse", desc := "()Lcom/example/rooted_tableau/rootedtableau/model/Role;" } : Jvm.MethodName) prog_57_method_6_code (1 : Nat) (Option.some (Jvm.ClassFile.FieldType.object "com/example/rooted_tableau/rootedtableau/model/Role"))).before args0 about1 = true := code_word (m := ⟨9, 2⟩) (meth := k9m2) (c := k9c2) (by decide +kernel) rfl rfl rfl (by decide +kernel)
def codes1 : List Jvm.Cond := [Jvm.Cond.code x code maxLocals ret, Jvm.Cond.code ({ cls := "com/example/rooted_tableau/rootedtableau/model/RoleEqualsPinLaw", name := "mk", desc := "(II)Ljava/lang/String;" } : Jvm.MethodName) method_2_code (5 : Nat) (Option.some (Jvm.ClassFile.FieldType.object "java/lang/String")), Jvm.Cond.code ({ cls := "java/lang/String", name := "<init>", desc := "([C)V" } : Jvm.MethodName) jdk_42_method_3_code (2 : Nat) (Option.none : Option Jvm.ClassFile.FieldType), Jvm.Cond.code ({ cls := "java/lang/String", name := "<init>", desc := "([CIILjava/lang/Void;)V" } : Jvm.MethodName) jdk_42_method_149_code (6 : Nat) (Option.none : Option Jvm.ClassFile.FieldType), Jvm.Cond.code ({ cls := "java/lang/Object", name := "<init>", desc := "()V" } : Jvm.MethodName) object_method_1_code (1 : Nat) (Option.none : Option Jvm.ClassFile.FieldType), Jvm.Cond.code ({ cls := "java/lang/StringUTF16", name := "compress", desc := "([CII)[B" } : Jvm.MethodName) jdk_52_method_16_code (6 : Nat) (Option.some (Jvm.ClassFile.FieldType.array Jvm.ClassFile.FieldType.byte)), Jvm.Cond.code ({ cls := "java/lang/StringUTF16", name := "compress", desc := "([CI[BII)I" } : Jvm.MethodName) jdk_52_method_21_code (7 : Nat) (Option.some Jvm.ClassFile.FieldType.int), Jvm.Cond.code ({ cls := "java/lang/StringUTF16", name := "coderFromArrayLen", desc := "([BI)B" } : Jvm.MethodName) jdk_52_method_15_code (2 : Nat) (Option.some Jvm.ClassFile.FieldType.byte), Jvm.Cond.code ({ cls := "com/example/rooted_tableau/rootedtableau/model/Role", name := "<init>", desc := "(Ljava/lang/String;)V" } : Jvm.MethodName) prog_57_method_1_code (2 : Nat) (Option.none : Option Jvm.ClassFile.FieldType), Jvm.Cond.code ({ cls := "com/example/rooted_tableau/rootedtableau/model/Role", name := "<init>", desc := "(Ljava/lang/String;Z)V" } : Jvm.MethodName) prog_57_method_2_code (3 : Nat) (Option.none : Option Jvm.ClassFile.FieldType), Jvm.Cond.code ({ cls := "java/util/Objects", name := "requireNonNull", desc := "(Ljava/lang/Object;Ljava/lang/String;)Ljava/lang/Object;" } : Jvm.MethodName) jdk_31_method_11_code (2 : Nat) (Option.some (Jvm.ClassFile.FieldType.object "java/lang/Object")), Jvm.Cond.code ({ cls := "com/example/rooted_tableau/rootedtableau/model/Role", name := "equals", desc := "(Ljava/lang/Object;)Z" } : Jvm.MethodName) prog_57_method_7_code (3 : Nat) (Option.some Jvm.ClassFile.FieldType.boolean), Jvm.Cond.code ({ cls := "java/lang/String", name := "equals", desc := "(Ljava/lang/Object;)Z" } : Jvm.MethodName) jdk_42_method_66_code (3 : Nat) (Option.some Jvm.ClassFile.FieldType.boolean), Jvm.Cond.code ({ cls := "java/lang/StringLatin1", name := "equals", desc := "([B[B)Z" } : Jvm.MethodName) jdk_43_method_13_code (3 : Nat) (Option.some Jvm.ClassFile.FieldType.boolean), Jvm.Cond.code ({ cls := "com/example/rooted_tableau/rootedtableau/model/Role", name := "inverse", desc := "()Lcom/example/rooted_tableau/rootedtableau/model/Role;" } : Jvm.MethodName) prog_57_method_6_code (1 : Nat) (Option.some (Jvm.ClassFile.FieldType.object "com/example/rooted_tableau/rootedtableau/model/Role"))]
set_option maxRecDepth 65536 in
theorem codes_eq : words1.filter isCode = codes1 := rfl
theorem w_codes : ∀ c ∈ words1.filter isCode, c.before args0 about1 = true := by
  rw [codes_eq]
  intro c hc
  simp only [codes1, List.mem_cons, List.not_mem_nil, or_false] at hc
  rcases hc with rfl | rfl | rfl | rfl | rfl | rfl | rfl | rfl | rfl | rfl | rfl | rfl | rfl | rfl | rfl
  · exact w_c0
  · exact w_c1
  · exact w_c2
  · exact w_c3
  · exact w_c4
  · exact w_c5
  · exact w_c6
  · exact w_c7
  · exact w_c8
  · exact w_c9
  · exact w_c10
  · exact w_c11
  · exact w_c12
  · exact w_c13
  · exact w_c14
set_option maxRecDepth 65536 in
theorem w_t1 : (words1.take 24).all (fun c => isCode c || c.before args0 about1) = true := by decide +kernel
set_option maxRecDepth 65536 in
theorem w_t2 : ((words1.drop 24).take 24).all (fun c => isCode c || c.before args0 about1) = true := by decide +kernel
set_option maxRecDepth 65536 in
theorem w_t3 : (((words1.drop 24).drop 24).take 24).all (fun c => isCode c || c.before args0 about1) = true := by decide +kernel
set_option maxRecDepth 65536 in
theorem w_t4 : (((words1.drop 24).drop 24).drop 24).all (fun c => isCode c || c.before args0 about1) = true := by decide +kernel
theorem w_tables : (allAtoms (Jvm.Cond.code x code maxLocals ret :: tables_1)).before args0 about1 = true := by
  rw [allAtoms_all]
  show words1.all (fun c => c.before args0 about1) = true
  refine all_split ?_ w_codes
  rw [← List.take_append_drop 24 words1, List.all_append, w_t1, ← List.take_append_drop 24 (words1.drop 24), List.all_append, w_t2, ← List.take_append_drop 24 ((words1.drop 24).drop 24), List.all_append, w_t3, w_t4]
  rfl
set_option maxRecDepth 65536 in
theorem w_rest : rest_1_c.before args0 about1 = true := by decide +kernel
set_option maxRecDepth 65536 in
theorem w_case : (Jvm.Cond.and given_1 narrow_1).before args0 about1 = true := by decide +kernel
set_option maxRecDepth 65536 in
theorem w_consts : constsHeld consts_1 about1 := Jvm.Lit.constsHeldB_iff.mp (by decide +kernel)
theorem w_applies : (headSpec (Jvm.Cond.code x code maxLocals ret :: tables_1) room_1).applies x e0.platform about1 = true :=
  (Spec.applies_iff w_frames).mpr ⟨w_running, w_runnable, w_alone, w_named, w_hears, w_ripe, w_room, w_tables⟩
theorem atStart : AtStart classFile x code maxLocals ret World_1 tables_1 room_1 Calls_1 rest_1 Pre_1 launch0 p0 e0 about1 theMethod args0 below0 :=
  ⟨lists_1, trivial, launch0.admits_env _ _ _, launch0.least_env, fairChoices_fair.cas, fairChoices_fair.clock, w_frames, w_args, w_heap, w_applies, ⟨w_consts, trivial⟩, w_rest, w_case⟩
end start1
theorem witness_1 : WitnessClaimed_1 := ⟨start1.p0, start1.e0, start1.about1, start1.theMethod, start1.args0, start1.below0, start1.atStart⟩
end Jvm.Pilot.@@N@@
