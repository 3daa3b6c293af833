import JvmDerived
import JvmDerived.Pilot.@@N@@Statement
import JvmDerived.Pilot.@@N@@Code
set_option linter.unusedVariables false
set_option linter.unusedSimpArgs false
namespace Jvm.RoadKit
open Sem ClassFile Op Lib Jvm.Stand Jvm.Free Jvm.LawKit
section OwnKit
/-- the run from S comes to an end that P allows -/
def Gl (tb : Tables) (e : Env) (below : List Frame) (P : Outcome → State → Prop) (S : State) : Prop := ∃ s₂ o, Steps tb e below S s₂ ∧ s₂.status = .running ∧ Ended s₂ below o ∧ P o s₂
variable {tb : Tables} {p : Program} {l : Launch} {e : Env} {R : Room} {s : State} {m : MethodId} {args : Array Value} {below : List Frame} {meth : Method} {c : Code} {T : State} {locs : List Loc} {cells slots : Nat} {P : Outcome → State → Prop} {S S' : State}
theorem Gl.st (h : ∀ t, Steps tb e below S' t → Steps tb e below S t) (k : Gl tb e below P S') : Gl tb e below P S := by
  obtain ⟨s₂, o, h1, h2⟩ := k; exact ⟨s₂, o, h _ h1, h2⟩
theorem Gl.to (h : Steps tb e below S S') (k : Gl tb e below P S') : Gl tb e below P S := Gl.st (fun _ q => h.trans q) k
theorem Gl.cast {g g' : JFrame} (q : g = g') (k : Gl tb e below P (T.setTop g')) : Gl tb e below P (T.setTop g) := q ▸ k
abbrev EndN (s : State) (Q : Option Value → Heap → List Loc → Prop) (kc ks : Nat) : Outcome → State → Prop := fun o s₂ => ∃ v L, o = .returned v ∧ Q v s₂.heap L ∧ FrameEnd s o s₂ L kc ks
abbrev EndW (s : State) (Q : Option Value → Heap → List Loc → Prop) (kc ks : Nat) : Outcome → State → Prop := fun o s₂ => ∃ v L, o = .returned v ∧ Q v s₂.heap L ∧ ReturnedEndW s o s₂ L kc ks
variable {Q : Option Value → Heap → List Loc → Prop} {kc ks : Nat}
theorem Gl.fin (X : Stand p l e R s m args below meth c T locs cells slots) {v : Option Value} (hv : meth.sig.returnType = none → v = none) (hlk : meth.locks = false) (hc : cells ≤ kc) (hs : slots ≤ ks) (hQ : Q v T.heap locs)
    (k : ∀ fs, (∀ (f : JFrame) (acts : List Action), f.method = m → f.locked = none → f.entered = [] → (doReturn e (T.setTop f) acts v).1 = T.setFrames fs) → Steps p.tables e below S (T.setFrames fs)) : Gl p.tables e below (EndN s Q kc ks) S := by
  obtain ⟨fs, hr, hrun, hended, hW, hsame⟩ := X.leave hv hlk
  exact ⟨_, _, k fs hr, hrun, hended, v, locs, rfl, hQ, ⟨_, rfl⟩, hW, hsame.mono hc hs⟩
theorem Gl.finW {vm₁ : Vm} {n : Nat} (X : Stand p l e R (s.setVm vm₁) m args below meth c T locs cells slots) (hS : s.Since vm₁ n) (hn : n ≤ T.heap.size) {v : Option Value} (hv : meth.sig.returnType = none → v = none) (hlk : meth.locks = false) (hc : cells ≤ kc) (hs : slots ≤ ks) (hQ : Q v T.heap locs)
    (k : ∀ fs, (∀ (f : JFrame) (acts : List Action), f.method = m → f.locked = none → f.entered = [] → (doReturn e (T.setTop f) acts v).1 = T.setFrames fs) → Steps p.tables e below S (T.setFrames fs)) : Gl p.tables e below (EndW s Q kc ks) S := by
  obtain ⟨fs, hr, hrun, hended, h1, h2, h3, hsame⟩ := X.leaveW hS hn hv hlk
  exact ⟨_, _, k fs hr, hrun, hended, v, locs, rfl, hQ, h1, h2, h3, hsame.mono hc hs⟩
variable {pc : Nat} {Ls : Array Slot} {rest : List Value}
theorem nov {meth : Method} {t : FieldType} {v : Option Value} (h : meth.sig.returnType = some t) : meth.sig.returnType = none → v = none := fun q => by rw [h] at q; cases q
theorem narR {t : FieldType} {w : Value} (hw : w.isRef = true) (ht : t.isReference = true) : narrow t w = w := by
  rcases ref_cases hw with rfl | ⟨a, rfl⟩ <;> cases t <;> first | rfl | (simp [FieldType.isReference] at ht)
theorem fitR {t : FieldType} {w : Value} (hw : w.isRef = true) (ht : t.isReference = true) : fits t w = true := by
  rcases ref_cases hw with rfl | ⟨a, rfl⟩ <;> cases t <;> first | rfl | (simp [FieldType.isReference] at ht)
theorem refc {w : Value} (hw : w.isRef = true) : w.category = 1 := by
  rcases ref_cases hw with rfl | ⟨a, rfl⟩ <;> rfl
theorem lt_ne32 {u w : Int32} (h : u < w) : ¬ u = w := fun q => by rw [q] at h; exact Int32.lt_irrefl h
theorem lt_ne32' {u w : Int32} (h : w < u) : ¬ u = w := fun q => lt_ne32 h q.symm
theorem tri32 {u w : Int32} (h1 : ¬ u < w) (h2 : ¬ w < u) : u = w := by
  rw [Int32.lt_iff_toInt_lt] at h1 h2
  exact Int32.toInt_inj.mp (by omega)
theorem alc0 {P : Int32 → Prop} : ∀ x ∈ ([] : List Int32), P x := fun _ q => nomatch q
theorem alcS {P : Int32 → Prop} {y : Int32} {L : List Int32} (q : P y) (r : ∀ x ∈ L, P x) : ∀ x ∈ y :: L, P x := fun x z => (List.mem_cons.mp z).elim (fun u => u ▸ q) (r x)
theorem up255 (cs : List Int32) (h : ∀ c ∈ cs, ¬ c < 0 ∧ ¬ (255 : Int32) < c) : ∀ c ∈ cs, ¬ c < 0 ∧ ¬ (65535 : Int32) < c := fun c hc => ⟨(h c hc).1, fun q => (h c hc).2 (by rw [Int32.lt_iff_toInt_lt] at q ⊢; have e1 : (65535 : Int32).toInt = 65535 := rfl; have e2 : (255 : Int32).toInt = 255 := rfl; omega)⟩
theorem Gl.retN (X : Stand p l e R s m args below meth c T locs cells slots) (hx : p.tables.exec = Jvm.exec) {z : Int32} {t : FieldType} (hret : meth.sig.returnType = some t) (ht : t = .boolean ∨ t = .byte ∨ t = .char ∨ t = .short) (hd : decode c.code pc = .ok (.ireturn, 1)) (hlk : meth.locks = false) (hc : cells ≤ kc) (hs : slots ≤ ks) (hQ : Q (some (.int (nar t z))) T.heap locs) : Gl p.tables e below (EndN s Q kc ks) (T.setTop (mkF m pc Ls (.int z :: rest))) :=
  Gl.fin X (nov hret) hlk hc hs hQ fun _ hr => Jvm.RoadKit.retN X hx hret ht hd hr
theorem retIo (X : Stand p l e R s m args below meth c T locs cells slots) (hx : p.tables.exec = Jvm.exec) {z : Int32} (hret : meth.sig.returnType = some .int) (hd : decode c.code pc = .ok (.ireturn, 1)) {fs : List Frame}
    (hl : ∀ (f : JFrame) (acts : List Action), f.method = m → f.locked = none → f.entered = [] → (doReturn e (T.setTop f) acts (some (.int z))).1 = T.setFrames fs) : Steps p.tables e below (T.setTop (mkF m pc Ls (.int z :: rest))) (T.setFrames fs) :=
  retOut X hx hret rfl (Or.inl ⟨rfl, Or.inl rfl, _, rfl⟩) hd hl
theorem Gl.retI (X : Stand p l e R s m args below meth c T locs cells slots) (hx : p.tables.exec = Jvm.exec) {z : Int32} (hret : meth.sig.returnType = some .int) (hd : decode c.code pc = .ok (.ireturn, 1)) (hlk : meth.locks = false) (hc : cells ≤ kc) (hs : slots ≤ ks) (hQ : Q (some (.int z)) T.heap locs) : Gl p.tables e below (EndN s Q kc ks) (T.setTop (mkF m pc Ls (.int z :: rest))) :=
  Gl.fin X (nov hret) hlk hc hs hQ fun _ hr => retIo X hx hret hd hr
theorem Gl.retJ (X : Stand p l e R s m args below meth c T locs cells slots) (hx : p.tables.exec = Jvm.exec) {z : Int64} (hret : meth.sig.returnType = some .long) (hd : decode c.code pc = .ok (.lreturn, 1)) (hlk : meth.locks = false) (hc : cells ≤ kc) (hs : slots ≤ ks) (hQ : Q (some (.long z)) T.heap locs) : Gl p.tables e below (EndN s Q kc ks) (T.setTop (mkF m pc Ls (.long z :: rest))) :=
  Gl.fin X (nov hret) hlk hc hs hQ fun _ hr => retOut X hx hret rfl (Or.inr (Or.inl ⟨rfl, rfl, _, rfl⟩)) hd hr
theorem Gl.retA (X : Stand p l e R s m args below meth c T locs cells slots) (hx : p.tables.exec = Jvm.exec) {w : Value} {t : FieldType} (hret : meth.sig.returnType = some t) (ht : t.isReference = true) (hw : w.isRef = true) (hd : decode c.code pc = .ok (.areturn, 1)) (hlk : meth.locks = false) (hc : cells ≤ kc) (hs : slots ≤ ks) (hQ : Q (some w) T.heap locs) : Gl p.tables e below (EndN s Q kc ks) (T.setTop (mkF m pc Ls (w :: rest))) :=
  Gl.fin X (nov hret) hlk hc hs hQ fun _ hr => retOut X hx hret (narR hw ht) (Or.inr (Or.inr (Or.inr (Or.inr ⟨rfl, ht, hw⟩)))) hd hr
theorem Gl.ret0 (X : Stand p l e R s m args below meth c T locs cells slots) (hx : p.tables.exec = Jvm.exec) (hret : meth.sig.returnType = none) (hd : decode c.code pc = .ok (.return_, 1)) (hlk : meth.locks = false) (hc : cells ≤ kc) (hs : slots ≤ ks) (hQ : Q none T.heap locs) : Gl p.tables e below (EndN s Q kc ks) (T.setTop (mkF m pc Ls [])) :=
  Gl.fin X (fun _ => rfl) hlk hc hs hQ fun _ hr => X.returnOut hx hret hd hr
variable {vm₁ : Vm} {n : Nat}
theorem Gl.retNW (X : Stand p l e R (s.setVm vm₁) m args below meth c T locs cells slots) (hx : p.tables.exec = Jvm.exec) (hS : s.Since vm₁ n) (hn : n ≤ T.heap.size) {z : Int32} {t : FieldType} (hret : meth.sig.returnType = some t) (ht : t = .boolean ∨ t = .byte ∨ t = .char ∨ t = .short) (hd : decode c.code pc = .ok (.ireturn, 1)) (hlk : meth.locks = false) (hc : cells ≤ kc) (hs : slots ≤ ks) (hQ : Q (some (.int (nar t z))) T.heap locs) : Gl p.tables e below (EndW s Q kc ks) (T.setTop (mkF m pc Ls (.int z :: rest))) :=
  Gl.finW X hS hn (nov hret) hlk hc hs hQ fun _ hr => Jvm.RoadKit.retN X hx hret ht hd hr
theorem Gl.retIW (X : Stand p l e R (s.setVm vm₁) m args below meth c T locs cells slots) (hx : p.tables.exec = Jvm.exec) (hS : s.Since vm₁ n) (hn : n ≤ T.heap.size) {z : Int32} (hret : meth.sig.returnType = some .int) (hd : decode c.code pc = .ok (.ireturn, 1)) (hlk : meth.locks = false) (hc : cells ≤ kc) (hs : slots ≤ ks) (hQ : Q (some (.int z)) T.heap locs) : Gl p.tables e below (EndW s Q kc ks) (T.setTop (mkF m pc Ls (.int z :: rest))) :=
  Gl.finW X hS hn (nov hret) hlk hc hs hQ fun _ hr => retIo X hx hret hd hr
theorem Gl.retAW (X : Stand p l e R (s.setVm vm₁) m args below meth c T locs cells slots) (hx : p.tables.exec = Jvm.exec) (hS : s.Since vm₁ n) (hn : n ≤ T.heap.size) {w : Value} {t : FieldType} (hret : meth.sig.returnType = some t) (ht : t.isReference = true) (hw : w.isRef = true) (hd : decode c.code pc = .ok (.areturn, 1)) (hlk : meth.locks = false) (hc : cells ≤ kc) (hs : slots ≤ ks) (hQ : Q (some w) T.heap locs) : Gl p.tables e below (EndW s Q kc ks) (T.setTop (mkF m pc Ls (w :: rest))) :=
  Gl.finW X hS hn (nov hret) hlk hc hs hQ fun _ hr => retOut X hx hret (narR hw ht) (Or.inr (Or.inr (Or.inr (Or.inr ⟨rfl, ht, hw⟩)))) hd hr
theorem Gl.ret0W (X : Stand p l e R (s.setVm vm₁) m args below meth c T locs cells slots) (hx : p.tables.exec = Jvm.exec) (hS : s.Since vm₁ n) (hn : n ≤ T.heap.size) (hret : meth.sig.returnType = none) (hd : decode c.code pc = .ok (.return_, 1)) (hlk : meth.locks = false) (hc : cells ≤ kc) (hs : slots ≤ ks) (hQ : Q none T.heap locs) : Gl p.tables e below (EndW s Q kc ks) (T.setTop (mkF m pc Ls [])) :=
  Gl.finW X hS hn (fun _ => rfl) hlk hc hs hQ fun _ hr => X.returnOut hx hret hd hr
abbrev EndH (s : State) (Z : State) (EL : List (String × Nat)) (Q : Option Value → Heap → List Loc → Prop) (kc ks : Nat) : Outcome → State → Prop := fun o s₂ => ∃ v L, o = .returned v ∧ Q v s₂.heap L ∧ CHr Z EL s.vm s.heap s₂.vm s₂.heap ∧ ReturnedEndW s o s₂ L kc ks
variable {Z : State} {EL : List (String × Nat)}
theorem Gl.finH (X : Stand p l e R (s.setVm vm₁) m args below meth c T locs cells slots) (hS : s.Since vm₁ n) (hn : n ≤ T.heap.size) (hC : CHr Z EL s.vm s.heap T.vm T.heap) {v : Option Value} (hv : meth.sig.returnType = none → v = none) (hlk : meth.locks = false) (hc : cells ≤ kc) (hs : slots ≤ ks) (hQ : Q v T.heap locs)
    (k : ∀ fs, (∀ (f : JFrame) (acts : List Action), f.method = m → f.locked = none → f.entered = [] → (doReturn e (T.setTop f) acts v).1 = T.setFrames fs) → Steps p.tables e below S (T.setFrames fs)) : Gl p.tables e below (EndH s Z EL Q kc ks) S := by
  obtain ⟨fs, hr, hrun, hended, h1, h2, h3, hsame⟩ := X.leaveW hS hn hv hlk
  exact ⟨_, _, k fs hr, hrun, hended, v, locs, rfl, hQ, hC, h1, h2, h3, hsame.mono hc hs⟩
theorem Gl.retNH (X : Stand p l e R (s.setVm vm₁) m args below meth c T locs cells slots) (hx : p.tables.exec = Jvm.exec) (hS : s.Since vm₁ n) (hn : n ≤ T.heap.size) (hC : CHr Z EL s.vm s.heap T.vm T.heap) {z : Int32} {t : FieldType} (hret : meth.sig.returnType = some t) (ht : t = .boolean ∨ t = .byte ∨ t = .char ∨ t = .short) (hd : decode c.code pc = .ok (.ireturn, 1)) (hlk : meth.locks = false) (hc : cells ≤ kc) (hs : slots ≤ ks) (hQ : Q (some (.int (nar t z))) T.heap locs) : Gl p.tables e below (EndH s Z EL Q kc ks) (T.setTop (mkF m pc Ls (.int z :: rest))) :=
  Gl.finH X hS hn hC (nov hret) hlk hc hs hQ fun _ hr => Jvm.RoadKit.retN X hx hret ht hd hr
theorem Gl.retIH (X : Stand p l e R (s.setVm vm₁) m args below meth c T locs cells slots) (hx : p.tables.exec = Jvm.exec) (hS : s.Since vm₁ n) (hn : n ≤ T.heap.size) (hC : CHr Z EL s.vm s.heap T.vm T.heap) {z : Int32} (hret : meth.sig.returnType = some .int) (hd : decode c.code pc = .ok (.ireturn, 1)) (hlk : meth.locks = false) (hc : cells ≤ kc) (hs : slots ≤ ks) (hQ : Q (some (.int z)) T.heap locs) : Gl p.tables e below (EndH s Z EL Q kc ks) (T.setTop (mkF m pc Ls (.int z :: rest))) :=
  Gl.finH X hS hn hC (nov hret) hlk hc hs hQ fun _ hr => retIo X hx hret hd hr
theorem Gl.retAH (X : Stand p l e R (s.setVm vm₁) m args below meth c T locs cells slots) (hx : p.tables.exec = Jvm.exec) (hS : s.Since vm₁ n) (hn : n ≤ T.heap.size) (hC : CHr Z EL s.vm s.heap T.vm T.heap) {w : Value} {t : FieldType} (hret : meth.sig.returnType = some t) (ht : t.isReference = true) (hw : w.isRef = true) (hd : decode c.code pc = .ok (.areturn, 1)) (hlk : meth.locks = false) (hc : cells ≤ kc) (hs : slots ≤ ks) (hQ : Q (some w) T.heap locs) : Gl p.tables e below (EndH s Z EL Q kc ks) (T.setTop (mkF m pc Ls (w :: rest))) :=
  Gl.finH X hS hn hC (nov hret) hlk hc hs hQ fun _ hr => retOut X hx hret (narR hw ht) (Or.inr (Or.inr (Or.inr (Or.inr ⟨rfl, ht, hw⟩)))) hd hr
theorem Gl.ret0H (X : Stand p l e R (s.setVm vm₁) m args below meth c T locs cells slots) (hx : p.tables.exec = Jvm.exec) (hS : s.Since vm₁ n) (hn : n ≤ T.heap.size) (hC : CHr Z EL s.vm s.heap T.vm T.heap) (hret : meth.sig.returnType = none) (hd : decode c.code pc = .ok (.return_, 1)) (hlk : meth.locks = false) (hc : cells ≤ kc) (hs : slots ≤ ks) (hQ : Q none T.heap locs) : Gl p.tables e below (EndH s Z EL Q kc ks) (T.setTop (mkF m pc Ls [])) :=
  Gl.finH X hS hn hC (fun _ => rfl) hlk hc hs hQ fun _ hr => X.returnOut hx hret hd hr
theorem safe_nul {vm : Vm} {h : Heap} {x : Addr} (hal : Z.vm.Alike vm) (E : Exa Z h x "java/lang/String") (V : Fld Z h x "java/lang/String" "value" "[B" .null) : Safe Z EL vm h x := fun B => by
  obtain ⟨p, hp, u, a, hb, q, hqa, hS, hy⟩ := B
  obtain ⟨cS, ⟨⟨s1, s2, s3, ⟨cv, kv, iv, s4, s4'⟩, ⟨cc, kc, ic, s5, s5'⟩, s6, s7, s8, s9, s10, s11, s12, s13, s14, s15, s16⟩, hfS, hcS⟩, ⟨kS, k1, k2, k3⟩, hB, hbyt⟩ := hS
  rcases hy with rfl | rfl
  · obtain ⟨cell, cf, k, i, f, f1, f2, f3, f4, f5, f6, f7⟩ := V
    have e1 : cell = q.sC := Option.some.inj (f1.symm.trans s1)
    obtain ⟨kv', z4⟩ := ff_back (U := Wst Z vm h) hal s4
    cases f2.symm.trans z4
    rw [e1, s8] at f7
    cases f7
  · obtain ⟨cell, k, e1, e2, e3, e4, e5⟩ := E
    have e6 : cell = q.SA := Option.some.inj (e1.symm.trans s10)
    subst e6
    have hB' : Z.vm.findClass "[B" = some q.SA.cls := by rw [← hal.findClass]; exact hB
    obtain ⟨k1', a1, a2⟩ := Vm.findClass_spec e2
    obtain ⟨k2', b1, b2⟩ := Vm.findClass_spec hB'
    cases a1.symm.trans b1
    exact absurd (a2.symm.trans b2) (by decide)
/-- an object of a class whose superclass is the root is no instance of another class -/
theorem not_root {a0 : Array Value} {C O K : String} {n : Nat} (w : (Cond.superclass C O).before a0 Z = true) (wr : (Cond.noSuperclass O).before a0 Z = true) (wi : (Cond.instantiable K n).before a0 Z = true) (h1 : C ≠ K) (h2 : O ≠ K) : ∃ c t, Z.vm.findClass C = some c ∧ Z.vm.findClass K = some t ∧ Z.vm.assignable c t = false := by
  obtain ⟨t, kt, g1, g2, g3, g4, -⟩ := Cond.instantiable_spec wi
  obtain ⟨c, h0⟩ := found_sup w
  obtain ⟨p, k, kp, s1, s2, s3, s4, s5, s6, s7⟩ := Cond.superclass_spec h0 w
  obtain ⟨o, ko, o1, o2, o3, o4, o5⟩ := Cond.noSuperclass_spec wr
  have ne1 := ids_ne h0 g1 h1
  have ne2 := ids_ne o1 g1 h2
  have hi : kt.isInterface = false := by
    cases q : kt.isInterface with
    | false => rfl
    | true => rw [q] at g4; simp at g4
  have n0 : NS Z O K := ⟨o, t, o1, g1, fun fuel => by
    cases fuel with
    | zero => rfl
    | succ f => simp [Vm.isSubclassAux, ne2, o2, o3]⟩
  obtain ⟨c', t', a1, a2, n3⟩ := NS.step w n0 h1
  cases h0.symm.trans a1
  cases g1.symm.trans a2
  refine ⟨c, t, h0, g1, ?_⟩
  show Z.vm.assignableAux (255 + 1) c t = false
  simp [Vm.assignableAux, ne1, s2, g2, s5, g3, hi, Vm.isSubclass, n3]
end OwnKit
end Jvm.RoadKit
namespace Jvm.RoadKit
open Sem ClassFile Op Lib Jvm.Stand Jvm.Free Jvm.LawKit
theorem n32_int {i : Nat} (h : i < 2147483648) : (Int32.ofNat i).toInt = i := Int32.toInt_ofNat_small h
theorem n32_lt {i j : Nat} (hi : i < 2147483648) (hj : j < 2147483648) : (Int32.ofNat i < Int32.ofNat j) ↔ i < j := by
  rw [Int32.lt_iff_toInt_lt, n32_int hi, n32_int hj]; omega
theorem n32_plt {i j : Nat} (h : i < j) (hj : j < 2147483648) : Int32.ofNat i < Int32.ofNat j := (n32_lt (by omega) hj).mpr h
theorem n32_nlt {i j : Nat} (h : ¬ i < j) (hi : i < 2147483648) (hj : j < 2147483648) : ¬ (Int32.ofNat i < Int32.ofNat j) := fun q => h ((n32_lt hi hj).mp q)
theorem n32_nn {i : Nat} (hi : i < 2147483648) : ¬ (Int32.ofNat i < (0 : Int32)) := by
  rw [Int32.lt_iff_toInt_lt, n32_int hi]
  have e : (0 : Int32).toInt = 0 := rfl
  omega
theorem n32_eq {i j : Nat} (hi : i < 2147483648) (hj : j < 2147483648) : (Int32.ofNat i = Int32.ofNat j) ↔ i = j :=
  ⟨fun q => by have := congrArg Int32.toInt q; rw [n32_int hi, n32_int hj] at this; omega, fun q => q ▸ rfl⟩
theorem n32_eq0 {i : Nat} (hi : i < 2147483648) : (Int32.ofNat i = (0 : Int32)) ↔ i = 0 := n32_eq (j := 0) hi (by omega)
theorem n32_add (i j : Nat) : Int32.ofNat i + Int32.ofNat j = Int32.ofNat (i + j) := (Int32.ofNat_add i j).symm
theorem n32_inc (i : Nat) : Int32.ofNat i + (1 : Int32) = Int32.ofNat (i + 1) := n32_add i 1
theorem n32_sub {i j : Nat} (h : j ≤ i) : Int32.ofNat i - Int32.ofNat j = Int32.ofNat (i - j) := by
  have e : Int32.ofNat i = Int32.ofNat (i - j) + Int32.ofNat j := by rw [n32_add]; congr 1; omega
  rw [e, Int32.add_sub_cancel]
theorem n32_cl {i : Nat} (h : i < 2147483648) : (Int32.ofNat i).toNatClampNeg = i := by
  simp only [Int32.toNatClampNeg, n32_int h]; omega
/-- the low byte, and back -/
theorem lo_back {c : Int32} (h0 : ¬ c < 0) (h1 : ¬ (255 : Int32) < c) : c.toInt8.toInt32 &&& 255 = c := by
  rw [Int32.lt_iff_toInt_lt] at h0 h1
  have e0 : (0 : Int32).toInt = 0 := rfl
  have e1 : (255 : Int32).toInt = 255 := rfl
  obtain ⟨j, rfl⟩ : ∃ j : Fin 256, c = Int32.ofNat j.val := ⟨⟨c.toInt.toNat, by omega⟩, Int32.toInt_inj.mp (by rw [n32_int (by show c.toInt.toNat < _; omega)]; show c.toInt = ((c.toInt.toNat : Nat) : Int); omega)⟩
  exact (by decide +kernel : ∀ j : Fin 256, (Int32.ofNat j.val).toInt8.toInt32 &&& 255 = Int32.ofNat j.val) j
theorem lo_inj {c d : Int32} (h0 : ¬ c < 0) (h1 : ¬ (255 : Int32) < c) (k0 : ¬ d < 0) (k1 : ¬ (255 : Int32) < d) (e : c.toInt8.toInt32 = d.toInt8.toInt32) : c = d := by
  rw [← lo_back h0 h1, ← lo_back k0 k1, e]
theorem lo_get {cs : List Int32} {i : Nat} (hi : i < cs.length) : (((cs.map (fun c => c.toInt8.toInt32)).map Value.int).getD i (.int 0)) = .int ((cs.getD i 0).toInt8.toInt32) := by
  simp [List.getD_eq_getElem?_getD, hi]
theorem mem_get {P : Int32 → Prop} {cs : List Int32} (h : ∀ c ∈ cs, P c) {i : Nat} (hi : i < cs.length) : P (cs.getD i 0) := by
  have e : cs.getD i 0 = cs[i] := by simp [List.getD_eq_getElem?_getD, hi]
  rw [e]; exact h _ (List.getElem_mem hi)
def Rng (cs : List Int32) : Prop := ∀ c ∈ cs, ¬ c < 0 ∧ ¬ (255 : Int32) < c
theorem Rng.sub {cs : List Int32} (h : Rng cs) (x d : Nat) : Rng ((cs.drop x).take d) := fun c hc => h c (List.mem_of_mem_drop (List.mem_of_mem_take hc))
/-- the first place from i on -/
def First (q : Int32) (cs : List Int32) (i r : Nat) : Prop := i ≤ r ∧ r < cs.length ∧ cs.getD r 0 = q ∧ ∀ k, i ≤ k → k < r → ¬ cs.getD k 0 = q
def Nowhere (q : Int32) (cs : List Int32) (i : Nat) : Prop := ∀ k, i ≤ k → k < cs.length → ¬ cs.getD k 0 = q
theorem own_copied {cs : List Int32} {x d : Nat} (h : x + d ≤ cs.length) : ∀ i, ((((cs.drop x).take d).map (fun c => c.toInt8.toInt32)).map Value.int).getD i (.int 0) = ((([] ++ List.replicate d (Value.int (0 : Int32))).take 0) ++ ((List.range d).map fun i => (((cs.map (fun c => c.toInt8.toInt32)).map Value.int).getD (x + i) (.int 0))) ++ (([] ++ List.replicate d (Value.int (0 : Int32))).drop (0 + d))).getD i (.int 0) := by
  intro i
  by_cases hi : i < d
  · have hl : x + i < cs.length := by omega
    simp [List.getD_eq_getElem?_getD, hi, hl, List.getElem?_append, List.getElem?_take, List.getElem?_drop]
  · simp [List.getD_eq_getElem?_getD, hi, List.getElem?_append, List.getElem?_take, List.getElem?_drop]
end Jvm.RoadKit
namespace Jvm.RoadKit
open Sem ClassFile Op Lib Jvm.Stand Jvm.Free Jvm.LawKit
theorem first_here {q : Int32} {cs : List Int32} : First q (q :: cs) 0 0 := ⟨Nat.le_refl _, by simp, rfl, fun k _ h => absurd h (by omega)⟩
theorem first_cons {q c : Int32} {cs : List Int32} {r : Nat} (h : ¬ c = q) (F : First q cs 0 r) : First q (c :: cs) 0 (r + 1) := by
  obtain ⟨-, h2, h3, h4⟩ := F
  refine ⟨by omega, by simp; omega, h3, fun k _ hk => ?_⟩
  cases k with
  | zero => exact h
  | succ k => exact h4 k (by omega) (by omega)
theorem nowhere_nil {q : Int32} : Nowhere q [] 0 := fun k _ h => absurd h (by simp)
theorem nowhere_cons {q c : Int32} {cs : List Int32} (h : ¬ c = q) (F : Nowhere q cs 0) : Nowhere q (c :: cs) 0 := fun k _ hk => by
  cases k with
  | zero => exact h
  | succ k => exact F k (by omega) (by simpa using hk)
theorem first_no {q : Int32} {cs : List Int32} {i r : Nat} (F : First q cs i r) (N : Nowhere q cs i) : False := N r F.1 F.2.1 F.2.2.1
theorem first_uniq {q : Int32} {cs : List Int32} {i r r' : Nat} (F : First q cs i r) (G : First q cs i r') : r = r' := by
  rcases Nat.lt_trichotomy r r' with h | h | h
  · exact absurd F.2.2.1 (G.2.2.2 r F.1 h)
  · exact h
  · exact absurd G.2.2.1 (F.2.2.2 r' G.1 h)
theorem ds_len {cs ds : List Int32} {x : Nat} (h : ds = (cs.drop x).take (cs.length - x)) : ds.length = cs.length - x := by rw [h]; simp
theorem ds_get {cs ds : List Int32} {x d : Nat} (h : ds = (cs.drop x).take d) {j : Nat} (hj : j < ds.length) : ds.getD j 0 = cs.getD (x + j) 0 := by
  subst h
  have hj' : j < d ∧ x + j < cs.length := by simp at hj; omega
  simp [List.getD_eq_getElem?_getD, List.getElem?_take, List.getElem?_drop, hj'.1]
end Jvm.RoadKit
namespace Jvm.RoadKit
open Sem ClassFile Op Lib Jvm.Stand Jvm.Free Jvm.LawKit
theorem ex_first {q : Int32} {cs : List Int32} : ∀ (d i : Nat), (i + d < cs.length) → cs.getD (i + d) 0 = q → ∃ r, First q cs i r ∧ r ≤ i + d
  | 0, i, h, e => ⟨i, ⟨Nat.le_refl _, h, e, fun k h1 h2 => absurd h2 (by omega)⟩, Nat.le_refl _⟩
  | d + 1, i, h, e => by
    by_cases c : cs.getD i 0 = q
    · exact ⟨i, ⟨Nat.le_refl _, by omega, c, fun k h1 h2 => absurd h2 (by omega)⟩, by omega⟩
    · obtain ⟨r, F, hr⟩ := ex_first (q := q) (cs := cs) d (i + 1) (by omega) (by rw [show i + 1 + d = i + (d + 1) by omega]; exact e)
      exact ⟨r, ⟨by have := F.1; omega, F.2.1, F.2.2.1, fun k h1 h2 => by
        by_cases z : k = i
        · rw [z]; exact c
        · exact F.2.2.2 k (by omega) h2⟩, by omega⟩
def Chr (ch : Int32) : Prop := ¬ ch < 0 ∧ ¬ (255 : Int32) < ch
/-- no place from i to k - 1 holds q -/
def Upto (q : Int32) (cs : List Int32) (i k : Nat) : Prop := ∀ j, i ≤ j → j < k → ¬ cs.getD j 0 = q
theorem upto_0 {q : Int32} {cs : List Int32} {i : Nat} : Upto q cs i 0 := fun j _ h => absurd h (by omega)
theorem upto_lt {q : Int32} {cs : List Int32} {i k : Nat} (U : Upto q cs i k) (h : k < i) : Upto q cs i (k + 1) := fun j h1 h2 => absurd h2 (by omega)
theorem upto_ne {q : Int32} {cs : List Int32} {i k : Nat} (U : Upto q cs i k) (h : ¬ cs.getD k 0 = q) : Upto q cs i (k + 1) := fun j h1 h2 => by
  by_cases z : j = k
  · rw [z]; exact h
  · exact U j h1 (by omega)
end Jvm.RoadKit
/- laws to paste: Road.backV, Road.lenW, Road.chN, Road.eqW, Road.codOf (cut by pick.py; bodies as the Statement names them) -/
namespace Jvm.Pilot.@@N@@
namespace StrChars
open Jvm Sem ClassFile Op Lib Jvm.Stand Jvm.Free.XT Jvm.Free.ALB Jvm.Free.JM Jvm.Free
open Jvm.Lib.Cold (StaticIs)
/-- a char array whose places are chars -/
def Ch (a : Addr) (A : Cell) (U : State) : Prop := Arr .char a A U ∧ Typed .char A
theorem Ch.mv {a : Addr} {A : Cell} {U U' : State} (h : Ch a A U) (hal : U.vm.Alike U'.vm) (hh : U'.heap = U.heap) : Ch a A U' := ⟨h.1.mv hal hh, h.2⟩
theorem Ch.keep {a : Addr} {A : Cell} {U U' : State} (h : Ch a A U) (hal : U.vm.Alike U'.vm) (hk : U'.heap[a]? = some A) : Ch a A U' := ⟨h.1.keep hal hk, h.2⟩
/-- what place i of a char[]'s cell holds -/
def cv (A : Cell) (i : Nat) : Int32 := match A.slots[i]? with | some (.int x) => x | _ => 0
theorem Ch.get {a : Addr} {A : Cell} {U : State} (h : Ch a A U) {i : Nat} (hi : i < A.slots.size) : A.slots[i]? = some (.int (cv A i)) := by
  have e := Array.getElem?_eq_getElem hi
  have f := h.2 i _ e
  unfold cv; rw [e]
  generalize A.slots[i] = v at f
  cases v <;> simp [fits] at f ⊢
/-- the byte that i2b leaves of a char -/
def lo8 (x : Int32) : Int32 := x.toInt8.toInt32
theorem fits_lo8 (y : Int32) : fits .byte (.int (lo8 y)) = true := by
  have h1 := y.toInt8.le_toInt
  have h2 := y.toInt8.toInt_lt
  simp only [lo8, fits, Bool.and_eq_true, decide_eq_true_eq, Int32.le_iff_toInt_le, Int8.toInt_toInt32, show (-128 : Int32).toInt = -128 from by decide, show (127 : Int32).toInt = 127 from by decide]
  omega
/-- A' is A but that each place j of lo .. hi - 1 holds f j -/
def Laid (A A' : Cell) (lo hi : Nat) (f : Nat → Value) : Prop := A'.cls = A.cls ∧ A'.vm = A.vm ∧ A'.slots.size = A.slots.size ∧ ∀ i, A'.slots[i]? = if lo ≤ i ∧ i < hi then some (f i) else A.slots[i]?
theorem Laid.zero (A : Cell) (lo : Nat) (f : Nat → Value) : Laid A A lo (lo + 0) f := ⟨rfl, rfl, rfl, fun i => by rw [if_neg (by omega)]⟩
theorem Laid.step {A Ak : Cell} {lo k : Nat} {f : Nat → Value} {v : Value} (h : Laid A Ak lo k f) (hlo : lo ≤ k) (hk : k < Ak.slots.size) (hv : v = f k) : Laid A (Ak.setSlot k v) lo (k + 1) f := by
  refine ⟨h.1, h.2.1, by simpa [Cell.setSlot] using h.2.2.1, fun i => ?_⟩
  by_cases e : k = i
  · subst e; rw [Cell.slots_setSlot_self v hk, if_pos (by omega), hv]
  · rw [Cell.slots_setSlot_ne v e, h.2.2.2 i]
    by_cases q : lo ≤ i ∧ i < k
    · rw [if_pos q, if_pos (by omega)]
    · rw [if_neg q, if_neg (by omega)]
def U16 : String := "java/lang/StringUTF16"
namespace Cmp5
def yN : MethodName := ⟨"java/lang/StringUTF16", "compress", "([CI[BII)I"⟩
abbrev yB : ByteArray := jdk_52_method_21_code
theorem d0 : decode yB 0 = .ok (.iconst 0, 1) := by decide +kernel
theorem d1 : decode yB 1 = .ok (.istore 5, 2) := by decide +kernel
theorem d3 : decode yB 3 = .ok (.iload 5, 2) := by decide +kernel
theorem d5 : decode yB 5 = .ok (.iload 4, 2) := by decide +kernel
theorem d7 : decode yB 7 = .ok (.if_icmp (.ge) 37, 3) := by decide +kernel
theorem d10 : decode yB 10 = .ok (.aload_n 0, 1) := by decide +kernel
theorem d11 : decode yB 11 = .ok (.iload_n 1, 1) := by decide +kernel
theorem d12 : decode yB 12 = .ok (.caload, 1) := by decide +kernel
theorem d13 : decode yB 13 = .ok (.istore 6, 2) := by decide +kernel
theorem d15 : decode yB 15 = .ok (.iload 6, 2) := by decide +kernel
theorem d17 : decode yB 17 = .ok (.sipush 255, 3) := by decide +kernel
theorem d20 : decode yB 20 = .ok (.if_icmp (.le) 6, 3) := by decide +kernel
theorem d26 : decode yB 26 = .ok (.aload_n 2, 1) := by decide +kernel
theorem d27 : decode yB 27 = .ok (.iload_n 3, 1) := by decide +kernel
theorem d28 : decode yB 28 = .ok (.iload 6, 2) := by decide +kernel
theorem d30 : decode yB 30 = .ok (.i2b, 1) := by decide +kernel
theorem d31 : decode yB 31 = .ok (.bastore, 1) := by decide +kernel
theorem d32 : decode yB 32 = .ok (.iinc 1 1, 3) := by decide +kernel
theorem d35 : decode yB 35 = .ok (.iinc 3 1, 3) := by decide +kernel
theorem d38 : decode yB 38 = .ok (.iinc 5 1, 3) := by decide +kernel
theorem d41 : decode yB 41 = .ok (.goto (-38), 3) := by decide +kernel
theorem d44 : decode yB 44 = .ok (.iload 4, 2) := by decide +kernel
theorem d46 : decode yB 46 = .ok (.ireturn, 1) := by decide +kernel
def site : List Cond := []
def tab : Cond := tabOf yN yB 7 (some .int) site
def P (b : Addr) (A : Cell) (d : Addr) (B : Cell) (o q len : Nat) (args : Array Value) (s : State) : Prop := args = #[.ref b, .int (Int32.ofNat o), .ref d, .int (Int32.ofNat q), .int (Int32.ofNat len)] ∧ Ch b A s ∧ Arr .byte d B s ∧ b ≠ d ∧ o + len ≤ A.slots.size ∧ q + len ≤ B.slots.size ∧ ∀ i, i < len → ¬ 255 < cv A (o + i)
def E (b : Addr) (A : Cell) (d : Addr) (B : Cell) (o q len : Nat) (r : Option Value) (s u : State) : Prop := r = some (.int (Int32.ofNat len)) ∧ ∃ B', Put d B' s u ∧ Laid B B' q (q + len) (fun j => Value.int (lo8 (cv A (o + (j - q)))))
/-- no char of the range above 255: len; the places written hold each char's low byte -/
theorem law (l : Launch) (b : Addr) (A : Cell) (d : Addr) (B : Cell) (o q len : Nat) : Law l yN 5 5 0 0 yB 7 (some .int) site (P b A d B o q len) (E b A d B o q len) (copyLocs d q len) 0 0 := by
  refine Law.of_walk (plainFor_of_name (by decide +kernel)) (by decide +kernel) (by decide +kernel) (by decide) (fun _ _ h => by rw [h.1]; rfl) (fun _ U U' hal hh h => ⟨h.1, h.2.1.mv hal hh, h.2.2.1.mv hal hh, h.2.2.2⟩) (fun r U U' V V' h1 hal h2 h => ⟨h.1, h.2.elim fun B' q => ⟨B', q.1.mv h1 h2, q.2⟩⟩) ?_
  intro p e s m args below meth c s₁ X0 hexec hbytes hml hret hlk hnm hown hh0 W hP
  obtain ⟨rfl, hA, hB, hne, l1, l2, hp⟩ := hP
  have c1 : Steps p.tables e below (s₁.setTop (entryFrame m #[.ref b, .int (Int32.ofNat o), .ref d, .int (Int32.ofNat q), .int (Int32.ofNat len)] 7)) (s₁.setTop (mkF m 0 #[.val (.ref b), .val (.int (Int32.ofNat o)), .val (.ref d), .val (.int (Int32.ofNat q)), .val (.int (Int32.ofNat len)), .unset, .unset] [])) := entry rfl
  have hA0 := hA.1.mv X0.warmed.alike hh0
  have hB0 := hB.mv X0.warmed.alike hh0
  have a31 := hA.1.2.2.2
  have c2 : Steps p.tables e below (s₁.setTop (entryFrame m #[.ref b, .int (Int32.ofNat o), .ref d, .int (Int32.ofNat q), .int (Int32.ofNat len)] 7)) (s₁.setTop (mkF m 3 #[.val (.ref b), .val (.int (Int32.ofNat o)), .val (.ref d), .val (.int (Int32.ofNat q)), .val (.int (Int32.ofNat len)), .val (.int 0), .unset] [])) := c1.trans (by
    refine iconstV X0.here hexec rfl 0 (hb hbytes d0) (by decide) ?_
    refine XS.istore X0.here hexec rfl (hb hbytes d1) rfl rfl ?_
    exact Steps.refl _)
  have loop : ∀ (r i : Nat), i + r = len → ∀ (z : Slot), (z = .unset ∨ ∃ w, z = .val w ∧ w.category = 1) → ∀ (Tl : State) (Bk : Cell), Stand p l e { frames := 0, locals := 0, cells := 0, slots := 0 } s m #[.ref b, .int (Int32.ofNat o), .ref d, .int (Int32.ofNat q), .int (Int32.ofNat len)] below meth c Tl ([] ++ copyLocs d q i) 0 0 → Put d Bk s₁ Tl → Laid B Bk q (q + i) (fun j => Value.int (lo8 (cv A (o + (j - q))))) →
      Steps p.tables e below (s₁.setTop (entryFrame m #[.ref b, .int (Int32.ofNat o), .ref d, .int (Int32.ofNat q), .int (Int32.ofNat len)] 7)) (Tl.setTop (mkF m 3 #[.val (.ref b), .val (.int (Int32.ofNat (o + i))), .val (.ref d), .val (.int (Int32.ofNat (q + i))), .val (.int (Int32.ofNat len)), .val (.int (Int32.ofNat i)), z] [])) → ∃ (T' : State) (B' : Cell) (z' : Slot), Stand p l e { frames := 0, locals := 0, cells := 0, slots := 0 } s m #[.ref b, .int (Int32.ofNat o), .ref d, .int (Int32.ofNat q), .int (Int32.ofNat len)] below meth c T' ([] ++ copyLocs d q len) 0 0 ∧ Put d B' s₁ T' ∧ Laid B B' q (q + len) (fun j => Value.int (lo8 (cv A (o + (j - q))))) ∧
      Steps p.tables e below (s₁.setTop (entryFrame m #[.ref b, .int (Int32.ofNat o), .ref d, .int (Int32.ofNat q), .int (Int32.ofNat len)] 7)) (T'.setTop (mkF m 3 #[.val (.ref b), .val (.int (Int32.ofNat (o + len))), .val (.ref d), .val (.int (Int32.ofNat (q + len))), .val (.int (Int32.ofNat len)), .val (.int (Int32.ofNat len)), z'] [])) := by
    intro r
    induction r with
    | zero =>
      intro i hi z hz Tl Bk Xl pl fl cl
      have hil : i = len := by omega
      rw [hil] at Xl fl cl
      exact ⟨Tl, Bk, z, Xl, pl, fl, cl⟩
    | succ r ih =>
      intro i hi z hz Tl Bk Xl pl fl cl
      have all := X0.warmed.alike.symm.trans Xl.warmed.alike
      have hAl := hA0.keep all (pl.other hne hA0.1)
      have hBk := hB0.like all pl.1 fl.1 fl.2.1 fl.2.2.1
      have hlt : q + i < Bk.slots.size := by rw [fl.2.2.1]; omega
      have c3 : Steps p.tables e below (s₁.setTop (entryFrame m #[.ref b, .int (Int32.ofNat o), .ref d, .int (Int32.ofNat q), .int (Int32.ofNat len)] 7)) (Tl.setTop (mkF m 12 #[.val (.ref b), .val (.int (Int32.ofNat (o + i))), .val (.ref d), .val (.int (Int32.ofNat (q + i))), .val (.int (Int32.ofNat len)), .val (.int (Int32.ofNat i)), z] [.int (Int32.ofNat (o + i)), .ref b])) := cl.trans (by
        refine XS.iload Xl.here hexec rfl (hb hbytes d3) rfl ?_
        refine XS.iload Xl.here hexec rfl (hb hbytes d5) rfl ?_
        refine XS.icmpNo Xl.here hexec rfl (hb hbytes d7) rfl (ii_ge_f (lt32 (by omega) (by omega))) ?_
        refine XS.aloadN Xl.here hexec rfl (hb hbytes d10) rfl rfl ?_
        refine XS.iloadN Xl.here hexec rfl (hb hbytes d11) rfl ?_
        exact Steps.refl _)
      have c4 : Steps p.tables e below (s₁.setTop (entryFrame m #[.ref b, .int (Int32.ofNat o), .ref d, .int (Int32.ofNat q), .int (Int32.ofNat len)] 7)) (Tl.setTop (mkF m 13 #[.val (.ref b), .val (.int (Int32.ofNat (o + i))), .val (.ref d), .val (.int (Int32.ofNat (q + i))), .val (.int (Int32.ofNat len)), .val (.int (Int32.ofNat i)), z] [.int (cv A (o + i))])) := c3.trans (by
        refine Xl.aget hexec hAl rfl (hA.get (i := o + i) (by omega)) rfl rfl (hb hbytes d12) ?_
        exact Steps.refl _)
      have c5 : Steps p.tables e below (s₁.setTop (entryFrame m #[.ref b, .int (Int32.ofNat o), .ref d, .int (Int32.ofNat q), .int (Int32.ofNat len)] 7)) (Tl.setTop (mkF m 15 #[.val (.ref b), .val (.int (Int32.ofNat (o + i))), .val (.ref d), .val (.int (Int32.ofNat (q + i))), .val (.int (Int32.ofNat len)), .val (.int (Int32.ofNat i)), .val (.int (cv A (o + i)))] [])) := c4.trans (by
        refine XS.istoreS Xl.here hexec rfl (hb hbytes d13) rfl rfl hz ?_
        exact Steps.refl _)
      have c6 : Steps p.tables e below (s₁.setTop (entryFrame m #[.ref b, .int (Int32.ofNat o), .ref d, .int (Int32.ofNat q), .int (Int32.ofNat len)] 7)) (Tl.setTop (mkF m 31 #[.val (.ref b), .val (.int (Int32.ofNat (o + i))), .val (.ref d), .val (.int (Int32.ofNat (q + i))), .val (.int (Int32.ofNat len)), .val (.int (Int32.ofNat i)), .val (.int (cv A (o + i)))] [.int (lo8 (cv A (o + i))), .int (Int32.ofNat (q + i)), .ref d])) := c5.trans (by
        refine XS.iload Xl.here hexec rfl (hb hbytes d15) rfl ?_
        refine sipushV Xl.here hexec rfl 255 (hb hbytes d17) (by decide) ?_
        refine XS.icmpYes Xl.here hexec rfl (pc0 := 20) rfl (hb hbytes d20) rfl (ii_le_t (hp i (by omega))) (by decide) rfl ?_
        refine XS.aloadN Xl.here hexec rfl (hb hbytes d26) rfl rfl ?_
        refine XS.iloadN Xl.here hexec rfl (hb hbytes d27) rfl ?_
        refine XS.iload Xl.here hexec rfl (hb hbytes d28) rfl ?_
        refine i2b Xl.here hexec rfl (hb hbytes d30) rfl ?_
        exact Steps.refl _)
      obtain ⟨T7, X7, p7, st7⟩ := Xl.aput hexec hBk rfl hlt rfl (fits_lo8 (cv A (o + i))) (g := (mkF m 31 #[.val (.ref b), .val (.int (Int32.ofNat (o + i))), .val (.ref d), .val (.int (Int32.ofNat (q + i))), .val (.int (Int32.ofNat len)), .val (.int (Int32.ofNat i)), .val (.int (cv A (o + i)))] [.int (lo8 (cv A (o + i))), .int (Int32.ofNat (q + i)), .ref d])) rfl (rest := []) rfl (hb hbytes d31)
      have c8 : Steps p.tables e below (s₁.setTop (entryFrame m #[.ref b, .int (Int32.ofNat o), .ref d, .int (Int32.ofNat q), .int (Int32.ofNat len)] 7)) (T7.setTop (mkF m 32 #[.val (.ref b), .val (.int (Int32.ofNat (o + i))), .val (.ref d), .val (.int (Int32.ofNat (q + i))), .val (.int (Int32.ofNat len)), .val (.int (Int32.ofNat i)), .val (.int (cv A (o + i)))] [])) := c6.trans (st7 _ (Steps.refl _))
      have c9 : Steps p.tables e below (s₁.setTop (entryFrame m #[.ref b, .int (Int32.ofNat o), .ref d, .int (Int32.ofNat q), .int (Int32.ofNat len)] 7)) (T7.setTop (mkF m 3 #[.val (.ref b), .val (.int (Int32.ofNat (o + i) + 1)), .val (.ref d), .val (.int (Int32.ofNat (q + i) + 1)), .val (.int (Int32.ofNat len)), .val (.int (Int32.ofNat i + 1)), .val (.int (cv A (o + i)))] [])) := c8.trans (by
        refine iincV X7.here hexec rfl 1 (hb hbytes d32) (by decide) rfl rfl ?_
        refine iincV X7.here hexec rfl 1 (hb hbytes d35) (by decide) rfl rfl ?_
        refine iincV X7.here hexec rfl 1 (hb hbytes d38) (by decide) rfl rfl ?_
        refine XS.goto X7.here hexec rfl (pc0 := 41) rfl (hb hbytes d41) (by decide) rfl ?_
        exact Steps.refl _)
      have c10 : Steps p.tables e below (s₁.setTop (entryFrame m #[.ref b, .int (Int32.ofNat o), .ref d, .int (Int32.ofNat q), .int (Int32.ofNat len)] 7)) (T7.setTop (mkF m 3 #[.val (.ref b), .val (.int (Int32.ofNat (o + (i + 1)))), .val (.ref d), .val (.int (Int32.ofNat (q + (i + 1)))), .val (.int (Int32.ofNat len)), .val (.int (Int32.ofNat (i + 1))), .val (.int (cv A (o + i)))] [])) := by
        have := c9
        rw [succ32, succ32, succ32] at this
        exact this
      exact ih (i + 1) (by omega) _ (Or.inr ⟨_, rfl, rfl⟩) T7 _ (by rw [copyLocs_step, ← List.append_assoc]; exact X7) (pl.trans p7) (fl.step (by omega) hlt (by simp)) c10
  obtain ⟨T9, B9, z9, X9, p9, f9, g9⟩ := loop len 0 (by omega) .unset (Or.inl rfl) s₁ B (by simpa [copyLocs] using X0) ⟨hB0.1, fun _ _ => rfl, rfl⟩ (Laid.zero _ _ _) c2
  have c11 : Steps p.tables e below (s₁.setTop (entryFrame m #[.ref b, .int (Int32.ofNat o), .ref d, .int (Int32.ofNat q), .int (Int32.ofNat len)] 7)) (T9.setTop (mkF m 46 #[.val (.ref b), .val (.int (Int32.ofNat (o + len))), .val (.ref d), .val (.int (Int32.ofNat (q + len))), .val (.int (Int32.ofNat len)), .val (.int (Int32.ofNat len)), z9] [.int (Int32.ofNat len)])) := g9.trans (by
    refine XS.iload X9.here hexec rfl (hb hbytes d3) rfl ?_
    refine XS.iload X9.here hexec rfl (hb hbytes d5) rfl ?_
    refine XS.icmpYes X9.here hexec rfl (pc0 := 7) rfl (hb hbytes d7) rfl (ii_ge_t (nlt32 (by omega) (Nat.le_refl _))) (by decide) rfl ?_
    refine XS.iload X9.here hexec rfl (hb hbytes d44) rfl ?_
    exact Steps.refl _)
  exact ⟨T9, some (.int (Int32.ofNat len)), _, _, _, X9, by simp, rfl, rfl, (fun h => by cases h), ⟨rfl, B9, p9.from hh0, f9⟩, fun fs hl => c11.trans (X9.ireturnOut hexec hret rfl (Or.inl rfl) (hb hbytes d46) hl)⟩
end Cmp5
namespace Cmp3
def yN : MethodName := ⟨"java/lang/StringUTF16", "compress", "([CII)[B"⟩
abbrev yB : ByteArray := jdk_52_method_16_code
theorem d0 : decode yB 0 = .ok (.iload_n 2, 1) := by decide +kernel
theorem d1 : decode yB 1 = .ok (.newarray .byte, 2) := by decide +kernel
theorem d3 : decode yB 3 = .ok (.astore_n 3, 1) := by decide +kernel
theorem d4 : decode yB 4 = .ok (.aload_n 0, 1) := by decide +kernel
theorem d5 : decode yB 5 = .ok (.iload_n 1, 1) := by decide +kernel
theorem d6 : decode yB 6 = .ok (.aload_n 3, 1) := by decide +kernel
theorem d7 : decode yB 7 = .ok (.iconst 0, 1) := by decide +kernel
theorem d8 : decode yB 8 = .ok (.iload_n 2, 1) := by decide +kernel
theorem d9 : decode yB 9 = .ok (.invokestatic 115, 3) := by decide +kernel
theorem d12 : decode yB 12 = .ok (.istore 4, 2) := by decide +kernel
theorem d14 : decode yB 14 = .ok (.iload 4, 2) := by decide +kernel
theorem d16 : decode yB 16 = .ok (.iload_n 2, 1) := by decide +kernel
theorem d17 : decode yB 17 = .ok (.if_icmp (.eq) 40, 3) := by decide +kernel
theorem d57 : decode yB 57 = .ok (.aload_n 3, 1) := by decide +kernel
theorem d58 : decode yB 58 = .ok (.areturn, 1) := by decide +kernel
def site : List Cond := [.arrayClass .byte, Cmp5.tab] ++ staticW U16 115 Cmp5.yN
def tab : Cond := tabOf yN yB 6 (some (.array .byte)) site
def P (b : Addr) (A : Cell) (o len : Nat) (args : Array Value) (s : State) : Prop := args = #[.ref b, .int (Int32.ofNat o), .int (Int32.ofNat len)] ∧ Ch b A s ∧ o + len ≤ A.slots.size ∧ len ≤ 536870912 ∧ ∀ i, i < len → ¬ 255 < cv A (o + i)
def E (b : Addr) (A : Cell) (o len : Nat) (r : Option Value) (s u : State) : Prop := NewArr .byte "[B" len (fun j => .int (lo8 (cv A (o + j)))) r s u ∧ u.heap.size = s.heap.size + 1
/-- no char of the range above 255: a new byte[] of their low bytes -/
theorem law (l : Launch) (b : Addr) (A : Cell) (o len : Nat) : Law l yN 3 3 1 18 yB 6 (some (.array .byte)) site (P b A o len) (E b A o len) [] 1 len := by
  refine Law.of_walk (plainFor_of_name (by decide +kernel)) (by decide +kernel) (by decide +kernel) (by decide) (fun _ _ h => by rw [h.1]; rfl) (fun _ U U' hal hh h => ⟨h.1, h.2.1.mv hal hh, h.2.2⟩) (fun r U U' V V' h1 hal h2 h => ⟨NewArr.mv r U U' V V' h1 hal h2 h.1, by rw [h1, h2]; exact h.2⟩) ?_
  intro p e s m args below meth c s₁ X0 hexec hbytes hml hret hlk hnm hown hh0 W hP
  obtain ⟨rfl, hA, l1, l2, hp⟩ := hP
  have a31 := hA.1.2.2.2
  have c1 : Steps p.tables e below (s₁.setTop (entryFrame m #[.ref b, .int (Int32.ofNat o), .int (Int32.ofNat len)] 6)) (s₁.setTop (mkF m 0 #[.val (.ref b), .val (.int (Int32.ofNat o)), .val (.int (Int32.ofNat len)), .unset, .unset, .unset] [])) := entry rfl
  have c2 : Steps p.tables e below (s₁.setTop (entryFrame m #[.ref b, .int (Int32.ofNat o), .int (Int32.ofNat len)] 6)) (s₁.setTop (mkF m 1 #[.val (.ref b), .val (.int (Int32.ofNat o)), .val (.int (Int32.ofNat len)), .unset, .unset, .unset] [.int (Int32.ofNat len)])) := c1.trans (by
    refine XS.iloadN X0.here hexec rfl (hb hbytes d0) rfl ?_
    exact Steps.refl _)
  obtain ⟨T3, B3, X3, ba3, bs3, bv3, bh3, bf3, st3⟩ := X0.anew hexec (atype := .byte) (wk W (.arrayClass .byte)) rfl (by show len * 1 ≤ _; omega) (by omega) (g := (mkF m 1 #[.val (.ref b), .val (.int (Int32.ofNat o)), .val (.int (Int32.ofNat len)), .unset, .unset, .unset] [.int (Int32.ofNat len)])) rfl (hb hbytes d1) (rest := []) rfl (Nat.le_refl _) (by show 0 + len ≤ len; omega)
  rw [hh0] at ba3 st3
  have kp3 : XT.Kept s T3 := (XT.Kept.of_eq hh0).push bh3
  have hA3 := hA.keep X3.warmed.alike (kp3 _ _ hA.1.1)
  have hne : b ≠ s.heap.size := hA.1.ne
  have c4 : Steps p.tables e below (s₁.setTop (entryFrame m #[.ref b, .int (Int32.ofNat o), .int (Int32.ofNat len)] 6)) (T3.setTop (mkF m 3 #[.val (.ref b), .val (.int (Int32.ofNat o)), .val (.int (Int32.ofNat len)), .unset, .unset, .unset] [.ref s.heap.size])) := c2.trans (st3 _ (Steps.refl _))
  have c5 : Steps p.tables e below (s₁.setTop (entryFrame m #[.ref b, .int (Int32.ofNat o), .int (Int32.ofNat len)] 6)) (T3.setTop (mkF m 9 #[.val (.ref b), .val (.int (Int32.ofNat o)), .val (.int (Int32.ofNat len)), .val (.ref s.heap.size), .unset, .unset] [.int (Int32.ofNat len), .int 0, .ref s.heap.size, .int (Int32.ofNat o), .ref b])) := c4.trans (by
    refine XS.astoreN X3.here hexec rfl (hb hbytes d3) rfl rfl rfl ?_
    refine XS.aloadN X3.here hexec rfl (hb hbytes d4) rfl rfl ?_
    refine XS.iloadN X3.here hexec rfl (hb hbytes d5) rfl ?_
    refine XS.aloadN X3.here hexec rfl (hb hbytes d6) rfl rfl ?_
    refine iconstV X3.here hexec rfl 0 (hb hbytes d7) (by decide) ?_
    refine XS.iloadN X3.here hexec rfl (hb hbytes d8) rfl ?_
    exact Steps.refl _)
  obtain ⟨v6, T6, X6, E6, g6⟩ := X3.callS hexec (Cmp5.law l b A s.heap.size B3 o 0 len) hown (wks W (staticW U16 115 Cmp5.yN)) (wk W Cmp5.tab) (W := 0) (Nat.le_of_ble_eq_true rfl) (Nat.le_of_ble_eq_true rfl) (Nat.le_refl _) (by show 0 + len + 0 ≤ len; omega) (g := (mkF m 9 #[.val (.ref b), .val (.int (Int32.ofNat o)), .val (.int (Int32.ofNat len)), .val (.ref s.heap.size), .unset, .unset] [.int (Int32.ofNat len), .int (Int32.ofNat 0), .ref s.heap.size, .int (Int32.ofNat o), .ref b])) rfl (by rw [hml]; rfl) c5 (argsL := [.ref b, .int (Int32.ofNat o), .ref s.heap.size, .int (Int32.ofNat 0), .int (Int32.ofNat len)]) (rest := []) rfl rfl (by show 2 * 0 + 0 ≤ _; decide) (hb hbytes d9) (⟨rfl, hA3, ba3, hne, l1, by rw [bs3]; simp, hp⟩)
  obtain ⟨rfl, B6, p6, f6⟩ := E6
  have c7 : Steps p.tables e below (s₁.setTop (entryFrame m #[.ref b, .int (Int32.ofNat o), .int (Int32.ofNat len)] 6)) (T6.setTop (mkF m 12 #[.val (.ref b), .val (.int (Int32.ofNat o)), .val (.int (Int32.ofNat len)), .val (.ref s.heap.size), .unset, .unset] [.int (Int32.ofNat len)])) := g6
  have c8 : Steps p.tables e below (s₁.setTop (entryFrame m #[.ref b, .int (Int32.ofNat o), .int (Int32.ofNat len)] 6)) (T6.setTop (mkF m 58 #[.val (.ref b), .val (.int (Int32.ofNat o)), .val (.int (Int32.ofNat len)), .val (.ref s.heap.size), .val (.int (Int32.ofNat len)), .unset] [.ref s.heap.size])) := c7.trans (by
    refine XS.istore X6.here hexec rfl (hb hbytes d12) rfl rfl ?_
    refine XS.iload X6.here hexec rfl (hb hbytes d14) rfl ?_
    refine XS.iloadN X6.here hexec rfl (hb hbytes d16) rfl ?_
    refine XS.icmpYes X6.here hexec rfl (pc0 := 17) rfl (hb hbytes d17) rfl (ii_eq_t rfl) (by decide) rfl ?_
    refine XS.aloadN X6.here hexec rfl (hb hbytes d57) rfl rfl ?_
    exact Steps.refl _)
  have X8 := X6.wide (L' := []) (cells' := 1) (slots' := len) (fun x hx hlt => by
    simp only [List.nil_append, copyLocs, List.mem_map, List.mem_range] at hx
    obtain ⟨i, -, rfl⟩ := hx
    exact absurd hlt (Nat.lt_irrefl _)) (Nat.le_refl _) (by omega)
  exact ⟨T6, some (.ref s.heap.size), _, _, _, X8, rfl, rfl, rfl, (fun h => by cases h), ⟨⟨rfl, B6, ba3.like (X3.warmed.alike.symm.trans X6.warmed.alike) p6.1 f6.1 f6.2.1 f6.2.2.1, f6.2.1.trans bv3, by rw [X6.warmed.alike.findClass, f6.1]; exact bf3, by rw [f6.2.2.1, bs3]; simp, fun j hj => by rw [f6.2.2.2 j, if_pos (by omega)]; rfl, kp3.put p6 (Nat.le_refl _)⟩, by rw [p6.2.2, bh3, hh0]; simp⟩, fun fs hl => c8.trans (X8.areturnOut hexec rfl hret rfl (hb hbytes d58) hl)⟩
end Cmp3
namespace CodL
def yN : MethodName := ⟨"java/lang/StringUTF16", "coderFromArrayLen", "([BI)B"⟩
abbrev yB : ByteArray := jdk_52_method_15_code
theorem d0 : decode yB 0 = .ok (.iload_n 1, 1) := by decide +kernel
theorem d1 : decode yB 1 = .ok (.aload_n 0, 1) := by decide +kernel
theorem d2 : decode yB 2 = .ok (.arraylength, 1) := by decide +kernel
theorem d3 : decode yB 3 = .ok (.isub, 1) := by decide +kernel
theorem d4 : decode yB 4 = .ok (.bipush 31, 2) := by decide +kernel
theorem d6 : decode yB 6 = .ok (.iushr, 1) := by decide +kernel
theorem d7 : decode yB 7 = .ok (.i2b, 1) := by decide +kernel
theorem d8 : decode yB 8 = .ok (.ireturn, 1) := by decide +kernel
def site : List Cond := []
def tab : Cond := tabOf yN yB 2 (some .byte) site
def P (d : Addr) (B : Cell) (args : Array Value) (s : State) : Prop := args = #[.ref d, .int (Int32.ofNat B.slots.size)] ∧ Arr .byte d B s
def E (r : Option Value) (s u : State) : Prop := XT.PureE (some (.int 0)) r s u
/-- an array as long as the number of chars: LATIN1 -/
theorem law (l : Launch) (d : Addr) (B : Cell) : Law l yN 2 2 0 0 yB 2 (some .byte) site (P d B) E [] 0 0 := by
  refine Law.of_walk (plainFor_of_name (by decide +kernel)) (by decide +kernel) (by decide +kernel) (by decide) (fun _ _ h => by rw [h.1]; rfl) (fun _ U U' hal hh h => ⟨h.1, h.2.mv hal hh⟩) (fun r U U' V V' h1 hal h2 h => XT.PureE.mv r U U' V V' h1 hal h2 h) ?_
  intro p e s m args below meth c s₁ X0 hexec hbytes hml hret hlk hnm hown hh0 W hP
  obtain ⟨rfl, hB⟩ := hP
  have hB0 := hB.mv X0.warmed.alike hh0
  have c1 : Steps p.tables e below (s₁.setTop (entryFrame m #[.ref d, .int (Int32.ofNat B.slots.size)] 2)) (s₁.setTop (mkF m 0 #[.val (.ref d), .val (.int (Int32.ofNat B.slots.size))] [])) := entry rfl
  have c2 : Steps p.tables e below (s₁.setTop (entryFrame m #[.ref d, .int (Int32.ofNat B.slots.size)] 2)) (s₁.setTop (mkF m 2 #[.val (.ref d), .val (.int (Int32.ofNat B.slots.size))] [.ref d, .int (Int32.ofNat B.slots.size)])) := c1.trans (by
    refine XS.iloadN X0.here hexec rfl (hb hbytes d0) rfl ?_
    refine XS.aloadN X0.here hexec rfl (hb hbytes d1) rfl rfl ?_
    exact Steps.refl _)
  have c3 : Steps p.tables e below (s₁.setTop (entryFrame m #[.ref d, .int (Int32.ofNat B.slots.size)] 2)) (s₁.setTop (mkF m 8 #[.val (.ref d), .val (.int (Int32.ofNat B.slots.size))] [.int (lo8 (ushr (Int32.ofNat B.slots.size - Int32.ofNat B.slots.size) 31))])) := c2.trans (by
    refine X0.alen hexec hB0 rfl rfl (hb hbytes d2) ?_
    refine XS.isub X0.here hexec rfl (hb hbytes d3) rfl ?_
    refine bipushV X0.here hexec rfl 31 (hb hbytes d4) (by decide) ?_
    refine iushr X0.here hexec rfl (hb hbytes d6) rfl ?_
    refine i2b X0.here hexec rfl (hb hbytes d7) rfl ?_
    exact Steps.refl _)
  have e0 : lo8 (ushr (Int32.ofNat B.slots.size - Int32.ofNat B.slots.size) 31) = 0 := by rw [Int32.sub_self]; decide
  rw [e0] at c3
  exact ⟨s₁, some (.int 0), _, _, _, X0, rfl, rfl, rfl, (fun h => by cases h), ⟨rfl, hh0⟩, fun fs hl => c3.trans (X0.ireturnOut hexec hret rfl (Or.inr (Or.inr (Or.inl rfl))) (hb hbytes d8) hl)⟩
end CodL
/-- the String at a is Latin-1 over a new byte[] (the heap's one new cell): the low bytes of the len chars of A from o on; every cell but a is kept -/
def Got (a : Addr) (D : Cell) (fV fC : Field) (A : Cell) (o len : Nat) (r : Option Value) (s u : State) : Prop := r = none ∧ ∃ D' V : Cell, Blank "java/lang/String" a D' u ∧ Same D D' [fV.slot, fC.slot] ∧ D'.slots[fV.slot]? = some (.ref s.heap.size) ∧ D'.slots[fC.slot]? = some (.int 0) ∧ Arr .byte s.heap.size V u ∧ V.vm = .none ∧ u.vm.findClass "[B" = some V.cls ∧ V.slots.size = len ∧ (∀ j, j < len → V.slots[j]? = some (.int (lo8 (cv A (o + j))))) ∧ (∀ (y : Addr) (c : Cell), y ≠ a → s.heap[y]? = some c → u.heap[y]? = some c) ∧ u.heap.size = s.heap.size + 1
theorem Got.mv {a : Addr} {D A : Cell} {fV fC : Field} {o len : Nat} : ∀ r (U U' V V' : State), U'.heap = U.heap → V.vm.Alike V'.vm → V'.heap = V.heap → Got a D fV fC A o len r U V → Got a D fV fC A o len r U' V' :=
  fun r U U' V V' h1 hal h2 ⟨e0, D', X, a1, a2, a3, a4, a5, a6, a7, a8, a9, a10, a11⟩ => ⟨e0, D', X, a1.mv hal h2, a2, by rw [h1]; exact a3, a4, by rw [h1]; exact a5.mv hal h2, a6, by rw [hal.findClass]; exact a7, a8, a9, by rw [h1, h2]; exact a10, by rw [h1, h2]; exact a11⟩
namespace New4
def yN : MethodName := ⟨"java/lang/String", "<init>", "([CIILjava/lang/Void;)V"⟩
abbrev yB : ByteArray := jdk_42_method_149_code
theorem d0 : decode yB 0 = .ok (.aload_n 0, 1) := by decide +kernel
theorem d1 : decode yB 1 = .ok (.invokespecial 1, 3) := by decide +kernel
theorem d4 : decode yB 4 = .ok (.iload_n 3, 1) := by decide +kernel
theorem d5 : decode yB 5 = .ok (.ifCond (.ne) 22, 3) := by decide +kernel
theorem d27 : decode yB 27 = .ok (.getstatic 38, 3) := by decide +kernel
theorem d30 : decode yB 30 = .ok (.ifCond (.eq) 28, 3) := by decide +kernel
theorem d33 : decode yB 33 = .ok (.aload_n 1, 1) := by decide +kernel
theorem d34 : decode yB 34 = .ok (.iload_n 2, 1) := by decide +kernel
theorem d35 : decode yB 35 = .ok (.iload_n 3, 1) := by decide +kernel
theorem d36 : decode yB 36 = .ok (.invokestatic 177, 3) := by decide +kernel
theorem d39 : decode yB 39 = .ok (.astore 5, 2) := by decide +kernel
theorem d41 : decode yB 41 = .ok (.aload_n 0, 1) := by decide +kernel
theorem d42 : decode yB 42 = .ok (.aload 5, 2) := by decide +kernel
theorem d44 : decode yB 44 = .ok (.iload_n 3, 1) := by decide +kernel
theorem d45 : decode yB 45 = .ok (.invokestatic 47, 3) := by decide +kernel
theorem d48 : decode yB 48 = .ok (.putfield 15, 3) := by decide +kernel
theorem d51 : decode yB 51 = .ok (.aload_n 0, 1) := by decide +kernel
theorem d52 : decode yB 52 = .ok (.aload 5, 2) := by decide +kernel
theorem d54 : decode yB 54 = .ok (.putfield 9, 3) := by decide +kernel
theorem d57 : decode yB 57 = .ok (.return_, 1) := by decide +kernel
def site : List Cond := [.fieldLink "java/lang/String" 38 "java/lang/String" "COMPACT_STRINGS" "Z", Cmp3.tab, CodL.tab, .laysFinal "java/lang/String" "java/lang/String" "value" "[B", .fieldLink "java/lang/String" 9 "java/lang/String" "value" "[B", .laysFinal "java/lang/String" "java/lang/String" "coder" "B", .fieldLink "java/lang/String" 15 "java/lang/String" "coder" "B"] ++ objW "java/lang/String" 1 ++ staticW "java/lang/String" 177 Cmp3.yN ++ staticW "java/lang/String" 47 CodL.yN
def tab : Cond := tabOf yN yB 6 none site
def P (a : Addr) (D : Cell) (fV fC : Field) (b : Addr) (A : Cell) (z : Int32) (o len : Nat) (args : Array Value) (s : State) : Prop := args = #[.ref a, .ref b, .int (Int32.ofNat o), .int (Int32.ofNat len), .null] ∧ Blank "java/lang/String" a D s ∧ Found "java/lang/String" "value" "[B" fV s ∧ Found "java/lang/String" "coder" "B" fC s ∧ Ch b A s ∧ StaticIs s "java/lang/String" "COMPACT_STRINGS" "Z" (.int z) ∧ ¬ z = 0 ∧ 0 < len ∧ o + len ≤ A.slots.size ∧ len ≤ 536870912 ∧ ∀ i, i < len → ¬ 255 < cv A (o + i)
def E (a : Addr) (D : Cell) (fV fC : Field) (A : Cell) (o len : Nat) (r : Option Value) (s u : State) : Prop := Got a D fV fC A o len r s u
/-- len > 0, no char of the range above 255: a Latin-1 String of their low bytes -/
theorem law (l : Launch) (a : Addr) (D : Cell) (fV fC : Field) (b : Addr) (A : Cell) (z : Int32) (o len : Nat) : Law l yN 5 4 2 35 yB 6 none site (P a D fV fC b A z o len) (E a D fV fC A o len) [⟨a, fC.slot⟩, ⟨a, fV.slot⟩] 1 len := by
  refine Law.of_walk (plainFor_of_name (by decide +kernel)) (by decide +kernel) (by decide +kernel) (by decide) (fun _ _ h => by rw [h.1]; rfl) (fun _ U U' hal hh h => ⟨h.1, h.2.1.mv hal hh, h.2.2.1.al hal, h.2.2.2.1.al hal, h.2.2.2.2.1.mv hal hh, h.2.2.2.2.2.1.there hal hh, h.2.2.2.2.2.2⟩) (fun r U U' V V' h1 hal h2 h => Got.mv r U U' V V' h1 hal h2 h) ?_
  intro p e s m args below meth c s₁ X0 hexec hbytes hml hret hlk hnm hown hh0 W hP
  obtain ⟨rfl, hB, f1, f2, hA, s1, hz, l0, l1, l2, hp⟩ := hP
  have a31 := hA.1.2.2.2
  have c1 : Steps p.tables e below (s₁.setTop (entryFrame m #[.ref a, .ref b, .int (Int32.ofNat o), .int (Int32.ofNat len), .null] 6)) (s₁.setTop (mkF m 0 #[.val (.ref a), .val (.ref b), .val (.int (Int32.ofNat o)), .val (.int (Int32.ofNat len)), .val .null, .unset] [])) := entry rfl
  have c2 : Steps p.tables e below (s₁.setTop (entryFrame m #[.ref a, .ref b, .int (Int32.ofNat o), .int (Int32.ofNat len), .null] 6)) (s₁.setTop (mkF m 1 #[.val (.ref a), .val (.ref b), .val (.int (Int32.ofNat o)), .val (.int (Int32.ofNat len)), .val .null, .unset] [.ref a])) := c1.trans (by
    refine XS.aloadN X0.here hexec rfl (hb hbytes d0) rfl rfl ?_
    exact Steps.refl _)
  obtain ⟨T3, X3, q3, st3⟩ := X0.oinit hexec hown (wks W (objW "java/lang/String" 1)) (g := (mkF m 1 #[.val (.ref a), .val (.ref b), .val (.int (Int32.ofNat o)), .val (.int (Int32.ofNat len)), .val .null, .unset] [.ref a])) rfl (by rw [hml]; rfl) (rest := []) rfl (hb hbytes d1) (W := 0) (by show 2 * 0 + 0 ≤ _; decide) (Nat.le_of_ble_eq_true rfl) (Nat.le_of_ble_eq_true rfl)
  have hh3 := q3.trans hh0
  have c4 : Steps p.tables e below (s₁.setTop (entryFrame m #[.ref a, .ref b, .int (Int32.ofNat o), .int (Int32.ofNat len), .null] 6)) (T3.setTop (mkF m 27 #[.val (.ref a), .val (.ref b), .val (.int (Int32.ofNat o)), .val (.int (Int32.ofNat len)), .val .null, .unset] [])) := (c2.trans (st3 _ (Steps.refl _))).trans (by
    refine XS.iloadN X3.here hexec rfl (hb hbytes d4) rfl ?_
    refine XS.ifYes X3.here hexec rfl (pc0 := 5) rfl (hb hbytes d5) rfl (i0_ne_t (nz32 (by omega) l0)) (by decide) rfl ?_
    exact Steps.refl _)
  obtain ⟨T5, X5, q5, st5⟩ := X3.sget hexec hown (wk W (.fieldLink "java/lang/String" 38 "java/lang/String" "COMPACT_STRINGS" "Z")) s1 (fun _ _ h => by rw [hh3]; exact h) (g := (mkF m 27 #[.val (.ref a), .val (.ref b), .val (.int (Int32.ofNat o)), .val (.int (Int32.ofNat len)), .val .null, .unset] [])) rfl (hb hbytes d27)
  have hh5 := q5.trans hh3
  have c6 : Steps p.tables e below (s₁.setTop (entryFrame m #[.ref a, .ref b, .int (Int32.ofNat o), .int (Int32.ofNat len), .null] 6)) (T5.setTop (mkF m 30 #[.val (.ref a), .val (.ref b), .val (.int (Int32.ofNat o)), .val (.int (Int32.ofNat len)), .val .null, .unset] [.int z])) := c4.trans (st5 _ (Steps.refl _))
  have c7 : Steps p.tables e below (s₁.setTop (entryFrame m #[.ref a, .ref b, .int (Int32.ofNat o), .int (Int32.ofNat len), .null] 6)) (T5.setTop (mkF m 36 #[.val (.ref a), .val (.ref b), .val (.int (Int32.ofNat o)), .val (.int (Int32.ofNat len)), .val .null, .unset] [.int (Int32.ofNat len), .int (Int32.ofNat o), .ref b])) := c6.trans (by
    refine XS.ifNo X5.here hexec rfl (hb hbytes d30) rfl (i0_eq_f hz) ?_
    refine XS.aloadN X5.here hexec rfl (hb hbytes d33) rfl rfl ?_
    refine XS.iloadN X5.here hexec rfl (hb hbytes d34) rfl ?_
    refine XS.iloadN X5.here hexec rfl (hb hbytes d35) rfl ?_
    exact Steps.refl _)
  obtain ⟨v8, T8, X8, E8, g8⟩ := X5.callS hexec (Cmp3.law l b A o len) hown (wks W (staticW "java/lang/String" 177 Cmp3.yN)) (wk W Cmp3.tab) (W := 0) (Nat.le_of_ble_eq_true rfl) (Nat.le_of_ble_eq_true rfl) (Nat.le_refl _) (by show 0 + len ≤ len; omega) (g := (mkF m 36 #[.val (.ref a), .val (.ref b), .val (.int (Int32.ofNat o)), .val (.int (Int32.ofNat len)), .val .null, .unset] [.int (Int32.ofNat len), .int (Int32.ofNat o), .ref b])) rfl (by rw [hml]; rfl) c7 (argsL := [.ref b, .int (Int32.ofNat o), .int (Int32.ofNat len)]) (rest := []) rfl rfl (by show 2 * 0 + 0 ≤ _; decide) (hb hbytes d36) (⟨rfl, hA.mv X5.warmed.alike hh5, l1, l2, hp⟩)
  obtain ⟨e8, z8⟩ := E8
  obtain ⟨rfl, N, n1, n2, n3, n4, n5, n6⟩ := NewArr.mv _ T5 s _ _ hh5.symm (Vm.Alike.refl _) rfl e8
  rw [hh5] at z8
  have hB1 := hB.keep X8.warmed.alike (n6 _ _ hB.1)
  have hne : s.heap.size ≠ a := (Nat.ne_of_lt (Array.getElem?_eq_some_iff.mp hB.1).1).symm
  have c9 : Steps p.tables e below (s₁.setTop (entryFrame m #[.ref a, .ref b, .int (Int32.ofNat o), .int (Int32.ofNat len), .null] 6)) (T8.setTop (mkF m 39 #[.val (.ref a), .val (.ref b), .val (.int (Int32.ofNat o)), .val (.int (Int32.ofNat len)), .val .null, .unset] [.ref s.heap.size])) := g8
  have c10 : Steps p.tables e below (s₁.setTop (entryFrame m #[.ref a, .ref b, .int (Int32.ofNat o), .int (Int32.ofNat len), .null] 6)) (T8.setTop (mkF m 45 #[.val (.ref a), .val (.ref b), .val (.int (Int32.ofNat o)), .val (.int (Int32.ofNat len)), .val .null, .val (.ref s.heap.size)] [.int (Int32.ofNat N.slots.size), .ref s.heap.size, .ref a])) := by
    have hc : Steps p.tables e below (s₁.setTop (entryFrame m #[.ref a, .ref b, .int (Int32.ofNat o), .int (Int32.ofNat len), .null] 6)) (T8.setTop (mkF m 45 #[.val (.ref a), .val (.ref b), .val (.int (Int32.ofNat o)), .val (.int (Int32.ofNat len)), .val .null, .val (.ref s.heap.size)] [.int (Int32.ofNat len), .ref s.heap.size, .ref a])) := c9.trans (by
      refine XS.astore X8.here hexec rfl (hb hbytes d39) rfl rfl rfl ?_
      refine XS.aloadN X8.here hexec rfl (hb hbytes d41) rfl rfl ?_
      refine XS.aload X8.here hexec rfl (hb hbytes d42) rfl rfl ?_
      refine XS.iloadN X8.here hexec rfl (hb hbytes d44) rfl ?_
      exact Steps.refl _)
    rw [n4]; exact hc
  obtain ⟨v11, T11, X11, E11, g11⟩ := X8.callS hexec (CodL.law l s.heap.size N) hown (wks W (staticW "java/lang/String" 47 CodL.yN)) (wk W CodL.tab) (W := 1) (Nat.le_of_ble_eq_true rfl) (Nat.le_of_ble_eq_true rfl) (Nat.le_refl _) (by show 0 + len + 0 ≤ len; omega) (g := (mkF m 45 #[.val (.ref a), .val (.ref b), .val (.int (Int32.ofNat o)), .val (.int (Int32.ofNat len)), .val .null, .val (.ref s.heap.size)] [.int (Int32.ofNat N.slots.size), .ref s.heap.size, .ref a])) rfl (by rw [hml]; rfl) c10 (argsL := [.ref s.heap.size, .int (Int32.ofNat N.slots.size)]) (rest := [.ref a]) rfl rfl (by show 2 * 0 + (1 + 0) ≤ _; decide) (hb hbytes d45) (⟨rfl, n1⟩)
  obtain ⟨rfl, q11⟩ := E11
  have hB11 := hB1.mv (X8.warmed.alike.symm.trans X11.warmed.alike) q11
  have c12 : Steps p.tables e below (s₁.setTop (entryFrame m #[.ref a, .ref b, .int (Int32.ofNat o), .int (Int32.ofNat len), .null] 6)) (T11.setTop (mkF m 48 #[.val (.ref a), .val (.ref b), .val (.int (Int32.ofNat o)), .val (.int (Int32.ofNat len)), .val .null, .val (.ref s.heap.size)] [.int 0, .ref a])) := g11
  obtain ⟨T13, X13, p13, bl13, sl13, st13⟩ := X11.finit hexec hown (wk W (.fieldLink "java/lang/String" 15 "java/lang/String" "coder" "B")) (Or.inr ⟨_, (wk W (.laysFinal "java/lang/String" "java/lang/String" "coder" "B"))⟩) (Or.inl ⟨rfl, hnm⟩) f2 (Or.inl rfl) hB11 (t := .byte) (by decide +kernel) rfl (g := (mkF m 48 #[.val (.ref a), .val (.ref b), .val (.int (Int32.ofNat o)), .val (.int (Int32.ofNat len)), .val .null, .val (.ref s.heap.size)] [.int 0, .ref a])) rfl (rest := []) rfl (hb hbytes d48)
  have c14 : Steps p.tables e below (s₁.setTop (entryFrame m #[.ref a, .ref b, .int (Int32.ofNat o), .int (Int32.ofNat len), .null] 6)) (T13.setTop (mkF m 54 #[.val (.ref a), .val (.ref b), .val (.int (Int32.ofNat o)), .val (.int (Int32.ofNat len)), .val .null, .val (.ref s.heap.size)] [.ref s.heap.size, .ref a])) := (c12.trans (st13 _ (Steps.refl _))).trans (by
    refine XS.aloadN X13.here hexec rfl (hb hbytes d51) rfl rfl ?_
    refine XS.aload X13.here hexec rfl (hb hbytes d52) rfl rfl ?_
    exact Steps.refl _)
  obtain ⟨T15, X15, p15, bl15, sl15, st15⟩ := X13.finit hexec hown (wk W (.fieldLink "java/lang/String" 9 "java/lang/String" "value" "[B")) (Or.inr ⟨_, (wk W (.laysFinal "java/lang/String" "java/lang/String" "value" "[B"))⟩) (Or.inl ⟨rfl, hnm⟩) f1 (Or.inl rfl) bl13 (t := (.array .byte)) (by decide +kernel) rfl (g := (mkF m 54 #[.val (.ref a), .val (.ref b), .val (.int (Int32.ofNat o)), .val (.int (Int32.ofNat len)), .val .null, .val (.ref s.heap.size)] [.ref s.heap.size, .ref a])) rfl (rest := []) rfl (hb hbytes d54)
  have c16 : Steps p.tables e below (s₁.setTop (entryFrame m #[.ref a, .ref b, .int (Int32.ofNat o), .int (Int32.ofNat len), .null] 6)) (T15.setTop (mkF m 57 #[.val (.ref a), .val (.ref b), .val (.int (Int32.ofNat o)), .val (.int (Int32.ofNat len)), .val .null, .val (.ref s.heap.size)] [])) := c14.trans (st15 _ (Steps.refl _))
  have ap := apart (Or.inr ⟨_, (wk W (.laysFinal "java/lang/String" "java/lang/String" "value" "[B"))⟩) (Or.inr ⟨_, (wk W (.laysFinal "java/lang/String" "java/lang/String" "coder" "B"))⟩) f1 f2 (t₁ := .array .byte) (t₂ := .byte) (by decide +kernel) (by decide +kernel) (by decide)
  have al := X8.warmed.alike.symm.trans X15.warmed.alike
  have n7 : T11.heap[s.heap.size]? = some N := by rw [q11]; exact n1.1
  exact ⟨T15, none, _, _, _, X15, by simp, rfl, by omega, (fun _ => rfl), ⟨rfl, _, N, bl15, ((Same.refl D _).set _ (by simp)).set _ (by simp), sl15, (Cell.slots_setSlot_ne _ ap).trans sl13, n1.keep al (p15.other hne (p13.other hne n7)), n2, by rw [al.findClass]; exact n3, n4, n5, fun y c h1 h2 => p15.other h1 (p13.other h1 (by rw [q11]; exact n6 y c h2)), by rw [p15.2.2, p13.2.2, q11]; exact z8⟩, fun fs hl => c16.trans (X15.returnOut hexec hret (hb hbytes d57) hl)⟩
end New4
namespace New1
def yN : MethodName := ⟨"java/lang/String", "<init>", "([C)V"⟩
abbrev yB : ByteArray := jdk_42_method_3_code
theorem d0 : decode yB 0 = .ok (.aload_n 0, 1) := by decide +kernel
theorem d1 : decode yB 1 = .ok (.aload_n 1, 1) := by decide +kernel
theorem d2 : decode yB 2 = .ok (.iconst 0, 1) := by decide +kernel
theorem d3 : decode yB 3 = .ok (.aload_n 1, 1) := by decide +kernel
theorem d4 : decode yB 4 = .ok (.arraylength, 1) := by decide +kernel
theorem d5 : decode yB 5 = .ok (.aconst_null, 1) := by decide +kernel
theorem d6 : decode yB 6 = .ok (.invokespecial 27, 3) := by decide +kernel
theorem d9 : decode yB 9 = .ok (.return_, 1) := by decide +kernel
def site : List Cond := [New4.tab] ++ initW "java/lang/String" 27 New4.yN
def tab : Cond := tabOf yN yB 2 none site
def P (a : Addr) (D : Cell) (fV fC : Field) (b : Addr) (A : Cell) (z : Int32) (args : Array Value) (s : State) : Prop := args = #[.ref a, .ref b] ∧ Blank "java/lang/String" a D s ∧ Found "java/lang/String" "value" "[B" fV s ∧ Found "java/lang/String" "coder" "B" fC s ∧ Ch b A s ∧ StaticIs s "java/lang/String" "COMPACT_STRINGS" "Z" (.int z) ∧ ¬ z = 0 ∧ 0 < A.slots.size ∧ A.slots.size ≤ 536870912 ∧ ∀ i, i < A.slots.size → ¬ 255 < cv A i
def E (a : Addr) (D : Cell) (fV fC : Field) (A : Cell) (r : Option Value) (s u : State) : Prop := Got a D fV fC A 0 A.slots.size r s u
/-- new String(chars), not empty, no char above 255: a Latin-1 String of their low bytes -/
theorem law (l : Launch) (a : Addr) (D : Cell) (fV fC : Field) (b : Addr) (A : Cell) (z : Int32) : Law l yN 2 1 3 52 yB 2 none site (P a D fV fC b A z) (E a D fV fC A) [⟨a, fC.slot⟩, ⟨a, fV.slot⟩] 1 A.slots.size := by
  refine Law.of_walk (plainFor_of_name (by decide +kernel)) (by decide +kernel) (by decide +kernel) (by decide) (fun _ _ h => by rw [h.1]; rfl) (fun _ U U' hal hh h => ⟨h.1, h.2.1.mv hal hh, h.2.2.1.al hal, h.2.2.2.1.al hal, h.2.2.2.2.1.mv hal hh, h.2.2.2.2.2.1.there hal hh, h.2.2.2.2.2.2⟩) (fun r U U' V V' h1 hal h2 h => Got.mv r U U' V V' h1 hal h2 h) ?_
  intro p e s m args below meth c s₁ X0 hexec hbytes hml hret hlk hnm hown hh0 W hP
  obtain ⟨rfl, hB, f1, f2, hA, s1, hz, l0, l2, hp⟩ := hP
  have c1 : Steps p.tables e below (s₁.setTop (entryFrame m #[.ref a, .ref b] 2)) (s₁.setTop (mkF m 0 #[.val (.ref a), .val (.ref b)] [])) := entry rfl
  have c2 : Steps p.tables e below (s₁.setTop (entryFrame m #[.ref a, .ref b] 2)) (s₁.setTop (mkF m 6 #[.val (.ref a), .val (.ref b)] [.null, .int (Int32.ofNat A.slots.size), .int 0, .ref b, .ref a])) := c1.trans (by
    refine XS.aloadN X0.here hexec rfl (hb hbytes d0) rfl rfl ?_
    refine XS.aloadN X0.here hexec rfl (hb hbytes d1) rfl rfl ?_
    refine iconstV X0.here hexec rfl 0 (hb hbytes d2) (by decide) ?_
    refine XS.aloadN X0.here hexec rfl (hb hbytes d3) rfl rfl ?_
    refine X0.alen hexec (hA.1.mv X0.warmed.alike hh0) rfl rfl (hb hbytes d4) ?_
    refine XS.aconstNull X0.here hexec rfl (hb hbytes d5) ?_
    exact Steps.refl _)
  obtain ⟨v3, T3, X3, E3, g3⟩ := X0.callN hexec (New4.law l a D fV fC b A z 0 A.slots.size) rfl hown (wks W (initW "java/lang/String" 27 New4.yN)) (W New4.tab (by simp only [site, List.mem_cons, List.mem_append, true_or, or_true])) (W := 0) (Nat.le_of_ble_eq_true rfl) (Nat.le_of_ble_eq_true rfl) (Nat.le_refl _) (by show 0 + A.slots.size ≤ A.slots.size; omega) (g := (mkF m 6 #[.val (.ref a), .val (.ref b)] [.null, .int (Int32.ofNat A.slots.size), .int (Int32.ofNat 0), .ref b, .ref a])) rfl (by rw [hml]; rfl) c2 (argsL := [.ref b, .int (Int32.ofNat 0), .int (Int32.ofNat A.slots.size), .null]) (rest := []) rfl rfl (by show 2 * 0 + 0 ≤ _; decide) (hb hbytes d6) (⟨rfl, hB.mv X0.warmed.alike hh0, f1.al X0.warmed.alike, f2.al X0.warmed.alike, hA.mv X0.warmed.alike hh0, s1.there X0.warmed.alike hh0, hz, l0, by omega, l2, fun i hi => by rw [Nat.zero_add]; exact hp i hi⟩)
  have e0 := Got.mv _ s₁ s _ _ hh0.symm (Vm.Alike.refl _) rfl E3
  obtain rfl := e0.1
  have c4 : Steps p.tables e below (s₁.setTop (entryFrame m #[.ref a, .ref b] 2)) (T3.setTop (mkF m 9 #[.val (.ref a), .val (.ref b)] [])) := g3
  exact ⟨T3, none, _, _, _, X3, by simp, rfl, by omega, (fun _ => rfl), e0, fun fs hl => c4.trans (X3.returnOut hexec hret (hb hbytes d9) hl)⟩
theorem pays {l : Launch} {R : Room} {p : Program} {e : Env} {below : List Frame} {s : State} {sargs : Array Value} {len W : Nat} (a : Addr) (D : Cell) (fV fC : Field) (b : Addr) (A : Cell) (z : Int32) (htab : tab.before sargs s = true) (hfr : 4 ≤ R.frames) (hlo : W + 65 ≤ R.locals) :
    Back l R p e below s sargs yN len W (fun A₁ a₁ => A₁.cells + 1 ≤ R.cells ∧ A₁.slots + A.slots.size ≤ R.slots ∧ P a D fV fC b A z a₁ A₁.U) (fun A₁ _ v₁ B₁ => E a D fV fC A v₁ A₁.U B₁.U ∧ B₁.locs = A₁.locs ++ [⟨a, fC.slot⟩, ⟨a, fV.slot⟩] ∧ B₁.cells = A₁.cells + 1 ∧ B₁.slots = A₁.slots + A.slots.size) :=
  (law l a D fV fC b A z).pays htab hfr (by omega)
end New1
/-- the byte, read back as charAt reads it, is the char -/
theorem lo8_mask {x : Int32} (h0 : ¬ x < 0) (h1 : ¬ 255 < x) : lo8 x &&& 255 = x := by
  have t : ∀ k : Fin 256, lo8 (Int32.ofNat k.val) &&& 255 = Int32.ofNat k.val := by decide +kernel
  rw [Int32.lt_iff_toInt_lt] at h0 h1
  have e0 : (0 : Int32).toInt = 0 := rfl
  have e1 : (255 : Int32).toInt = 255 := rfl
  obtain ⟨k, hk⟩ : ∃ k : Nat, x.toInt = k := ⟨x.toInt.toNat, by omega⟩
  have hx : x = Int32.ofNat k := Int32.toInt_inj.mp (by rw [hk, Int32.toInt_ofNat_small (by omega)])
  rw [hx]
  exact t ⟨k, by omega⟩
end StrChars
namespace StrChars.Road
open Jvm Sem ClassFile Op Lib Jvm.Stand Jvm.Free Jvm.Free.XT
open Jvm.Lib.Cold (StaticIs)
abbrev ST : String := "java/lang/String"
/-- every table word that New1's law asks, flat -/
abbrev words : List Jvm.Cond := [.code New1.yN New1.yB 2 none, .initialized ST, .methodLink ST 27 New4.yN, .instanceMethod New4.yN,
  .code New4.yN New4.yB 6 none, .fieldLink ST 38 ST "COMPACT_STRINGS" "Z", .laysFinal ST ST "value" "[B", .fieldLink ST 9 ST "value" "[B", .laysFinal ST ST "coder" "B", .fieldLink ST 15 ST "coder" "B",
  .methodLink ST 1 Lib.objectInit, .instanceMethod Lib.objectInit, .code Lib.objectInit ⟨#[0xb1]⟩ 1 none, .methodLink ST 177 Cmp3.yN, .static Cmp3.yN, .methodLink ST 47 CodL.yN, .static CodL.yN,
  .code Cmp3.yN Cmp3.yB 6 (some (.array .byte)), .initialized U16, .arrayClass .byte, .methodLink U16 115 Cmp5.yN, .static Cmp5.yN, .code Cmp5.yN Cmp5.yB 7 (some .int), .code CodL.yN CodL.yB 2 (some .byte)]
theorem tab_of {a : Array Value} {s : State} (h : ∀ w ∈ words, w.before a s = true) : New1.tab.before a s = true := by
  have h5 : Cmp5.tab.before a s = true := unparts (wk h (.code Cmp5.yN Cmp5.yB 7 (some .int))) (wks h (.initialized Cmp5.yN.cls :: Cmp5.site))
  have hc : CodL.tab.before a s = true := unparts (wk h (.code CodL.yN CodL.yB 2 (some .byte))) (wks h (.initialized CodL.yN.cls :: CodL.site))
  have q5 : ∀ w ∈ Cmp5.tab :: words, w.before a s = true := fun w hw => (List.mem_cons.mp hw).elim (fun e => e ▸ h5) (h w)
  have h3 : Cmp3.tab.before a s = true := unparts (wk q5 (.code Cmp3.yN Cmp3.yB 6 (some (.array .byte)))) (wks q5 (.initialized Cmp3.yN.cls :: Cmp3.site))
  have q3 : ∀ w ∈ Cmp3.tab :: CodL.tab :: words, w.before a s = true := fun w hw => (List.mem_cons.mp hw).elim (fun e => e ▸ h3) fun hw => (List.mem_cons.mp hw).elim (fun e => e ▸ hc) (h w)
  have h4 : New4.tab.before a s = true := unparts (wk q3 (.code New4.yN New4.yB 6 none)) (wks q3 (.initialized New4.yN.cls :: New4.site))
  have q4 : ∀ w ∈ New4.tab :: words, w.before a s = true := fun w hw => (List.mem_cons.mp hw).elim (fun e => e ▸ h4) (h w)
  exact unparts (wk q4 (.code New1.yN New1.yB 2 none)) (wks q4 (.initialized New1.yN.cls :: New1.site))
/-- the words ride from the start Z to the walk's own state -/
theorem moved {Z s : State} {a0 args : Array Value} (hZ : Z.Warmed39 s.vm) (hw : ∀ d ∈ words, d.before a0 Z = true) : ∀ d ∈ words, d.before args s = true := fun d hd => by
  have q := hw d hd
  have t : ∀ d ∈ words, d = .arrayClass .byte ∨ (d.onTables && d.keepsFace) = true := by decide +kernel
  rcases t d hd with rfl | t
  · exact RoadKit.mvA hZ q
  · exact RoadKit.mv hZ q t
/-- WHAT COMES BACK, over the tables of the start Z: h the heap at the call, h' behind it -/
def Q (Z : State) (x : Addr) (A : Cell) (h : Heap) (v : Option Value) (h' : Heap) (L : List Loc) : Prop := v = none ∧ (∀ y ∈ L, y.base = x) ∧ RoadKit.Keep h h' [x] ∧ h'.size = h.size + 1 ∧ RoadKit.Exa Z h' x ST ∧ RoadKit.Fld Z h' x ST "value" "[B" (.ref h.size) ∧ RoadKit.Fld Z h' x ST "coder" "B" (.int 0) ∧
  (∃ V : Cell, RoadKit.Arr Z h' h.size V .byte ∧ V.vm = .none ∧ Z.vm.findClass "[B" = some V.cls ∧ V.slots.size = A.slots.size ∧ ∀ j, j < A.slots.size → V.slots[j]? = some (.int (lo8 (cv A j)))) ∧
  ∀ (O n d : String) (w : Value), RoadKit.Fld Z h x O n d w → RoadKit.slotOf Z O n d ≠ RoadKit.slotOf Z ST "value" "[B" → RoadKit.slotOf Z O n d ≠ RoadKit.slotOf Z ST "coder" "B" → RoadKit.Fld Z h' x O n d w
/-- **new String(chars) AT A CALL, IN THE ROAD'S FORM**: for specialBack behind newO: x the fresh String, b the char[] with the cell A -/
theorem back {p : Program} {l : Launch} {e : Env} {R : Room} {s : State} {args : Array Value} {below : List Frame} {len W : Nat} {Z : State} {a0 : Array Value} {h : Heap} (hZ : Z.Warmed39 s.vm) (hw : ∀ d ∈ words, d.before a0 Z = true) {kI : Nat} (wi : (Jvm.Cond.instantiable ST kI).before a0 Z = true)
    {x b : Addr} {A : Cell} {z : Int32} {v0 c0 : Value} (E : RoadKit.Exa Z h x ST) (V : RoadKit.Fld Z h x ST "value" "[B" v0) (C : RoadKit.Fld Z h x ST "coder" "B" c0) (K : RoadKit.Arr Z h b A .char) (hty : Typed .char A) (S : RoadKit.Sta Z h ST "COMPACT_STRINGS" "Z" (.int z)) (hz : ¬ z = 0)
    (l0 : 0 < A.slots.size) (l2 : A.slots.size ≤ 536870912) (hp : ∀ i, i < A.slots.size → ¬ 255 < cv A i) (hfr : 4 ≤ R.frames) (hlo : W + 65 ≤ R.locals) :
    Back l R p e below s args New1.yN len W (fun P a => a = #[.ref x, .ref b] ∧ P.U.heap = h ∧ P.cells + 1 ≤ R.cells ∧ P.slots + A.slots.size ≤ R.slots)
      (fun P _ v B => ∃ L, Q Z x A h v B.U.heap L ∧ B.locs = P.locs ++ L ∧ B.cells = P.cells + 1 ∧ B.slots = P.slots + A.slots.size) := by
  intro m meth c P g ig mk a X hg hsize hdg hW hn hp'
  obtain ⟨rfl, rfl, r1, r2⟩ := hp'
  have al : Z.vm.Alike P.U.vm := hZ.alike.trans X.warmed.alike
  obtain ⟨D, cfV, kV, iV, fV, hD, gV, stV, knV, obV, asV, slV⟩ := id V
  obtain ⟨D', cfC, kC, iC, fC, hD', gC, stC, -, -, asC, slC⟩ := id C
  cases hD.symm.trans hD'
  obtain ⟨D2, kD, e1, e2, e3, e4, e5⟩ := id E
  cases hD.symm.trans e1
  obtain ⟨c2, k2, i1, i2, i3, -⟩ := Cond.instantiable_spec wi
  cases e2.symm.trans i1
  cases e3.symm.trans i2
  obtain ⟨kU, u1, u2⟩ := al.2.2 _ _ e3
  have hB : Blank ST x D P.U := ⟨hD, ⟨knV, fun q hq => by rw [hq] at obV; cases obV⟩, by rw [al.findClass]; exact e2, kU, u1, by rw [u2]; exact i3, by rw [u2]; exact e5 i3⟩
  have F1 : Found ST "value" "[B" fV P.U := ⟨SBG.found_only al ⟨cfV, kV, iV, gV⟩, stV⟩
  have F2 : Found ST "coder" "B" fC P.U := ⟨SBG.found_only al ⟨cfC, kC, iC, gC⟩, stC⟩
  have hA : Ch b A P.U := ⟨⟨K.1, State.isArrayOf_alike al K.2.1, K.2.2, by omega⟩, hty⟩
  have hS : StaticIs P.U ST "COMPACT_STRINGS" "Z" (.int z) := by
    obtain ⟨cfS, iS, kS, fS, st, cS, t1, t2, t3, t4, t5, t6, t7⟩ := S
    exact StaticIs.there (s := { Z with heap := P.U.heap }) ⟨cfS, iS, kS, fS, st, cS, t1, t2, t3, t4, t5, (fun q => by rw [q] at t6; cases t6), t7⟩ al rfl
  obtain ⟨v, B, X', ⟨⟨hv, E', V', q1, q2, q3, q4, q5, q6, q7, q8, q9, q10, q11⟩, hl, hc, hs⟩, st⟩ := New1.pays x D fV fC b A z (tab_of (moved hZ hw)) hfr hlo m meth c P g ig mk _ X hg hsize hdg hW hn ⟨r1, r2, rfl, hB, F1, F2, hA, hS, hz, l0, l2, hp⟩
  have al' : Z.vm.Alike B.U.vm := hZ.alike.trans X'.warmed.alike
  have hsz : E'.slots.size = D.slots.size := by
    obtain ⟨-, -, -, kB, w1, w2, w3⟩ := q1
    obtain ⟨kB', y1, y2⟩ := al'.2.2 _ _ e3
    rw [q2.2.1] at w1
    cases w1.symm.trans y1
    rw [w3, e5 i3, y2]
  refine ⟨v, B, X', ⟨_, ⟨hv, ?_, ⟨by omega, fun y cy hy hn' => q10 y cy (by simpa using hn') hy, fun y cy hy => ?_⟩, q11, ⟨E', _, q1.1, by rw [q2.2.1]; exact e2, by rw [q2.2.1]; exact e3, by rw [q2.1]; exact obV, fun _ => by rw [hsz]; exact e5 i3⟩,
    ⟨E', cfV, kV, iV, fV, q1.1, gV, stV, by rw [q2.1]; exact knV, by rw [q2.1]; exact obV, by rw [q2.2.1]; exact asV, q3⟩, ⟨E', cfC, kC, iC, fC, q1.1, gC, stC, by rw [q2.1]; exact knV, by rw [q2.1]; exact obV, by rw [q2.2.1]; exact asC, q4⟩,
    ⟨V', ⟨q5.1, State.isArrayOf_alike al'.symm q5.2.1, q5.2.2.1⟩, q6, by rw [← al'.findClass]; exact q7, q8, fun j hj => by have := q9 j hj; rwa [Nat.zero_add] at this⟩, fun O n d w F n1 n2 => ?_⟩, hl, hc, hs⟩, st⟩
  · intro y hy
    simp only [List.mem_cons, List.not_mem_nil, or_false] at hy
    rcases hy with rfl | rfl <;> rfl
  · by_cases q : y = x
    · subst q
      cases hD.symm.trans hy
      exact ⟨E', q1.1, q2.2.1, q2.1, hsz⟩
    · exact ⟨cy, q10 y cy q hy, rfl, rfl, rfl⟩
  · obtain ⟨D3, cf, k, i, f, g1, g2, g3, g4, g5, g6, g7⟩ := F
    cases hD.symm.trans g1
    simp only [RoadKit.slotOf, g2, gV, gC, Option.map_some, Option.getD_some] at n1 n2
    exact ⟨E', cf, k, i, f, q1.1, g2, g3, by rw [q2.1]; exact g4, by rw [q2.1]; exact g5, by rw [q2.2.1]; exact g6, by rw [q2.2.2 f.slot (by simp [n1, n2])]; exact g7⟩
end StrChars.Road
namespace StrChars.Road
open Jvm Sem ClassFile Op Lib Jvm.Stand Jvm.Free Jvm.Free.XT
/-- WHAT COMES BACK, the byte[] as a list of values -/
def QA (Z : State) (x : Addr) (zn : Int32) (cs : List Int32) (h : Heap) (v : Option Value) (h' : Heap) (L : List Loc) : Prop := v = none ∧ (∀ y ∈ L, y.base = x) ∧ RoadKit.Keep h h' [x] ∧ h'.size = h.size + 1 ∧ RoadKit.Exa Z h' x ST ∧ RoadKit.Fld Z h' x ST "value" "[B" (.ref h.size) ∧ RoadKit.Fld Z h' x ST "coder" "B" (.int 0) ∧
  (∃ kb, Z.vm.findClass "[B" = some kb ∧ RoadKit.Arv Z h' h.size kb .byte zn (cs.map fun c => .int (lo8 c)) (.int 0)) ∧
  ∀ (O n d : String) (w : Value), RoadKit.Fld Z h x O n d w → RoadKit.slotOf Z O n d ≠ RoadKit.slotOf Z ST "value" "[B" → RoadKit.slotOf Z O n d ≠ RoadKit.slotOf Z ST "coder" "B" → RoadKit.Fld Z h' x O n d w
/-- **new String(chars) AT A CALL, THE ARRAYS AS LISTS**: the char[] at b holds cs, not empty, no char above 255 -/
theorem backArv {p : Program} {l : Launch} {e : Env} {R : Room} {s : State} {args : Array Value} {below : List Frame} {len W : Nat} {Z : State} {a0 : Array Value} {h : Heap} (hZ : Z.Warmed39 s.vm) (hw : ∀ d ∈ words, d.before a0 Z = true) {kI : Nat} (wi : (Jvm.Cond.instantiable ST kI).before a0 Z = true)
    {x b : Addr} {k : ClassId} {zn z : Int32} {cs : List Int32} {dv v0 c0 : Value} (E : RoadKit.Exa Z h x ST) (V : RoadKit.Fld Z h x ST "value" "[B" v0) (C : RoadKit.Fld Z h x ST "coder" "B" c0) (K : RoadKit.Arv Z h b k .char zn (cs.map Value.int) dv) (S : RoadKit.Sta Z h ST "COMPACT_STRINGS" "Z" (.int z)) (hz : ¬ z = 0)
    (hlen : zn.toNatClampNeg = cs.length) (h0 : 0 < cs.length) (hbig : cs.length ≤ 536870912) (hall : ∀ c ∈ cs, ¬ 255 < c) (hfr : 4 ≤ R.frames) (hlo : W + 65 ≤ R.locals) :
    Back l R p e below s args New1.yN len W (fun P a => a = #[.ref x, .ref b] ∧ P.U.heap = h ∧ P.cells + 1 ≤ R.cells ∧ P.slots + cs.length ≤ R.slots)
      (fun P _ v B => ∃ L, QA Z x zn cs h v B.U.heap L ∧ B.locs = P.locs ++ L ∧ B.cells = P.cells + 1 ∧ B.slots = P.slots + cs.length) := by
  obtain ⟨A, K1, K2, K3, K4, K5, K6⟩ := K
  have e : A.slots.size = cs.length := K3.trans hlen
  have hat : ∀ (i : Nat) (hi : i < cs.length), A.slots[i]? = some (.int cs[i]) := fun i hi => by rw [K5 i (by omega)]; simp [List.getD_eq_getElem?_getD, hi]
  have hcv : ∀ (i : Nat) (hi : i < cs.length), cv A i = cs[i] := fun i hi => by unfold cv; rw [hat i hi]
  have hty : Typed .char A := fun i v hv => by
    have hi : i < A.slots.size := (Array.getElem?_eq_some_iff.mp hv).1
    have q := K5 i hi
    rw [hv] at q
    rw [Option.some.inj q]
    exact K6 i hi
  refine Back.mono (back hZ hw wi E V C K1 hty S hz (by omega) (by omega) (fun i hi => by rw [hcv i (by omega)]; exact hall _ (List.getElem_mem _)) hfr hlo) (fun P a hp => ⟨hp.1, hp.2.1, hp.2.2.1, by rw [e]; exact hp.2.2.2⟩) (fun P a v B hp hq => ?_)
  obtain ⟨L, ⟨q1, q2, q3, q4, q5, q6, q7, ⟨V', v1, v2, v3, v4, v5⟩, q9⟩, hl, hc, hs⟩ := hq
  refine ⟨L, ⟨q1, q2, q3, q4, q5, q6, q7, ⟨V'.cls, v3, V', v1, rfl, by rw [v4, e, hlen], K4, fun i hi => ?_, fun i hi => ?_⟩, q9⟩, hl, hc, by rw [hs, e]⟩
  · have hi' : i < cs.length := by omega
    rw [v5 i (by omega), hcv i hi']; simp [List.getD_eq_getElem?_getD, hi']
  · have hi' : i < cs.length := by omega
    simp only [List.getD_eq_getElem?_getD, List.getElem?_map, List.getElem?_eq_getElem hi', Option.map_some, Option.getD_some]
    exact fits_lo8 _
end StrChars.Road
namespace StrChars.Road
open Jvm Sem ClassFile Op Lib Jvm.Stand Jvm.Free Jvm.Free.XT
/-- WHAT COMES BACK, in the writer's own shape -/
def QV (Z : State) (x : Addr) (N : Int32) (bs : List Int32) (h : Heap) (n0 : Nat) (v : Option Value) (h' : Heap) (L : List Loc) : Prop := v = none ∧ RoadKit.Fr n0 L ∧ RoadKit.Keep h h' [x] ∧ RoadKit.Exa Z h' x ST ∧ RoadKit.Fld Z h' x ST "coder" "B" (.int 0) ∧
  ∃ (t : Addr) (kb : ClassId), n0 ≤ t ∧ h.size ≤ t ∧ ¬ t = x ∧ RoadKit.Fld Z h' x ST "value" "[B" (.ref t) ∧ RoadKit.Arv Z h' t kb .byte N (bs.map Value.int) (.int 0)
/-- **new String(chars) AT A CALL, FOR THE WRITER**: a char[] of n known ints, each 0 to 255 -/
theorem backV {p : Program} {l : Launch} {e : Env} {R : Room} {s : State} {args : Array Value} {below : List Frame} {len W : Nat} {Z : State} {a0 : Array Value} {h : Heap} (hZ : Z.Warmed39 s.vm) (hw : ∀ d ∈ words, d.before a0 Z = true) {kI : Nat} (wi : (Jvm.Cond.instantiable ST kI).before a0 Z = true)
    {x b : Addr} {kC : ClassId} {cs bs : List Int32} {d v0 c0 : Value} {z N : Int32} {n n0 : Nat} (hx0 : n0 ≤ x) (hh0 : n0 ≤ h.size) (E : RoadKit.Exa Z h x ST) (V : RoadKit.Fld Z h x ST "value" "[B" v0) (C : RoadKit.Fld Z h x ST "coder" "B" c0) (K : RoadKit.Arv Z h b kC .char N (cs.map Value.int) d) (S : RoadKit.Sta Z h ST "COMPACT_STRINGS" "Z" (.int z)) (hz : ¬ z = 0)
    (hn : cs.length = n) (hN : N = Int32.ofNat n) (l0 : 0 < n) (l2 : n ≤ 4000) (hp : ∀ c ∈ cs, ¬ c < 0 ∧ ¬ (255 : Int32) < c) (hb : bs = cs.map (fun c => c.toInt8.toInt32)) (hfr : 4 ≤ R.frames) (hlo : W + 65 ≤ R.locals) :
    Back l R p e below s args (⟨"java/lang/String", "<init>", "([C)V"⟩ : MethodName) len W (fun P a => a = #[.ref x, .ref b] ∧ P.U.heap = h ∧ P.cells + 1 ≤ R.cells ∧ P.slots + n ≤ R.slots)
      (fun P _ v B => ∃ L, QV Z x N bs h n0 v B.U.heap L ∧ B.locs = P.locs ++ L ∧ B.cells = P.cells + 1 ∧ B.slots = P.slots + n) := by
  subst hn hN hb
  refine Back.mono (backArv hZ hw wi E V C K S hz (n32 (by omega)) l0 (by omega) (fun c hc => (hp c hc).2) hfr hlo) (fun P a hp => hp) (fun P a v B hp hq => ?_)
  obtain ⟨L, ⟨q1, q2, q3, q4, q5, q6, q7, ⟨kb, v1, v2⟩, q9⟩, hl, hc, hs⟩ := hq
  exact ⟨L, ⟨q1, fun y hy => by rw [q2 y hy]; exact hx0, q3, q5, q7, h.size, kb, hh0, Nat.le_refl _, Nat.ne_of_gt E.lt, q6, by rw [List.map_map]; exact v2⟩, hl, hc, hs⟩
end StrChars.Road
namespace StrChars
open Jvm Sem ClassFile Op Lib Jvm.Stand Jvm.Free.XT Jvm.Free.ALB Jvm.Free.JM Jvm.Free
open Jvm.Lib.Cold (StaticIs)
def hi8 (x : Int32) : Int32 := lo8 (x >>> ((8 : Int32) &&& 31))
/-- what StringUTF16.getChar makes of two bytes -/
def pairCh (u v : Int32) : Int32 := (((u &&& 255) <<< ((0 : Int32) &&& 31)) ||| ((v &&& 255) <<< ((8 : Int32) &&& 31))).toUInt32.toUInt16.toUInt32.toInt32
theorem shr0 (c : Int32) : c >>> ((0 : Int32) &&& 31) = c := by
  have e : ((0 : Int32) &&& 31) = 0 := by decide
  rw [e]
  apply Int32.toBitVec_inj.mp
  rw [Int32.toBitVec_shiftRight]
  have e1 : ((0 : Int32).toBitVec.smod 32) = 0#32 := by decide
  rw [e1, BitVec.sshiftRight_eq']
  exact BitVec.sshiftRight_zero
theorem lo8_and (x : Int32) : (lo8 x &&& 255).toBitVec.toNat = x.toBitVec.toNat % 256 := by
  have h : (lo8 x).toBitVec = (x.toBitVec.signExtend 8).signExtend 32 := by rw [lo8, Int8.toBitVec_toInt32, Int32.toBitVec_toInt8]
  rw [Int32.toBitVec_and, BitVec.toNat_and, h]
  have e : ((x.toBitVec.signExtend 8).signExtend 32).toNat % 256 = x.toBitVec.toNat % 256 := by
    rw [BitVec.toNat_signExtend]
    have hlt := x.toBitVec.isLt
    simp only [BitVec.toNat_setWidth, BitVec.toNat_signExtend]
    split <;> split <;> omega
  rw [← e]
  exact Nat.and_two_pow_sub_one_eq_mod _ 8
theorem pair_says {c : Int32} (h0 : ¬ c < 0) (h1 : ¬ 65535 < c) : pairCh (lo8 c) (hi8 c) = c := by
  rw [Int32.lt_iff_toInt_lt] at h0 h1
  have e0 : (0 : Int32).toInt = 0 := rfl
  have e1 : (65535 : Int32).toInt = 65535 := rfl
  have hc : c.toInt = c.toBitVec.toNat := by
    have := c.toBitVec.isLt
    have e : c.toInt = c.toBitVec.toInt := rfl
    rw [e] at h0 h1
    rw [e]
    rw [BitVec.toInt_eq_toNat_cond] at h0 h1 ⊢
    split at h0 <;> split <;> omega
  have hn : c.toBitVec.toNat < 65536 := by omega
  have a1 := lo8_and c
  have a2 : (hi8 c &&& 255).toBitVec.toNat = c.toBitVec.toNat / 256 := by
    rw [hi8, lo8_and]
    have e : ((8 : Int32) &&& 31) = 8 := by decide
    rw [e, Int32.toBitVec_shiftRight]
    have e2 : ((8 : Int32).toBitVec.smod 32) = 8#32 := by decide
    rw [e2, BitVec.sshiftRight_eq', BitVec.toNat_sshiftRight_of_msb_false (by rw [BitVec.msb_eq_false_iff_two_mul_lt]; omega)]
    show c.toBitVec.toNat >>> 8 % 256 = _
    rw [Nat.shiftRight_eq_div_pow]
    omega
  unfold pairCh
  apply Int32.toBitVec_inj.mp
  apply BitVec.eq_of_toNat_eq
  have f0 : ((0 : Int32) &&& 31) = 0 := by decide
  have f8 : ((8 : Int32) &&& 31) = 8 := by decide
  rw [f0, f8]
  have g : (((lo8 c &&& 255) <<< (0 : Int32)) ||| ((hi8 c &&& 255) <<< (8 : Int32))).toBitVec.toNat = c.toBitVec.toNat := by
    rw [Int32.toBitVec_or, Int32.toBitVec_shiftLeft, Int32.toBitVec_shiftLeft]
    have s0 : ((0 : Int32).toBitVec.smod 32) = 0#32 := by decide
    have s8 : ((8 : Int32).toBitVec.smod 32) = 8#32 := by decide
    rw [s0, s8, BitVec.toNat_or]
    simp only [BitVec.shiftLeft_eq', BitVec.toNat_shiftLeft, a1, a2]
    show (c.toBitVec.toNat % 256) <<< 0 % 2 ^ 32 ||| (c.toBitVec.toNat / 256) <<< 8 % 2 ^ 32 = _
    rw [Nat.shiftLeft_zero, Nat.mod_eq_of_lt (show c.toBitVec.toNat % 256 < 2 ^ 32 by omega), Nat.mod_eq_of_lt (show (c.toBitVec.toNat / 256) <<< 8 < 2 ^ 32 by rw [Nat.shiftLeft_eq]; omega), Nat.or_comm, ← Nat.shiftLeft_add_eq_or_of_lt (by omega), Nat.shiftLeft_eq]
    omega
  show BitVec.toNat (((((lo8 c &&& 255) <<< (0 : Int32)) ||| ((hi8 c &&& 255) <<< (8 : Int32))).toBitVec.setWidth 16).setWidth 32) = _
  rw [BitVec.toNat_setWidth, BitVec.toNat_setWidth, g]
  omega
end StrChars
namespace StrChars
open Jvm Sem ClassFile Op Lib Jvm.Stand Jvm.Free.XT Jvm.Free.ALB Jvm.Free.JM Jvm.Free
open Jvm.Lib.Cold (StaticIs)
theorem shr1 {n : Nat} (h : 2 * n < 2 ^ 31) : Int32.ofNat (2 * n) >>> ((1 : Int32) &&& 31) = Int32.ofNat n := by
  have e : ((1 : Int32) &&& 31) = 1 := by decide
  rw [e]
  apply Int32.toBitVec_inj.mp
  rw [Int32.toBitVec_shiftRight]
  have e1 : ((1 : Int32).toBitVec.smod 32) = 1#32 := by decide
  have hm : (BitVec.ofNat 32 (2 * n)).toNat = 2 * n := by rw [BitVec.toNat_ofNat, Nat.mod_eq_of_lt (by omega)]
  rw [e1, BitVec.sshiftRight_eq']
  apply BitVec.eq_of_toNat_eq
  show ((BitVec.ofNat 32 (2 * n)).sshiftRight 1).toNat = (BitVec.ofNat 32 n).toNat
  rw [BitVec.toNat_sshiftRight_of_msb_false (by rw [BitVec.msb_eq_false_iff_two_mul_lt, hm]; omega), hm, BitVec.toNat_ofNat, Nat.shiftRight_eq_div_pow]
  omega
/-- charAt's cast of a byte read back -/
def chr8 (u : Int32) : Int32 := (u &&& 255).toUInt32.toUInt16.toUInt32.toInt32
theorem chr8_lo8 {c : Int32} (h0 : ¬ c < 0) (h1 : ¬ 255 < c) : chr8 (lo8 c) = c := by
  have t : ∀ k : Fin 256, (Int32.ofNat k.val).toUInt32.toUInt16.toUInt32.toInt32 = Int32.ofNat k.val := by decide +kernel
  unfold chr8
  rw [lo8_mask h0 h1]
  rw [Int32.lt_iff_toInt_lt] at h0 h1
  have e0 : (0 : Int32).toInt = 0 := rfl
  have e1 : (255 : Int32).toInt = 255 := rfl
  obtain ⟨k, hk⟩ : ∃ k : Nat, c.toInt = k := ⟨c.toInt.toNat, by omega⟩
  have hx : c = Int32.ofNat k := Int32.toInt_inj.mp (by rw [hk, Int32.toInt_ofNat_small (by omega)])
  rw [hx]
  exact t ⟨k, by omega⟩
theorem narrow_ch {c : Int32} (h0 : ¬ c < 0) (h1 : ¬ 65535 < c) : narrow .char (.int c) = .int c := by
  have q : narrow .char (.int (pairCh (lo8 c) (hi8 c))) = .int (pairCh (lo8 c) (hi8 c)) := narrow_c _
  rwa [pair_says h0 h1] at q
/-- the array's cell V codes the n chars f 0 .. f (n - 1) by the coder cd, as the JDK does: coder 1 just where some char is above 255 -/
def Cod (cd : Int32) (n : Nat) (f : Nat → Int32) (V : Cell) : Prop := (cd = 0 ∧ V.slots.size = n ∧ ∀ j, j < n → V.slots[j]? = some (.int (lo8 (f j))) ∧ ¬ 255 < f j) ∨ (cd = 1 ∧ V.slots.size = 2 * n ∧ (∀ j, j < n → V.slots[2 * j]? = some (.int (lo8 (f j))) ∧ V.slots[2 * j + 1]? = some (.int (hi8 (f j)))) ∧ ∃ j, j < n ∧ 255 < f j)
theorem Cod.cd {cd : Int32} {n : Nat} {f : Nat → Int32} {V : Cell} (h : Cod cd n f V) : cd = 0 ∨ cd = 1 := h.imp (fun q => q.1) fun q => q.1
theorem Cod.len {cd : Int32} {n : Nat} {f : Nat → Int32} {V : Cell} (h : Cod cd n f V) (hs : V.slots.size < 2 ^ 31) : Int32.ofNat V.slots.size >>> (cd &&& 31) = Int32.ofNat n := by
  rcases h with ⟨rfl, h, -⟩ | ⟨rfl, h, -⟩
  · rw [shr0, h]
  · rw [h, shr1 (by omega)]
/-- **x is a String of the n chars f 0 .. f (n - 1)**, Latin-1 or UTF-16; its array at t has the cell V -/
def Txt (x t : Addr) (V : Cell) (cd : Int32) (n : Nat) (f : Nat → Int32) (U : State) : Prop := Exact "java/lang/String" x U ∧ Has x "java/lang/String" "value" "[B" (.ref t) U ∧ Has x "java/lang/String" "coder" "B" (.int cd) U ∧ XT.Arr .byte t V U ∧ Cod cd n f V ∧ ∀ j, j < n → ¬ f j < 0 ∧ ¬ 65535 < f j
theorem Txt.mv {x t : Addr} {V : Cell} {cd : Int32} {n : Nat} {f : Nat → Int32} {U U' : State} (h : Txt x t V cd n f U) (hal : U.vm.Alike U'.vm) (hh : U'.heap = U.heap) : Txt x t V cd n f U' := ⟨h.1.mv hal hh, h.2.1.mv hal hh, h.2.2.1.mv hal hh, h.2.2.2.1.mv hal hh, h.2.2.2.2⟩
namespace Cdr
def yN : MethodName := ⟨"java/lang/String", "coder", "()B"⟩
abbrev yB : ByteArray := jdk_42_method_152_code
theorem d0 : decode yB 0 = .ok (.getstatic 38, 3) := by decide +kernel
theorem d3 : decode yB 3 = .ok (.ifCond (.eq) 10, 3) := by decide +kernel
theorem d6 : decode yB 6 = .ok (.aload_n 0, 1) := by decide +kernel
theorem d7 : decode yB 7 = .ok (.getfield 15, 3) := by decide +kernel
theorem d10 : decode yB 10 = .ok (.goto 4, 3) := by decide +kernel
theorem d14 : decode yB 14 = .ok (.ireturn, 1) := by decide +kernel
def site : List Cond := [.fieldLink "java/lang/String" 38 "java/lang/String" "COMPACT_STRINGS" "Z", .fieldLink "java/lang/String" 15 "java/lang/String" "coder" "B"]
def tab : Cond := tabOf yN yB 1 (some .byte) site
def P (x : Addr) (cd z : Int32) (args : Array Value) (s : State) : Prop := args = #[.ref x] ∧ Has x "java/lang/String" "coder" "B" (.int cd) s ∧ (cd = 0 ∨ cd = 1) ∧ StaticIs s "java/lang/String" "COMPACT_STRINGS" "Z" (.int z) ∧ ¬ z = 0
def E (cd : Int32) (r : Option Value) (s u : State) : Prop := XT.PureE (some (.int cd)) r s u
theorem law (l : Launch) (x : Addr) (cd z : Int32) : Law l yN 1 0 0 0 yB 1 (some .byte) site (P x cd z) (E cd) [] 0 0 := by
  refine Law.of_walk (plainFor_of_name (by decide +kernel)) (by decide +kernel) (by decide +kernel) (by decide) (fun _ _ h => by rw [h.1]; rfl) (fun _ U U' hal hh h => ⟨h.1, h.2.1.mv hal hh, h.2.2.1, h.2.2.2.1.there hal hh, h.2.2.2.2⟩) (fun r U U' V V' h1 hal h2 h => XT.PureE.mv r U U' V V' h1 hal h2 h) ?_
  intro p e s m args below meth c s₁ X0 hexec hbytes hml hret hlk hnm hown hh0 W hP
  obtain ⟨rfl, hx, hc, s1, hz⟩ := hP
  have c1 : Steps p.tables e below (s₁.setTop (entryFrame m #[.ref x] 1)) (s₁.setTop (mkF m 0 #[.val (.ref x)] [])) := entry rfl
  obtain ⟨T2, X2, q2, st2⟩ := X0.sget hexec hown (wk W (.fieldLink "java/lang/String" 38 "java/lang/String" "COMPACT_STRINGS" "Z")) s1 (fun _ _ h => by rw [hh0]; exact h) (g := (mkF m 0 #[.val (.ref x)] [])) rfl (hb hbytes d0)
  have hh2 := q2.trans hh0
  have c3 : Steps p.tables e below (s₁.setTop (entryFrame m #[.ref x] 1)) (T2.setTop (mkF m 7 #[.val (.ref x)] [.ref x])) := (c1.trans (st2 _ (Steps.refl _))).trans (by
    refine XS.ifNo X2.here hexec rfl (hb hbytes d3) rfl (i0_eq_f hz) ?_
    refine XS.aloadN X2.here hexec rfl (hb hbytes d6) rfl rfl ?_
    exact Steps.refl _)
  obtain ⟨T4, X4, q4, st4⟩ := X2.hget hexec hown (wk W (.fieldLink "java/lang/String" 15 "java/lang/String" "coder" "B")) (hx.mv X2.warmed.alike hh2) (g := (mkF m 7 #[.val (.ref x)] [.ref x])) rfl (rest := []) rfl (hb hbytes d7)
  have c5 : Steps p.tables e below (s₁.setTop (entryFrame m #[.ref x] 1)) (T4.setTop (mkF m 14 #[.val (.ref x)] [.int cd])) := (c3.trans (st4 _ (Steps.refl _))).trans (by
    refine XS.goto X4.here hexec rfl (pc0 := 10) rfl (hb hbytes d10) (by decide) rfl ?_
    exact Steps.refl _)
  exact ⟨T4, some (.int cd), _, _, _, X4, rfl, rfl, rfl, (fun h => by cases h), ⟨rfl, q4.trans hh2⟩, fun fs hl => c5.trans (X4.ireturnOut hexec hret (by rcases hc with rfl | rfl <;> rfl) (Or.inr (Or.inr (Or.inl rfl))) (hb hbytes d14) hl)⟩
end Cdr
namespace Len
def yN : MethodName := ⟨"java/lang/String", "length", "()I"⟩
abbrev yB : ByteArray := jdk_42_method_54_code
theorem d0 : decode yB 0 = .ok (.aload_n 0, 1) := by decide +kernel
theorem d1 : decode yB 1 = .ok (.getfield 9, 3) := by decide +kernel
theorem d4 : decode yB 4 = .ok (.arraylength, 1) := by decide +kernel
theorem d5 : decode yB 5 = .ok (.aload_n 0, 1) := by decide +kernel
theorem d6 : decode yB 6 = .ok (.invokevirtual 335, 3) := by decide +kernel
theorem d9 : decode yB 9 = .ok (.ishr, 1) := by decide +kernel
theorem d10 : decode yB 10 = .ok (.ireturn, 1) := by decide +kernel
def site : List Cond := [.fieldLink "java/lang/String" 9 "java/lang/String" "value" "[B", Cdr.tab] ++ virtW "java/lang/String" 335 "java/lang/String" Cdr.yN Cdr.yN
def tab : Cond := tabOf yN yB 1 (some .int) site
def P (x t : Addr) (V : Cell) (cd : Int32) (n : Nat) (f : Nat → Int32) (z : Int32) (args : Array Value) (s : State) : Prop := args = #[.ref x] ∧ Txt x t V cd n f s ∧ StaticIs s "java/lang/String" "COMPACT_STRINGS" "Z" (.int z) ∧ ¬ z = 0
def E (n : Nat) (r : Option Value) (s u : State) : Prop := XT.PureE (some (.int (Int32.ofNat n))) r s u
/-- length() of a String of n chars, in either coding -/
theorem law (l : Launch) (x t : Addr) (V : Cell) (cd : Int32) (n : Nat) (f : Nat → Int32) (z : Int32) : Law l yN 1 0 1 13 yB 1 (some .int) site (P x t V cd n f z) (E n) [] 0 0 := by
  refine Law.of_walk (plainFor_of_name (by decide +kernel)) (by decide +kernel) (by decide +kernel) (by decide) (fun _ _ h => by rw [h.1]; rfl) (fun _ U U' hal hh h => ⟨h.1, h.2.1.mv hal hh, h.2.2.1.there hal hh, h.2.2.2⟩) (fun r U U' V V' h1 hal h2 h => XT.PureE.mv r U U' V V' h1 hal h2 h) ?_
  intro p e s m args below meth c s₁ X0 hexec hbytes hml hret hlk hnm hown hh0 W hP
  obtain ⟨rfl, hx, s1, hz⟩ := hP
  have v31 := hx.2.2.2.1.2.2.2
  have c1 : Steps p.tables e below (s₁.setTop (entryFrame m #[.ref x] 1)) (s₁.setTop (mkF m 1 #[.val (.ref x)] [.ref x])) := Steps.trans (entry rfl) (by
    show Steps p.tables e below (s₁.setTop (mkF m 0 #[.val (.ref x)] [])) _
    refine XS.aloadN X0.here hexec rfl (hb hbytes d0) rfl rfl ?_
    exact Steps.refl _)
  obtain ⟨T2, X2, q2, st2⟩ := X0.hget hexec hown (wk W (.fieldLink "java/lang/String" 9 "java/lang/String" "value" "[B")) (hx.mv X0.warmed.alike hh0).2.1 (g := (mkF m 1 #[.val (.ref x)] [.ref x])) rfl (rest := []) rfl (hb hbytes d1)
  have hh2 := q2.trans hh0
  have hx2 := hx.mv X2.warmed.alike hh2
  have c3 : Steps p.tables e below (s₁.setTop (entryFrame m #[.ref x] 1)) (T2.setTop (mkF m 6 #[.val (.ref x)] [.ref x, .int (Int32.ofNat V.slots.size)])) := (c1.trans (st2 _ (Steps.refl _))).trans (by
    refine X2.alen hexec hx2.2.2.2.1 rfl rfl (hb hbytes d4) ?_
    refine XS.aloadN X2.here hexec rfl (hb hbytes d5) rfl rfl ?_
    exact Steps.refl _)
  obtain ⟨v4, T4, X4, E4, g4⟩ := X2.callV hexec (Cdr.law l x cd z) hown (wks W (virtW "java/lang/String" 335 "java/lang/String" Cdr.yN Cdr.yN)) rfl (by decide) (wk W Cdr.tab) (W := 1) (Nat.le_of_ble_eq_true rfl) (Nat.le_of_ble_eq_true rfl) (Nat.le_refl _) (Nat.le_refl _) (hx2.1.fc X2.warmed.alike) hx2.1.is (g := (mkF m 6 #[.val (.ref x)] [.ref x, .int (Int32.ofNat V.slots.size)])) rfl (by rw [hml]; rfl) c3 (argsL := []) (rest := [.int (Int32.ofNat V.slots.size)]) rfl rfl (by show 2 * 0 + (1 + 0) ≤ _; decide) (hb hbytes d6) (⟨rfl, hx2.2.2.1, hx.2.2.2.2.1.cd, s1.there X2.warmed.alike hh2, hz⟩)
  obtain ⟨rfl, q4⟩ := E4
  have c5 : Steps p.tables e below (s₁.setTop (entryFrame m #[.ref x] 1)) (T4.setTop (mkF m 10 #[.val (.ref x)] [.int (Int32.ofNat V.slots.size >>> (cd &&& 31))])) := Steps.trans g4 (by
    refine ishr X4.here hexec rfl (hb hbytes d9) rfl ?_
    exact Steps.refl _)
  rw [hx.2.2.2.2.1.len v31] at c5
  exact ⟨T4, some (.int (Int32.ofNat n)), _, _, _, X4, rfl, rfl, rfl, (fun h => by cases h), ⟨rfl, q4.trans hh2⟩, fun fs hl => c5.trans (X4.ireturnOut hexec hret rfl (Or.inl rfl) (hb hbytes d10) hl)⟩
theorem pays {l : Launch} {R : Room} {p : Program} {e : Env} {below : List Frame} {s : State} {sargs : Array Value} {len W : Nat} (x t : Addr) (V : Cell) (cd : Int32) (n : Nat) (f : Nat → Int32) (z : Int32) (htab : tab.before sargs s = true) (hfr : 2 ≤ R.frames) (hlo : W + 25 ≤ R.locals) :
    Back l R p e below s sargs yN len W (fun A₁ a₁ => A₁.cells + 0 ≤ R.cells ∧ A₁.slots + 0 ≤ R.slots ∧ P x t V cd n f z a₁ A₁.U) (fun A₁ _ v₁ B₁ => E n v₁ A₁.U B₁.U ∧ B₁.locs = A₁.locs ++ [] ∧ B₁.cells = A₁.cells + 0 ∧ B₁.slots = A₁.slots + 0) :=
  (law l x t V cd n f z).pays htab hfr (by omega)
end Len
namespace IsL
def yN : MethodName := ⟨"java/lang/String", "isLatin1", "()Z"⟩
abbrev yB : ByteArray := jdk_42_method_154_code
theorem d0 : decode yB 0 = .ok (.getstatic 38, 3) := by decide +kernel
theorem d3 : decode yB 3 = .ok (.ifCond (.eq) 14, 3) := by decide +kernel
theorem d6 : decode yB 6 = .ok (.aload_n 0, 1) := by decide +kernel
theorem d7 : decode yB 7 = .ok (.getfield 15, 3) := by decide +kernel
theorem d10 : decode yB 10 = .ok (.ifCond (.ne) 7, 3) := by decide +kernel
theorem d13 : decode yB 13 = .ok (.iconst 1, 1) := by decide +kernel
theorem d14 : decode yB 14 = .ok (.goto 4, 3) := by decide +kernel
theorem d17 : decode yB 17 = .ok (.iconst 0, 1) := by decide +kernel
theorem d18 : decode yB 18 = .ok (.ireturn, 1) := by decide +kernel
def site : List Cond := [.fieldLink "java/lang/String" 38 "java/lang/String" "COMPACT_STRINGS" "Z", .fieldLink "java/lang/String" 15 "java/lang/String" "coder" "B"]
def tab : Cond := tabOf yN yB 1 (some .boolean) site
def P (x : Addr) (cd z : Int32) (args : Array Value) (s : State) : Prop := args = #[.ref x] ∧ Has x "java/lang/String" "coder" "B" (.int cd) s ∧ (cd = 0 ∨ cd = 1) ∧ StaticIs s "java/lang/String" "COMPACT_STRINGS" "Z" (.int z) ∧ ¬ z = 0
def E (cd : Int32) (r : Option Value) (s u : State) : Prop := XT.PureE (some (.int (1 - cd))) r s u
theorem law (l : Launch) (x : Addr) (cd z : Int32) : Law l yN 1 0 0 0 yB 1 (some .boolean) site (P x cd z) (E cd) [] 0 0 := by
  refine Law.of_walk (plainFor_of_name (by decide +kernel)) (by decide +kernel) (by decide +kernel) (by decide) (fun _ _ h => by rw [h.1]; rfl) (fun _ U U' hal hh h => ⟨h.1, h.2.1.mv hal hh, h.2.2.1, h.2.2.2.1.there hal hh, h.2.2.2.2⟩) (fun r U U' V V' h1 hal h2 h => XT.PureE.mv r U U' V V' h1 hal h2 h) ?_
  intro p e s m args below meth c s₁ X0 hexec hbytes hml hret hlk hnm hown hh0 W hP
  obtain ⟨rfl, hx, hc, s1, hz⟩ := hP
  have c1 : Steps p.tables e below (s₁.setTop (entryFrame m #[.ref x] 1)) (s₁.setTop (mkF m 0 #[.val (.ref x)] [])) := entry rfl
  obtain ⟨T2, X2, q2, st2⟩ := X0.sget hexec hown (wk W (.fieldLink "java/lang/String" 38 "java/lang/String" "COMPACT_STRINGS" "Z")) s1 (fun _ _ h => by rw [hh0]; exact h) (g := (mkF m 0 #[.val (.ref x)] [])) rfl (hb hbytes d0)
  have hh2 := q2.trans hh0
  have c3 : Steps p.tables e below (s₁.setTop (entryFrame m #[.ref x] 1)) (T2.setTop (mkF m 7 #[.val (.ref x)] [.ref x])) := (c1.trans (st2 _ (Steps.refl _))).trans (by
    refine XS.ifNo X2.here hexec rfl (hb hbytes d3) rfl (i0_eq_f hz) ?_
    refine XS.aloadN X2.here hexec rfl (hb hbytes d6) rfl rfl ?_
    exact Steps.refl _)
  obtain ⟨T4, X4, q4, st4⟩ := X2.hget hexec hown (wk W (.fieldLink "java/lang/String" 15 "java/lang/String" "coder" "B")) (hx.mv X2.warmed.alike hh2) (g := (mkF m 7 #[.val (.ref x)] [.ref x])) rfl (rest := []) rfl (hb hbytes d7)
  have c5 : Steps p.tables e below (s₁.setTop (entryFrame m #[.ref x] 1)) (T4.setTop (mkF m 10 #[.val (.ref x)] [.int cd])) := c3.trans (st4 _ (Steps.refl _))
  have c6 : Steps p.tables e below (s₁.setTop (entryFrame m #[.ref x] 1)) (T4.setTop (mkF m 18 #[.val (.ref x)] [.int (1 - cd)])) := by
    rcases hc with rfl | rfl
    · exact c5.trans (by
        refine XS.ifNo X4.here hexec rfl (hb hbytes d10) rfl (i0_ne_f rfl) ?_
        refine iconstV X4.here hexec rfl 1 (hb hbytes d13) (by decide) ?_
        refine XS.goto X4.here hexec rfl (pc0 := 14) rfl (hb hbytes d14) (by decide) rfl ?_
        exact Steps.refl _)
    · exact c5.trans (by
        refine XS.ifYes X4.here hexec rfl (pc0 := 10) rfl (hb hbytes d10) rfl (i0_ne_t (by decide)) (by decide) rfl ?_
        refine iconstV X4.here hexec rfl 0 (hb hbytes d17) (by decide) ?_
        exact Steps.refl _)
  exact ⟨T4, some (.int (1 - cd)), _, _, _, X4, rfl, rfl, rfl, (fun h => by cases h), ⟨rfl, q4.trans hh2⟩, fun fs hl => c6.trans (X4.ireturnOut hexec hret (by rcases hc with rfl | rfl <;> rfl) (Or.inr (Or.inl rfl)) (hb hbytes d18) hl)⟩
end IsL
namespace LChA
def yN : MethodName := ⟨"java/lang/StringLatin1", "charAt", "([BI)C"⟩
abbrev yB : ByteArray := jdk_43_method_2_code
theorem d0 : decode yB 0 = .ok (.iload_n 1, 1) := by decide +kernel
theorem d1 : decode yB 1 = .ok (.aload_n 0, 1) := by decide +kernel
theorem d2 : decode yB 2 = .ok (.arraylength, 1) := by decide +kernel
theorem d3 : decode yB 3 = .ok (.invokestatic 9, 3) := by decide +kernel
theorem d6 : decode yB 6 = .ok (.aload_n 0, 1) := by decide +kernel
theorem d7 : decode yB 7 = .ok (.iload_n 1, 1) := by decide +kernel
theorem d8 : decode yB 8 = .ok (.baload, 1) := by decide +kernel
theorem d9 : decode yB 9 = .ok (.sipush 255, 3) := by decide +kernel
theorem d12 : decode yB 12 = .ok (.iand, 1) := by decide +kernel
theorem d13 : decode yB 13 = .ok (.i2c, 1) := by decide +kernel
theorem d14 : decode yB 14 = .ok (.ireturn, 1) := by decide +kernel
def site : List Cond := [JO.Str_checkIndex.tab] ++ staticW "java/lang/StringLatin1" 9 JO.Str_checkIndex.yN
def tab : Cond := tabOf yN yB 2 (some .char) site
def P (t : Addr) (V : Cell) (i : Nat) (u : Int32) (fm : Value) (args : Array Value) (s : State) : Prop := args = #[.ref t, .int (Int32.ofNat i)] ∧ XT.Arr .byte t V s ∧ V.slots[i]? = some (.int u) ∧ (StaticIs s "jdk/internal/util/Preconditions" "SIOOBE_FORMATTER" "Ljava/util/function/BiFunction;" fm ∧ fm.isRef = true)
def E (u : Int32) (r : Option Value) (s w : State) : Prop := XT.PureE (some (.int (chr8 u))) r s w
theorem law (l : Launch) (t : Addr) (V : Cell) (i : Nat) (u : Int32) (fm : Value) : Law l yN 2 2 2 27 yB 2 (some .char) site (P t V i u fm) (E u) [] 0 0 := by
  refine Law.of_walk (plainFor_of_name (by decide +kernel)) (by decide +kernel) (by decide +kernel) (by decide) (fun _ _ h => by rw [h.1]; rfl) (fun _ U U' hal hh h => ⟨h.1, h.2.1.mv hal hh, h.2.2.1, h.2.2.2.1.there hal hh, h.2.2.2.2⟩) (fun r U U' V V' h1 hal h2 h => XT.PureE.mv r U U' V V' h1 hal h2 h) ?_
  intro p e s m args below meth c s₁ X0 hexec hbytes hml hret hlk hnm hown hh0 W hP
  obtain ⟨rfl, hV, hu, s1, rf⟩ := hP
  have v31 := hV.2.2.2
  have hi : i < V.slots.size := (Array.getElem?_eq_some_iff.mp hu).1
  have c1 : Steps p.tables e below (s₁.setTop (entryFrame m #[.ref t, .int (Int32.ofNat i)] 2)) (s₁.setTop (mkF m 0 #[.val (.ref t), .val (.int (Int32.ofNat i))] [])) := entry rfl
  have c2 : Steps p.tables e below (s₁.setTop (entryFrame m #[.ref t, .int (Int32.ofNat i)] 2)) (s₁.setTop (mkF m 3 #[.val (.ref t), .val (.int (Int32.ofNat i))] [.int (Int32.ofNat V.slots.size), .int (Int32.ofNat i)])) := c1.trans (by
    refine XS.iloadN X0.here hexec rfl (hb hbytes d0) rfl ?_
    refine XS.aloadN X0.here hexec rfl (hb hbytes d1) rfl rfl ?_
    refine X0.alen hexec (hV.mv X0.warmed.alike hh0) rfl rfl (hb hbytes d2) ?_
    exact Steps.refl _)
  obtain ⟨v3, T3, X3, E3, g3⟩ := X0.callS hexec (JO.Str_checkIndex.law l (Int32.ofNat i) (Int32.ofNat V.slots.size) fm) hown (wks W (staticW "java/lang/StringLatin1" 9 JO.Str_checkIndex.yN)) (wk W JO.Str_checkIndex.tab) (W := 0) (Nat.le_of_ble_eq_true rfl) (Nat.le_of_ble_eq_true rfl) (Nat.le_refl _) (Nat.le_refl _) (g := (mkF m 3 #[.val (.ref t), .val (.int (Int32.ofNat i))] [.int (Int32.ofNat V.slots.size), .int (Int32.ofNat i)])) rfl (by rw [hml]; rfl) c2 (argsL := [.int (Int32.ofNat i), .int (Int32.ofNat V.slots.size)]) (rest := []) rfl rfl (by show 2 * 0 + 0 ≤ _; decide) (hb hbytes d3) (⟨rfl, rf, s1.there X0.warmed.alike hh0, Int32.ofNat_not_neg (by omega), lt32 v31 hi⟩)
  obtain ⟨rfl, q3⟩ := E3
  have hh3 := q3.trans hh0
  have c4 : Steps p.tables e below (s₁.setTop (entryFrame m #[.ref t, .int (Int32.ofNat i)] 2)) (T3.setTop (mkF m 14 #[.val (.ref t), .val (.int (Int32.ofNat i))] [.int (chr8 u)])) := Steps.trans g3 (by
    refine XS.aloadN X3.here hexec rfl (hb hbytes d6) rfl rfl ?_
    refine XS.iloadN X3.here hexec rfl (hb hbytes d7) rfl ?_
    refine X3.aget hexec (hV.mv X3.warmed.alike hh3) rfl hu rfl rfl (hb hbytes d8) ?_
    refine sipushV X3.here hexec rfl 255 (hb hbytes d9) (by decide) ?_
    refine XS.iand X3.here hexec rfl (hb hbytes d12) rfl ?_
    refine i2c X3.here hexec rfl (hb hbytes d13) rfl ?_
    exact Steps.refl _)
  exact ⟨T3, some (.int (chr8 u)), _, _, _, X3, rfl, rfl, rfl, (fun h => by cases h), ⟨rfl, hh3⟩, fun fs hl => c4.trans (X3.ireturnOut hexec hret (narrow_c _) (Or.inr (Or.inr (Or.inr (Or.inl rfl)))) (hb hbytes d14) hl)⟩
end LChA
end StrChars
namespace StrChars.Road
open Jvm Sem ClassFile Op Lib Jvm.Stand Jvm.Free Jvm.Free.XT
open Jvm.Lib.Cold (StaticIs)
theorem consq {a : Array Value} {s : State} {c : Jvm.Cond} {L : List Jvm.Cond} (h0 : c.before a s = true) (h : ∀ w ∈ L, w.before a s = true) : ∀ w ∈ c :: L, w.before a s = true := fun w hw => (List.mem_cons.mp hw).elim (fun e => e ▸ h0) (h w)
/-- the words of String.length(), either coding -/
abbrev wordsLen : List Jvm.Cond := [.code Len.yN Len.yB 1 (some .int), .initialized ST, .fieldLink ST 9 ST "value" "[B", .fieldLink ST 38 ST "COMPACT_STRINGS" "Z", .fieldLink ST 15 ST "coder" "B", .code Cdr.yN Cdr.yB 1 (some .byte), .methodLink ST 335 Cdr.yN, .declares Cdr.yN, .selects ST Cdr.yN Cdr.yN, .instanceMethod Cdr.yN]
theorem tabLen_of {a : Array Value} {s : State} (h : ∀ w ∈ wordsLen, w.before a s = true) : Len.tab.before a s = true := by
  have hc : Cdr.tab.before a s = true := unparts (wk h (.code Cdr.yN Cdr.yB 1 (some .byte))) (wks h (.initialized Cdr.yN.cls :: Cdr.site))
  have q := consq hc h
  exact unparts (wk q (.code Len.yN Len.yB 1 (some .int))) (wks q (.initialized Len.yN.cls :: Len.site))
theorem movedLen {Z s : State} {a0 args : Array Value} (hZ : Z.Warmed39 s.vm) (hw : ∀ d ∈ wordsLen, d.before a0 Z = true) : ∀ d ∈ wordsLen, d.before args s = true := fun d hd => by
  have q := hw d hd
  have t : ∀ d ∈ wordsLen, d = .arrayClass .byte ∨ (d.onTables && d.keepsFace) = true := by decide +kernel
  rcases t d hd with rfl | t
  · exact RoadKit.mvA hZ q
  · exact RoadKit.mv hZ q t
/-- the bytes of the chars cs, low before high -/
def wideBytes : List Int32 → List Value
  | [] => []
  | c :: cs => .int (lo8 c) :: .int (hi8 c) :: wideBytes cs
theorem wide_lo (d : Value) : ∀ (cs : List Int32) (j : Nat), j < cs.length → (wideBytes cs).getD (2 * j) d = .int (lo8 (cs.getD j 0))
  | [], j, h => absurd h (Nat.not_lt_zero j)
  | c :: cs, 0, _ => rfl
  | c :: cs, j + 1, h => by
    have q := wide_lo d cs j (by simpa using h)
    rw [show 2 * (j + 1) = 2 * j + 1 + 1 from by omega]
    simpa [wideBytes] using q
theorem wide_hi (d : Value) : ∀ (cs : List Int32) (j : Nat), j < cs.length → (wideBytes cs).getD (2 * j + 1) d = .int (hi8 (cs.getD j 0))
  | [], j, h => absurd h (Nat.not_lt_zero j)
  | c :: cs, 0, _ => rfl
  | c :: cs, j + 1, h => by
    have q := wide_hi d cs j (by simpa using h)
    rw [show 2 * (j + 1) + 1 = 2 * j + 1 + 1 + 1 from by omega]
    simpa [wideBytes] using q
theorem low_at (d : Value) (cs : List Int32) (j : Nat) (h : j < cs.length) : (cs.map fun c => Value.int (lo8 c)).getD j d = .int (lo8 (cs.getD j 0)) := by
  simp [List.getD_eq_getElem?_getD, h]
/-- an array of N2 bytes vs codes the chars cs by the coder cd -/
def CodA (cs : List Int32) (cd N2 : Int32) (vs : List Value) : Prop := (cd = 0 ∧ N2 = Int32.ofNat cs.length ∧ vs = (cs.map fun c => Value.int (lo8 c)) ∧ ∀ c ∈ cs, ¬ 255 < c) ∨ (cd = 1 ∧ N2 = Int32.ofNat (2 * cs.length) ∧ vs = wideBytes cs ∧ ∃ c ∈ cs, 255 < c)
theorem CodA.cod {cs : List Int32} {cd N2 : Int32} {vs : List Value} {V : Cell} (h : CodA cs cd N2 vs) (hn : 2 * cs.length < 2 ^ 31) (hs : V.slots.size = N2.toNatClampNeg) (hv : RoadKit.Has V vs (.int 0)) : Cod cd cs.length (fun j => cs.getD j 0) V := by
  rcases h with ⟨rfl, rfl, rfl, h⟩ | ⟨rfl, rfl, rfl, c, hc, hw⟩
  · rw [n32 (by omega)] at hs
    exact Or.inl ⟨rfl, hs, fun j hj => ⟨by rw [hv j (by omega), low_at _ _ _ hj], by
      have e : cs.getD j 0 = cs[j] := by simp [List.getD_eq_getElem?_getD, hj]
      show ¬ 255 < cs.getD j 0
      rw [e]; exact h _ (List.getElem_mem _)⟩⟩
  · rw [n32 (by omega)] at hs
    obtain ⟨j, hj, rfl⟩ := List.getElem_of_mem hc
    exact Or.inr ⟨rfl, hs, fun j hj => ⟨by rw [hv _ (by omega), wide_lo _ _ _ hj], by rw [hv _ (by omega), wide_hi _ _ _ hj]⟩, j, hj, by
      have e : cs.getD j 0 = cs[j] := by simp [List.getD_eq_getElem?_getD, hj]
      show 255 < cs.getD j 0
      rw [e]; exact hw⟩
/-- an object of exactly java/lang/String, its two fields found: as the laws ask it -/
theorem strObj {Z U : State} {a0 : Array Value} {kI : Nat} (wi : (Jvm.Cond.instantiable ST kI).before a0 Z = true) (al : Z.vm.Alike U.vm) {x : Addr} {v0 c0 : Value} (E : RoadKit.Exa Z U.heap x ST) (V : RoadKit.Fld Z U.heap x ST "value" "[B" v0) (C : RoadKit.Fld Z U.heap x ST "coder" "B" c0) :
    ∃ (D : Cell) (fV fC : Field), Blank ST x D U ∧ Found ST "value" "[B" fV U ∧ Found ST "coder" "B" fC U ∧ D.slots[fV.slot]? = some v0 ∧ D.slots[fC.slot]? = some c0 ∧ RoadKit.slotOf Z ST "value" "[B" = fV.slot ∧ RoadKit.slotOf Z ST "coder" "B" = fC.slot := by
  obtain ⟨D, cfV, kV, iV, fV, hD, gV, stV, knV, obV, asV, slV⟩ := V
  obtain ⟨D', cfC, kC, iC, fC, hD', gC, stC, -, -, asC, slC⟩ := C
  cases hD.symm.trans hD'
  obtain ⟨D2, kD, e1, e2, e3, e4, e5⟩ := E
  cases hD.symm.trans e1
  obtain ⟨c2, k2, i1, i2, i3, -⟩ := Cond.instantiable_spec wi
  cases e2.symm.trans i1
  cases e3.symm.trans i2
  obtain ⟨kU, u1, u2⟩ := al.2.2 _ _ e3
  exact ⟨D, fV, fC, ⟨hD, ⟨knV, fun q hq => by rw [hq] at obV; cases obV⟩, by rw [al.findClass]; exact e2, kU, u1, by rw [u2]; exact i3, by rw [u2]; exact e5 i3⟩, ⟨SBG.found_only al ⟨cfV, kV, iV, gV⟩, stV⟩, ⟨SBG.found_only al ⟨cfC, kC, iC, gC⟩, stC⟩, slV, slC, by simp [RoadKit.slotOf, gV], by simp [RoadKit.slotOf, gC]⟩
theorem sta_is {Z U : State} (al : Z.vm.Alike U.vm) {C n d : String} {v : Value} (S : RoadKit.Sta Z U.heap C n d v) : StaticIs U C n d v := by
  obtain ⟨cfS, iS, kS, fS, st, cS, t1, t2, t3, t4, t5, t6, t7⟩ := S
  exact StaticIs.there (s := { Z with heap := U.heap }) ⟨cfS, iS, kS, fS, st, cS, t1, t2, t3, t4, t5, (fun q => by rw [q] at t6; cases t6), t7⟩ al rfl
/-- **length() OF SUCH A STRING** -/
theorem lenW {p : Program} {l : Launch} {e : Env} {R : Room} {s : State} {args : Array Value} {below : List Frame} {len W : Nat} {Z : State} {a0 : Array Value} {h : Heap} (hZ : Z.Warmed39 s.vm) (hw : ∀ d ∈ wordsLen, d.before a0 Z = true) {kI : Nat} (wi : (Jvm.Cond.instantiable ST kI).before a0 Z = true)
    {x t : Addr} {kb : ClassId} {cs : List Int32} {cd N2 z : Int32} {vs : List Value} (E : RoadKit.Exa Z h x ST) (V : RoadKit.Fld Z h x ST "value" "[B" (.ref t)) (C : RoadKit.Fld Z h x ST "coder" "B" (.int cd)) (K : RoadKit.Arv Z h t kb .byte N2 vs (.int 0)) (hc : CodA cs cd N2 vs) (hb : ∀ c ∈ cs, ¬ c < 0 ∧ ¬ (65535 : Int32) < c)
    (S : RoadKit.Sta Z h ST "COMPACT_STRINGS" "Z" (.int z)) (hz : ¬ z = 0) (l2 : cs.length ≤ 4000) (hfr : 2 ≤ R.frames) (hlo : W + 25 ≤ R.locals) :
    Back l R p e below s args (⟨"java/lang/String", "length", "()I"⟩ : MethodName) len W (fun P a => a = #[.ref x] ∧ P.U.heap = h ∧ P.cells + 0 ≤ R.cells ∧ P.slots + 0 ≤ R.slots)
      (fun P _ v B => ∃ L, (v = some (.int (Int32.ofNat cs.length)) ∧ L = [] ∧ B.U.heap = h) ∧ B.locs = P.locs ++ L ∧ B.cells = P.cells + 0 ∧ B.slots = P.slots + 0) := by
  obtain ⟨A, K1, K2, K3, K4, K5, K6⟩ := K
  have hcod := hc.cod (by omega) K3 K5
  intro m meth c P g ig mk a X hg hsize hdg hW hn hp'
  obtain ⟨rfl, rfl, r1, r2⟩ := hp'
  have al : Z.vm.Alike P.U.vm := hZ.alike.trans X.warmed.alike
  obtain ⟨D, fV, fC, hB, F1, F2, g1, g2, -, -⟩ := strObj wi al E V C
  have hx : Txt x t A cd cs.length (fun j => cs.getD j 0) P.U := ⟨⟨_, hB.2.2.1, D, hB.1, rfl, by cases q : D.vm <;> first | rfl | exact absurd q (hB.2.1.2 _)⟩, Has.of hB F1 g1, Has.of hB F2 g2, ⟨K1.1, State.isArrayOf_alike al K1.2.1, K1.2.2, by rcases hcod with ⟨-, q, -⟩ | ⟨-, q, -⟩ <;> omega⟩, hcod, fun j hj => by
    have e : cs.getD j 0 = cs[j] := by simp [List.getD_eq_getElem?_getD, hj]
    show ¬ cs.getD j 0 < 0 ∧ ¬ 65535 < cs.getD j 0
    rw [e]; exact hb _ (List.getElem_mem _)⟩
  obtain ⟨v, B, X', ⟨⟨hv, hh⟩, hl, hk, hs⟩, st⟩ := Len.pays x t A cd cs.length (fun j => cs.getD j 0) z (tabLen_of (movedLen hZ hw)) hfr hlo m meth c P g ig mk _ X hg hsize hdg hW hn ⟨r1, r2, rfl, hx, sta_is al S, hz⟩
  exact ⟨v, B, X', ⟨[], ⟨hv, rfl, hh⟩, hl, hk, hs⟩, st⟩
end StrChars.Road
namespace StrChars
open Jvm Sem ClassFile Op Lib Jvm.Stand Jvm.Free.XT Jvm.Free.ALB Jvm.Free.JM Jvm.Free
open Jvm.Lib.Cold (StaticIs)
/-- what place i of a byte[]'s cell holds -/
def yv (A : Cell) (i : Nat) : Int32 := match A.slots[i]? with | some (.int x) => x | _ => 0
theorem yv_get {a : Addr} {A : Cell} {U : State} (h : XT.Arr .byte a A U) (ht : Typed .byte A) {i : Nat} (hi : i < A.slots.size) : A.slots[i]? = some (.int (yv A i)) := by
  have e := Array.getElem?_eq_getElem hi
  have f := ht i _ e
  unfold yv; rw [e]
  generalize A.slots[i] = v at f
  cases v <;> simp [fits] at f ⊢
/-- the two arrays are equal, place for place -/
def EqC (A B : Cell) : Prop := A.slots.size = B.slots.size ∧ ∀ i, i < A.slots.size → yv A i = yv B i
/-- a boolean that says whether p -/
def Says01 (q : Prop) (r : Option Value) (s u : State) : Prop := ∃ v : Int32, r = some (.int v) ∧ u.heap = s.heap ∧ ((v = 1 ∧ q) ∨ (v = 0 ∧ ¬ q))
theorem Says01.mv {q : Prop} : ∀ r (U U' V V' : State), U'.heap = U.heap → V.vm.Alike V'.vm → V'.heap = V.heap → Says01 q r U V → Says01 q r U' V' :=
  fun r U U' V V' h1 _ h2 ⟨v, a, b, c⟩ => ⟨v, a, by rw [h1, h2]; exact b, c⟩
namespace LEq
def yN : MethodName := ⟨"java/lang/StringLatin1", "equals", "([B[B)Z"⟩
abbrev yB : ByteArray := jdk_43_method_13_code
theorem d0 : decode yB 0 = .ok (.aload_n 0, 1) := by decide +kernel
theorem d1 : decode yB 1 = .ok (.arraylength, 1) := by decide +kernel
theorem d2 : decode yB 2 = .ok (.aload_n 1, 1) := by decide +kernel
theorem d3 : decode yB 3 = .ok (.arraylength, 1) := by decide +kernel
theorem d4 : decode yB 4 = .ok (.if_icmp (.ne) 30, 3) := by decide +kernel
theorem d7 : decode yB 7 = .ok (.iconst 0, 1) := by decide +kernel
theorem d8 : decode yB 8 = .ok (.istore_n 2, 1) := by decide +kernel
theorem d9 : decode yB 9 = .ok (.iload_n 2, 1) := by decide +kernel
theorem d10 : decode yB 10 = .ok (.aload_n 0, 1) := by decide +kernel
theorem d11 : decode yB 11 = .ok (.arraylength, 1) := by decide +kernel
theorem d12 : decode yB 12 = .ok (.if_icmp (.ge) 20, 3) := by decide +kernel
theorem d15 : decode yB 15 = .ok (.aload_n 0, 1) := by decide +kernel
theorem d16 : decode yB 16 = .ok (.iload_n 2, 1) := by decide +kernel
theorem d17 : decode yB 17 = .ok (.baload, 1) := by decide +kernel
theorem d18 : decode yB 18 = .ok (.aload_n 1, 1) := by decide +kernel
theorem d19 : decode yB 19 = .ok (.iload_n 2, 1) := by decide +kernel
theorem d20 : decode yB 20 = .ok (.baload, 1) := by decide +kernel
theorem d21 : decode yB 21 = .ok (.if_icmp (.eq) 5, 3) := by decide +kernel
theorem d24 : decode yB 24 = .ok (.iconst 0, 1) := by decide +kernel
theorem d25 : decode yB 25 = .ok (.ireturn, 1) := by decide +kernel
theorem d26 : decode yB 26 = .ok (.iinc 2 1, 3) := by decide +kernel
theorem d29 : decode yB 29 = .ok (.goto (-20), 3) := by decide +kernel
theorem d32 : decode yB 32 = .ok (.iconst 1, 1) := by decide +kernel
theorem d33 : decode yB 33 = .ok (.ireturn, 1) := by decide +kernel
theorem d34 : decode yB 34 = .ok (.iconst 0, 1) := by decide +kernel
theorem d35 : decode yB 35 = .ok (.ireturn, 1) := by decide +kernel
def site : List Cond := []
def tab : Cond := tabOf yN yB 3 (some .boolean) site
def P (a : Addr) (A : Cell) (b : Addr) (B : Cell) (args : Array Value) (s : State) : Prop := args = #[.ref a, .ref b] ∧ XT.Arr .byte a A s ∧ Typed .byte A ∧ XT.Arr .byte b B s ∧ Typed .byte B
/-- whether two byte[] are equal, place for place -/
theorem law (l : Launch) (a : Addr) (A : Cell) (b : Addr) (B : Cell) : Law l yN 2 2 0 0 yB 3 (some .boolean) site (P a A b B) (Says01 (EqC A B)) [] 0 0 := by
  refine Law.of_walk (plainFor_of_name (by decide +kernel)) (by decide +kernel) (by decide +kernel) (by decide) (fun _ _ h => by rw [h.1]; rfl) (fun _ U U' hal hh h => ⟨h.1, h.2.1.mv hal hh, h.2.2.1, h.2.2.2.1.mv hal hh, h.2.2.2.2⟩) (fun r U U' V V' h1 hal h2 h => Says01.mv r U U' V V' h1 hal h2 h) ?_
  intro p e s m args below meth c s₁ X0 hexec hbytes hml hret hlk hnm hown hh0 W hP
  obtain ⟨rfl, hA, tA, hB, tB⟩ := hP
  have a31 := hA.2.2.2
  have b31 := hB.2.2.2
  have hA0 := hA.mv X0.warmed.alike hh0
  have hB0 := hB.mv X0.warmed.alike hh0
  have c1 : Steps p.tables e below (s₁.setTop (entryFrame m #[.ref a, .ref b] 3)) (s₁.setTop (mkF m 0 #[.val (.ref a), .val (.ref b), .unset] [])) := entry rfl
  have c2 : Steps p.tables e below (s₁.setTop (entryFrame m #[.ref a, .ref b] 3)) (s₁.setTop (mkF m 4 #[.val (.ref a), .val (.ref b), .unset] [.int (Int32.ofNat B.slots.size), .int (Int32.ofNat A.slots.size)])) := c1.trans (by
    refine XS.aloadN X0.here hexec rfl (hb hbytes d0) rfl rfl ?_
    refine X0.alen hexec hA0 rfl rfl (hb hbytes d1) ?_
    refine XS.aloadN X0.here hexec rfl (hb hbytes d2) rfl rfl ?_
    refine X0.alen hexec hB0 rfl rfl (hb hbytes d3) ?_
    exact Steps.refl _)
  by_cases hs : A.slots.size = B.slots.size
  · have c3 : Steps p.tables e below (s₁.setTop (entryFrame m #[.ref a, .ref b] 3)) (s₁.setTop (mkF m 9 #[.val (.ref a), .val (.ref b), .val (.int 0)] [])) := c2.trans (by
      refine XS.icmpNo X0.here hexec rfl (hb hbytes d4) rfl (ii_ne_f (by rw [hs])) ?_
      refine iconstV X0.here hexec rfl 0 (hb hbytes d7) (by decide) ?_
      refine XS.istoreN X0.here hexec rfl (hb hbytes d8) rfl rfl ?_
      exact Steps.refl _)
    have loop : ∀ (r i : Nat), i + r = A.slots.size → (∀ j, j < i → yv A j = yv B j) → Steps p.tables e below (s₁.setTop (entryFrame m #[.ref a, .ref b] 3)) (s₁.setTop (mkF m 9 #[.val (.ref a), .val (.ref b), .val (.int (Int32.ofNat i))] [])) → ∃ (pc : Nat) (Ls : Array Slot) (v : Int32), (pc = 25 ∨ pc = 33) ∧ ((v = 1 ∧ EqC A B) ∨ (v = 0 ∧ ¬ EqC A B)) ∧ Steps p.tables e below (s₁.setTop (entryFrame m #[.ref a, .ref b] 3)) (s₁.setTop (mkF m pc Ls [.int v])) := by
      intro r
      induction r with
      | zero =>
        intro i hi he cl
        exact ⟨33, _, 1, Or.inr rfl, Or.inl ⟨rfl, hs, fun j hj => he j (by omega)⟩, cl.trans (by
          refine XS.iloadN X0.here hexec rfl (hb hbytes d9) rfl ?_
          refine XS.aloadN X0.here hexec rfl (hb hbytes d10) rfl rfl ?_
          refine X0.alen hexec hA0 rfl rfl (hb hbytes d11) ?_
          refine XS.icmpYes X0.here hexec rfl (pc0 := 12) rfl (hb hbytes d12) rfl (ii_ge_t (nlt32 (by omega) (by omega))) (by decide) rfl ?_
          refine iconstV X0.here hexec rfl 1 (hb hbytes d32) (by decide) ?_
          exact Steps.refl _)⟩
      | succ r ih =>
        intro i hi he cl
        have c4 : Steps p.tables e below (s₁.setTop (entryFrame m #[.ref a, .ref b] 3)) (s₁.setTop (mkF m 21 #[.val (.ref a), .val (.ref b), .val (.int (Int32.ofNat i))] [.int (yv B i), .int (yv A i)])) := cl.trans (by
          refine XS.iloadN X0.here hexec rfl (hb hbytes d9) rfl ?_
          refine XS.aloadN X0.here hexec rfl (hb hbytes d10) rfl rfl ?_
          refine X0.alen hexec hA0 rfl rfl (hb hbytes d11) ?_
          refine XS.icmpNo X0.here hexec rfl (hb hbytes d12) rfl (ii_ge_f (lt32 (by omega) (by omega))) ?_
          refine XS.aloadN X0.here hexec rfl (hb hbytes d15) rfl rfl ?_
          refine XS.iloadN X0.here hexec rfl (hb hbytes d16) rfl ?_
          refine X0.aget hexec hA0 rfl (yv_get hA tA (i := i) (by omega)) rfl rfl (hb hbytes d17) ?_
          refine XS.aloadN X0.here hexec rfl (hb hbytes d18) rfl rfl ?_
          refine XS.iloadN X0.here hexec rfl (hb hbytes d19) rfl ?_
          refine X0.aget hexec hB0 rfl (yv_get hB tB (i := i) (by omega)) rfl rfl (hb hbytes d20) ?_
          exact Steps.refl _)
        by_cases hv : yv A i = yv B i
        · have c5 : Steps p.tables e below (s₁.setTop (entryFrame m #[.ref a, .ref b] 3)) (s₁.setTop (mkF m 9 #[.val (.ref a), .val (.ref b), .val (.int (Int32.ofNat i + 1))] [])) := c4.trans (by
            refine XS.icmpYes X0.here hexec rfl (pc0 := 21) rfl (hb hbytes d21) rfl (ii_eq_t hv) (by decide) rfl ?_
            refine iincV X0.here hexec rfl 1 (hb hbytes d26) (by decide) rfl rfl ?_
            refine XS.goto X0.here hexec rfl (pc0 := 29) rfl (hb hbytes d29) (by decide) rfl ?_
            exact Steps.refl _)
          rw [succ32] at c5
          exact ih (i + 1) (by omega) (fun j hj => by
            by_cases e : j = i
            · rw [e]; exact hv
            · exact he j (by omega)) c5
        · exact ⟨25, _, 0, Or.inl rfl, Or.inr ⟨rfl, fun q => hv (q.2 i (by omega))⟩, c4.trans (by
            refine XS.icmpNo X0.here hexec rfl (hb hbytes d21) rfl (ii_eq_f hv) ?_
            refine iconstV X0.here hexec rfl 0 (hb hbytes d24) (by decide) ?_
            exact Steps.refl _)⟩
    obtain ⟨pc, Ls, v, hpc, hv, cz⟩ := loop A.slots.size 0 (by omega) (fun j hj => absurd hj (Nat.not_lt_zero j)) c3
    have nv : narrow .boolean (.int v) = .int v := by rcases hv with ⟨rfl, -⟩ | ⟨rfl, -⟩ <;> rfl
    rcases hpc with rfl | rfl
    · exact ⟨s₁, some (.int v), _, _, _, X0, rfl, rfl, rfl, (fun h => by cases h), ⟨v, rfl, hh0, hv⟩, fun fs hl => cz.trans (X0.ireturnOut hexec hret nv (Or.inr (Or.inl rfl)) (hb hbytes d25) hl)⟩
    · exact ⟨s₁, some (.int v), _, _, _, X0, rfl, rfl, rfl, (fun h => by cases h), ⟨v, rfl, hh0, hv⟩, fun fs hl => cz.trans (X0.ireturnOut hexec hret nv (Or.inr (Or.inl rfl)) (hb hbytes d33) hl)⟩
  · have c3 : Steps p.tables e below (s₁.setTop (entryFrame m #[.ref a, .ref b] 3)) (s₁.setTop (mkF m 35 #[.val (.ref a), .val (.ref b), .unset] [.int 0])) := c2.trans (by
      refine XS.icmpYes X0.here hexec rfl (pc0 := 4) rfl (hb hbytes d4) rfl (ii_ne_t (ne32 a31 b31 hs)) (by decide) rfl ?_
      refine iconstV X0.here hexec rfl 0 (hb hbytes d34) (by decide) ?_
      exact Steps.refl _)
    exact ⟨s₁, some (.int 0), _, _, _, X0, rfl, rfl, rfl, (fun h => by cases h), ⟨0, rfl, hh0, Or.inr ⟨rfl, fun q => hs q.1⟩⟩, fun fs hl => c3.trans (X0.ireturnOut hexec hret rfl (Or.inr (Or.inl rfl)) (hb hbytes d35) hl)⟩
end LEq
theorem Cod.ty {cd : Int32} {n : Nat} {f : Nat → Int32} {V : Cell} (h : Cod cd n f V) : Typed .byte V := fun i v hv => by
  have hi : i < V.slots.size := (Array.getElem?_eq_some_iff.mp hv).1
  rcases h with ⟨-, k1, k2⟩ | ⟨-, k1, k2, -⟩
  · rw [(k2 i (by omega)).1] at hv; cases hv; exact fits_lo8 _
  · rcases Nat.mod_two_eq_zero_or_one i with e | e
    · obtain ⟨j, rfl⟩ : ∃ j, i = 2 * j := ⟨i / 2, by omega⟩
      rw [(k2 j (by omega)).1] at hv; cases hv; exact fits_lo8 _
    · obtain ⟨j, rfl⟩ : ∃ j, i = 2 * j + 1 := ⟨i / 2, by omega⟩
      rw [(k2 j (by omega)).2] at hv; cases hv; exact fits_lo8 _
/-- the same text -/
def SameT (n : Nat) (f : Nat → Int32) (k : Nat) (g : Nat → Int32) : Prop := n = k ∧ ∀ j, j < n → f j = g j
theorem lo8_inj {x y : Int32} (h0 : ¬ x < 0) (h1 : ¬ 255 < x) (k0 : ¬ y < 0) (k1 : ¬ 255 < y) (h : lo8 x = lo8 y) : x = y := by
  rw [← lo8_mask h0 h1, ← lo8_mask k0 k1, h]
/-- arrays coded by one coder are equal just where the texts are -/
theorem Cod.eqv {cd : Int32} {n k : Nat} {f g : Nat → Int32} {V V' : Cell} (h : Cod cd n f V) (h' : Cod cd k g V') (hf : ∀ j, j < n → ¬ f j < 0 ∧ ¬ 65535 < f j) (hg : ∀ j, j < k → ¬ g j < 0 ∧ ¬ 65535 < g j) : EqC V V' ↔ SameT n f k g := by
  have yvv : ∀ {W : Cell} {i : Nat} {x : Int32}, W.slots[i]? = some (.int x) → yv W i = x := fun q => by unfold yv; rw [q]
  rcases h with ⟨rfl, k1, k2⟩ | ⟨rfl, k1, k2, -⟩
  · rcases h' with ⟨-, m1, m2⟩ | ⟨e, -⟩
    · constructor
      · rintro ⟨e1, e2⟩
        refine ⟨by omega, fun j hj => ?_⟩
        have q := e2 j (by omega)
        rw [yvv (k2 j hj).1, yvv (m2 j (by omega)).1] at q
        exact lo8_inj (hf j hj).1 (k2 j hj).2 (hg j (by omega)).1 (m2 j (by omega)).2 q
      · rintro ⟨rfl, e2⟩
        refine ⟨by omega, fun j hj => ?_⟩
        rw [yvv (k2 j (by omega)).1, yvv (m2 j (by omega)).1, e2 j (by omega)]
    · exact absurd e (by decide)
  · rcases h' with ⟨e, -⟩ | ⟨-, m1, m2, -⟩
    · exact absurd e (by decide)
    · constructor
      · rintro ⟨e1, e2⟩
        refine ⟨by omega, fun j hj => ?_⟩
        have q1 := e2 (2 * j) (by omega)
        have q2 := e2 (2 * j + 1) (by omega)
        rw [yvv (k2 j hj).1, yvv (m2 j (by omega)).1] at q1
        rw [yvv (k2 j hj).2, yvv (m2 j (by omega)).2] at q2
        rw [← pair_says (hf j hj).1 (hf j hj).2, ← pair_says (hg j (by omega)).1 (hg j (by omega)).2, q1, q2]
      · rintro ⟨rfl, e2⟩
        refine ⟨by omega, fun i hi => ?_⟩
        rcases Nat.mod_two_eq_zero_or_one i with e | e
        · obtain ⟨j, rfl⟩ : ∃ j, i = 2 * j := ⟨i / 2, by omega⟩
          rw [yvv (k2 j (by omega)).1, yvv (m2 j (by omega)).1, e2 j (by omega)]
        · obtain ⟨j, rfl⟩ : ∃ j, i = 2 * j + 1 := ⟨i / 2, by omega⟩
          rw [yvv (k2 j (by omega)).2, yvv (m2 j (by omega)).2, e2 j (by omega)]
/-- two codings differ: so do the texts -/
theorem Cod.dif {cd cd' : Int32} {n k : Nat} {f g : Nat → Int32} {V V' : Cell} (h : Cod cd n f V) (h' : Cod cd' k g V') (hne : ¬ cd = cd') : ¬ SameT n f k g := by
  rintro ⟨rfl, e⟩
  rcases h with ⟨rfl, -, k2⟩ | ⟨rfl, -, -, j, hj, hw⟩
  · rcases h' with ⟨rfl, -⟩ | ⟨-, -, -, j, hj, hw⟩
    · exact hne rfl
    · exact (k2 j hj).2 (by rw [e j hj]; exact hw)
  · rcases h' with ⟨-, -, m2⟩ | ⟨rfl, -⟩
    · exact (m2 j hj).2 (by rw [← e j hj]; exact hw)
    · exact hne rfl
/-- an object of exactly C is an instance of C -/
theorem cinst {p : Program} {l : Launch} {e : Env} {R : Room} {s : State} {m : MethodId} {args : Array Value} {below : List Frame} {meth : Method} {c : Code} {T : State} {locs : List Loc} {cells slots : Nat} (X : Stand p l e R s m args below meth c T locs cells slots) (hexec : p.tables.exec = Jvm.exec) {own C : String} {index : Nat} (hown : s.vm.findClass own = some m.cls) (hlink : (Cond.classLink own index C).before args s = true) {a : Addr} (hE : Exact C a T)
    {g : JFrame} (hg : g.method = m) {rest : List Value} (hstack : g.stack = .ref a :: rest) (hdg : decode c.code g.pc = .ok (.instanceof index, 3)) :
    ∃ T', Stand p l e R s m args below meth c T' locs cells slots ∧ T'.heap = T.heap ∧ ∀ target, Steps p.tables e below (T'.setTop { g with pc := g.pc + 3, stack := .int 1 :: rest }) target → Steps p.tables e below (T.setTop g) target := by
  obtain ⟨cB, h1, D, h2, h3, h4⟩ := hE
  have h1' : s.vm.findClass C = some cB := by rw [← X.warmed.alike.findClass]; exact h1
  obtain ⟨vm', X', st⟩ := X.instanceofYes hexec hown hlink h2 h4 h1' (by rw [h3]; exact Jvm.Free.SB.assignable_self _ _) hg hstack hdg
  exact ⟨_, X', rfl, st⟩
theorem cself {p : Program} {l : Launch} {e : Env} {R : Room} {s : State} {m : MethodId} {args : Array Value} {below : List Frame} {meth : Method} {c : Code} {T : State} {locs : List Loc} {cells slots : Nat} (X : Stand p l e R s m args below meth c T locs cells slots) (hexec : p.tables.exec = Jvm.exec) {own C : String} {index : Nat} (hown : s.vm.findClass own = some m.cls) (hlink : (Cond.classLink own index C).before args s = true) {a : Addr} (hE : Exact C a T)
    {g : JFrame} (hg : g.method = m) {rest : List Value} (hstack : g.stack = .ref a :: rest) (hdg : decode c.code g.pc = .ok (.checkcast index, 3)) :
    ∃ T', Stand p l e R s m args below meth c T' locs cells slots ∧ T'.heap = T.heap ∧ ∀ target, Steps p.tables e below (T'.setTop { g with pc := g.pc + 3, stack := .ref a :: rest }) target → Steps p.tables e below (T.setTop g) target := by
  obtain ⟨cB, h1, D, h2, h3, h4⟩ := hE
  have h1' : s.vm.findClass C = some cB := by rw [← X.warmed.alike.findClass]; exact h1
  obtain ⟨vm', X', st⟩ := X.checkcastYes hexec hown hlink h2 h4 h1' (by rw [h3]; exact Jvm.Free.SB.assignable_self _ _) hg hstack hdg
  exact ⟨_, X', rfl, fun t h => st t (by rw [← hstack] at h; exact h)⟩
namespace SEq
def yN : MethodName := ⟨"java/lang/String", "equals", "(Ljava/lang/Object;)Z"⟩
abbrev yB : ByteArray := jdk_42_method_66_code
theorem d0 : decode yB 0 = .ok (.aload_n 0, 1) := by decide +kernel
theorem d1 : decode yB 1 = .ok (.aload_n 1, 1) := by decide +kernel
theorem d2 : decode yB 2 = .ok (.if_acmp (.ne) 5, 3) := by decide +kernel
theorem d5 : decode yB 5 = .ok (.iconst 1, 1) := by decide +kernel
theorem d6 : decode yB 6 = .ok (.ireturn, 1) := by decide +kernel
theorem d7 : decode yB 7 = .ok (.aload_n 1, 1) := by decide +kernel
theorem d8 : decode yB 8 = .ok (.instanceof 10, 3) := by decide +kernel
theorem d11 : decode yB 11 = .ok (.ifCond (.eq) 43, 3) := by decide +kernel
theorem d14 : decode yB 14 = .ok (.aload_n 1, 1) := by decide +kernel
theorem d15 : decode yB 15 = .ok (.checkcast 10, 3) := by decide +kernel
theorem d18 : decode yB 18 = .ok (.astore_n 2, 1) := by decide +kernel
theorem d19 : decode yB 19 = .ok (.getstatic 38, 3) := by decide +kernel
theorem d22 : decode yB 22 = .ok (.ifCond (.eq) 14, 3) := by decide +kernel
theorem d25 : decode yB 25 = .ok (.aload_n 0, 1) := by decide +kernel
theorem d26 : decode yB 26 = .ok (.getfield 15, 3) := by decide +kernel
theorem d29 : decode yB 29 = .ok (.aload_n 2, 1) := by decide +kernel
theorem d30 : decode yB 30 = .ok (.getfield 15, 3) := by decide +kernel
theorem d33 : decode yB 33 = .ok (.if_icmp (.ne) 21, 3) := by decide +kernel
theorem d36 : decode yB 36 = .ok (.aload_n 0, 1) := by decide +kernel
theorem d37 : decode yB 37 = .ok (.getfield 9, 3) := by decide +kernel
theorem d40 : decode yB 40 = .ok (.aload_n 2, 1) := by decide +kernel
theorem d41 : decode yB 41 = .ok (.getfield 9, 3) := by decide +kernel
theorem d44 : decode yB 44 = .ok (.invokestatic 541, 3) := by decide +kernel
theorem d47 : decode yB 47 = .ok (.ifCond (.eq) 7, 3) := by decide +kernel
theorem d50 : decode yB 50 = .ok (.iconst 1, 1) := by decide +kernel
theorem d51 : decode yB 51 = .ok (.goto 4, 3) := by decide +kernel
theorem d54 : decode yB 54 = .ok (.iconst 0, 1) := by decide +kernel
theorem d55 : decode yB 55 = .ok (.ireturn, 1) := by decide +kernel
def site : List Cond := [.classLink "java/lang/String" 10 "java/lang/String", .fieldLink "java/lang/String" 38 "java/lang/String" "COMPACT_STRINGS" "Z", .fieldLink "java/lang/String" 15 "java/lang/String" "coder" "B", .fieldLink "java/lang/String" 9 "java/lang/String" "value" "[B", LEq.tab] ++ staticW "java/lang/String" 541 LEq.yN
def tab : Cond := tabOf yN yB 3 (some .boolean) site
def P (x t : Addr) (V : Cell) (cd : Int32) (n : Nat) (f : Nat → Int32) (y t' : Addr) (V' : Cell) (cd' : Int32) (k : Nat) (g : Nat → Int32) (z : Int32) (args : Array Value) (s : State) : Prop := args = #[.ref x, .ref y] ∧ Txt x t V cd n f s ∧ Txt y t' V' cd' k g s ∧ StaticIs s "java/lang/String" "COMPACT_STRINGS" "Z" (.int z) ∧ ¬ z = 0
/-- equals(Object) of two Strings: whether the texts are the same -/
theorem law (l : Launch) (x t : Addr) (V : Cell) (cd : Int32) (n : Nat) (f : Nat → Int32) (y t' : Addr) (V' : Cell) (cd' : Int32) (k : Nat) (g : Nat → Int32) (z : Int32) : Law l yN 2 1 1 14 yB 3 (some .boolean) site (P x t V cd n f y t' V' cd' k g z) (Says01 (SameT n f k g)) [] 0 0 := by
  refine Law.of_walk (plainFor_of_name (by decide +kernel)) (by decide +kernel) (by decide +kernel) (by decide) (fun _ _ h => by rw [h.1]; rfl) (fun _ U U' hal hh h => ⟨h.1, h.2.1.mv hal hh, h.2.2.1.mv hal hh, h.2.2.2.1.there hal hh, h.2.2.2.2⟩) (fun r U U' V V' h1 hal h2 h => Says01.mv r U U' V V' h1 hal h2 h) ?_
  intro p e s m args below meth c s₁ X0 hexec hbytes hml hret hlk hnm hown hh0 W hP
  obtain ⟨rfl, hx, hy, s1, hz⟩ := hP
  have c1 : Steps p.tables e below (s₁.setTop (entryFrame m #[.ref x, .ref y] 3)) (s₁.setTop (mkF m 2 #[.val (.ref x), .val (.ref y), .unset] [.ref y, .ref x])) := Steps.trans (entry rfl) (by
    show Steps p.tables e below (s₁.setTop (mkF m 0 #[.val (.ref x), .val (.ref y), .unset] [])) _
    refine XS.aloadN X0.here hexec rfl (hb hbytes d0) rfl rfl ?_
    refine XS.aloadN X0.here hexec rfl (hb hbytes d1) rfl rfl ?_
    exact Steps.refl _)
  by_cases hxy : x = y
  · have c2 : Steps p.tables e below (s₁.setTop (entryFrame m #[.ref x, .ref y] 3)) (s₁.setTop (mkF m 6 #[.val (.ref x), .val (.ref y), .unset] [.int 1])) := c1.trans (by
      refine acmpNo X0.here hexec rfl (hb hbytes d2) rfl rfl rfl (by simp [acmp, hxy]) ?_
      refine iconstV X0.here hexec rfl 1 (hb hbytes d5) (by decide) ?_
      exact Steps.refl _)
    subst hxy
    have ec : cd = cd' := by
      obtain ⟨D, fd, a1, a2, a3⟩ := hx.2.2.1
      obtain ⟨D', fd', b1, b2, b3⟩ := hy.2.2.1
      cases a1.symm.trans b1
      obtain ⟨q1, q2, q3, q4⟩ := a2.1
      obtain ⟨r1, r2, r3, r4⟩ := b2.1
      cases q4.symm.trans r4
      cases a3.symm.trans b3; rfl
    have et : t = t' := by
      obtain ⟨D, fd, a1, a2, a3⟩ := hx.2.1
      obtain ⟨D', fd', b1, b2, b3⟩ := hy.2.1
      cases a1.symm.trans b1
      obtain ⟨q1, q2, q3, q4⟩ := a2.1
      obtain ⟨r1, r2, r3, r4⟩ := b2.1
      cases q4.symm.trans r4
      cases a3.symm.trans b3; rfl
    subst ec et
    have ev : V = V' := by cases hx.2.2.2.1.1.symm.trans hy.2.2.2.1.1; rfl
    subst ev
    have hs : SameT n f k g := (Cod.eqv hx.2.2.2.2.1 hy.2.2.2.2.1 hx.2.2.2.2.2 hy.2.2.2.2.2).mp ⟨rfl, fun _ _ => rfl⟩
    exact ⟨s₁, some (.int 1), _, _, _, X0, rfl, rfl, rfl, (fun h => by cases h), ⟨1, rfl, hh0, Or.inl ⟨rfl, hs⟩⟩, fun fs hl => c2.trans (X0.ireturnOut hexec hret rfl (Or.inr (Or.inl rfl)) (hb hbytes d6) hl)⟩
  · have c2 : Steps p.tables e below (s₁.setTop (entryFrame m #[.ref x, .ref y] 3)) (s₁.setTop (mkF m 8 #[.val (.ref x), .val (.ref y), .unset] [.ref y])) := c1.trans (by
      refine acmpYes X0.here hexec rfl (pc0 := 2) rfl (hb hbytes d2) rfl rfl rfl (by simp [acmp, hxy]) (by decide) rfl ?_
      refine XS.aloadN X0.here hexec rfl (hb hbytes d7) rfl rfl ?_
      exact Steps.refl _)
    obtain ⟨T3, X3, q3, st3⟩ := cinst X0 hexec hown (wk W (.classLink "java/lang/String" 10 "java/lang/String")) (hy.mv X0.warmed.alike hh0).1 (g := (mkF m 8 #[.val (.ref x), .val (.ref y), .unset] [.ref y])) rfl (rest := []) rfl (hb hbytes d8)
    have hh3 := q3.trans hh0
    have c4 : Steps p.tables e below (s₁.setTop (entryFrame m #[.ref x, .ref y] 3)) (T3.setTop (mkF m 15 #[.val (.ref x), .val (.ref y), .unset] [.ref y])) := (c2.trans (st3 _ (Steps.refl _))).trans (by
      refine XS.ifNo X3.here hexec rfl (hb hbytes d11) rfl (i0_eq_f (by decide)) ?_
      refine XS.aloadN X3.here hexec rfl (hb hbytes d14) rfl rfl ?_
      exact Steps.refl _)
    obtain ⟨T5, X5, q5, st5⟩ := cself X3 hexec hown (wk W (.classLink "java/lang/String" 10 "java/lang/String")) (hy.mv X3.warmed.alike hh3).1 (g := (mkF m 15 #[.val (.ref x), .val (.ref y), .unset] [.ref y])) rfl (rest := []) rfl (hb hbytes d15)
    have hh5 := q5.trans hh3
    have c6 : Steps p.tables e below (s₁.setTop (entryFrame m #[.ref x, .ref y] 3)) (T5.setTop (mkF m 19 #[.val (.ref x), .val (.ref y), .val (.ref y)] [])) := (c4.trans (st5 _ (Steps.refl _))).trans (by
      refine XS.astoreN X5.here hexec rfl (hb hbytes d18) rfl rfl rfl ?_
      exact Steps.refl _)
    obtain ⟨T7, X7, q7, st7⟩ := X5.sget hexec hown (wk W (.fieldLink "java/lang/String" 38 "java/lang/String" "COMPACT_STRINGS" "Z")) s1 (fun _ _ h => by rw [hh5]; exact h) (g := (mkF m 19 #[.val (.ref x), .val (.ref y), .val (.ref y)] [])) rfl (hb hbytes d19)
    have hh7 := q7.trans hh5
    have c8 : Steps p.tables e below (s₁.setTop (entryFrame m #[.ref x, .ref y] 3)) (T7.setTop (mkF m 26 #[.val (.ref x), .val (.ref y), .val (.ref y)] [.ref x])) := (c6.trans (st7 _ (Steps.refl _))).trans (by
      refine XS.ifNo X7.here hexec rfl (hb hbytes d22) rfl (i0_eq_f hz) ?_
      refine XS.aloadN X7.here hexec rfl (hb hbytes d25) rfl rfl ?_
      exact Steps.refl _)
    obtain ⟨T9, X9, q9, st9⟩ := X7.hget hexec hown (wk W (.fieldLink "java/lang/String" 15 "java/lang/String" "coder" "B")) (hx.mv X7.warmed.alike hh7).2.2.1 (g := (mkF m 26 #[.val (.ref x), .val (.ref y), .val (.ref y)] [.ref x])) rfl (rest := []) rfl (hb hbytes d26)
    have hh9 := q9.trans hh7
    have c10 : Steps p.tables e below (s₁.setTop (entryFrame m #[.ref x, .ref y] 3)) (T9.setTop (mkF m 30 #[.val (.ref x), .val (.ref y), .val (.ref y)] [.ref y, .int cd])) := (c8.trans (st9 _ (Steps.refl _))).trans (by
      refine XS.aloadN X9.here hexec rfl (hb hbytes d29) rfl rfl ?_
      exact Steps.refl _)
    obtain ⟨T11, X11, q11, st11⟩ := X9.hget hexec hown (wk W (.fieldLink "java/lang/String" 15 "java/lang/String" "coder" "B")) (hy.mv X9.warmed.alike hh9).2.2.1 (g := (mkF m 30 #[.val (.ref x), .val (.ref y), .val (.ref y)] [.ref y, .int cd])) rfl (rest := [.int cd]) rfl (hb hbytes d30)
    have hh11 := q11.trans hh9
    have c12 : Steps p.tables e below (s₁.setTop (entryFrame m #[.ref x, .ref y] 3)) (T11.setTop (mkF m 33 #[.val (.ref x), .val (.ref y), .val (.ref y)] [.int cd', .int cd])) := c10.trans (st11 _ (Steps.refl _))
    by_cases hcd : cd = cd'
    · subst hcd
      have c13 : Steps p.tables e below (s₁.setTop (entryFrame m #[.ref x, .ref y] 3)) (T11.setTop (mkF m 37 #[.val (.ref x), .val (.ref y), .val (.ref y)] [.ref x])) := c12.trans (by
        refine XS.icmpNo X11.here hexec rfl (hb hbytes d33) rfl (ii_ne_f rfl) ?_
        refine XS.aloadN X11.here hexec rfl (hb hbytes d36) rfl rfl ?_
        exact Steps.refl _)
      obtain ⟨T14, X14, q14, st14⟩ := X11.hget hexec hown (wk W (.fieldLink "java/lang/String" 9 "java/lang/String" "value" "[B")) (hx.mv X11.warmed.alike hh11).2.1 (g := (mkF m 37 #[.val (.ref x), .val (.ref y), .val (.ref y)] [.ref x])) rfl (rest := []) rfl (hb hbytes d37)
      have hh14 := q14.trans hh11
      have c15 : Steps p.tables e below (s₁.setTop (entryFrame m #[.ref x, .ref y] 3)) (T14.setTop (mkF m 41 #[.val (.ref x), .val (.ref y), .val (.ref y)] [.ref y, .ref t])) := (c13.trans (st14 _ (Steps.refl _))).trans (by
        refine XS.aloadN X14.here hexec rfl (hb hbytes d40) rfl rfl ?_
        exact Steps.refl _)
      obtain ⟨T16, X16, q16, st16⟩ := X14.hget hexec hown (wk W (.fieldLink "java/lang/String" 9 "java/lang/String" "value" "[B")) (hy.mv X14.warmed.alike hh14).2.1 (g := (mkF m 41 #[.val (.ref x), .val (.ref y), .val (.ref y)] [.ref y, .ref t])) rfl (rest := [.ref t]) rfl (hb hbytes d41)
      have hh16 := q16.trans hh14
      have c17 : Steps p.tables e below (s₁.setTop (entryFrame m #[.ref x, .ref y] 3)) (T16.setTop (mkF m 44 #[.val (.ref x), .val (.ref y), .val (.ref y)] [.ref t', .ref t])) := c15.trans (st16 _ (Steps.refl _))
      obtain ⟨v18, T18, X18, E18, g18⟩ := X16.callS hexec (LEq.law l t V t' V') hown (wks W (staticW "java/lang/String" 541 LEq.yN)) (wk W LEq.tab) (W := 0) (Nat.le_of_ble_eq_true rfl) (Nat.le_of_ble_eq_true rfl) (Nat.le_refl _) (Nat.le_refl _) (g := (mkF m 44 #[.val (.ref x), .val (.ref y), .val (.ref y)] [.ref t', .ref t])) rfl (by rw [hml]; rfl) c17 (argsL := [.ref t, .ref t']) (rest := []) rfl rfl (by show 2 * 0 + 0 ≤ _; decide) (hb hbytes d44) (⟨rfl, hx.2.2.2.1.mv X16.warmed.alike hh16, hx.2.2.2.2.1.ty, hy.2.2.2.1.mv X16.warmed.alike hh16, hy.2.2.2.2.1.ty⟩)
      obtain ⟨v, rfl, q18, hv⟩ := E18
      have iff := Cod.eqv hx.2.2.2.2.1 hy.2.2.2.2.1 hx.2.2.2.2.2 hy.2.2.2.2.2
      rcases hv with ⟨rfl, he⟩ | ⟨rfl, he⟩
      · have c19 : Steps p.tables e below (s₁.setTop (entryFrame m #[.ref x, .ref y] 3)) (T18.setTop (mkF m 55 #[.val (.ref x), .val (.ref y), .val (.ref y)] [.int 1])) := Steps.trans g18 (by
          refine XS.ifNo X18.here hexec rfl (hb hbytes d47) rfl (i0_eq_f (by decide)) ?_
          refine iconstV X18.here hexec rfl 1 (hb hbytes d50) (by decide) ?_
          refine XS.goto X18.here hexec rfl (pc0 := 51) rfl (hb hbytes d51) (by decide) rfl ?_
          exact Steps.refl _)
        exact ⟨T18, some (.int 1), _, _, _, X18, rfl, rfl, rfl, (fun h => by cases h), ⟨1, rfl, q18.trans hh16, Or.inl ⟨rfl, iff.mp he⟩⟩, fun fs hl => c19.trans (X18.ireturnOut hexec hret rfl (Or.inr (Or.inl rfl)) (hb hbytes d55) hl)⟩
      · have c19 : Steps p.tables e below (s₁.setTop (entryFrame m #[.ref x, .ref y] 3)) (T18.setTop (mkF m 55 #[.val (.ref x), .val (.ref y), .val (.ref y)] [.int 0])) := Steps.trans g18 (by
          refine XS.ifYes X18.here hexec rfl (pc0 := 47) rfl (hb hbytes d47) rfl (i0_eq_t rfl) (by decide) rfl ?_
          refine iconstV X18.here hexec rfl 0 (hb hbytes d54) (by decide) ?_
          exact Steps.refl _)
        exact ⟨T18, some (.int 0), _, _, _, X18, rfl, rfl, rfl, (fun h => by cases h), ⟨0, rfl, q18.trans hh16, Or.inr ⟨rfl, fun q => he (iff.mpr q)⟩⟩, fun fs hl => c19.trans (X18.ireturnOut hexec hret rfl (Or.inr (Or.inl rfl)) (hb hbytes d55) hl)⟩
    · have c13 : Steps p.tables e below (s₁.setTop (entryFrame m #[.ref x, .ref y] 3)) (T11.setTop (mkF m 55 #[.val (.ref x), .val (.ref y), .val (.ref y)] [.int 0])) := c12.trans (by
        refine XS.icmpYes X11.here hexec rfl (pc0 := 33) rfl (hb hbytes d33) rfl (ii_ne_t hcd) (by decide) rfl ?_
        refine iconstV X11.here hexec rfl 0 (hb hbytes d54) (by decide) ?_
        exact Steps.refl _)
      exact ⟨T11, some (.int 0), _, _, _, X11, rfl, rfl, rfl, (fun h => by cases h), ⟨0, rfl, hh11, Or.inr ⟨rfl, Cod.dif hx.2.2.2.2.1 hy.2.2.2.2.1 hcd⟩⟩, fun fs hl => c13.trans (X11.ireturnOut hexec hret rfl (Or.inr (Or.inl rfl)) (hb hbytes d55) hl)⟩
theorem pays {l : Launch} {R : Room} {p : Program} {e : Env} {below : List Frame} {s : State} {sargs : Array Value} {len W : Nat} (x t : Addr) (V : Cell) (cd : Int32) (n : Nat) (f : Nat → Int32) (y t' : Addr) (V' : Cell) (cd' : Int32) (k : Nat) (g : Nat → Int32) (z : Int32) (htab : tab.before sargs s = true) (hfr : 2 ≤ R.frames) (hlo : W + 28 ≤ R.locals) :
    Back l R p e below s sargs yN len W (fun A₁ a₁ => A₁.cells + 0 ≤ R.cells ∧ A₁.slots + 0 ≤ R.slots ∧ P x t V cd n f y t' V' cd' k g z a₁ A₁.U) (fun A₁ _ v₁ B₁ => Says01 (SameT n f k g) v₁ A₁.U B₁.U ∧ B₁.locs = A₁.locs ++ [] ∧ B₁.cells = A₁.cells + 0 ∧ B₁.slots = A₁.slots + 0) :=
  (law l x t V cd n f y t' V' cd' k g z).pays htab hfr (by omega)
end SEq
end StrChars
namespace StrChars.Road
open Jvm Sem ClassFile Op Lib Jvm.Stand Jvm.Free Jvm.Free.XT
open Jvm.Lib.Cold (StaticIs)
/-- the words of String.equals(Object) -/
abbrev wordsEq : List Jvm.Cond := [.code SEq.yN SEq.yB 3 (some .boolean), .initialized ST, .classLink ST 10 ST, .fieldLink ST 38 ST "COMPACT_STRINGS" "Z", .fieldLink ST 15 ST "coder" "B", .fieldLink ST 9 ST "value" "[B", .methodLink ST 541 LEq.yN, .static LEq.yN, .code LEq.yN LEq.yB 3 (some .boolean), .initialized "java/lang/StringLatin1"]
theorem tabEq_of {a : Array Value} {s : State} (h : ∀ w ∈ wordsEq, w.before a s = true) : SEq.tab.before a s = true := by
  have hl : LEq.tab.before a s = true := unparts (wk h (.code LEq.yN LEq.yB 3 (some .boolean))) (wks h (.initialized LEq.yN.cls :: LEq.site))
  have q := consq hl h
  exact unparts (wk q (.code SEq.yN SEq.yB 3 (some .boolean))) (wks q (.initialized SEq.yN.cls :: SEq.site))
theorem movedEq {Z s : State} {a0 args : Array Value} (hZ : Z.Warmed39 s.vm) (hw : ∀ d ∈ wordsEq, d.before a0 Z = true) : ∀ d ∈ wordsEq, d.before args s = true := fun d hd => by
  have t : ∀ d ∈ wordsEq, (d.onTables && d.keepsFace) = true := by decide +kernel
  exact RoadKit.mv hZ (hw d hd) (t d hd)
/-- the road's facts of a String, as the laws ask it -/
theorem txt_of {Z U : State} {a0 : Array Value} {kI : Nat} (wi : (Jvm.Cond.instantiable ST kI).before a0 Z = true) (al : Z.vm.Alike U.vm) {x t : Addr} {kb : ClassId} {cs : List Int32} {cd N2 : Int32} {vs : List Value} (E : RoadKit.Exa Z U.heap x ST) (V : RoadKit.Fld Z U.heap x ST "value" "[B" (.ref t)) (C : RoadKit.Fld Z U.heap x ST "coder" "B" (.int cd)) (K : RoadKit.Arv Z U.heap t kb .byte N2 vs (.int 0)) (hc : CodA cs cd N2 vs) (hb : ∀ c ∈ cs, ¬ c < 0 ∧ ¬ (65535 : Int32) < c) (l2 : cs.length ≤ 4000) :
    ∃ A, Txt x t A cd cs.length (fun j => cs.getD j 0) U := by
  obtain ⟨A, K1, K2, K3, K4, K5, K6⟩ := K
  have hcod := hc.cod (by omega) K3 K5
  obtain ⟨D, fV, fC, hB, F1, F2, g1, g2, -, -⟩ := strObj wi al E V C
  exact ⟨A, ⟨_, hB.2.2.1, D, hB.1, rfl, by cases q : D.vm <;> first | rfl | exact absurd q (hB.2.1.2 _)⟩, Has.of hB F1 g1, Has.of hB F2 g2, ⟨K1.1, State.isArrayOf_alike al K1.2.1, K1.2.2, by rcases hcod with ⟨-, q, -⟩ | ⟨-, q, -⟩ <;> omega⟩, hcod, fun j hj => by
    have e : cs.getD j 0 = cs[j] := by simp [List.getD_eq_getElem?_getD, hj]
    show ¬ cs.getD j 0 < 0 ∧ ¬ 65535 < cs.getD j 0
    rw [e]; exact hb _ (List.getElem_mem _)⟩
theorem same_list (cs ds : List Int32) : SameT cs.length (fun j => cs.getD j 0) ds.length (fun j => ds.getD j 0) ↔ cs = ds := by
  constructor
  · rintro ⟨e, q⟩
    refine List.ext_getElem e fun j h1 h2 => ?_
    have := q j h1
    simpa [List.getD_eq_getElem?_getD, h1, h2] using this
  · rintro rfl
    exact ⟨rfl, fun _ _ => rfl⟩
/-- **equals(Object) OF TWO SUCH STRINGS**: 1 just where the chars are the same -/
theorem eqW {p : Program} {l : Launch} {e : Env} {R : Room} {s : State} {args : Array Value} {below : List Frame} {len W : Nat} {Z : State} {a0 : Array Value} {h : Heap} (hZ : Z.Warmed39 s.vm) (hw : ∀ d ∈ wordsEq, d.before a0 Z = true) {kI : Nat} (wi : (Jvm.Cond.instantiable ST kI).before a0 Z = true)
    {x t : Addr} {kb : ClassId} {cs : List Int32} {cd N2 : Int32} {vs : List Value} (E : RoadKit.Exa Z h x ST) (V : RoadKit.Fld Z h x ST "value" "[B" (.ref t)) (C : RoadKit.Fld Z h x ST "coder" "B" (.int cd)) (K : RoadKit.Arv Z h t kb .byte N2 vs (.int 0)) (hc : CodA cs cd N2 vs) (hb : ∀ c ∈ cs, ¬ c < 0 ∧ ¬ (65535 : Int32) < c) (l2 : cs.length ≤ 4000)
    {y t' : Addr} {kb' : ClassId} {ds : List Int32} {cd' N2' : Int32} {vs' : List Value} (E' : RoadKit.Exa Z h y ST) (V' : RoadKit.Fld Z h y ST "value" "[B" (.ref t')) (C' : RoadKit.Fld Z h y ST "coder" "B" (.int cd')) (K' : RoadKit.Arv Z h t' kb' .byte N2' vs' (.int 0)) (hc' : CodA ds cd' N2' vs') (hb' : ∀ c ∈ ds, ¬ c < 0 ∧ ¬ (65535 : Int32) < c) (l2' : ds.length ≤ 4000)
    {z : Int32} (S : RoadKit.Sta Z h ST "COMPACT_STRINGS" "Z" (.int z)) (hz : ¬ z = 0) (hfr : 2 ≤ R.frames) (hlo : W + 28 ≤ R.locals) :
    Back l R p e below s args (⟨"java/lang/String", "equals", "(Ljava/lang/Object;)Z"⟩ : MethodName) len W (fun P a => a = #[.ref x, .ref y] ∧ P.U.heap = h ∧ P.cells + 0 ≤ R.cells ∧ P.slots + 0 ≤ R.slots)
      (fun P _ v B => ∃ L, (((v = some (.int 1) ∧ cs = ds) ∨ (v = some (.int 0) ∧ ¬ cs = ds)) ∧ L = [] ∧ B.U.heap = h) ∧ B.locs = P.locs ++ L ∧ B.cells = P.cells + 0 ∧ B.slots = P.slots + 0) := by
  intro m meth c P g ig mk a X hg hsize hdg hW hn hp'
  obtain ⟨rfl, rfl, r1, r2⟩ := hp'
  have al : Z.vm.Alike P.U.vm := hZ.alike.trans X.warmed.alike
  obtain ⟨A, hx⟩ := txt_of wi al E V C K hc hb l2
  obtain ⟨A', hy⟩ := txt_of wi al E' V' C' K' hc' hb' l2'
  obtain ⟨v, B, X', ⟨⟨w, hv, hh, hq⟩, hl, hk, hs⟩, st⟩ := SEq.pays x t A cd cs.length (fun j => cs.getD j 0) y t' A' cd' ds.length (fun j => ds.getD j 0) z (tabEq_of (movedEq hZ hw)) hfr hlo m meth c P g ig mk _ X hg hsize hdg hW hn ⟨r1, r2, rfl, hx, hy, sta_is al S, hz⟩
  refine ⟨v, B, X', ⟨[], ⟨?_, rfl, hh⟩, hl, hk, hs⟩, st⟩
  rcases hq with ⟨rfl, q⟩ | ⟨rfl, q⟩
  · exact Or.inl ⟨hv, (same_list cs ds).mp q⟩
  · exact Or.inr ⟨hv, fun e => q ((same_list cs ds).mpr e)⟩
end StrChars.Road
namespace StrChars
open Jvm Sem ClassFile Op Lib Jvm.Stand Jvm.Free.XT Jvm.Free.ALB Jvm.Free.JM Jvm.Free
open Jvm.Lib.Cold (StaticIs)
namespace ChN
def yN : MethodName := ⟨"java/lang/String", "charAt", "(I)C"⟩
abbrev yB : ByteArray := jdk_42_method_56_code
theorem d0 : decode yB 0 = .ok (.aload_n 0, 1) := by decide +kernel
theorem d1 : decode yB 1 = .ok (.invokevirtual 492, 3) := by decide +kernel
theorem d4 : decode yB 4 = .ok (.ifCond (.eq) 12, 3) := by decide +kernel
theorem d7 : decode yB 7 = .ok (.aload_n 0, 1) := by decide +kernel
theorem d8 : decode yB 8 = .ok (.getfield 9, 3) := by decide +kernel
theorem d11 : decode yB 11 = .ok (.iload_n 1, 1) := by decide +kernel
theorem d12 : decode yB 12 = .ok (.invokestatic 495, 3) := by decide +kernel
theorem d15 : decode yB 15 = .ok (.ireturn, 1) := by decide +kernel
def site : List Cond := [.fieldLink "java/lang/String" 9 "java/lang/String" "value" "[B", IsL.tab, LChA.tab] ++ virtW "java/lang/String" 492 "java/lang/String" IsL.yN IsL.yN ++ staticW "java/lang/String" 495 LChA.yN
def tab : Cond := tabOf yN yB 2 (some .char) site
def P (x t : Addr) (V : Cell) (n : Nat) (f : Nat → Int32) (z : Int32) (fm : Value) (i : Nat) (args : Array Value) (s : State) : Prop := args = #[.ref x, .int (Int32.ofNat i)] ∧ Txt x t V 0 n f s ∧ i < n ∧ StaticIs s "java/lang/String" "COMPACT_STRINGS" "Z" (.int z) ∧ ¬ z = 0 ∧ StaticIs s "jdk/internal/util/Preconditions" "SIOOBE_FORMATTER" "Ljava/util/function/BiFunction;" fm ∧ fm.isRef = true
def E (f : Nat → Int32) (i : Nat) (r : Option Value) (s u : State) : Prop := XT.PureE (some (.int (f i))) r s u
/-- charAt(i) of a Latin-1 String of n chars, i < n: f i -/
theorem law (l : Launch) (x t : Addr) (V : Cell) (n : Nat) (f : Nat → Int32) (z : Int32) (fm : Value) (i : Nat) : Law l yN 2 1 3 40 yB 2 (some .char) site (P x t V n f z fm i) (E f i) [] 0 0 := by
  refine Law.of_walk (plainFor_of_name (by decide +kernel)) (by decide +kernel) (by decide +kernel) (by decide) (fun _ _ h => by rw [h.1]; rfl) (fun _ U U' hal hh h => ⟨h.1, h.2.1.mv hal hh, h.2.2.1, h.2.2.2.1.there hal hh, h.2.2.2.2.1, h.2.2.2.2.2.1.there hal hh, h.2.2.2.2.2.2⟩) (fun r U U' V V' h1 hal h2 h => XT.PureE.mv r U U' V V' h1 hal h2 h) ?_
  intro p e s m args below meth c s₁ X0 hexec hbytes hml hret hlk hnm hown hh0 W hP
  obtain ⟨rfl, hx, hi, s1, hz, s3, rf⟩ := hP
  have v31 := hx.2.2.2.1.2.2.2
  have hr := hx.2.2.2.2.2 i hi
  have hx0 := hx.mv X0.warmed.alike hh0
  have c1 : Steps p.tables e below (s₁.setTop (entryFrame m #[.ref x, .int (Int32.ofNat i)] 2)) (s₁.setTop (mkF m 1 #[.val (.ref x), .val (.int (Int32.ofNat i))] [.ref x])) := Steps.trans (entry rfl) (by
    show Steps p.tables e below (s₁.setTop (mkF m 0 #[.val (.ref x), .val (.int (Int32.ofNat i))] [])) _
    refine XS.aloadN X0.here hexec rfl (hb hbytes d0) rfl rfl ?_
    exact Steps.refl _)
  obtain ⟨v2, T2, X2, E2, g2⟩ := X0.callV hexec (IsL.law l x 0 z) hown (wks W (virtW "java/lang/String" 492 "java/lang/String" IsL.yN IsL.yN)) rfl (by decide) (wk W IsL.tab) (W := 0) (Nat.le_of_ble_eq_true rfl) (Nat.le_of_ble_eq_true rfl) (Nat.le_refl _) (Nat.le_refl _) (hx0.1.fc X0.warmed.alike) hx0.1.is (g := (mkF m 1 #[.val (.ref x), .val (.int (Int32.ofNat i))] [.ref x])) rfl (by rw [hml]; rfl) c1 (argsL := []) (rest := []) rfl rfl (by show 2 * 0 + 0 ≤ _; decide) (hb hbytes d1) (⟨rfl, hx0.2.2.1, hx.2.2.2.2.1.cd, s1.there X0.warmed.alike hh0, hz⟩)
  obtain ⟨rfl, q2⟩ := E2
  have hh2 := q2.trans hh0
  have hx2 := hx.mv X2.warmed.alike hh2
  obtain ⟨-, k1, k2⟩ | ⟨k0, -⟩ := hx.2.2.2.2.1
  · have c3 : Steps p.tables e below (s₁.setTop (entryFrame m #[.ref x, .int (Int32.ofNat i)] 2)) (T2.setTop (mkF m 8 #[.val (.ref x), .val (.int (Int32.ofNat i))] [.ref x])) := Steps.trans g2 (by
      refine XS.ifNo X2.here hexec rfl (hb hbytes d4) rfl (i0_eq_f (by decide)) ?_
      refine XS.aloadN X2.here hexec rfl (hb hbytes d7) rfl rfl ?_
      exact Steps.refl _)
    obtain ⟨T4, X4, q4, st4⟩ := X2.hget hexec hown (wk W (.fieldLink "java/lang/String" 9 "java/lang/String" "value" "[B")) hx2.2.1 (g := (mkF m 8 #[.val (.ref x), .val (.int (Int32.ofNat i))] [.ref x])) rfl (rest := []) rfl (hb hbytes d8)
    have hh4 := q4.trans hh2
    have c5 : Steps p.tables e below (s₁.setTop (entryFrame m #[.ref x, .int (Int32.ofNat i)] 2)) (T4.setTop (mkF m 12 #[.val (.ref x), .val (.int (Int32.ofNat i))] [.int (Int32.ofNat i), .ref t])) := (c3.trans (st4 _ (Steps.refl _))).trans (by
      refine XS.iloadN X4.here hexec rfl (hb hbytes d11) rfl ?_
      exact Steps.refl _)
    obtain ⟨v6, T6, X6, E6, g6⟩ := X4.callS hexec (LChA.law l t V i (lo8 (f i)) fm) hown (wks W (staticW "java/lang/String" 495 LChA.yN)) (wk W LChA.tab) (W := 0) (Nat.le_of_ble_eq_true rfl) (Nat.le_of_ble_eq_true rfl) (Nat.le_refl _) (Nat.le_refl _) (g := (mkF m 12 #[.val (.ref x), .val (.int (Int32.ofNat i))] [.int (Int32.ofNat i), .ref t])) rfl (by rw [hml]; rfl) c5 (argsL := [.ref t, .int (Int32.ofNat i)]) (rest := []) rfl rfl (by show 2 * 0 + 0 ≤ _; decide) (hb hbytes d12) (⟨rfl, hx.2.2.2.1.mv X4.warmed.alike hh4, (k2 i hi).1, s3.there X4.warmed.alike hh4, rf⟩)
    obtain ⟨rfl, q6⟩ := E6
    rw [chr8_lo8 hr.1 (k2 i hi).2] at g6
    exact ⟨T6, some (.int (f i)), _, _, _, X6, rfl, rfl, rfl, (fun h => by cases h), ⟨rfl, q6.trans hh4⟩, fun fs hl => Steps.trans g6 (X6.ireturnOut hexec hret (narrow_ch hr.1 hr.2) (Or.inr (Or.inr (Or.inr (Or.inl rfl)))) (hb hbytes d15) hl)⟩
  · exact absurd k0 (by decide)
theorem pays {l : Launch} {R : Room} {p : Program} {e : Env} {below : List Frame} {s : State} {sargs : Array Value} {len W : Nat} (x t : Addr) (V : Cell) (n : Nat) (f : Nat → Int32) (z : Int32) (fm : Value) (i : Nat) (htab : tab.before sargs s = true) (hfr : 4 ≤ R.frames) (hlo : W + 53 ≤ R.locals) :
    Back l R p e below s sargs yN len W (fun A₁ a₁ => A₁.cells + 0 ≤ R.cells ∧ A₁.slots + 0 ≤ R.slots ∧ P x t V n f z fm i a₁ A₁.U) (fun A₁ _ v₁ B₁ => E f i v₁ A₁.U B₁.U ∧ B₁.locs = A₁.locs ++ [] ∧ B₁.cells = A₁.cells + 0 ∧ B₁.slots = A₁.slots + 0) :=
  (law l x t V n f z fm i).pays htab hfr (by omega)
end ChN
end StrChars
namespace StrChars.Road
open Jvm Sem ClassFile Op Lib Jvm.Stand Jvm.Free Jvm.Free.XT
open Jvm.Lib.Cold (StaticIs)
/-- the words of String.charAt(int), the Latin-1 road alone -/
abbrev wordsChN : List Jvm.Cond := [.code ChN.yN ChN.yB 2 (some .char), .initialized ST, .fieldLink ST 9 ST "value" "[B", .fieldLink ST 38 ST "COMPACT_STRINGS" "Z", .fieldLink ST 15 ST "coder" "B", .code IsL.yN IsL.yB 1 (some .boolean), .methodLink ST 492 IsL.yN, .declares IsL.yN, .selects ST IsL.yN IsL.yN, .instanceMethod IsL.yN,
  .methodLink ST 495 LChA.yN, .static LChA.yN, .code LChA.yN LChA.yB 2 (some .char), .initialized "java/lang/StringLatin1", .methodLink "java/lang/StringLatin1" 9 JO.Str_checkIndex.yN, .static JO.Str_checkIndex.yN, .code JO.Str_checkIndex.yN JO.Str_checkIndex.yB 2 none,
  .fieldLink ST 1053 "jdk/internal/util/Preconditions" "SIOOBE_FORMATTER" "Ljava/util/function/BiFunction;", .methodLink ST 1059 JC.PreCheck.yN, .static JC.PreCheck.yN, .code JC.PreCheck.yN JC.PreCheck.yB 3 (some .int), .initialized "jdk/internal/util/Preconditions"]
theorem tabChN_of {a : Array Value} {s : State} (h : ∀ w ∈ wordsChN, w.before a s = true) : ChN.tab.before a s = true := by
  have hp : JC.PreCheck.tab.before a s = true := unparts (wk h (.code JC.PreCheck.yN JC.PreCheck.yB 3 (some .int))) (wks h (.initialized JC.PreCheck.yN.cls :: JC.PreCheck.site))
  have qk := consq hp h
  have hk : JO.Str_checkIndex.tab.before a s = true := unparts (wk qk (.code JO.Str_checkIndex.yN JO.Str_checkIndex.yB 2 none)) (wks qk (.initialized JO.Str_checkIndex.yN.cls :: JO.Str_checkIndex.site))
  have ql := consq hk h
  have hl : LChA.tab.before a s = true := unparts (wk ql (.code LChA.yN LChA.yB 2 (some .char))) (wks ql (.initialized LChA.yN.cls :: LChA.site))
  have hi : IsL.tab.before a s = true := unparts (wk h (.code IsL.yN IsL.yB 1 (some .boolean))) (wks h (.initialized IsL.yN.cls :: IsL.site))
  have q := consq hi (consq hl h)
  exact unparts (wk q (.code ChN.yN ChN.yB 2 (some .char))) (wks q (.initialized ChN.yN.cls :: ChN.site))
theorem movedChN {Z s : State} {a0 args : Array Value} (hZ : Z.Warmed39 s.vm) (hw : ∀ d ∈ wordsChN, d.before a0 Z = true) : ∀ d ∈ wordsChN, d.before args s = true := fun d hd => by
  have t : ∀ d ∈ wordsChN, (d.onTables && d.keepsFace) = true := by decide +kernel
  exact RoadKit.mv hZ (hw d hd) (t d hd)
/-- **charAt(i) OF A LATIN-1 STRING**, i < n: the char -/
theorem chN {p : Program} {l : Launch} {e : Env} {R : Room} {s : State} {args : Array Value} {below : List Frame} {len W : Nat} {Z : State} {a0 : Array Value} {h : Heap} (hZ : Z.Warmed39 s.vm) (hw : ∀ d ∈ wordsChN, d.before a0 Z = true) {kI : Nat} (wi : (Jvm.Cond.instantiable ST kI).before a0 Z = true)
    {x t : Addr} {kb : ClassId} {cs : List Int32} {N2 z : Int32} {vs : List Value} {fm : Value} {i : Nat} {j : Int32} (E : RoadKit.Exa Z h x ST) (V : RoadKit.Fld Z h x ST "value" "[B" (.ref t)) (C : RoadKit.Fld Z h x ST "coder" "B" (.int 0)) (K : RoadKit.Arv Z h t kb .byte N2 vs (.int 0)) (hc : CodA cs 0 N2 vs) (hb : ∀ c ∈ cs, ¬ c < 0 ∧ ¬ (65535 : Int32) < c)
    (S : RoadKit.Sta Z h ST "COMPACT_STRINGS" "Z" (.int z)) (hz : ¬ z = 0) (F : RoadKit.Sta Z h "jdk/internal/util/Preconditions" "SIOOBE_FORMATTER" "Ljava/util/function/BiFunction;" fm) (rf : fm.isRef = true) (l2 : cs.length ≤ 4000) (hi : i < cs.length) (hj : j = Int32.ofNat i) (hfr : 4 ≤ R.frames) (hlo : W + 53 ≤ R.locals) :
    Back l R p e below s args (⟨"java/lang/String", "charAt", "(I)C"⟩ : MethodName) len W (fun P a => a = #[.ref x, .int j] ∧ P.U.heap = h ∧ P.cells + 0 ≤ R.cells ∧ P.slots + 0 ≤ R.slots)
      (fun P _ v B => ∃ L, (v = some (.int (cs.getD i 0)) ∧ L = [] ∧ B.U.heap = h) ∧ B.locs = P.locs ++ L ∧ B.cells = P.cells + 0 ∧ B.slots = P.slots + 0) := by
  subst hj
  intro m meth c P g ig mk a X hg hsize hdg hW hn hp'
  obtain ⟨rfl, rfl, r1, r2⟩ := hp'
  have al : Z.vm.Alike P.U.vm := hZ.alike.trans X.warmed.alike
  obtain ⟨A, hx⟩ := txt_of wi al E V C K hc hb l2
  obtain ⟨v, B, X', ⟨⟨hv, hh⟩, hl, hk, hs⟩, st⟩ := ChN.pays x t A cs.length (fun j => cs.getD j 0) z fm i (tabChN_of (movedChN hZ hw)) hfr hlo m meth c P g ig mk _ X hg hsize hdg hW hn ⟨r1, r2, rfl, hx, hi, sta_is al S, hz, sta_is al F, rf⟩
  exact ⟨v, B, X', ⟨[], ⟨hv, rfl, hh⟩, hl, hk, hs⟩, st⟩
/-- what backV says of its String, as the contracts of this text ask it: cs's low bytes, coder 0 -/
theorem codOf {cs : List Int32} {n : Nat} (hn : cs.length = n) (hb : ∀ c ∈ cs, ¬ 255 < c) : CodA cs 0 (Int32.ofNat n) ((cs.map lo8).map Value.int) := Or.inl ⟨rfl, by rw [hn], by simp [List.map_map, Function.comp_def], hb⟩
end StrChars.Road
end Jvm.Pilot.@@N@@
namespace Jvm.Pilot.@@N@@
open Jvm Jvm.ClassFile Sem Op Lib Jvm.Free Jvm.Stand Jvm.LawKit Jvm.RoadKit Bundle Jvm.Pilot.@@N@@.Jvm.D
theorem tw {a0 : Array Value} {Z : State} (hw : ∀ d ∈ tables_1, d.before a0 Z = true) (i : Nat) {d : Jvm.Cond} (h : tables_1[i]? = some d) : d.before a0 Z = true := hw d (List.mem_of_getElem? h)
theorem strW {a0 : Array Value} {Z : State} (hw : ∀ d ∈ tables_1, d.before a0 Z = true) : ∀ a ∈ Bundle.stringAtoms, a.before a0 Z = true := fun d hd => hw d ((by decide +kernel : ∀ d ∈ Bundle.stringAtoms, d ∈ tables_1) d hd)
theorem pn_com_example_groupwright_groupwright_app_KindNamedPinLaw : plainName "com/example/groupwright/groupwright/app/KindNamedPinLaw" = true := by first | (simp [plainName, overriddenIn]; done) | decide +kernel
theorem pn_com_example_groupwright_groupwright_app_Registration_Kind : plainName "com/example/groupwright/groupwright/app/Registration$Kind" = true := by first | (simp [plainName, overriddenIn]; done) | decide +kernel
theorem pn_java_lang_String : plainName "java/lang/String" = true := by first | (simp [plainName, overriddenIn]; done) | decide +kernel
theorem pd___CIILjava_lang_Void__V : parseMethodDescriptor "([CIILjava/lang/Void;)V" = some ⟨[(.array .char), .int, .int, (.object "java/lang/Void")], none⟩ := by decide +kernel
theorem pd___I : parseMethodDescriptor "()I" = some ⟨[], some .int⟩ := by decide +kernel
theorem pd__I_C : parseMethodDescriptor "(I)C" = some ⟨[.int], some .char⟩ := by decide +kernel
theorem pd___C_V : parseMethodDescriptor "([C)V" = some ⟨[(.array .char)], none⟩ := by decide +kernel
theorem pd____Lcom_example_groupwright_groupwright_app_Registration_Kind_ : parseMethodDescriptor "()[Lcom/example/groupwright/groupwright/app/Registration$Kind;" = some ⟨[], some (.array (.object "com/example/groupwright/groupwright/app/Registration$Kind"))⟩ := by decide +kernel
theorem pd__Ljava_lang_Object__Z : parseMethodDescriptor "(Ljava/lang/Object;)Z" = some ⟨[(.object "java/lang/Object")], some .boolean⟩ := by decide +kernel
theorem pd__Ljava_lang_String_IJJ_C : parseMethodDescriptor "(Ljava/lang/String;IJJ)C" = some ⟨[(.object "java/lang/String"), .int, .long, .long], some .char⟩ := by decide +kernel
theorem pd__Ljava_lang_String__Lcom_example_groupwright_groupwright_app_Registration_Kind_ : parseMethodDescriptor "(Ljava/lang/String;)Lcom/example/groupwright/groupwright/app/Registration$Kind;" = some ⟨[(.object "java/lang/String")], some (.object "com/example/groupwright/groupwright/app/Registration$Kind")⟩ := by decide +kernel
theorem pd___CI_Ljava_lang_String_ : parseMethodDescriptor "([CI)Ljava/lang/String;" = some ⟨[(.array .char), .int], some (.object "java/lang/String")⟩ := by decide +kernel
theorem litc_109 : (∀ c ∈ "".toList, c.toNat < 256) ∧ "".toList.map (fun c => Value.int (Jvm.Lit.byteI c.toNat.toUInt16)) = [] := ⟨by decide, by decide +kernel⟩
theorem litc_0 : (∀ c ∈ "collection".toList, c.toNat < 256) ∧ "collection".toList.map (fun c => Value.int (Jvm.Lit.byteI c.toNat.toUInt16)) = [(.int 99), (.int 111), (.int 108), (.int 108), (.int 101), (.int 99), (.int 116), (.int 105), (.int 111), (.int 110)] := ⟨by decide, by decide +kernel⟩
theorem litc_110 : (∀ c ∈ "object".toList, c.toNat < 256) ∧ "object".toList.map (fun c => Value.int (Jvm.Lit.byteI c.toNat.toUInt16)) = [(.int 111), (.int 98), (.int 106), (.int 101), (.int 99), (.int 116)] := ⟨by decide, by decide +kernel⟩
theorem litc_111 : (∀ c ∈ "dataset".toList, c.toNat < 256) ∧ "dataset".toList.map (fun c => Value.int (Jvm.Lit.byteI c.toNat.toUInt16)) = [(.int 100), (.int 97), (.int 116), (.int 97), (.int 115), (.int 101), (.int 116)] := ⟨by decide, by decide +kernel⟩
theorem litc_108 : (∀ c ∈ "".toList, c.toNat < 256) ∧ "".toList.map (fun c => Value.int (Jvm.Lit.byteI c.toNat.toUInt16)) = [] := ⟨by decide, by decide +kernel⟩
theorem elW {a0 : Array Value} {Z : State} (hw : ∀ d ∈ tables_1, d.before a0 Z = true) : EW Z a0 consts_1 := (EW.cons (tw hw 0 rfl) (by decide) (EW.cons (tw hw 110 rfl) (by decide) (EW.cons (tw hw 111 rfl) (by decide) (EW.cons (tw hw 108 rfl) (by decide) (EW.cons (tw hw 109 rfl) (by decide) EW.nil)))))
theorem and255_lt (x : Int32) : (x &&& 255).toBitVec.toNat < 256 ∧ (x &&& 255) = Int32.ofNat (x &&& 255).toBitVec.toNat := by
  have h : (x &&& 255).toBitVec.toNat < 256 := by
    simp only [Int32.toBitVec_and, BitVec.toNat_and]
    exact Nat.lt_succ_of_le Nat.and_le_right
  refine ⟨h, ?_⟩
  apply Int32.toBitVec_inj.mp
  show _ = BitVec.ofNat 32 _
  rw [BitVec.ofNat_toNat]; simp
theorem and255_chars (x : Int32) : ¬ nar .char ((x &&& (255 : Int32)).toUInt32.toUInt16.toUInt32.toInt32) < 0 ∧ ¬ (255 : Int32) < nar .char ((x &&& (255 : Int32)).toUInt32.toUInt16.toUInt32.toInt32) := by
  have t : ∀ k : Fin 256, ¬ nar .char ((Int32.ofNat k.val).toUInt32.toUInt16.toUInt32.toInt32) < 0 ∧ ¬ (255 : Int32) < nar .char ((Int32.ofNat k.val).toUInt32.toUInt16.toUInt32.toInt32) := by decide +kernel
  obtain ⟨h, e⟩ := and255_lt x
  rw [e]
  exact t ⟨_, h⟩

theorem sm256 {c : Int32} (h0 : ¬ c < 0) (h1 : ¬ (255 : Int32) < c) : ∃ j : Fin 256, c = Int32.ofNat j.val := by
  rw [Int32.lt_iff_toInt_lt] at h0 h1
  have e0 : (0 : Int32).toInt = 0 := rfl
  have e1 : (255 : Int32).toInt = 255 := rfl
  refine ⟨⟨c.toInt.toNat, by omega⟩, ?_⟩
  apply Int32.toInt_inj.mp
  rw [Int32.toInt_ofNat_small (by show c.toInt.toNat < _; omega)]
  show c.toInt = ((c.toInt.toNat : Nat) : Int)
  omega
theorem nar_id {c : Int32} (h0 : ¬ c < 0) (h1 : ¬ (255 : Int32) < c) : nar .char c = c := by
  obtain ⟨j, rfl⟩ := sm256 h0 h1
  exact (by decide +kernel : ∀ j : Fin 256, nar .char (Int32.ofNat j.val) = Int32.ofNat j.val) j

theorem own_el {args : Array Value} {first s : State} {o : Option Outcome} {idx : List Nat} {a t : Term} {x : Addr} {j : Int32} {cl : Cell} {k : Nat} (ht : t.eval args first o idx s = some (.ref x)) (hj : a.eval args first o idx s = some (.int j)) (ha : s.arrayAt? x = some cl) (hn : ¬ j < 0 ∧ j.toNatClampNeg = k) : (Term.elem t a).eval args first o idx s = cl.slots[k]? := by
  rw [← hn.2]; exact elem_f ht hj ha hn.1
theorem ci_and (x : Int32) : Chr ((x &&& (255 : Int32)).toUInt32.toUInt16.toUInt32.toInt32) := by
  obtain ⟨h, e⟩ := and255_lt x
  rw [e]
  exact (by decide +kernel : ∀ k : Fin 256, ¬ ((Int32.ofNat k.val).toUInt32.toUInt16.toUInt32.toInt32) < 0 ∧ ¬ (255 : Int32) < (Int32.ofNat k.val).toUInt32.toUInt16.toUInt32.toInt32) ⟨_, h⟩
theorem own_and255L (x : Int64) : ∃ j : Fin 256, x &&& (255 : Int64) = Int64.ofNat j.val := by
  have h : (x &&& 255).toBitVec.toNat < 256 := by
    simp only [Int64.toBitVec_and, BitVec.toNat_and]
    exact Nat.lt_succ_of_le Nat.and_le_right
  refine ⟨⟨_, h⟩, ?_⟩
  apply Int64.toBitVec_inj.mp
  show _ = BitVec.ofNat 64 _
  rw [BitVec.ofNat_toNat]; simp
theorem chr_L (x : Int64) : Chr (nar .char (((x &&& (255 : Int64)).toInt32).toUInt32.toUInt16.toUInt32.toInt32)) := by
  obtain ⟨j, e⟩ := own_and255L x
  rw [e]
  exact (by decide +kernel : ∀ j : Fin 256, ¬ (nar .char (((Int64.ofNat j.val).toInt32).toUInt32.toUInt16.toUInt32.toInt32)) < 0 ∧ ¬ (255 : Int32) < nar .char (((Int64.ofNat j.val).toInt32).toUInt32.toUInt16.toUInt32.toInt32)) j
theorem chr_get {cs : List Int32} (h : Rng cs) {i : Nat} (hi : i < cs.length) : Chr (nar .char (cs.getD i 0)) := by
  have q := mem_get h hi
  rw [nar_id q.1 q.2]; exact q
theorem own_k12 (x : Int32) : ∃ j : Fin 12, (x &&& (255 : Int32)) % (12 : Int32) = Int32.ofNat j.val := by
  have h0 : 0 ≤ (x &&& (255 : Int32)).toInt := (c_and x 255 (by decide)).1
  have h1 := (c_irem (x &&& (255 : Int32)) 12 12 rfl).1 h0
  have h2 : (x &&& (255 : Int32)).toInt % 12 < 12 := Int.emod_lt_of_pos _ (by decide)
  have h3 : 0 ≤ (x &&& (255 : Int32)).toInt % 12 := Int.emod_nonneg _ (by decide)
  refine ⟨⟨((x &&& (255 : Int32)) % (12 : Int32)).toInt.toNat, by omega⟩, ?_⟩
  apply Int32.toInt_inj.mp
  rw [n32_int (by show Int.toNat _ < _; omega)]
  show _ = ((Int.toNat _ : Nat) : Int)
  omega
theorem own_o12 (j : Fin 12) : Int32.ofNat j.val = (0 : Int32) ∨ Int32.ofNat j.val = (1 : Int32) ∨ Int32.ofNat j.val = (2 : Int32) ∨ Int32.ofNat j.val = (3 : Int32) ∨ Int32.ofNat j.val = (4 : Int32) ∨ Int32.ofNat j.val = (5 : Int32) ∨ Int32.ofNat j.val = (6 : Int32) ∨ Int32.ofNat j.val = (7 : Int32) ∨ Int32.ofNat j.val = (8 : Int32) ∨ Int32.ofNat j.val = (9 : Int32) ∨ Int32.ofNat j.val = (10 : Int32) ∨ Int32.ofNat j.val = (11 : Int32) := by
  match j with
  | 0 => exact Or.inl rfl
  | 1 => exact Or.inr (Or.inl rfl)
  | 2 => exact Or.inr (Or.inr (Or.inl rfl))
  | 3 => exact Or.inr (Or.inr (Or.inr (Or.inl rfl)))
  | 4 => exact Or.inr (Or.inr (Or.inr (Or.inr (Or.inl rfl))))
  | 5 => exact Or.inr (Or.inr (Or.inr (Or.inr (Or.inr (Or.inl rfl)))))
  | 6 => exact Or.inr (Or.inr (Or.inr (Or.inr (Or.inr (Or.inr (Or.inl rfl))))))
  | 7 => exact Or.inr (Or.inr (Or.inr (Or.inr (Or.inr (Or.inr (Or.inr (Or.inl rfl)))))))
  | 8 => exact Or.inr (Or.inr (Or.inr (Or.inr (Or.inr (Or.inr (Or.inr (Or.inr (Or.inl rfl))))))))
  | 9 => exact Or.inr (Or.inr (Or.inr (Or.inr (Or.inr (Or.inr (Or.inr (Or.inr (Or.inr (Or.inl rfl)))))))))
  | 10 => exact Or.inr (Or.inr (Or.inr (Or.inr (Or.inr (Or.inr (Or.inr (Or.inr (Or.inr (Or.inr (Or.inl rfl))))))))))
  | 11 => exact Or.inr (Or.inr (Or.inr (Or.inr (Or.inr (Or.inr (Or.inr (Or.inr (Or.inr (Or.inr (Or.inr (rfl)))))))))))
/-- a place of one char[] copied to the same place of another: dup; push j; aload_0; push j; caload; castore -/
theorem cpC {p : Program} {l : Launch} {e : Env} {R : Room} {s : State} {m : MethodId} {args : Array Value} {below : List Frame} {meth : Method} {c : Code} {T : State} {locs : List Loc} {cells slots : Nat} {Z : State} {h : Heap} (X : Stand p l e R s m args below meth c T locs cells slots) (hx : p.tables.exec = Jvm.exec) (hZ : Z.Warmed39 s.vm) (eT : T.heap = h) {a b : Addr} {ka kb : ClassId} {na nb : Int32} {va vb : List Value} {da db : Value} (A : Arv Z h a ka .char na va da) (B : Arv Z h b kb .char nb vb db)
    (j : Int32) (z : Int32) {z' : Int32} (i : Nat) (Ls : Array Slot) (S : List Value) (pc q1 q2 : Nat) (ja : ¬ j < 0 ∧ j < na) (jb : ¬ j < 0 ∧ j < nb) (hv : va.getD j.toNatClampNeg da = .int z) (hz : nar .char z = z') (hj : j.toNatClampNeg = i) (hi : i < vb.length)
    (h0 : Ls[0]? = some (.val (.ref a))) (d0 : decode c.code pc = .ok (.dup, 1)) (p1 : ∀ t S, Steps p.tables e below (T.setTop (mkF m q1 Ls (.int j :: S))) t → Steps p.tables e below (T.setTop (mkF m (pc + 1) Ls S)) t) (d1 : decode c.code q1 = .ok (.aload_n 0, 1))
    (p2 : ∀ t S, Steps p.tables e below (T.setTop (mkF m q2 Ls (.int j :: S))) t → Steps p.tables e below (T.setTop (mkF m (q1 + 1) Ls S)) t) (d2 : decode c.code q2 = .ok (.caload, 1)) (d3 : decode c.code (q2 + 1) = .ok (.castore, 1)) :
    ∃ T' h', Stand p l e R s m args below meth c T' (locs ++ [⟨b, j.toNatClampNeg⟩]) cells slots ∧ T'.heap = h' ∧ Wr h h' b j.toNatClampNeg (.int (nar .char z)) ∧ Arv Z h' b kb .char nb (vb.set i (.int z')) db ∧ ∀ t, Steps p.tables e below (T'.setTop (mkF m (q2 + 2) Ls (.ref b :: S))) t → Steps p.tables e below (T.setTop (mkF m pc Ls (.ref b :: S))) t := by
  obtain ⟨ca, Aa, qa, Sa, Ma, Ha, Ga⟩ := A
  obtain ⟨cb, Ab, qb, Sb, Mb, Hb, Gb⟩ := B
  obtain ⟨T', h', X', e', W', st'⟩ := stC X hx hZ eT Ab (j := j) (x := z) (inb_of Sb jb) (g := mkF m (q2 + 1) Ls (.int z :: .int j :: .ref b :: .ref b :: S)) rfl rfl d3
  refine ⟨T', h', X', e', W', ?_, fun t kq => ?_⟩
  · have q := Arv.set Ab qb Sb Mb Hb Gb (fits_nar_char _) W' i hj hi
    rw [hz] at q
    exact q
  · refine XS.dup X.here hx rfl d0 rfl rfl ?_
    refine p1 _ _ ?_
    refine XS.aloadN X.here hx rfl d1 h0 rfl ?_
    refine p2 _ _ ?_
    refine X.caload hx (j := j) (v := .int z) (by rw [eT]; exact Aa.1) (State.isArrayOf_alike hZ.alike Aa.2.1) Aa.2.2 (inb_of Sa ja) (Has.at Ha (inb_of Sa ja) hv) (g := mkF m q2 Ls (.int j :: .ref a :: .int j :: .ref b :: .ref b :: S)) rfl rfl d2 _ ?_
    exact st' _ kq

theorem wdNew {a0 : Array Value} {Z : State} (hw : ∀ d ∈ tables_1, d.before a0 Z = true) : ∀ d ∈ StrChars.Road.words, d.before a0 Z = true := fun d hd => hw d ((by decide +kernel : ∀ d ∈ StrChars.Road.words, d ∈ tables_1) d hd)
theorem wdLen {a0 : Array Value} {Z : State} (hw : ∀ d ∈ tables_1, d.before a0 Z = true) : ∀ d ∈ StrChars.Road.wordsLen, d.before a0 Z = true := fun d hd => hw d ((by decide +kernel : ∀ d ∈ StrChars.Road.wordsLen, d ∈ tables_1) d hd)
theorem wdCh {a0 : Array Value} {Z : State} (hw : ∀ d ∈ tables_1, d.before a0 Z = true) : ∀ d ∈ StrChars.Road.wordsChN, d.before a0 Z = true := fun d hd => hw d ((by decide +kernel : ∀ d ∈ StrChars.Road.wordsChN, d ∈ tables_1) d hd)
theorem wdEq {a0 : Array Value} {Z : State} (hw : ∀ d ∈ tables_1, d.before a0 Z = true) : ∀ d ∈ StrChars.Road.wordsEq, d.before a0 Z = true := fun d hd => hw d ((by decide +kernel : ∀ d ∈ StrChars.Road.wordsEq, d ∈ tables_1) d hd)
theorem d11_0 : decode jdk_42_method_149_code 0 = .ok (.aload_n 0, 1) := by decide +kernel
theorem d11_1 : decode jdk_42_method_149_code 1 = .ok (.invokespecial 1, 3) := by decide +kernel
theorem d11_4 : decode jdk_42_method_149_code 4 = .ok (.iload_n 3, 1) := by decide +kernel
theorem d11_5 : decode jdk_42_method_149_code 5 = .ok (.ifCond .ne 22, 3) := by decide +kernel
theorem d11_8 : decode jdk_42_method_149_code 8 = .ok (.aload_n 0, 1) := by decide +kernel
theorem d11_9 : decode jdk_42_method_149_code 9 = .ok (.ldc 7, 2) := by decide +kernel
theorem d11_11 : decode jdk_42_method_149_code 11 = .ok (.getfield 9, 3) := by decide +kernel
theorem d11_14 : decode jdk_42_method_149_code 14 = .ok (.putfield 9, 3) := by decide +kernel
theorem d11_17 : decode jdk_42_method_149_code 17 = .ok (.aload_n 0, 1) := by decide +kernel
theorem d11_18 : decode jdk_42_method_149_code 18 = .ok (.ldc 7, 2) := by decide +kernel
theorem d11_20 : decode jdk_42_method_149_code 20 = .ok (.getfield 15, 3) := by decide +kernel
theorem d11_23 : decode jdk_42_method_149_code 23 = .ok (.putfield 15, 3) := by decide +kernel
theorem d11_26 : decode jdk_42_method_149_code 26 = .ok (.return_, 1) := by decide +kernel
theorem ef_se4 (m : MethodId) (a : Addr) (b : Addr) : entryFrame m #[(.ref a), (.ref b), (.int 0), (.int 0), .null] 6 = mkF m 0 #[.val (.ref a), .val (.ref b), .val (.int 0), .val (.int 0), .val .null, .unset] [] := by first | (simp [entryFrame, mkF, argsToLocals, Value.category]; done) | rfl
def Q_se4 (Z : State) (a : Addr) (b : Addr) (o2 : Int32) (h0 : Heap) (n0 : Nat) (v : Option Value) (h : Heap) (L : List Loc) : Prop := (∃ t : Addr, ∃ k : ClassId, v = none ∧ Fr n0 L ∧ Keep h0 h [a] ∧ Exa Z h a "java/lang/String" ∧ Fld Z h a "java/lang/String" "coder" "B" (.int 0) ∧ Fld Z h a "java/lang/String" "value" "[B" (.ref t) ∧ Arv Z h t k .byte (Int32.ofNat ([] : List Int32).length) ((([] : List Int32).map (fun c => c.toInt8.toInt32)).map Value.int) (.int 0))
set_option maxRecDepth 65536 in
set_option maxHeartbeats 40000000 in
theorem rm_se4 (l : Launch) (Z : State) (a0 : Array Value) (hw : ∀ d ∈ tables_1, d.before a0 Z = true) (ws : List Jvm.Cond) (a : Addr) (b : Addr) (o2 : Int32) (h0 : Heap) (n0 : Nat) (Z0 : n0 ≤ h0.size) (pf0 : Exa Z h0 a "java/lang/String") (pf1 : Fld Z h0 a "java/lang/String" "value" "[B" .null) (pf2 : Fld Z h0 a "java/lang/String" "coder" "B" (.int o2)) (ga : n0 ≤ a) :
    MetFree l (⟨"java/lang/String", "<init>", "([CIILjava/lang/Void;)V"⟩ : MethodName) (head1 (Jvm.Cond.code (⟨"java/lang/String", "<init>", "([CIILjava/lang/Void;)V"⟩ : MethodName) jdk_42_method_149_code 6 none :: ws) ({ frames := 1, cells := 4, slots := 8, locals := 12 } : Room)) (fun aa U => aa = #[(.ref a), (.ref b), (.int 0), (.int 0), .null] ∧ Z.Warmed39 U.vm ∧ U.heap = h0 ∧ CHv Z consts_1 U.vm h0) (fun _ _ _ _ _ => True) (fun _ U o U' => ∃ v L, o = .returned v ∧ Q_se4 Z a b o2 h0 n0 v U'.heap L ∧ CHr Z consts_1 U.vm U.heap U'.vm U'.heap ∧ ReturnedEndW U o U' L ({ frames := 1, cells := 4, slots := 8, locals := 12 } : Room).cells ({ frames := 1, cells := 4, slots := 8, locals := 12 } : Room).slots) := by
  refine MetFree.of_bodySF (plainFor_of_name pn_java_lang_String) hisR ?_
  intro p e s m args below meth c s₁ Bd hml0 hP hK
  obtain ⟨rfl, hZ, hh, hH⟩ := hP
  have hx := Bd.exec
  have hby := Bd.bytes
  have hlk : meth.locks = false := BodyLoose.notSynchronized Bd
  have hml : c.maxLocals = 6 := hml0
  have hown : s.vm.findClass "java/lang/String" = some m.cls := findClass_of_methodNamed Bd.named
  have hnm := (name_of_methodNamed Bd.named Bd.method).1
  have X0 : Stand p l e ({ frames := 1, cells := 4, slots := 8, locals := 12 } : Room) (s.setVm s.vm) m #[(.ref a), (.ref b), (.int 0), (.int 0), .null] below meth c s₁ [] 0 0 := Stand.of_body Bd
  have e0 : s₁.heap = h0 := by rw [← hh, Bd.state]; rfl
  have N0 := Fr.nil n0
  show Gl p.tables e below (EndH s Z consts_1 (Q_se4 Z a b o2 h0 n0) ({ frames := 1, cells := 4, slots := 8, locals := 12 } : Room).cells ({ frames := 1, cells := 4, slots := 8, locals := 12 } : Room).slots) _
  refine Gl.cast (ef_se4 m a b) ?_
  show Gl p.tables e below _ (s₁.setTop (mkF m 0 #[.val (.ref a), .val (.ref b), .val (.int 0), .val (.int 0), .val .null, .unset] []))
  have hS0 : s.Since s.vm s₁.heap.size := (State.WarmedH.refl s).since _
  have C0 : CHr Z consts_1 s.vm h0 s.vm h0 := CHr.refl hH
  refine Gl.st (fun _ kq => XS.aloadN X0.here hx rfl (hb hby d11_0) rfl rfl kq) ?_
  show Gl p.tables e below _ (s₁.setTop (mkF m 1 #[.val (.ref a), .val (.ref b), .val (.int 0), .val (.int 0), .val .null, .unset] [(.ref a)]))
  obtain ⟨T1, X1, e1, st1⟩ := initO X0 hx hZ hown (tw hw 60 rfl) (tw hw 61 rfl) (tw hw 62 rfl) e0 (g := (mkF m 1 #[.val (.ref a), .val (.ref b), .val (.int 0), .val (.int 0), .val .null, .unset] [(.ref a)])) rfl (by rw [hml]; rfl) rfl (hb hby d11_1) (by decide) (W := 0) (by show 2 * 0 + _ ≤ _; exact Nat.le_of_eq rfl) (by decide)
  refine Gl.st st1 ?_
  show Gl p.tables e below _ (T1.setTop (mkF m 4 #[.val (.ref a), .val (.ref b), .val (.int 0), .val (.int 0), .val .null, .unset] []))
  refine Gl.st (fun _ kq => XS.iloadN X1.here hx rfl (hb hby d11_4) rfl kq) ?_
  show Gl p.tables e below _ (T1.setTop (mkF m 5 #[.val (.ref a), .val (.ref b), .val (.int 0), .val (.int 0), .val .null, .unset] [(.int 0)]))
  refine Gl.st (fun _ kq => XS.ifNo X1.here hx rfl (hb hby d11_5) rfl ((if0 _ _).trans (teq ((by decide) : (0 : Int32) = (0 : Int32))).2) kq) ?_
  show Gl p.tables e below _ (T1.setTop (mkF m 8 #[.val (.ref a), .val (.ref b), .val (.int 0), .val (.int 0), .val .null, .unset] []))
  refine Gl.st (fun _ kq => XS.aloadN X1.here hx rfl (hb hby d11_8) rfl rfl kq) ?_
  show Gl p.tables e below _ (T1.setTop (mkF m 9 #[.val (.ref a), .val (.ref b), .val (.int 0), .val (.int 0), .val .null, .unset] [(.ref a)]))
  obtain ⟨b2, T2, h2, k2, t2, kc2, X2, e2, E2, S2, q2, hZ2, ho2, A2, F2, G2, V2, la2, lb2, R2, L2, sa2, st2⟩ := ldcCH X1 hx hZ hown (tw hw 109 rfl) (strW hw) e1 hS0 (Nat.le_of_eq (congrArg Array.size e0)) (elW hw) (by decide) C0.1 (vs := []) (z := (0 : Int32)) (litc_109) (by decide) (by decide) (g := (mkF m 9 #[.val (.ref a), .val (.ref b), .val (.int 0), .val (.int 0), .val .null, .unset] [(.ref a)])) rfl (hb hby d11_9) (n := 0) (by decide) (by decide) (by decide) (by decide)
  refine Gl.st st2 ?_
  have C3 : CHr Z consts_1 s.vm h0 T2.vm h2 := C0.trans R2
  have V2 : Arv Z h2 t2 kc2 .byte (Int32.ofNat ([] : List Int32).length) ((([] : List Int32).map (fun c => c.toInt8.toInt32)).map Value.int) (.int 0) := V2
  have f4 : Exa Z h2 a "java/lang/String" := (pf0.ext E2)
  have f5 : Fld Z h2 a "java/lang/String" "value" "[B" .null := (pf1.ext E2)
  have Sf6 : Safe Z consts_1 T2.vm h2 a := (safe_nul hZ2.alike f4 f5)
  have d7 := sa2 a Sf6
  show Gl p.tables e below _ (T2.setTop (mkF m 11 #[.val (.ref a), .val (.ref b), .val (.int 0), .val (.int 0), .val .null, .unset] [(.ref b2), (.ref a)]))
  obtain ⟨T8, X8, e8, st8⟩ := getF X2 hx hZ2 ho2 (host := "") (Or.inl (tw hw 18 rfl)) Via.refl e2 G2 (g := (mkF m 11 #[.val (.ref a), .val (.ref b), .val (.int 0), .val (.int 0), .val .null, .unset] [(.ref b2), (.ref a)])) rfl rfl (hb hby d11_11)
  refine Gl.st st8 ?_
  show Gl p.tables e below _ (T8.setTop (mkF m 14 #[.val (.ref a), .val (.ref b), .val (.int 0), .val (.int 0), .val .null, .unset] [(.ref t2), (.ref a)]))
  obtain ⟨T9, h9, X9, e9, W9, st9⟩ := putF X8 hx hZ2 ho2 (host := "") (Or.inl (tw hw 18 rfl)) Via.refl e8 f5 f4 (Or.inr ⟨(tw hw 4 rfl), rfl, hnm⟩) (tw hw 2 rfl) (ty := (.array .byte)) (by decide) rfl rfl (g := (mkF m 14 #[.val (.ref a), .val (.ref b), .val (.int 0), .val (.int 0), .val .null, .unset] [(.ref t2), (.ref a)])) rfl rfl (hb hby d11_14)
  refine Gl.st st9 ?_
  have C10 : CHr Z consts_1 s.vm h0 T2.vm h9 := C3.trans (CHr.wr W9 Sf6 C3.1)
  have F9 : Fld Z h9 a "java/lang/String" "value" "[B" (.ref t2) := Fld.same W9 f5
  have N9 := Fr.snoc X9 N0 ga
  show Gl p.tables e below _ (T9.setTop (mkF m 17 #[.val (.ref a), .val (.ref b), .val (.int 0), .val (.int 0), .val .null, .unset] []))
  refine Gl.st (fun _ kq => XS.aloadN X9.here hx rfl (hb hby d11_17) rfl rfl kq) ?_
  show Gl p.tables e below _ (T9.setTop (mkF m 18 #[.val (.ref a), .val (.ref b), .val (.int 0), .val (.int 0), .val .null, .unset] [(.ref a)]))
  obtain ⟨b11, T11, h11, k11, t11, kc11, X11, e11, E11, S11, q11, hZ11, ho11, A11, F11, G11, V11, la11, lb11, R11, L11, sa11, st11⟩ := ldcCH X9 hx hZ2 ho2 (tw hw 109 rfl) (strW hw) e9 S2 (Nat.le_trans q2 (Keep.of_wr W9).1) (elW hw) (by decide) C10.1 (vs := []) (z := (0 : Int32)) (litc_109) (by decide) (by decide) (g := (mkF m 18 #[.val (.ref a), .val (.ref b), .val (.int 0), .val (.int 0), .val .null, .unset] [(.ref a)])) rfl (hb hby d11_18) (n := 0) (by decide) (by decide) (by decide) (by decide)
  refine Gl.st st11 ?_
  have C12 : CHr Z consts_1 s.vm h0 T11.vm h11 := C10.trans R11
  have V11 : Arv Z h11 t11 kc11 .byte (Int32.ofNat ([] : List Int32).length) ((([] : List Int32).map (fun c => c.toInt8.toInt32)).map Value.int) (.int 0) := V11
  have Sf13 : Safe Z consts_1 T11.vm h11 a := (CHr.safe R11 (Nat.lt_of_lt_of_le (Nat.lt_of_lt_of_le pf0.lt E2.1) (Keep.of_wr W9).1) (Safe.wr W9 Sf6 C3.1 Sf6))
  have d14 := sa11 a Sf13
  show Gl p.tables e below _ (T11.setTop (mkF m 20 #[.val (.ref a), .val (.ref b), .val (.int 0), .val (.int 0), .val .null, .unset] [(.ref b11), (.ref a)]))
  obtain ⟨T15, X15, e15, st15⟩ := getF X11 hx hZ11 ho11 (host := "") (Or.inl (tw hw 25 rfl)) Via.refl e11 F11 (g := (mkF m 20 #[.val (.ref a), .val (.ref b), .val (.int 0), .val (.int 0), .val .null, .unset] [(.ref b11), (.ref a)])) rfl rfl (hb hby d11_20)
  refine Gl.st st15 ?_
  show Gl p.tables e below _ (T15.setTop (mkF m 23 #[.val (.ref a), .val (.ref b), .val (.int 0), .val (.int 0), .val .null, .unset] [(.int 0), (.ref a)]))
  have f16 : Fld Z h11 a "java/lang/String" "coder" "B" (.int o2) := (((pf2.ext E2).other W9 (Or.inr (slot_ne (Or.inr (tw hw 5 rfl)) (Or.inr (tw hw 4 rfl)) (by decide) (t := .byte) (t' := (.array .byte)) (by decide) (by decide)))).ext E11)
  have f17 : Exa Z h11 a "java/lang/String" := ((f4.wr W9).ext E11)
  obtain ⟨T18, h18, X18, e18, W18, st18⟩ := putFN X15 hx hZ11 ho11 (tw hw 25 rfl) Via.refl e15 f16 f17 (Or.inr ⟨(tw hw 5 rfl), rfl, hnm⟩) (tw hw 2 rfl) (ty := .byte) (v' := (.int 0)) (by decide) rfl (by decide) (g := (mkF m 23 #[.val (.ref a), .val (.ref b), .val (.int 0), .val (.int 0), .val .null, .unset] [(.int 0), (.ref a)])) rfl rfl (hb hby d11_23)
  refine Gl.st st18 ?_
  have C19 : CHr Z consts_1 s.vm h0 T11.vm h18 := C12.trans (CHr.wr W18 Sf13 C12.1)
  have F18 : Fld Z h18 a "java/lang/String" "coder" "B" (.int 0) := Fld.same W18 f16
  have N18 := Fr.snoc X18 N9 ga
  show Gl p.tables e below _ (T18.setTop (mkF m 26 #[.val (.ref a), .val (.ref b), .val (.int 0), .val (.int 0), .val .null, .unset] []))
  have K20 : Keep h0 h18 [a] := (((((Keep.refl h0 [a]).ext E2).wr W9 (Or.inl (List.mem_of_getElem? (i := 0) rfl))).ext E11).wr W18 (Or.inl (List.mem_of_getElem? (i := 0) rfl)))
  have f21 : Exa Z h18 a "java/lang/String" := (f17.wr W18)
  have f22 : Fld Z h18 a "java/lang/String" "value" "[B" (.ref t2) := ((F9.ext E11).other W18 (Or.inr (slot_ne (Or.inr (tw hw 4 rfl)) (Or.inr (tw hw 5 rfl)) (by decide) (t := (.array .byte)) (t' := .byte) (by decide) (by decide))))
  have f23 : Arv Z h18 t2 kc2 .byte (Int32.ofNat ([] : List Int32).length) ((([] : List Int32).map (fun c => c.toInt8.toInt32)).map Value.int) (.int 0) := (((V2.other W9 (Ne.symm d7.2)).ext E11).other W18 (Ne.symm d7.2))
  exact Gl.ret0H X18 hx S11 (Nat.le_trans (Nat.le_trans q11 (Keep.of_wr W18).1) (Nat.le_of_eq (congrArg Array.size e18).symm)) (by rw [hh, e18]; exact C19.trans (CHv.at X18 hZ11 (elW hw) C19.1)) Bd.returns (hb hby d11_26) hlk (by decide) (by decide) (by rw [e18]; exact ⟨t2, kc2, rfl, N18, K20, f21, F18, f22, f23⟩)
theorem d10_0 : decode jdk_42_method_3_code 0 = .ok (.aload_n 0, 1) := by decide +kernel
theorem d10_1 : decode jdk_42_method_3_code 1 = .ok (.aload_n 1, 1) := by decide +kernel
theorem d10_2 : decode jdk_42_method_3_code 2 = .ok (.iconst 0, 1) := by decide +kernel
theorem d10_3 : decode jdk_42_method_3_code 3 = .ok (.aload_n 1, 1) := by decide +kernel
theorem d10_4 : decode jdk_42_method_3_code 4 = .ok (.arraylength, 1) := by decide +kernel
theorem d10_5 : decode jdk_42_method_3_code 5 = .ok (.aconst_null, 1) := by decide +kernel
theorem d10_6 : decode jdk_42_method_3_code 6 = .ok (.invokespecial 27, 3) := by decide +kernel
theorem d10_9 : decode jdk_42_method_3_code 9 = .ok (.return_, 1) := by decide +kernel
theorem ef_se1 (m : MethodId) (a : Addr) (b : Addr) : entryFrame m #[(.ref a), (.ref b)] 2 = mkF m 0 #[.val (.ref a), .val (.ref b)] [] := by first | (simp [entryFrame, mkF, argsToLocals, Value.category]; done) | rfl
def Q_se1 (Z : State) (a : Addr) (b : Addr) (o2 : Int32) (kb : ClassId) (h0 : Heap) (n0 : Nat) (v : Option Value) (h : Heap) (L : List Loc) : Prop := (∃ t : Addr, ∃ k : ClassId, v = none ∧ Fr n0 L ∧ Keep h0 h [a] ∧ Exa Z h a "java/lang/String" ∧ Fld Z h a "java/lang/String" "coder" "B" (.int 0) ∧ Fld Z h a "java/lang/String" "value" "[B" (.ref t) ∧ Arv Z h t k .byte (Int32.ofNat ([] : List Int32).length) ((([] : List Int32).map (fun c => c.toInt8.toInt32)).map Value.int) (.int 0))
set_option maxRecDepth 65536 in
set_option maxHeartbeats 40000000 in
theorem rm_se1 (l : Launch) (Z : State) (a0 : Array Value) (hw : ∀ d ∈ tables_1, d.before a0 Z = true) (ws : List Jvm.Cond) (a : Addr) (b : Addr) (o2 : Int32) (kb : ClassId) (h0 : Heap) (n0 : Nat) (Z0 : n0 ≤ h0.size) (pf0 : Exa Z h0 a "java/lang/String") (pf1 : Fld Z h0 a "java/lang/String" "value" "[B" .null) (pf2 : Fld Z h0 a "java/lang/String" "coder" "B" (.int o2)) (pf3 : Arv Z h0 b kb .char (0 : Int32) [] (.int 0)) (ga : n0 ≤ a) :
    MetFree l (⟨"java/lang/String", "<init>", "([C)V"⟩ : MethodName) (head1 (Jvm.Cond.code (⟨"java/lang/String", "<init>", "([C)V"⟩ : MethodName) jdk_42_method_3_code 2 none :: ws) ({ frames := 2, cells := 4, slots := 8, locals := 29 } : Room)) (fun aa U => aa = #[(.ref a), (.ref b)] ∧ Z.Warmed39 U.vm ∧ U.heap = h0 ∧ CHv Z consts_1 U.vm h0) (fun _ _ _ _ _ => True) (fun _ U o U' => ∃ v L, o = .returned v ∧ Q_se1 Z a b o2 kb h0 n0 v U'.heap L ∧ CHr Z consts_1 U.vm U.heap U'.vm U'.heap ∧ ReturnedEndW U o U' L ({ frames := 2, cells := 4, slots := 8, locals := 29 } : Room).cells ({ frames := 2, cells := 4, slots := 8, locals := 29 } : Room).slots) := by
  refine MetFree.of_bodySF (plainFor_of_name pn_java_lang_String) hisR ?_
  intro p e s m args below meth c s₁ Bd hml0 hP hK
  obtain ⟨rfl, hZ, hh, hH⟩ := hP
  have hx := Bd.exec
  have hby := Bd.bytes
  have hlk : meth.locks = false := BodyLoose.notSynchronized Bd
  have hml : c.maxLocals = 2 := hml0
  have hown : s.vm.findClass "java/lang/String" = some m.cls := findClass_of_methodNamed Bd.named
  have hnm := (name_of_methodNamed Bd.named Bd.method).1
  have X0 : Stand p l e ({ frames := 2, cells := 4, slots := 8, locals := 29 } : Room) (s.setVm s.vm) m #[(.ref a), (.ref b)] below meth c s₁ [] 0 0 := Stand.of_body Bd
  have e0 : s₁.heap = h0 := by rw [← hh, Bd.state]; rfl
  have N0 := Fr.nil n0
  show Gl p.tables e below (EndH s Z consts_1 (Q_se1 Z a b o2 kb h0 n0) ({ frames := 2, cells := 4, slots := 8, locals := 29 } : Room).cells ({ frames := 2, cells := 4, slots := 8, locals := 29 } : Room).slots) _
  refine Gl.cast (ef_se1 m a b) ?_
  show Gl p.tables e below _ (s₁.setTop (mkF m 0 #[.val (.ref a), .val (.ref b)] []))
  have hS0 : s.Since s.vm s₁.heap.size := (State.WarmedH.refl s).since _
  have C0 : CHr Z consts_1 s.vm h0 s.vm h0 := CHr.refl hH
  refine Gl.st (fun _ kq => XS.aloadN X0.here hx rfl (hb hby d10_0) rfl rfl kq) ?_
  refine Gl.st (fun _ kq => XS.aloadN X0.here hx rfl (hb hby d10_1) rfl rfl kq) ?_
  refine Gl.st (fun _ kq => XS.iconst X0.here hx rfl (hb hby d10_2) kq) ?_
  refine Gl.st (fun _ kq => XS.aloadN X0.here hx rfl (hb hby d10_3) rfl rfl kq) ?_
  show Gl p.tables e below _ (s₁.setTop (mkF m 4 #[.val (.ref a), .val (.ref b)] [(.ref b), (.int 0), (.ref b), (.ref a)]))
  obtain ⟨c1, a1, q1, S1, M1, H1, G1⟩ := id pf3
  refine Gl.st (fun _ kq => X0.arraylength hx (by rw [e0]; exact a1.1) (State.isArrayOf_alike hZ.alike a1.2.1) (g := (mkF m 4 #[.val (.ref a), .val (.ref b)] [(.ref b), (.int 0), (.ref b), (.ref a)])) rfl rfl (hb hby d10_4) _ kq) ?_
  rw [len_of S1 M1]
  show Gl p.tables e below _ (s₁.setTop (mkF m 5 #[.val (.ref a), .val (.ref b)] [(.int 0), (.int 0), (.ref b), (.ref a)]))
  refine Gl.st (fun _ kq => XS.aconstNull X0.here hx rfl (hb hby d10_5) kq) ?_
  show Gl p.tables e below _ (s₁.setTop (mkF m 6 #[.val (.ref a), .val (.ref b)] [.null, (.int 0), (.int 0), (.ref b), (.ref a)]))
  obtain ⟨_, _, ⟨T4, L4, k4, n4⟩, -, X4, S4, g4, ⟨Lc4, hQ4, l4, y4, z4, R4⟩, st4⟩ := X0.specialBackS hx (y := (⟨"java/lang/String", "<init>", "([CIILjava/lang/Void;)V"⟩ : MethodName)) rfl hown (mvT hZ (tw hw 56 rfl)) (mvT hZ (tw hw 57 rfl)) (mvT hZ (tw hw 59 rfl)) (by decide) (backOfSH (W := 0) (rm_se4 l Z a0 hw [] (a) (b) (o2) h0 n0 Z0 pf0 pf1 pf2 ga) hZ (tw hw 59 rfl) (tw hw 1 rfl) (by decide) (by decide) (elW hw) C0.1) (g := (mkF m 6 #[.val (.ref a), .val (.ref b)] [.null, (.int 0), (.int 0), (.ref b), (.ref a)])) rfl (by rw [hml]; rfl) (Steps.refl _) (a := a) (argsL := [(.ref b), (.int 0), (.int 0), .null]) (rest := []) (lenOf pd___CIILjava_lang_Void__V rfl) rfl (by show 2 * 0 + _ ≤ _; exact Nat.le_of_eq rfl) (hb hby d10_6) (fun _ _ => ⟨rfl, e0, (by decide : 0 + 4 ≤ _), (by decide : 0 + 8 ≤ _)⟩)
  dsimp only [Pt.U, Pt.locs, Pt.cells, Pt.slots] at X4 l4 y4 z4 st4 hQ4 R4
  subst l4 y4 z4
  obtain ⟨X4, S4, hZ4, ho4⟩ := rebS hS0 (Nat.le_trans (Nat.le_of_eq (congrArg Array.size e0)) (Nat.le_of_eq (congrArg Array.size e0).symm)) X4 S4 g4 hZ hown
  obtain ⟨v2, v3, rfl, N4, K4, q4_0, q4_1, q4_2, q4_3⟩ := hQ4
  have C5 : CHr Z consts_1 s.vm h0 T4.vm T4.heap := C0.trans R4
  have M4 := Fr.app N0 N4
  refine Gl.to st4 ?_
  show Gl p.tables e below _ (T4.setTop (mkF m 9 #[.val (.ref a), .val (.ref b)] []))
  show Gl p.tables e below _ (T4.setTop (mkF m 9 #[.val (.ref a), .val (.ref b)] []))
  have K6 : Keep h0 T4.heap [a] := ((Keep.refl h0 [a]).trans K4 (allS (Or.inl (List.mem_of_getElem? (i := 0) rfl)) all0))
  exact Gl.ret0H X4 hx S4 (Nat.le_refl _) (by rw [hh]; exact C5.trans (CHv.at X4 hZ4 (elW hw) C5.1)) Bd.returns (hb hby d10_9) hlk (by decide) (by decide) ⟨v2, v3, rfl, M4, K6, q4_0, q4_1, q4_2, q4_3⟩
theorem d1_0 : decode method_2_code 0 = .ok (.iload_n 1, 1) := by decide +kernel
theorem d1_1 : decode method_2_code 1 = .ok (.aload_n 0, 1) := by decide +kernel
theorem d1_2 : decode method_2_code 2 = .ok (.invokevirtual 7, 3) := by decide +kernel
theorem d1_5 : decode method_2_code 5 = .ok (.if_icmp .ge 9, 3) := by decide +kernel
theorem d1_8 : decode method_2_code 8 = .ok (.aload_n 0, 1) := by decide +kernel
theorem d1_9 : decode method_2_code 9 = .ok (.iload_n 1, 1) := by decide +kernel
theorem d1_10 : decode method_2_code 10 = .ok (.invokevirtual 13, 3) := by decide +kernel
theorem d1_13 : decode method_2_code 13 = .ok (.ireturn, 1) := by decide +kernel
theorem d1_14 : decode method_2_code 14 = .ok (.iload_n 1, 1) := by decide +kernel
theorem d1_15 : decode method_2_code 15 = .ok (.bipush 8, 2) := by decide +kernel
theorem d1_17 : decode method_2_code 17 = .ok (.if_icmp .ge 12, 3) := by decide +kernel
theorem d1_20 : decode method_2_code 20 = .ok (.lload_n 2, 1) := by decide +kernel
theorem d1_21 : decode method_2_code 21 = .ok (.bipush 8, 2) := by decide +kernel
theorem d1_23 : decode method_2_code 23 = .ok (.iload_n 1, 1) := by decide +kernel
theorem d1_24 : decode method_2_code 24 = .ok (.imul, 1) := by decide +kernel
theorem d1_25 : decode method_2_code 25 = .ok (.lushr, 1) := by decide +kernel
theorem d1_26 : decode method_2_code 26 = .ok (.goto 13, 3) := by decide +kernel
theorem d1_29 : decode method_2_code 29 = .ok (.lload 4, 2) := by decide +kernel
theorem d1_31 : decode method_2_code 31 = .ok (.bipush 8, 2) := by decide +kernel
theorem d1_33 : decode method_2_code 33 = .ok (.iload_n 1, 1) := by decide +kernel
theorem d1_34 : decode method_2_code 34 = .ok (.bipush 8, 2) := by decide +kernel
theorem d1_36 : decode method_2_code 36 = .ok (.isub, 1) := by decide +kernel
theorem d1_37 : decode method_2_code 37 = .ok (.imul, 1) := by decide +kernel
theorem d1_38 : decode method_2_code 38 = .ok (.lushr, 1) := by decide +kernel
theorem d1_39 : decode method_2_code 39 = .ok (.lstore 6, 2) := by decide +kernel
theorem d1_41 : decode method_2_code 41 = .ok (.lload 6, 2) := by decide +kernel
theorem d1_43 : decode method_2_code 43 = .ok (.ldc2_w 17, 3) := by decide +kernel
theorem d1_46 : decode method_2_code 46 = .ok (.land, 1) := by decide +kernel
theorem d1_47 : decode method_2_code 47 = .ok (.l2i, 1) := by decide +kernel
theorem d1_48 : decode method_2_code 48 = .ok (.i2c, 1) := by decide +kernel
theorem d1_49 : decode method_2_code 49 = .ok (.ireturn, 1) := by decide +kernel
theorem ef_at (m : MethodId) (b : Addr) (i : Nat) (aq : Int64) (bq : Int64) : entryFrame m #[(.ref b), (.int (Int32.ofNat i)), (.long aq), (.long bq)] 8 = mkF m 0 #[.val (.ref b), .val (.int (Int32.ofNat i)), .val (.long aq), .second, .val (.long bq), .second, .unset, .unset] [] := by first | (simp [entryFrame, mkF, argsToLocals, Value.category]; done) | rfl
def Q_at (Z : State) (b : Addr) (t : Addr) (k : ClassId) (cs : List Int32) (i : Nat) (aq : Int64) (bq : Int64) (Y1 : Int32) (Y3 : Value) (h0 : Heap) (n0 : Nat) (v : Option Value) (h : Heap) (L : List Loc) : Prop := (∃ r : Int32, v = some (.int r) ∧ Fr n0 L ∧ h = h0 ∧ (Chr r))
set_option maxRecDepth 65536 in
set_option maxHeartbeats 40000000 in
theorem rm_at (l : Launch) (Z : State) (a0 : Array Value) (hw : ∀ d ∈ tables_1, d.before a0 Z = true) (ws : List Jvm.Cond) (b : Addr) (t : Addr) (k : ClassId) (cs : List Int32) (i : Nat) (aq : Int64) (bq : Int64) (Y1 : Int32) (Y3 : Value) (h0 : Heap) (n0 : Nat) (Z0 : n0 ≤ h0.size) (pf0 : Exa Z h0 b "java/lang/String") (pf1 : Fld Z h0 b "java/lang/String" "coder" "B" (.int 0)) (pf2 : Fld Z h0 b "java/lang/String" "value" "[B" (.ref t)) (pf3 : Arv Z h0 t k .byte (Int32.ofNat cs.length) ((cs.map (fun c => c.toInt8.toInt32)).map Value.int) (.int 0)) (pf4 : Old Z n0 h0) (hr : Rng cs) (hl : cs.length ≤ 12) (hi : i ≤ 11) (O2 : Sta Z Z.heap "java/lang/String" "COMPACT_STRINGS" "Z" (.int Y1)) (P5 : ¬ (Y1 = (0 : Int32))) (O4 : Sta Z Z.heap "jdk/internal/util/Preconditions" "SIOOBE_FORMATTER" "Ljava/util/function/BiFunction;" Y3) (rG3 : Y3.isRef = true) :
    MetFree l (⟨"com/example/groupwright/groupwright/app/KindNamedPinLaw", "at", "(Ljava/lang/String;IJJ)C"⟩ : MethodName) (head1 (Jvm.Cond.code (⟨"com/example/groupwright/groupwright/app/KindNamedPinLaw", "at", "(Ljava/lang/String;IJJ)C"⟩ : MethodName) method_2_code 8 (some .char) :: ws) ({ frames := 4, cells := 0, slots := 0, locals := 53 } : Room)) (fun aa U => aa = #[(.ref b), (.int (Int32.ofNat i)), (.long aq), (.long bq)] ∧ Z.Warmed39 U.vm ∧ U.heap = h0) (fun _ _ _ _ _ => True) (fun _ U o U' => ∃ v L, o = .returned v ∧ Q_at Z b t k cs i aq bq Y1 Y3 h0 n0 v U'.heap L ∧ FrameEnd U o U' L ({ frames := 4, cells := 0, slots := 0, locals := 53 } : Room).cells ({ frames := 4, cells := 0, slots := 0, locals := 53 } : Room).slots) := by
  refine MetFree.of_bodySF (plainFor_of_name pn_com_example_groupwright_groupwright_app_KindNamedPinLaw) hisR ?_
  intro p e s m args below meth c s₁ Bd hml0 hP hK
  obtain ⟨rfl, hZ, hh⟩ := hP
  have hx := Bd.exec
  have hby := Bd.bytes
  have hlk : meth.locks = false := BodyLoose.notSynchronized Bd
  have hml : c.maxLocals = 8 := hml0
  have hown : s.vm.findClass "com/example/groupwright/groupwright/app/KindNamedPinLaw" = some m.cls := findClass_of_methodNamed Bd.named
  have hnm := (name_of_methodNamed Bd.named Bd.method).1
  have X0 : Stand p l e ({ frames := 4, cells := 0, slots := 0, locals := 53 } : Room) s m #[(.ref b), (.int (Int32.ofNat i)), (.long aq), (.long bq)] below meth c s₁ [] 0 0 := Stand.of_body Bd
  have e0 : s₁.heap = h0 := by rw [← hh, Bd.state]; rfl
  have N0 := Fr.nil n0
  show Gl p.tables e below (EndN s (Q_at Z b t k cs i aq bq Y1 Y3 h0 n0) ({ frames := 4, cells := 0, slots := 0, locals := 53 } : Room).cells ({ frames := 4, cells := 0, slots := 0, locals := 53 } : Room).slots) _
  refine Gl.cast (ef_at m b i aq bq) ?_
  show Gl p.tables e below _ (s₁.setTop (mkF m 0 #[.val (.ref b), .val (.int (Int32.ofNat i)), .val (.long aq), .second, .val (.long bq), .second, .unset, .unset] []))
  refine Gl.st (fun _ kq => XS.iloadN X0.here hx rfl (hb hby d1_0) rfl kq) ?_
  refine Gl.st (fun _ kq => XS.aloadN X0.here hx rfl (hb hby d1_1) rfl rfl kq) ?_
  show Gl p.tables e below _ (s₁.setTop (mkF m 2 #[.val (.ref b), .val (.int (Int32.ofNat i)), .val (.long aq), .second, .val (.long bq), .second, .unset, .unset] [(.ref b), (.int (Int32.ofNat i))]))
  obtain ⟨cq1, kq1, q1a, q1b, q1c⟩ := isOf hZ e0 pf0
  obtain ⟨_, _, ⟨T1, L1, k1, n1⟩, -, X1, ⟨Lc1, hQ1, l1, y1, z1⟩, st1⟩ := X0.virtualBack hx (y := (⟨"java/lang/String", "length", "()I"⟩ : MethodName)) (z := (⟨"java/lang/String", "length", "()I"⟩ : MethodName)) hown (mvT hZ (tw hw 13 rfl)) (mvT hZ (tw hw 14 rfl)) (notFace_of_selects (args := #[]) (mvT hZ (tw hw 16 rfl))) (mvT hZ (tw hw 16 rfl)) (mvT hZ (tw hw 15 rfl)) (by decide) (StrChars.Road.lenW (W := 1) hZ (wdLen hw) (kI := 4) (tw hw 2 rfl) pf0 pf2 pf1 pf3 (StrChars.Road.codOf (cs := cs) rfl (fun x hx => (hr x hx).2)) (up255 _ hr) (O2.ext pf4.2) P5 (Nat.le_trans hl (by decide)) (by decide) (by decide)) q1a q1c (g := (mkF m 2 #[.val (.ref b), .val (.int (Int32.ofNat i)), .val (.long aq), .second, .val (.long bq), .second, .unset, .unset] [(.ref b), (.int (Int32.ofNat i))])) rfl (by rw [hml]; rfl) (Steps.refl _) (argsL := []) (rest := [(.int (Int32.ofNat i))]) (lenOf pd___I rfl) rfl (by show 2 * 0 + _ ≤ _; exact Nat.le_of_eq rfl) (hb hby d1_2) (fun _ _ => ⟨rfl, e0, (by decide : 0 + 0 ≤ _), (by decide : 0 + 0 ≤ _)⟩)
  dsimp only [Pt.U, Pt.locs, Pt.cells, Pt.slots] at X1 l1 y1 z1 st1 hQ1
  subst l1 y1 z1
  obtain ⟨rfl, rfl, e1⟩ := hQ1
  have N1 : Fr n0 ([] : List Loc) := Fr.nil n0
  have M1 := Fr.app N0 N1
  refine Gl.to st1 ?_
  show Gl p.tables e below _ (T1.setTop (mkF m 5 #[.val (.ref b), .val (.int (Int32.ofNat i)), .val (.long aq), .second, .val (.long bq), .second, .unset, .unset] [(.int (Int32.ofNat cs.length)), (.int (Int32.ofNat i))]))
  show Gl p.tables e below _ (T1.setTop (mkF m 5 #[.val (.ref b), .val (.int (Int32.ofNat i)), .val (.long aq), .second, .val (.long bq), .second, .unset, .unset] [(.int (Int32.ofNat cs.length)), (.int (Int32.ofNat i))]))
  by_cases hc2 : (Int32.ofNat i) < (Int32.ofNat cs.length)
  · have hlt : i < cs.length := (n32_lt (by omega) (by omega)).mp hc2
    refine Gl.st (fun _ kq => XS.icmpNo X1.here hx rfl (hb hby d1_5) rfl (tlt (hc2 : (Int32.ofNat i) < (Int32.ofNat cs.length))).2.1 kq) ?_
    show Gl p.tables e below _ (T1.setTop (mkF m 8 #[.val (.ref b), .val (.int (Int32.ofNat i)), .val (.long aq), .second, .val (.long bq), .second, .unset, .unset] []))
    refine Gl.st (fun _ kq => XS.aloadN X1.here hx rfl (hb hby d1_8) rfl rfl kq) ?_
    refine Gl.st (fun _ kq => XS.iloadN X1.here hx rfl (hb hby d1_9) rfl kq) ?_
    show Gl p.tables e below _ (T1.setTop (mkF m 10 #[.val (.ref b), .val (.int (Int32.ofNat i)), .val (.long aq), .second, .val (.long bq), .second, .unset, .unset] [(.int (Int32.ofNat i)), (.ref b)]))
    obtain ⟨cq3, kq3, q3a, q3b, q3c⟩ := isOf hZ e1 pf0
    obtain ⟨_, _, ⟨T3, L3, k3, n3⟩, -, X3, ⟨Lc3, hQ3, l3, y3, z3⟩, st3⟩ := X1.virtualBack hx (y := (⟨"java/lang/String", "charAt", "(I)C"⟩ : MethodName)) (z := (⟨"java/lang/String", "charAt", "(I)C"⟩ : MethodName)) hown (mvT hZ (tw hw 26 rfl)) (mvT hZ (tw hw 27 rfl)) (notFace_of_selects (args := #[]) (mvT hZ (tw hw 29 rfl))) (mvT hZ (tw hw 29 rfl)) (mvT hZ (tw hw 28 rfl)) (by decide) (StrChars.Road.chN (W := 0) hZ (wdCh hw) (kI := 4) (tw hw 2 rfl) pf0 pf2 pf1 pf3 (StrChars.Road.codOf (cs := cs) rfl (fun x hx => (hr x hx).2)) (up255 _ hr) (O2.ext pf4.2) P5 (O4.ext pf4.2) rG3 (Nat.le_trans hl (by decide)) (i := i) hlt (j := (Int32.ofNat i)) rfl (by decide) (by decide)) q3a q3c (g := (mkF m 10 #[.val (.ref b), .val (.int (Int32.ofNat i)), .val (.long aq), .second, .val (.long bq), .second, .unset, .unset] [(.int (Int32.ofNat i)), (.ref b)])) rfl (by rw [hml]; rfl) (Steps.refl _) (argsL := [(.int (Int32.ofNat i))]) (rest := []) (lenOf pd__I_C rfl) rfl (by show 2 * 0 + _ ≤ _; exact Nat.le_of_eq rfl) (hb hby d1_10) (fun _ _ => ⟨rfl, e1, (by decide : 0 + 0 ≤ _), (by decide : 0 + 0 ≤ _)⟩)
    dsimp only [Pt.U, Pt.locs, Pt.cells, Pt.slots] at X3 l3 y3 z3 st3 hQ3
    subst l3 y3 z3
    obtain ⟨rfl, rfl, e3⟩ := hQ3
    have N3 : Fr n0 ([] : List Loc) := Fr.nil n0
    have M3 := Fr.app M1 N3
    refine Gl.to st3 ?_
    show Gl p.tables e below _ (T3.setTop (mkF m 13 #[.val (.ref b), .val (.int (Int32.ofNat i)), .val (.long aq), .second, .val (.long bq), .second, .unset, .unset] [(.int (cs.getD i 0))]))
    show Gl p.tables e below _ (T3.setTop (mkF m 13 #[.val (.ref b), .val (.int (Int32.ofNat i)), .val (.long aq), .second, .val (.long bq), .second, .unset, .unset] [(.int (cs.getD i 0))]))
    exact Gl.retN X3 hx (t := .char) Bd.returns (by simp) (hb hby d1_13) hlk (by decide) (by decide) (by rw [e3]; exact ⟨(nar .char (cs.getD i 0)), rfl, M3, rfl, (chr_get hr hlt)⟩)
  · refine Gl.st (fun _ kq => XS.icmpYes X1.here hx rfl (pc0 := 5) (pc' := 14) rfl (hb hby d1_5) rfl (flt (hc2 : ¬ ((Int32.ofNat i) < (Int32.ofNat cs.length)))).2.1 (by decide) (by decide) kq) ?_
    show Gl p.tables e below _ (T1.setTop (mkF m 14 #[.val (.ref b), .val (.int (Int32.ofNat i)), .val (.long aq), .second, .val (.long bq), .second, .unset, .unset] []))
    refine Gl.st (fun _ kq => XS.iloadN X1.here hx rfl (hb hby d1_14) rfl kq) ?_
    refine Gl.st (fun _ kq => XS.bipush X1.here hx rfl (hb hby d1_15) kq) ?_
    show Gl p.tables e below _ (T1.setTop (mkF m 17 #[.val (.ref b), .val (.int (Int32.ofNat i)), .val (.long aq), .second, .val (.long bq), .second, .unset, .unset] [(.int 8), (.int (Int32.ofNat i))]))
    by_cases hc4 : (Int32.ofNat i) < (8 : Int32)
    · refine Gl.st (fun _ kq => XS.icmpNo X1.here hx rfl (hb hby d1_17) rfl (tlt (hc4 : (Int32.ofNat i) < (8 : Int32))).2.1 kq) ?_
      show Gl p.tables e below _ (T1.setTop (mkF m 20 #[.val (.ref b), .val (.int (Int32.ofNat i)), .val (.long aq), .second, .val (.long bq), .second, .unset, .unset] []))
      refine Gl.st (fun _ kq => XS.lloadN X1.here hx rfl (hb hby d1_20) rfl kq) ?_
      refine Gl.st (fun _ kq => XS.bipush X1.here hx rfl (hb hby d1_21) kq) ?_
      refine Gl.st (fun _ kq => XS.iloadN X1.here hx rfl (hb hby d1_23) rfl kq) ?_
      refine Gl.st (fun _ kq => XS.imul X1.here hx rfl (hb hby d1_24) rfl kq) ?_
      refine Gl.st (fun _ kq => XS.lushr X1.here hx rfl (hb hby d1_25) rfl kq) ?_
      refine Gl.st (fun _ kq => XS.goto X1.here hx rfl (pc0 := 26) (pc' := 39) rfl (hb hby d1_26) (by decide) (by decide) kq) ?_
      refine Gl.st (fun _ kq => XS.lstore X1.here hx rfl (hb hby d1_39) rfl (l' := #[.val (.ref b), .val (.int (Int32.ofNat i)), .val (.long aq), .second, .val (.long bq), .second, .val (.long ((aq.toUInt64 >>> (((8 : Int32) * (Int32.ofNat i)) &&& 0x3f).toInt64.toUInt64).toInt64)), .second]) rfl kq) ?_
      show Gl p.tables e below _ (T1.setTop (mkF m 41 #[.val (.ref b), .val (.int (Int32.ofNat i)), .val (.long aq), .second, .val (.long bq), .second, .val (.long ((aq.toUInt64 >>> (((8 : Int32) * (Int32.ofNat i)) &&& 0x3f).toInt64.toUInt64).toInt64)), .second] []))
      refine Gl.st (fun _ kq => XS.lload X1.here hx rfl (hb hby d1_41) rfl kq) ?_
      show Gl p.tables e below _ (T1.setTop (mkF m 43 #[.val (.ref b), .val (.int (Int32.ofNat i)), .val (.long aq), .second, .val (.long bq), .second, .val (.long ((aq.toUInt64 >>> (((8 : Int32) * (Int32.ofNat i)) &&& 0x3f).toInt64.toUInt64).toInt64)), .second] [(.long ((aq.toUInt64 >>> (((8 : Int32) * (Int32.ofNat i)) &&& 0x3f).toInt64.toUInt64).toInt64))]))
      refine Gl.st (fun _ kq => X1.ldc2Long hx hown (mvT hZ (tw hw 48 rfl)) (g := (mkF m 43 #[.val (.ref b), .val (.int (Int32.ofNat i)), .val (.long aq), .second, .val (.long bq), .second, .val (.long ((aq.toUInt64 >>> (((8 : Int32) * (Int32.ofNat i)) &&& 0x3f).toInt64.toUInt64).toInt64)), .second] [(.long ((aq.toUInt64 >>> (((8 : Int32) * (Int32.ofNat i)) &&& 0x3f).toInt64.toUInt64).toInt64))])) rfl (hb hby d1_43) _ kq) ?_
      show Gl p.tables e below _ (T1.setTop (mkF m 46 #[.val (.ref b), .val (.int (Int32.ofNat i)), .val (.long aq), .second, .val (.long bq), .second, .val (.long ((aq.toUInt64 >>> (((8 : Int32) * (Int32.ofNat i)) &&& 0x3f).toInt64.toUInt64).toInt64)), .second] [(.long (255 : Int64)), (.long ((aq.toUInt64 >>> (((8 : Int32) * (Int32.ofNat i)) &&& 0x3f).toInt64.toUInt64).toInt64))]))
      refine Gl.st (fun _ kq => XS.land X1.here hx rfl (hb hby d1_46) rfl kq) ?_
      refine Gl.st (fun _ kq => XS.l2i X1.here hx rfl (hb hby d1_47) rfl kq) ?_
      refine Gl.st (fun _ kq => XS.i2c X1.here hx rfl (hb hby d1_48) rfl kq) ?_
      exact Gl.retN X1 hx (t := .char) Bd.returns (by simp) (hb hby d1_49) hlk (by decide) (by decide) (by rw [e1]; exact ⟨(nar .char (((((aq.toUInt64 >>> (((8 : Int32) * (Int32.ofNat i)) &&& 0x3f).toInt64.toUInt64).toInt64) &&& (255 : Int64)).toInt32).toUInt32.toUInt16.toUInt32.toInt32)), rfl, M1, rfl, (chr_L _)⟩)
    · refine Gl.st (fun _ kq => XS.icmpYes X1.here hx rfl (pc0 := 17) (pc' := 29) rfl (hb hby d1_17) rfl (flt (hc4 : ¬ ((Int32.ofNat i) < (8 : Int32)))).2.1 (by decide) (by decide) kq) ?_
      show Gl p.tables e below _ (T1.setTop (mkF m 29 #[.val (.ref b), .val (.int (Int32.ofNat i)), .val (.long aq), .second, .val (.long bq), .second, .unset, .unset] []))
      refine Gl.st (fun _ kq => XS.lload X1.here hx rfl (hb hby d1_29) rfl kq) ?_
      refine Gl.st (fun _ kq => XS.bipush X1.here hx rfl (hb hby d1_31) kq) ?_
      refine Gl.st (fun _ kq => XS.iloadN X1.here hx rfl (hb hby d1_33) rfl kq) ?_
      refine Gl.st (fun _ kq => XS.bipush X1.here hx rfl (hb hby d1_34) kq) ?_
      show Gl p.tables e below _ (T1.setTop (mkF m 36 #[.val (.ref b), .val (.int (Int32.ofNat i)), .val (.long aq), .second, .val (.long bq), .second, .unset, .unset] [(.int 8), (.int (Int32.ofNat i)), (.int 8), (.long bq)]))
      refine Gl.st (fun _ kq => XS.isub X1.here hx rfl (hb hby d1_36) rfl kq) ?_
      refine Gl.st (fun _ kq => XS.imul X1.here hx rfl (hb hby d1_37) rfl kq) ?_
      refine Gl.st (fun _ kq => XS.lushr X1.here hx rfl (hb hby d1_38) rfl kq) ?_
      refine Gl.st (fun _ kq => XS.lstore X1.here hx rfl (hb hby d1_39) rfl (l' := #[.val (.ref b), .val (.int (Int32.ofNat i)), .val (.long aq), .second, .val (.long bq), .second, .val (.long ((bq.toUInt64 >>> (((8 : Int32) * ((Int32.ofNat i) - (8 : Int32))) &&& 0x3f).toInt64.toUInt64).toInt64)), .second]) rfl kq) ?_
      refine Gl.st (fun _ kq => XS.lload X1.here hx rfl (hb hby d1_41) rfl kq) ?_
      show Gl p.tables e below _ (T1.setTop (mkF m 43 #[.val (.ref b), .val (.int (Int32.ofNat i)), .val (.long aq), .second, .val (.long bq), .second, .val (.long ((bq.toUInt64 >>> (((8 : Int32) * ((Int32.ofNat i) - (8 : Int32))) &&& 0x3f).toInt64.toUInt64).toInt64)), .second] [(.long ((bq.toUInt64 >>> (((8 : Int32) * ((Int32.ofNat i) - (8 : Int32))) &&& 0x3f).toInt64.toUInt64).toInt64))]))
      refine Gl.st (fun _ kq => X1.ldc2Long hx hown (mvT hZ (tw hw 48 rfl)) (g := (mkF m 43 #[.val (.ref b), .val (.int (Int32.ofNat i)), .val (.long aq), .second, .val (.long bq), .second, .val (.long ((bq.toUInt64 >>> (((8 : Int32) * ((Int32.ofNat i) - (8 : Int32))) &&& 0x3f).toInt64.toUInt64).toInt64)), .second] [(.long ((bq.toUInt64 >>> (((8 : Int32) * ((Int32.ofNat i) - (8 : Int32))) &&& 0x3f).toInt64.toUInt64).toInt64))])) rfl (hb hby d1_43) _ kq) ?_
      show Gl p.tables e below _ (T1.setTop (mkF m 46 #[.val (.ref b), .val (.int (Int32.ofNat i)), .val (.long aq), .second, .val (.long bq), .second, .val (.long ((bq.toUInt64 >>> (((8 : Int32) * ((Int32.ofNat i) - (8 : Int32))) &&& 0x3f).toInt64.toUInt64).toInt64)), .second] [(.long (255 : Int64)), (.long ((bq.toUInt64 >>> (((8 : Int32) * ((Int32.ofNat i) - (8 : Int32))) &&& 0x3f).toInt64.toUInt64).toInt64))]))
      refine Gl.st (fun _ kq => XS.land X1.here hx rfl (hb hby d1_46) rfl kq) ?_
      refine Gl.st (fun _ kq => XS.l2i X1.here hx rfl (hb hby d1_47) rfl kq) ?_
      refine Gl.st (fun _ kq => XS.i2c X1.here hx rfl (hb hby d1_48) rfl kq) ?_
      exact Gl.retN X1 hx (t := .char) Bd.returns (by simp) (hb hby d1_49) hlk (by decide) (by decide) (by rw [e1]; exact ⟨(nar .char (((((bq.toUInt64 >>> (((8 : Int32) * ((Int32.ofNat i) - (8 : Int32))) &&& 0x3f).toInt64.toUInt64).toInt64) &&& (255 : Int64)).toInt32).toUInt32.toUInt16.toUInt32.toInt32)), rfl, M1, rfl, (chr_L _)⟩)
theorem d9_0 : decode method_3_code 0 = .ok (.iload_n 1, 1) := by decide +kernel
theorem d9_1 : decode method_3_code 1 = .ok (.ifCond .ne 14, 3) := by decide +kernel
theorem d9_4 : decode method_3_code 4 = .ok (.new 8, 3) := by decide +kernel
theorem d9_7 : decode method_3_code 7 = .ok (.dup, 1) := by decide +kernel
theorem d9_8 : decode method_3_code 8 = .ok (.iconst 0, 1) := by decide +kernel
theorem d9_9 : decode method_3_code 9 = .ok (.newarray .char, 2) := by decide +kernel
theorem d9_11 : decode method_3_code 11 = .ok (.invokespecial 19, 3) := by decide +kernel
theorem d9_14 : decode method_3_code 14 = .ok (.areturn, 1) := by decide +kernel
theorem d9_15 : decode method_3_code 15 = .ok (.iload_n 1, 1) := by decide +kernel
theorem d9_16 : decode method_3_code 16 = .ok (.iconst 1, 1) := by decide +kernel
theorem d9_17 : decode method_3_code 17 = .ok (.if_icmp .ne 20, 3) := by decide +kernel
theorem d9_20 : decode method_3_code 20 = .ok (.new 8, 3) := by decide +kernel
theorem d9_23 : decode method_3_code 23 = .ok (.dup, 1) := by decide +kernel
theorem d9_24 : decode method_3_code 24 = .ok (.iconst 1, 1) := by decide +kernel
theorem d9_25 : decode method_3_code 25 = .ok (.newarray .char, 2) := by decide +kernel
theorem d9_27 : decode method_3_code 27 = .ok (.dup, 1) := by decide +kernel
theorem d9_28 : decode method_3_code 28 = .ok (.iconst 0, 1) := by decide +kernel
theorem d9_29 : decode method_3_code 29 = .ok (.aload_n 0, 1) := by decide +kernel
theorem d9_30 : decode method_3_code 30 = .ok (.iconst 0, 1) := by decide +kernel
theorem d9_31 : decode method_3_code 31 = .ok (.caload, 1) := by decide +kernel
theorem d9_32 : decode method_3_code 32 = .ok (.castore, 1) := by decide +kernel
theorem d9_33 : decode method_3_code 33 = .ok (.invokespecial 19, 3) := by decide +kernel
theorem d9_36 : decode method_3_code 36 = .ok (.areturn, 1) := by decide +kernel
theorem d9_37 : decode method_3_code 37 = .ok (.iload_n 1, 1) := by decide +kernel
theorem d9_38 : decode method_3_code 38 = .ok (.iconst 2, 1) := by decide +kernel
theorem d9_39 : decode method_3_code 39 = .ok (.if_icmp .ne 26, 3) := by decide +kernel
theorem d9_42 : decode method_3_code 42 = .ok (.new 8, 3) := by decide +kernel
theorem d9_45 : decode method_3_code 45 = .ok (.dup, 1) := by decide +kernel
theorem d9_46 : decode method_3_code 46 = .ok (.iconst 2, 1) := by decide +kernel
theorem d9_47 : decode method_3_code 47 = .ok (.newarray .char, 2) := by decide +kernel
theorem d9_49 : decode method_3_code 49 = .ok (.dup, 1) := by decide +kernel
theorem d9_50 : decode method_3_code 50 = .ok (.iconst 0, 1) := by decide +kernel
theorem d9_51 : decode method_3_code 51 = .ok (.aload_n 0, 1) := by decide +kernel
theorem d9_52 : decode method_3_code 52 = .ok (.iconst 0, 1) := by decide +kernel
theorem d9_53 : decode method_3_code 53 = .ok (.caload, 1) := by decide +kernel
theorem d9_54 : decode method_3_code 54 = .ok (.castore, 1) := by decide +kernel
theorem d9_55 : decode method_3_code 55 = .ok (.dup, 1) := by decide +kernel
theorem d9_56 : decode method_3_code 56 = .ok (.iconst 1, 1) := by decide +kernel
theorem d9_57 : decode method_3_code 57 = .ok (.aload_n 0, 1) := by decide +kernel
theorem d9_58 : decode method_3_code 58 = .ok (.iconst 1, 1) := by decide +kernel
theorem d9_59 : decode method_3_code 59 = .ok (.caload, 1) := by decide +kernel
theorem d9_60 : decode method_3_code 60 = .ok (.castore, 1) := by decide +kernel
theorem d9_61 : decode method_3_code 61 = .ok (.invokespecial 19, 3) := by decide +kernel
theorem d9_64 : decode method_3_code 64 = .ok (.areturn, 1) := by decide +kernel
theorem d9_65 : decode method_3_code 65 = .ok (.iload_n 1, 1) := by decide +kernel
theorem d9_66 : decode method_3_code 66 = .ok (.iconst 3, 1) := by decide +kernel
theorem d9_67 : decode method_3_code 67 = .ok (.if_icmp .ne 32, 3) := by decide +kernel
theorem d9_70 : decode method_3_code 70 = .ok (.new 8, 3) := by decide +kernel
theorem d9_73 : decode method_3_code 73 = .ok (.dup, 1) := by decide +kernel
theorem d9_74 : decode method_3_code 74 = .ok (.iconst 3, 1) := by decide +kernel
theorem d9_75 : decode method_3_code 75 = .ok (.newarray .char, 2) := by decide +kernel
theorem d9_77 : decode method_3_code 77 = .ok (.dup, 1) := by decide +kernel
theorem d9_78 : decode method_3_code 78 = .ok (.iconst 0, 1) := by decide +kernel
theorem d9_79 : decode method_3_code 79 = .ok (.aload_n 0, 1) := by decide +kernel
theorem d9_80 : decode method_3_code 80 = .ok (.iconst 0, 1) := by decide +kernel
theorem d9_81 : decode method_3_code 81 = .ok (.caload, 1) := by decide +kernel
theorem d9_82 : decode method_3_code 82 = .ok (.castore, 1) := by decide +kernel
theorem d9_83 : decode method_3_code 83 = .ok (.dup, 1) := by decide +kernel
theorem d9_84 : decode method_3_code 84 = .ok (.iconst 1, 1) := by decide +kernel
theorem d9_85 : decode method_3_code 85 = .ok (.aload_n 0, 1) := by decide +kernel
theorem d9_86 : decode method_3_code 86 = .ok (.iconst 1, 1) := by decide +kernel
theorem d9_87 : decode method_3_code 87 = .ok (.caload, 1) := by decide +kernel
theorem d9_88 : decode method_3_code 88 = .ok (.castore, 1) := by decide +kernel
theorem d9_89 : decode method_3_code 89 = .ok (.dup, 1) := by decide +kernel
theorem d9_90 : decode method_3_code 90 = .ok (.iconst 2, 1) := by decide +kernel
theorem d9_91 : decode method_3_code 91 = .ok (.aload_n 0, 1) := by decide +kernel
theorem d9_92 : decode method_3_code 92 = .ok (.iconst 2, 1) := by decide +kernel
theorem d9_93 : decode method_3_code 93 = .ok (.caload, 1) := by decide +kernel
theorem d9_94 : decode method_3_code 94 = .ok (.castore, 1) := by decide +kernel
theorem d9_95 : decode method_3_code 95 = .ok (.invokespecial 19, 3) := by decide +kernel
theorem d9_98 : decode method_3_code 98 = .ok (.areturn, 1) := by decide +kernel
theorem d9_99 : decode method_3_code 99 = .ok (.iload_n 1, 1) := by decide +kernel
theorem d9_100 : decode method_3_code 100 = .ok (.iconst 4, 1) := by decide +kernel
theorem d9_101 : decode method_3_code 101 = .ok (.if_icmp .ne 38, 3) := by decide +kernel
theorem d9_104 : decode method_3_code 104 = .ok (.new 8, 3) := by decide +kernel
theorem d9_107 : decode method_3_code 107 = .ok (.dup, 1) := by decide +kernel
theorem d9_108 : decode method_3_code 108 = .ok (.iconst 4, 1) := by decide +kernel
theorem d9_109 : decode method_3_code 109 = .ok (.newarray .char, 2) := by decide +kernel
theorem d9_111 : decode method_3_code 111 = .ok (.dup, 1) := by decide +kernel
theorem d9_112 : decode method_3_code 112 = .ok (.iconst 0, 1) := by decide +kernel
theorem d9_113 : decode method_3_code 113 = .ok (.aload_n 0, 1) := by decide +kernel
theorem d9_114 : decode method_3_code 114 = .ok (.iconst 0, 1) := by decide +kernel
theorem d9_115 : decode method_3_code 115 = .ok (.caload, 1) := by decide +kernel
theorem d9_116 : decode method_3_code 116 = .ok (.castore, 1) := by decide +kernel
theorem d9_117 : decode method_3_code 117 = .ok (.dup, 1) := by decide +kernel
theorem d9_118 : decode method_3_code 118 = .ok (.iconst 1, 1) := by decide +kernel
theorem d9_119 : decode method_3_code 119 = .ok (.aload_n 0, 1) := by decide +kernel
theorem d9_120 : decode method_3_code 120 = .ok (.iconst 1, 1) := by decide +kernel
theorem d9_121 : decode method_3_code 121 = .ok (.caload, 1) := by decide +kernel
theorem d9_122 : decode method_3_code 122 = .ok (.castore, 1) := by decide +kernel
theorem d9_123 : decode method_3_code 123 = .ok (.dup, 1) := by decide +kernel
theorem d9_124 : decode method_3_code 124 = .ok (.iconst 2, 1) := by decide +kernel
theorem d9_125 : decode method_3_code 125 = .ok (.aload_n 0, 1) := by decide +kernel
theorem d9_126 : decode method_3_code 126 = .ok (.iconst 2, 1) := by decide +kernel
theorem d9_127 : decode method_3_code 127 = .ok (.caload, 1) := by decide +kernel
theorem d9_128 : decode method_3_code 128 = .ok (.castore, 1) := by decide +kernel
theorem d9_129 : decode method_3_code 129 = .ok (.dup, 1) := by decide +kernel
theorem d9_130 : decode method_3_code 130 = .ok (.iconst 3, 1) := by decide +kernel
theorem d9_131 : decode method_3_code 131 = .ok (.aload_n 0, 1) := by decide +kernel
theorem d9_132 : decode method_3_code 132 = .ok (.iconst 3, 1) := by decide +kernel
theorem d9_133 : decode method_3_code 133 = .ok (.caload, 1) := by decide +kernel
theorem d9_134 : decode method_3_code 134 = .ok (.castore, 1) := by decide +kernel
theorem d9_135 : decode method_3_code 135 = .ok (.invokespecial 19, 3) := by decide +kernel
theorem d9_138 : decode method_3_code 138 = .ok (.areturn, 1) := by decide +kernel
theorem d9_139 : decode method_3_code 139 = .ok (.iload_n 1, 1) := by decide +kernel
theorem d9_140 : decode method_3_code 140 = .ok (.iconst 5, 1) := by decide +kernel
theorem d9_141 : decode method_3_code 141 = .ok (.if_icmp .ne 44, 3) := by decide +kernel
theorem d9_144 : decode method_3_code 144 = .ok (.new 8, 3) := by decide +kernel
theorem d9_147 : decode method_3_code 147 = .ok (.dup, 1) := by decide +kernel
theorem d9_148 : decode method_3_code 148 = .ok (.iconst 5, 1) := by decide +kernel
theorem d9_149 : decode method_3_code 149 = .ok (.newarray .char, 2) := by decide +kernel
theorem d9_151 : decode method_3_code 151 = .ok (.dup, 1) := by decide +kernel
theorem d9_152 : decode method_3_code 152 = .ok (.iconst 0, 1) := by decide +kernel
theorem d9_153 : decode method_3_code 153 = .ok (.aload_n 0, 1) := by decide +kernel
theorem d9_154 : decode method_3_code 154 = .ok (.iconst 0, 1) := by decide +kernel
theorem d9_155 : decode method_3_code 155 = .ok (.caload, 1) := by decide +kernel
theorem d9_156 : decode method_3_code 156 = .ok (.castore, 1) := by decide +kernel
theorem d9_157 : decode method_3_code 157 = .ok (.dup, 1) := by decide +kernel
theorem d9_158 : decode method_3_code 158 = .ok (.iconst 1, 1) := by decide +kernel
theorem d9_159 : decode method_3_code 159 = .ok (.aload_n 0, 1) := by decide +kernel
theorem d9_160 : decode method_3_code 160 = .ok (.iconst 1, 1) := by decide +kernel
theorem d9_161 : decode method_3_code 161 = .ok (.caload, 1) := by decide +kernel
theorem d9_162 : decode method_3_code 162 = .ok (.castore, 1) := by decide +kernel
theorem d9_163 : decode method_3_code 163 = .ok (.dup, 1) := by decide +kernel
theorem d9_164 : decode method_3_code 164 = .ok (.iconst 2, 1) := by decide +kernel
theorem d9_165 : decode method_3_code 165 = .ok (.aload_n 0, 1) := by decide +kernel
theorem d9_166 : decode method_3_code 166 = .ok (.iconst 2, 1) := by decide +kernel
theorem d9_167 : decode method_3_code 167 = .ok (.caload, 1) := by decide +kernel
theorem d9_168 : decode method_3_code 168 = .ok (.castore, 1) := by decide +kernel
theorem d9_169 : decode method_3_code 169 = .ok (.dup, 1) := by decide +kernel
theorem d9_170 : decode method_3_code 170 = .ok (.iconst 3, 1) := by decide +kernel
theorem d9_171 : decode method_3_code 171 = .ok (.aload_n 0, 1) := by decide +kernel
theorem d9_172 : decode method_3_code 172 = .ok (.iconst 3, 1) := by decide +kernel
theorem d9_173 : decode method_3_code 173 = .ok (.caload, 1) := by decide +kernel
theorem d9_174 : decode method_3_code 174 = .ok (.castore, 1) := by decide +kernel
theorem d9_175 : decode method_3_code 175 = .ok (.dup, 1) := by decide +kernel
theorem d9_176 : decode method_3_code 176 = .ok (.iconst 4, 1) := by decide +kernel
theorem d9_177 : decode method_3_code 177 = .ok (.aload_n 0, 1) := by decide +kernel
theorem d9_178 : decode method_3_code 178 = .ok (.iconst 4, 1) := by decide +kernel
theorem d9_179 : decode method_3_code 179 = .ok (.caload, 1) := by decide +kernel
theorem d9_180 : decode method_3_code 180 = .ok (.castore, 1) := by decide +kernel
theorem d9_181 : decode method_3_code 181 = .ok (.invokespecial 19, 3) := by decide +kernel
theorem d9_184 : decode method_3_code 184 = .ok (.areturn, 1) := by decide +kernel
theorem d9_185 : decode method_3_code 185 = .ok (.iload_n 1, 1) := by decide +kernel
theorem d9_186 : decode method_3_code 186 = .ok (.bipush 6, 2) := by decide +kernel
theorem d9_188 : decode method_3_code 188 = .ok (.if_icmp .ne 51, 3) := by decide +kernel
theorem d9_191 : decode method_3_code 191 = .ok (.new 8, 3) := by decide +kernel
theorem d9_194 : decode method_3_code 194 = .ok (.dup, 1) := by decide +kernel
theorem d9_195 : decode method_3_code 195 = .ok (.bipush 6, 2) := by decide +kernel
theorem d9_197 : decode method_3_code 197 = .ok (.newarray .char, 2) := by decide +kernel
theorem d9_199 : decode method_3_code 199 = .ok (.dup, 1) := by decide +kernel
theorem d9_200 : decode method_3_code 200 = .ok (.iconst 0, 1) := by decide +kernel
theorem d9_201 : decode method_3_code 201 = .ok (.aload_n 0, 1) := by decide +kernel
theorem d9_202 : decode method_3_code 202 = .ok (.iconst 0, 1) := by decide +kernel
theorem d9_203 : decode method_3_code 203 = .ok (.caload, 1) := by decide +kernel
theorem d9_204 : decode method_3_code 204 = .ok (.castore, 1) := by decide +kernel
theorem d9_205 : decode method_3_code 205 = .ok (.dup, 1) := by decide +kernel
theorem d9_206 : decode method_3_code 206 = .ok (.iconst 1, 1) := by decide +kernel
theorem d9_207 : decode method_3_code 207 = .ok (.aload_n 0, 1) := by decide +kernel
theorem d9_208 : decode method_3_code 208 = .ok (.iconst 1, 1) := by decide +kernel
theorem d9_209 : decode method_3_code 209 = .ok (.caload, 1) := by decide +kernel
theorem d9_210 : decode method_3_code 210 = .ok (.castore, 1) := by decide +kernel
theorem d9_211 : decode method_3_code 211 = .ok (.dup, 1) := by decide +kernel
theorem d9_212 : decode method_3_code 212 = .ok (.iconst 2, 1) := by decide +kernel
theorem d9_213 : decode method_3_code 213 = .ok (.aload_n 0, 1) := by decide +kernel
theorem d9_214 : decode method_3_code 214 = .ok (.iconst 2, 1) := by decide +kernel
theorem d9_215 : decode method_3_code 215 = .ok (.caload, 1) := by decide +kernel
theorem d9_216 : decode method_3_code 216 = .ok (.castore, 1) := by decide +kernel
theorem d9_217 : decode method_3_code 217 = .ok (.dup, 1) := by decide +kernel
theorem d9_218 : decode method_3_code 218 = .ok (.iconst 3, 1) := by decide +kernel
theorem d9_219 : decode method_3_code 219 = .ok (.aload_n 0, 1) := by decide +kernel
theorem d9_220 : decode method_3_code 220 = .ok (.iconst 3, 1) := by decide +kernel
theorem d9_221 : decode method_3_code 221 = .ok (.caload, 1) := by decide +kernel
theorem d9_222 : decode method_3_code 222 = .ok (.castore, 1) := by decide +kernel
theorem d9_223 : decode method_3_code 223 = .ok (.dup, 1) := by decide +kernel
theorem d9_224 : decode method_3_code 224 = .ok (.iconst 4, 1) := by decide +kernel
theorem d9_225 : decode method_3_code 225 = .ok (.aload_n 0, 1) := by decide +kernel
theorem d9_226 : decode method_3_code 226 = .ok (.iconst 4, 1) := by decide +kernel
theorem d9_227 : decode method_3_code 227 = .ok (.caload, 1) := by decide +kernel
theorem d9_228 : decode method_3_code 228 = .ok (.castore, 1) := by decide +kernel
theorem d9_229 : decode method_3_code 229 = .ok (.dup, 1) := by decide +kernel
theorem d9_230 : decode method_3_code 230 = .ok (.iconst 5, 1) := by decide +kernel
theorem d9_231 : decode method_3_code 231 = .ok (.aload_n 0, 1) := by decide +kernel
theorem d9_232 : decode method_3_code 232 = .ok (.iconst 5, 1) := by decide +kernel
theorem d9_233 : decode method_3_code 233 = .ok (.caload, 1) := by decide +kernel
theorem d9_234 : decode method_3_code 234 = .ok (.castore, 1) := by decide +kernel
theorem d9_235 : decode method_3_code 235 = .ok (.invokespecial 19, 3) := by decide +kernel
theorem d9_238 : decode method_3_code 238 = .ok (.areturn, 1) := by decide +kernel
theorem d9_239 : decode method_3_code 239 = .ok (.iload_n 1, 1) := by decide +kernel
theorem d9_240 : decode method_3_code 240 = .ok (.bipush 7, 2) := by decide +kernel
theorem d9_242 : decode method_3_code 242 = .ok (.if_icmp .ne 59, 3) := by decide +kernel
theorem d9_245 : decode method_3_code 245 = .ok (.new 8, 3) := by decide +kernel
theorem d9_248 : decode method_3_code 248 = .ok (.dup, 1) := by decide +kernel
theorem d9_249 : decode method_3_code 249 = .ok (.bipush 7, 2) := by decide +kernel
theorem d9_251 : decode method_3_code 251 = .ok (.newarray .char, 2) := by decide +kernel
theorem d9_253 : decode method_3_code 253 = .ok (.dup, 1) := by decide +kernel
theorem d9_254 : decode method_3_code 254 = .ok (.iconst 0, 1) := by decide +kernel
theorem d9_255 : decode method_3_code 255 = .ok (.aload_n 0, 1) := by decide +kernel
theorem d9_256 : decode method_3_code 256 = .ok (.iconst 0, 1) := by decide +kernel
theorem d9_257 : decode method_3_code 257 = .ok (.caload, 1) := by decide +kernel
theorem d9_258 : decode method_3_code 258 = .ok (.castore, 1) := by decide +kernel
theorem d9_259 : decode method_3_code 259 = .ok (.dup, 1) := by decide +kernel
theorem d9_260 : decode method_3_code 260 = .ok (.iconst 1, 1) := by decide +kernel
theorem d9_261 : decode method_3_code 261 = .ok (.aload_n 0, 1) := by decide +kernel
theorem d9_262 : decode method_3_code 262 = .ok (.iconst 1, 1) := by decide +kernel
theorem d9_263 : decode method_3_code 263 = .ok (.caload, 1) := by decide +kernel
theorem d9_264 : decode method_3_code 264 = .ok (.castore, 1) := by decide +kernel
theorem d9_265 : decode method_3_code 265 = .ok (.dup, 1) := by decide +kernel
theorem d9_266 : decode method_3_code 266 = .ok (.iconst 2, 1) := by decide +kernel
theorem d9_267 : decode method_3_code 267 = .ok (.aload_n 0, 1) := by decide +kernel
theorem d9_268 : decode method_3_code 268 = .ok (.iconst 2, 1) := by decide +kernel
theorem d9_269 : decode method_3_code 269 = .ok (.caload, 1) := by decide +kernel
theorem d9_270 : decode method_3_code 270 = .ok (.castore, 1) := by decide +kernel
theorem d9_271 : decode method_3_code 271 = .ok (.dup, 1) := by decide +kernel
theorem d9_272 : decode method_3_code 272 = .ok (.iconst 3, 1) := by decide +kernel
theorem d9_273 : decode method_3_code 273 = .ok (.aload_n 0, 1) := by decide +kernel
theorem d9_274 : decode method_3_code 274 = .ok (.iconst 3, 1) := by decide +kernel
theorem d9_275 : decode method_3_code 275 = .ok (.caload, 1) := by decide +kernel
theorem d9_276 : decode method_3_code 276 = .ok (.castore, 1) := by decide +kernel
theorem d9_277 : decode method_3_code 277 = .ok (.dup, 1) := by decide +kernel
theorem d9_278 : decode method_3_code 278 = .ok (.iconst 4, 1) := by decide +kernel
theorem d9_279 : decode method_3_code 279 = .ok (.aload_n 0, 1) := by decide +kernel
theorem d9_280 : decode method_3_code 280 = .ok (.iconst 4, 1) := by decide +kernel
theorem d9_281 : decode method_3_code 281 = .ok (.caload, 1) := by decide +kernel
theorem d9_282 : decode method_3_code 282 = .ok (.castore, 1) := by decide +kernel
theorem d9_283 : decode method_3_code 283 = .ok (.dup, 1) := by decide +kernel
theorem d9_284 : decode method_3_code 284 = .ok (.iconst 5, 1) := by decide +kernel
theorem d9_285 : decode method_3_code 285 = .ok (.aload_n 0, 1) := by decide +kernel
theorem d9_286 : decode method_3_code 286 = .ok (.iconst 5, 1) := by decide +kernel
theorem d9_287 : decode method_3_code 287 = .ok (.caload, 1) := by decide +kernel
theorem d9_288 : decode method_3_code 288 = .ok (.castore, 1) := by decide +kernel
theorem d9_289 : decode method_3_code 289 = .ok (.dup, 1) := by decide +kernel
theorem d9_290 : decode method_3_code 290 = .ok (.bipush 6, 2) := by decide +kernel
theorem d9_292 : decode method_3_code 292 = .ok (.aload_n 0, 1) := by decide +kernel
theorem d9_293 : decode method_3_code 293 = .ok (.bipush 6, 2) := by decide +kernel
theorem d9_295 : decode method_3_code 295 = .ok (.caload, 1) := by decide +kernel
theorem d9_296 : decode method_3_code 296 = .ok (.castore, 1) := by decide +kernel
theorem d9_297 : decode method_3_code 297 = .ok (.invokespecial 19, 3) := by decide +kernel
theorem d9_300 : decode method_3_code 300 = .ok (.areturn, 1) := by decide +kernel
theorem d9_301 : decode method_3_code 301 = .ok (.iload_n 1, 1) := by decide +kernel
theorem d9_302 : decode method_3_code 302 = .ok (.bipush 8, 2) := by decide +kernel
theorem d9_304 : decode method_3_code 304 = .ok (.if_icmp .ne 67, 3) := by decide +kernel
theorem d9_307 : decode method_3_code 307 = .ok (.new 8, 3) := by decide +kernel
theorem d9_310 : decode method_3_code 310 = .ok (.dup, 1) := by decide +kernel
theorem d9_311 : decode method_3_code 311 = .ok (.bipush 8, 2) := by decide +kernel
theorem d9_313 : decode method_3_code 313 = .ok (.newarray .char, 2) := by decide +kernel
theorem d9_315 : decode method_3_code 315 = .ok (.dup, 1) := by decide +kernel
theorem d9_316 : decode method_3_code 316 = .ok (.iconst 0, 1) := by decide +kernel
theorem d9_317 : decode method_3_code 317 = .ok (.aload_n 0, 1) := by decide +kernel
theorem d9_318 : decode method_3_code 318 = .ok (.iconst 0, 1) := by decide +kernel
theorem d9_319 : decode method_3_code 319 = .ok (.caload, 1) := by decide +kernel
theorem d9_320 : decode method_3_code 320 = .ok (.castore, 1) := by decide +kernel
theorem d9_321 : decode method_3_code 321 = .ok (.dup, 1) := by decide +kernel
theorem d9_322 : decode method_3_code 322 = .ok (.iconst 1, 1) := by decide +kernel
theorem d9_323 : decode method_3_code 323 = .ok (.aload_n 0, 1) := by decide +kernel
theorem d9_324 : decode method_3_code 324 = .ok (.iconst 1, 1) := by decide +kernel
theorem d9_325 : decode method_3_code 325 = .ok (.caload, 1) := by decide +kernel
theorem d9_326 : decode method_3_code 326 = .ok (.castore, 1) := by decide +kernel
theorem d9_327 : decode method_3_code 327 = .ok (.dup, 1) := by decide +kernel
theorem d9_328 : decode method_3_code 328 = .ok (.iconst 2, 1) := by decide +kernel
theorem d9_329 : decode method_3_code 329 = .ok (.aload_n 0, 1) := by decide +kernel
theorem d9_330 : decode method_3_code 330 = .ok (.iconst 2, 1) := by decide +kernel
theorem d9_331 : decode method_3_code 331 = .ok (.caload, 1) := by decide +kernel
theorem d9_332 : decode method_3_code 332 = .ok (.castore, 1) := by decide +kernel
theorem d9_333 : decode method_3_code 333 = .ok (.dup, 1) := by decide +kernel
theorem d9_334 : decode method_3_code 334 = .ok (.iconst 3, 1) := by decide +kernel
theorem d9_335 : decode method_3_code 335 = .ok (.aload_n 0, 1) := by decide +kernel
theorem d9_336 : decode method_3_code 336 = .ok (.iconst 3, 1) := by decide +kernel
theorem d9_337 : decode method_3_code 337 = .ok (.caload, 1) := by decide +kernel
theorem d9_338 : decode method_3_code 338 = .ok (.castore, 1) := by decide +kernel
theorem d9_339 : decode method_3_code 339 = .ok (.dup, 1) := by decide +kernel
theorem d9_340 : decode method_3_code 340 = .ok (.iconst 4, 1) := by decide +kernel
theorem d9_341 : decode method_3_code 341 = .ok (.aload_n 0, 1) := by decide +kernel
theorem d9_342 : decode method_3_code 342 = .ok (.iconst 4, 1) := by decide +kernel
theorem d9_343 : decode method_3_code 343 = .ok (.caload, 1) := by decide +kernel
theorem d9_344 : decode method_3_code 344 = .ok (.castore, 1) := by decide +kernel
theorem d9_345 : decode method_3_code 345 = .ok (.dup, 1) := by decide +kernel
theorem d9_346 : decode method_3_code 346 = .ok (.iconst 5, 1) := by decide +kernel
theorem d9_347 : decode method_3_code 347 = .ok (.aload_n 0, 1) := by decide +kernel
theorem d9_348 : decode method_3_code 348 = .ok (.iconst 5, 1) := by decide +kernel
theorem d9_349 : decode method_3_code 349 = .ok (.caload, 1) := by decide +kernel
theorem d9_350 : decode method_3_code 350 = .ok (.castore, 1) := by decide +kernel
theorem d9_351 : decode method_3_code 351 = .ok (.dup, 1) := by decide +kernel
theorem d9_352 : decode method_3_code 352 = .ok (.bipush 6, 2) := by decide +kernel
theorem d9_354 : decode method_3_code 354 = .ok (.aload_n 0, 1) := by decide +kernel
theorem d9_355 : decode method_3_code 355 = .ok (.bipush 6, 2) := by decide +kernel
theorem d9_357 : decode method_3_code 357 = .ok (.caload, 1) := by decide +kernel
theorem d9_358 : decode method_3_code 358 = .ok (.castore, 1) := by decide +kernel
theorem d9_359 : decode method_3_code 359 = .ok (.dup, 1) := by decide +kernel
theorem d9_360 : decode method_3_code 360 = .ok (.bipush 7, 2) := by decide +kernel
theorem d9_362 : decode method_3_code 362 = .ok (.aload_n 0, 1) := by decide +kernel
theorem d9_363 : decode method_3_code 363 = .ok (.bipush 7, 2) := by decide +kernel
theorem d9_365 : decode method_3_code 365 = .ok (.caload, 1) := by decide +kernel
theorem d9_366 : decode method_3_code 366 = .ok (.castore, 1) := by decide +kernel
theorem d9_367 : decode method_3_code 367 = .ok (.invokespecial 19, 3) := by decide +kernel
theorem d9_370 : decode method_3_code 370 = .ok (.areturn, 1) := by decide +kernel
theorem d9_371 : decode method_3_code 371 = .ok (.iload_n 1, 1) := by decide +kernel
theorem d9_372 : decode method_3_code 372 = .ok (.bipush 9, 2) := by decide +kernel
theorem d9_374 : decode method_3_code 374 = .ok (.if_icmp .ne 75, 3) := by decide +kernel
theorem d9_377 : decode method_3_code 377 = .ok (.new 8, 3) := by decide +kernel
theorem d9_380 : decode method_3_code 380 = .ok (.dup, 1) := by decide +kernel
theorem d9_381 : decode method_3_code 381 = .ok (.bipush 9, 2) := by decide +kernel
theorem d9_383 : decode method_3_code 383 = .ok (.newarray .char, 2) := by decide +kernel
theorem d9_385 : decode method_3_code 385 = .ok (.dup, 1) := by decide +kernel
theorem d9_386 : decode method_3_code 386 = .ok (.iconst 0, 1) := by decide +kernel
theorem d9_387 : decode method_3_code 387 = .ok (.aload_n 0, 1) := by decide +kernel
theorem d9_388 : decode method_3_code 388 = .ok (.iconst 0, 1) := by decide +kernel
theorem d9_389 : decode method_3_code 389 = .ok (.caload, 1) := by decide +kernel
theorem d9_390 : decode method_3_code 390 = .ok (.castore, 1) := by decide +kernel
theorem d9_391 : decode method_3_code 391 = .ok (.dup, 1) := by decide +kernel
theorem d9_392 : decode method_3_code 392 = .ok (.iconst 1, 1) := by decide +kernel
theorem d9_393 : decode method_3_code 393 = .ok (.aload_n 0, 1) := by decide +kernel
theorem d9_394 : decode method_3_code 394 = .ok (.iconst 1, 1) := by decide +kernel
theorem d9_395 : decode method_3_code 395 = .ok (.caload, 1) := by decide +kernel
theorem d9_396 : decode method_3_code 396 = .ok (.castore, 1) := by decide +kernel
theorem d9_397 : decode method_3_code 397 = .ok (.dup, 1) := by decide +kernel
theorem d9_398 : decode method_3_code 398 = .ok (.iconst 2, 1) := by decide +kernel
theorem d9_399 : decode method_3_code 399 = .ok (.aload_n 0, 1) := by decide +kernel
theorem d9_400 : decode method_3_code 400 = .ok (.iconst 2, 1) := by decide +kernel
theorem d9_401 : decode method_3_code 401 = .ok (.caload, 1) := by decide +kernel
theorem d9_402 : decode method_3_code 402 = .ok (.castore, 1) := by decide +kernel
theorem d9_403 : decode method_3_code 403 = .ok (.dup, 1) := by decide +kernel
theorem d9_404 : decode method_3_code 404 = .ok (.iconst 3, 1) := by decide +kernel
theorem d9_405 : decode method_3_code 405 = .ok (.aload_n 0, 1) := by decide +kernel
theorem d9_406 : decode method_3_code 406 = .ok (.iconst 3, 1) := by decide +kernel
theorem d9_407 : decode method_3_code 407 = .ok (.caload, 1) := by decide +kernel
theorem d9_408 : decode method_3_code 408 = .ok (.castore, 1) := by decide +kernel
theorem d9_409 : decode method_3_code 409 = .ok (.dup, 1) := by decide +kernel
theorem d9_410 : decode method_3_code 410 = .ok (.iconst 4, 1) := by decide +kernel
theorem d9_411 : decode method_3_code 411 = .ok (.aload_n 0, 1) := by decide +kernel
theorem d9_412 : decode method_3_code 412 = .ok (.iconst 4, 1) := by decide +kernel
theorem d9_413 : decode method_3_code 413 = .ok (.caload, 1) := by decide +kernel
theorem d9_414 : decode method_3_code 414 = .ok (.castore, 1) := by decide +kernel
theorem d9_415 : decode method_3_code 415 = .ok (.dup, 1) := by decide +kernel
theorem d9_416 : decode method_3_code 416 = .ok (.iconst 5, 1) := by decide +kernel
theorem d9_417 : decode method_3_code 417 = .ok (.aload_n 0, 1) := by decide +kernel
theorem d9_418 : decode method_3_code 418 = .ok (.iconst 5, 1) := by decide +kernel
theorem d9_419 : decode method_3_code 419 = .ok (.caload, 1) := by decide +kernel
theorem d9_420 : decode method_3_code 420 = .ok (.castore, 1) := by decide +kernel
theorem d9_421 : decode method_3_code 421 = .ok (.dup, 1) := by decide +kernel
theorem d9_422 : decode method_3_code 422 = .ok (.bipush 6, 2) := by decide +kernel
theorem d9_424 : decode method_3_code 424 = .ok (.aload_n 0, 1) := by decide +kernel
theorem d9_425 : decode method_3_code 425 = .ok (.bipush 6, 2) := by decide +kernel
theorem d9_427 : decode method_3_code 427 = .ok (.caload, 1) := by decide +kernel
theorem d9_428 : decode method_3_code 428 = .ok (.castore, 1) := by decide +kernel
theorem d9_429 : decode method_3_code 429 = .ok (.dup, 1) := by decide +kernel
theorem d9_430 : decode method_3_code 430 = .ok (.bipush 7, 2) := by decide +kernel
theorem d9_432 : decode method_3_code 432 = .ok (.aload_n 0, 1) := by decide +kernel
theorem d9_433 : decode method_3_code 433 = .ok (.bipush 7, 2) := by decide +kernel
theorem d9_435 : decode method_3_code 435 = .ok (.caload, 1) := by decide +kernel
theorem d9_436 : decode method_3_code 436 = .ok (.castore, 1) := by decide +kernel
theorem d9_437 : decode method_3_code 437 = .ok (.dup, 1) := by decide +kernel
theorem d9_438 : decode method_3_code 438 = .ok (.bipush 8, 2) := by decide +kernel
theorem d9_440 : decode method_3_code 440 = .ok (.aload_n 0, 1) := by decide +kernel
theorem d9_441 : decode method_3_code 441 = .ok (.bipush 8, 2) := by decide +kernel
theorem d9_443 : decode method_3_code 443 = .ok (.caload, 1) := by decide +kernel
theorem d9_444 : decode method_3_code 444 = .ok (.castore, 1) := by decide +kernel
theorem d9_445 : decode method_3_code 445 = .ok (.invokespecial 19, 3) := by decide +kernel
theorem d9_448 : decode method_3_code 448 = .ok (.areturn, 1) := by decide +kernel
theorem d9_449 : decode method_3_code 449 = .ok (.iload_n 1, 1) := by decide +kernel
theorem d9_450 : decode method_3_code 450 = .ok (.bipush 10, 2) := by decide +kernel
theorem d9_452 : decode method_3_code 452 = .ok (.if_icmp .ne 83, 3) := by decide +kernel
theorem d9_455 : decode method_3_code 455 = .ok (.new 8, 3) := by decide +kernel
theorem d9_458 : decode method_3_code 458 = .ok (.dup, 1) := by decide +kernel
theorem d9_459 : decode method_3_code 459 = .ok (.bipush 10, 2) := by decide +kernel
theorem d9_461 : decode method_3_code 461 = .ok (.newarray .char, 2) := by decide +kernel
theorem d9_463 : decode method_3_code 463 = .ok (.dup, 1) := by decide +kernel
theorem d9_464 : decode method_3_code 464 = .ok (.iconst 0, 1) := by decide +kernel
theorem d9_465 : decode method_3_code 465 = .ok (.aload_n 0, 1) := by decide +kernel
theorem d9_466 : decode method_3_code 466 = .ok (.iconst 0, 1) := by decide +kernel
theorem d9_467 : decode method_3_code 467 = .ok (.caload, 1) := by decide +kernel
theorem d9_468 : decode method_3_code 468 = .ok (.castore, 1) := by decide +kernel
theorem d9_469 : decode method_3_code 469 = .ok (.dup, 1) := by decide +kernel
theorem d9_470 : decode method_3_code 470 = .ok (.iconst 1, 1) := by decide +kernel
theorem d9_471 : decode method_3_code 471 = .ok (.aload_n 0, 1) := by decide +kernel
theorem d9_472 : decode method_3_code 472 = .ok (.iconst 1, 1) := by decide +kernel
theorem d9_473 : decode method_3_code 473 = .ok (.caload, 1) := by decide +kernel
theorem d9_474 : decode method_3_code 474 = .ok (.castore, 1) := by decide +kernel
theorem d9_475 : decode method_3_code 475 = .ok (.dup, 1) := by decide +kernel
theorem d9_476 : decode method_3_code 476 = .ok (.iconst 2, 1) := by decide +kernel
theorem d9_477 : decode method_3_code 477 = .ok (.aload_n 0, 1) := by decide +kernel
theorem d9_478 : decode method_3_code 478 = .ok (.iconst 2, 1) := by decide +kernel
theorem d9_479 : decode method_3_code 479 = .ok (.caload, 1) := by decide +kernel
theorem d9_480 : decode method_3_code 480 = .ok (.castore, 1) := by decide +kernel
theorem d9_481 : decode method_3_code 481 = .ok (.dup, 1) := by decide +kernel
theorem d9_482 : decode method_3_code 482 = .ok (.iconst 3, 1) := by decide +kernel
theorem d9_483 : decode method_3_code 483 = .ok (.aload_n 0, 1) := by decide +kernel
theorem d9_484 : decode method_3_code 484 = .ok (.iconst 3, 1) := by decide +kernel
theorem d9_485 : decode method_3_code 485 = .ok (.caload, 1) := by decide +kernel
theorem d9_486 : decode method_3_code 486 = .ok (.castore, 1) := by decide +kernel
theorem d9_487 : decode method_3_code 487 = .ok (.dup, 1) := by decide +kernel
theorem d9_488 : decode method_3_code 488 = .ok (.iconst 4, 1) := by decide +kernel
theorem d9_489 : decode method_3_code 489 = .ok (.aload_n 0, 1) := by decide +kernel
theorem d9_490 : decode method_3_code 490 = .ok (.iconst 4, 1) := by decide +kernel
theorem d9_491 : decode method_3_code 491 = .ok (.caload, 1) := by decide +kernel
theorem d9_492 : decode method_3_code 492 = .ok (.castore, 1) := by decide +kernel
theorem d9_493 : decode method_3_code 493 = .ok (.dup, 1) := by decide +kernel
theorem d9_494 : decode method_3_code 494 = .ok (.iconst 5, 1) := by decide +kernel
theorem d9_495 : decode method_3_code 495 = .ok (.aload_n 0, 1) := by decide +kernel
theorem d9_496 : decode method_3_code 496 = .ok (.iconst 5, 1) := by decide +kernel
theorem d9_497 : decode method_3_code 497 = .ok (.caload, 1) := by decide +kernel
theorem d9_498 : decode method_3_code 498 = .ok (.castore, 1) := by decide +kernel
theorem d9_499 : decode method_3_code 499 = .ok (.dup, 1) := by decide +kernel
theorem d9_500 : decode method_3_code 500 = .ok (.bipush 6, 2) := by decide +kernel
theorem d9_502 : decode method_3_code 502 = .ok (.aload_n 0, 1) := by decide +kernel
theorem d9_503 : decode method_3_code 503 = .ok (.bipush 6, 2) := by decide +kernel
theorem d9_505 : decode method_3_code 505 = .ok (.caload, 1) := by decide +kernel
theorem d9_506 : decode method_3_code 506 = .ok (.castore, 1) := by decide +kernel
theorem d9_507 : decode method_3_code 507 = .ok (.dup, 1) := by decide +kernel
theorem d9_508 : decode method_3_code 508 = .ok (.bipush 7, 2) := by decide +kernel
theorem d9_510 : decode method_3_code 510 = .ok (.aload_n 0, 1) := by decide +kernel
theorem d9_511 : decode method_3_code 511 = .ok (.bipush 7, 2) := by decide +kernel
theorem d9_513 : decode method_3_code 513 = .ok (.caload, 1) := by decide +kernel
theorem d9_514 : decode method_3_code 514 = .ok (.castore, 1) := by decide +kernel
theorem d9_515 : decode method_3_code 515 = .ok (.dup, 1) := by decide +kernel
theorem d9_516 : decode method_3_code 516 = .ok (.bipush 8, 2) := by decide +kernel
theorem d9_518 : decode method_3_code 518 = .ok (.aload_n 0, 1) := by decide +kernel
theorem d9_519 : decode method_3_code 519 = .ok (.bipush 8, 2) := by decide +kernel
theorem d9_521 : decode method_3_code 521 = .ok (.caload, 1) := by decide +kernel
theorem d9_522 : decode method_3_code 522 = .ok (.castore, 1) := by decide +kernel
theorem d9_523 : decode method_3_code 523 = .ok (.dup, 1) := by decide +kernel
theorem d9_524 : decode method_3_code 524 = .ok (.bipush 9, 2) := by decide +kernel
theorem d9_526 : decode method_3_code 526 = .ok (.aload_n 0, 1) := by decide +kernel
theorem d9_527 : decode method_3_code 527 = .ok (.bipush 9, 2) := by decide +kernel
theorem d9_529 : decode method_3_code 529 = .ok (.caload, 1) := by decide +kernel
theorem d9_530 : decode method_3_code 530 = .ok (.castore, 1) := by decide +kernel
theorem d9_531 : decode method_3_code 531 = .ok (.invokespecial 19, 3) := by decide +kernel
theorem d9_534 : decode method_3_code 534 = .ok (.areturn, 1) := by decide +kernel
theorem d9_535 : decode method_3_code 535 = .ok (.iload_n 1, 1) := by decide +kernel
theorem d9_536 : decode method_3_code 536 = .ok (.bipush 11, 2) := by decide +kernel
theorem d9_538 : decode method_3_code 538 = .ok (.if_icmp .ne 91, 3) := by decide +kernel
theorem d9_541 : decode method_3_code 541 = .ok (.new 8, 3) := by decide +kernel
theorem d9_544 : decode method_3_code 544 = .ok (.dup, 1) := by decide +kernel
theorem d9_545 : decode method_3_code 545 = .ok (.bipush 11, 2) := by decide +kernel
theorem d9_547 : decode method_3_code 547 = .ok (.newarray .char, 2) := by decide +kernel
theorem d9_549 : decode method_3_code 549 = .ok (.dup, 1) := by decide +kernel
theorem d9_550 : decode method_3_code 550 = .ok (.iconst 0, 1) := by decide +kernel
theorem d9_551 : decode method_3_code 551 = .ok (.aload_n 0, 1) := by decide +kernel
theorem d9_552 : decode method_3_code 552 = .ok (.iconst 0, 1) := by decide +kernel
theorem d9_553 : decode method_3_code 553 = .ok (.caload, 1) := by decide +kernel
theorem d9_554 : decode method_3_code 554 = .ok (.castore, 1) := by decide +kernel
theorem d9_555 : decode method_3_code 555 = .ok (.dup, 1) := by decide +kernel
theorem d9_556 : decode method_3_code 556 = .ok (.iconst 1, 1) := by decide +kernel
theorem d9_557 : decode method_3_code 557 = .ok (.aload_n 0, 1) := by decide +kernel
theorem d9_558 : decode method_3_code 558 = .ok (.iconst 1, 1) := by decide +kernel
theorem d9_559 : decode method_3_code 559 = .ok (.caload, 1) := by decide +kernel
theorem d9_560 : decode method_3_code 560 = .ok (.castore, 1) := by decide +kernel
theorem d9_561 : decode method_3_code 561 = .ok (.dup, 1) := by decide +kernel
theorem d9_562 : decode method_3_code 562 = .ok (.iconst 2, 1) := by decide +kernel
theorem d9_563 : decode method_3_code 563 = .ok (.aload_n 0, 1) := by decide +kernel
theorem d9_564 : decode method_3_code 564 = .ok (.iconst 2, 1) := by decide +kernel
theorem d9_565 : decode method_3_code 565 = .ok (.caload, 1) := by decide +kernel
theorem d9_566 : decode method_3_code 566 = .ok (.castore, 1) := by decide +kernel
theorem d9_567 : decode method_3_code 567 = .ok (.dup, 1) := by decide +kernel
theorem d9_568 : decode method_3_code 568 = .ok (.iconst 3, 1) := by decide +kernel
theorem d9_569 : decode method_3_code 569 = .ok (.aload_n 0, 1) := by decide +kernel
theorem d9_570 : decode method_3_code 570 = .ok (.iconst 3, 1) := by decide +kernel
theorem d9_571 : decode method_3_code 571 = .ok (.caload, 1) := by decide +kernel
theorem d9_572 : decode method_3_code 572 = .ok (.castore, 1) := by decide +kernel
theorem d9_573 : decode method_3_code 573 = .ok (.dup, 1) := by decide +kernel
theorem d9_574 : decode method_3_code 574 = .ok (.iconst 4, 1) := by decide +kernel
theorem d9_575 : decode method_3_code 575 = .ok (.aload_n 0, 1) := by decide +kernel
theorem d9_576 : decode method_3_code 576 = .ok (.iconst 4, 1) := by decide +kernel
theorem d9_577 : decode method_3_code 577 = .ok (.caload, 1) := by decide +kernel
theorem d9_578 : decode method_3_code 578 = .ok (.castore, 1) := by decide +kernel
theorem d9_579 : decode method_3_code 579 = .ok (.dup, 1) := by decide +kernel
theorem d9_580 : decode method_3_code 580 = .ok (.iconst 5, 1) := by decide +kernel
theorem d9_581 : decode method_3_code 581 = .ok (.aload_n 0, 1) := by decide +kernel
theorem d9_582 : decode method_3_code 582 = .ok (.iconst 5, 1) := by decide +kernel
theorem d9_583 : decode method_3_code 583 = .ok (.caload, 1) := by decide +kernel
theorem d9_584 : decode method_3_code 584 = .ok (.castore, 1) := by decide +kernel
theorem d9_585 : decode method_3_code 585 = .ok (.dup, 1) := by decide +kernel
theorem d9_586 : decode method_3_code 586 = .ok (.bipush 6, 2) := by decide +kernel
theorem d9_588 : decode method_3_code 588 = .ok (.aload_n 0, 1) := by decide +kernel
theorem d9_589 : decode method_3_code 589 = .ok (.bipush 6, 2) := by decide +kernel
theorem d9_591 : decode method_3_code 591 = .ok (.caload, 1) := by decide +kernel
theorem d9_592 : decode method_3_code 592 = .ok (.castore, 1) := by decide +kernel
theorem d9_593 : decode method_3_code 593 = .ok (.dup, 1) := by decide +kernel
theorem d9_594 : decode method_3_code 594 = .ok (.bipush 7, 2) := by decide +kernel
theorem d9_596 : decode method_3_code 596 = .ok (.aload_n 0, 1) := by decide +kernel
theorem d9_597 : decode method_3_code 597 = .ok (.bipush 7, 2) := by decide +kernel
theorem d9_599 : decode method_3_code 599 = .ok (.caload, 1) := by decide +kernel
theorem d9_600 : decode method_3_code 600 = .ok (.castore, 1) := by decide +kernel
theorem d9_601 : decode method_3_code 601 = .ok (.dup, 1) := by decide +kernel
theorem d9_602 : decode method_3_code 602 = .ok (.bipush 8, 2) := by decide +kernel
theorem d9_604 : decode method_3_code 604 = .ok (.aload_n 0, 1) := by decide +kernel
theorem d9_605 : decode method_3_code 605 = .ok (.bipush 8, 2) := by decide +kernel
theorem d9_607 : decode method_3_code 607 = .ok (.caload, 1) := by decide +kernel
theorem d9_608 : decode method_3_code 608 = .ok (.castore, 1) := by decide +kernel
theorem d9_609 : decode method_3_code 609 = .ok (.dup, 1) := by decide +kernel
theorem d9_610 : decode method_3_code 610 = .ok (.bipush 9, 2) := by decide +kernel
theorem d9_612 : decode method_3_code 612 = .ok (.aload_n 0, 1) := by decide +kernel
theorem d9_613 : decode method_3_code 613 = .ok (.bipush 9, 2) := by decide +kernel
theorem d9_615 : decode method_3_code 615 = .ok (.caload, 1) := by decide +kernel
theorem d9_616 : decode method_3_code 616 = .ok (.castore, 1) := by decide +kernel
theorem d9_617 : decode method_3_code 617 = .ok (.dup, 1) := by decide +kernel
theorem d9_618 : decode method_3_code 618 = .ok (.bipush 10, 2) := by decide +kernel
theorem d9_620 : decode method_3_code 620 = .ok (.aload_n 0, 1) := by decide +kernel
theorem d9_621 : decode method_3_code 621 = .ok (.bipush 10, 2) := by decide +kernel
theorem d9_623 : decode method_3_code 623 = .ok (.caload, 1) := by decide +kernel
theorem d9_624 : decode method_3_code 624 = .ok (.castore, 1) := by decide +kernel
theorem d9_625 : decode method_3_code 625 = .ok (.invokespecial 19, 3) := by decide +kernel
theorem d9_628 : decode method_3_code 628 = .ok (.areturn, 1) := by decide +kernel
theorem d9_629 : decode method_3_code 629 = .ok (.new 8, 3) := by decide +kernel
theorem d9_632 : decode method_3_code 632 = .ok (.dup, 1) := by decide +kernel
theorem d9_633 : decode method_3_code 633 = .ok (.bipush 12, 2) := by decide +kernel
theorem d9_635 : decode method_3_code 635 = .ok (.newarray .char, 2) := by decide +kernel
theorem d9_637 : decode method_3_code 637 = .ok (.dup, 1) := by decide +kernel
theorem d9_638 : decode method_3_code 638 = .ok (.iconst 0, 1) := by decide +kernel
theorem d9_639 : decode method_3_code 639 = .ok (.aload_n 0, 1) := by decide +kernel
theorem d9_640 : decode method_3_code 640 = .ok (.iconst 0, 1) := by decide +kernel
theorem d9_641 : decode method_3_code 641 = .ok (.caload, 1) := by decide +kernel
theorem d9_642 : decode method_3_code 642 = .ok (.castore, 1) := by decide +kernel
theorem d9_643 : decode method_3_code 643 = .ok (.dup, 1) := by decide +kernel
theorem d9_644 : decode method_3_code 644 = .ok (.iconst 1, 1) := by decide +kernel
theorem d9_645 : decode method_3_code 645 = .ok (.aload_n 0, 1) := by decide +kernel
theorem d9_646 : decode method_3_code 646 = .ok (.iconst 1, 1) := by decide +kernel
theorem d9_647 : decode method_3_code 647 = .ok (.caload, 1) := by decide +kernel
theorem d9_648 : decode method_3_code 648 = .ok (.castore, 1) := by decide +kernel
theorem d9_649 : decode method_3_code 649 = .ok (.dup, 1) := by decide +kernel
theorem d9_650 : decode method_3_code 650 = .ok (.iconst 2, 1) := by decide +kernel
theorem d9_651 : decode method_3_code 651 = .ok (.aload_n 0, 1) := by decide +kernel
theorem d9_652 : decode method_3_code 652 = .ok (.iconst 2, 1) := by decide +kernel
theorem d9_653 : decode method_3_code 653 = .ok (.caload, 1) := by decide +kernel
theorem d9_654 : decode method_3_code 654 = .ok (.castore, 1) := by decide +kernel
theorem d9_655 : decode method_3_code 655 = .ok (.dup, 1) := by decide +kernel
theorem d9_656 : decode method_3_code 656 = .ok (.iconst 3, 1) := by decide +kernel
theorem d9_657 : decode method_3_code 657 = .ok (.aload_n 0, 1) := by decide +kernel
theorem d9_658 : decode method_3_code 658 = .ok (.iconst 3, 1) := by decide +kernel
theorem d9_659 : decode method_3_code 659 = .ok (.caload, 1) := by decide +kernel
theorem d9_660 : decode method_3_code 660 = .ok (.castore, 1) := by decide +kernel
theorem d9_661 : decode method_3_code 661 = .ok (.dup, 1) := by decide +kernel
theorem d9_662 : decode method_3_code 662 = .ok (.iconst 4, 1) := by decide +kernel
theorem d9_663 : decode method_3_code 663 = .ok (.aload_n 0, 1) := by decide +kernel
theorem d9_664 : decode method_3_code 664 = .ok (.iconst 4, 1) := by decide +kernel
theorem d9_665 : decode method_3_code 665 = .ok (.caload, 1) := by decide +kernel
theorem d9_666 : decode method_3_code 666 = .ok (.castore, 1) := by decide +kernel
theorem d9_667 : decode method_3_code 667 = .ok (.dup, 1) := by decide +kernel
theorem d9_668 : decode method_3_code 668 = .ok (.iconst 5, 1) := by decide +kernel
theorem d9_669 : decode method_3_code 669 = .ok (.aload_n 0, 1) := by decide +kernel
theorem d9_670 : decode method_3_code 670 = .ok (.iconst 5, 1) := by decide +kernel
theorem d9_671 : decode method_3_code 671 = .ok (.caload, 1) := by decide +kernel
theorem d9_672 : decode method_3_code 672 = .ok (.castore, 1) := by decide +kernel
theorem d9_673 : decode method_3_code 673 = .ok (.dup, 1) := by decide +kernel
theorem d9_674 : decode method_3_code 674 = .ok (.bipush 6, 2) := by decide +kernel
theorem d9_676 : decode method_3_code 676 = .ok (.aload_n 0, 1) := by decide +kernel
theorem d9_677 : decode method_3_code 677 = .ok (.bipush 6, 2) := by decide +kernel
theorem d9_679 : decode method_3_code 679 = .ok (.caload, 1) := by decide +kernel
theorem d9_680 : decode method_3_code 680 = .ok (.castore, 1) := by decide +kernel
theorem d9_681 : decode method_3_code 681 = .ok (.dup, 1) := by decide +kernel
theorem d9_682 : decode method_3_code 682 = .ok (.bipush 7, 2) := by decide +kernel
theorem d9_684 : decode method_3_code 684 = .ok (.aload_n 0, 1) := by decide +kernel
theorem d9_685 : decode method_3_code 685 = .ok (.bipush 7, 2) := by decide +kernel
theorem d9_687 : decode method_3_code 687 = .ok (.caload, 1) := by decide +kernel
theorem d9_688 : decode method_3_code 688 = .ok (.castore, 1) := by decide +kernel
theorem d9_689 : decode method_3_code 689 = .ok (.dup, 1) := by decide +kernel
theorem d9_690 : decode method_3_code 690 = .ok (.bipush 8, 2) := by decide +kernel
theorem d9_692 : decode method_3_code 692 = .ok (.aload_n 0, 1) := by decide +kernel
theorem d9_693 : decode method_3_code 693 = .ok (.bipush 8, 2) := by decide +kernel
theorem d9_695 : decode method_3_code 695 = .ok (.caload, 1) := by decide +kernel
theorem d9_696 : decode method_3_code 696 = .ok (.castore, 1) := by decide +kernel
theorem d9_697 : decode method_3_code 697 = .ok (.dup, 1) := by decide +kernel
theorem d9_698 : decode method_3_code 698 = .ok (.bipush 9, 2) := by decide +kernel
theorem d9_700 : decode method_3_code 700 = .ok (.aload_n 0, 1) := by decide +kernel
theorem d9_701 : decode method_3_code 701 = .ok (.bipush 9, 2) := by decide +kernel
theorem d9_703 : decode method_3_code 703 = .ok (.caload, 1) := by decide +kernel
theorem d9_704 : decode method_3_code 704 = .ok (.castore, 1) := by decide +kernel
theorem d9_705 : decode method_3_code 705 = .ok (.dup, 1) := by decide +kernel
theorem d9_706 : decode method_3_code 706 = .ok (.bipush 10, 2) := by decide +kernel
theorem d9_708 : decode method_3_code 708 = .ok (.aload_n 0, 1) := by decide +kernel
theorem d9_709 : decode method_3_code 709 = .ok (.bipush 10, 2) := by decide +kernel
theorem d9_711 : decode method_3_code 711 = .ok (.caload, 1) := by decide +kernel
theorem d9_712 : decode method_3_code 712 = .ok (.castore, 1) := by decide +kernel
theorem d9_713 : decode method_3_code 713 = .ok (.dup, 1) := by decide +kernel
theorem d9_714 : decode method_3_code 714 = .ok (.bipush 11, 2) := by decide +kernel
theorem d9_716 : decode method_3_code 716 = .ok (.aload_n 0, 1) := by decide +kernel
theorem d9_717 : decode method_3_code 717 = .ok (.bipush 11, 2) := by decide +kernel
theorem d9_719 : decode method_3_code 719 = .ok (.caload, 1) := by decide +kernel
theorem d9_720 : decode method_3_code 720 = .ok (.castore, 1) := by decide +kernel
theorem d9_721 : decode method_3_code 721 = .ok (.invokespecial 19, 3) := by decide +kernel
theorem d9_724 : decode method_3_code 724 = .ok (.areturn, 1) := by decide +kernel
theorem ef_sr (m : MethodId) (tc : Addr) (n : Int32) : entryFrame m #[(.ref tc), (.int n)] 2 = mkF m 0 #[.val (.ref tc), .val (.int n)] [] := by first | (simp [entryFrame, mkF, argsToLocals, Value.category]; done) | rfl
def Q_sr (Z : State) (tc : Addr) (kc : ClassId) (v0 : Int32) (v1 : Int32) (v2 : Int32) (v3 : Int32) (v4 : Int32) (v5 : Int32) (v6 : Int32) (v7 : Int32) (v8 : Int32) (v9 : Int32) (v10 : Int32) (v11 : Int32) (n : Int32) (Y1 : Int32) (h0 : Heap) (n0 : Nat) (v : Option Value) (h : Heap) (L : List Loc) : Prop := (∃ b : Addr, ∃ t : Addr, ∃ k : ClassId, ∃ cs : List Int32, v = some (.ref b) ∧ Fr n0 L ∧ Keep h0 h [] ∧ Exa Z h b "java/lang/String" ∧ Fld Z h b "java/lang/String" "coder" "B" (.int 0) ∧ Fld Z h b "java/lang/String" "value" "[B" (.ref t) ∧ Arv Z h t k .byte (Int32.ofNat cs.length) ((cs.map (fun c => c.toInt8.toInt32)).map Value.int) (.int 0) ∧ (Rng cs) ∧ (cs.length ≤ 12))
set_option maxRecDepth 65536 in
set_option maxHeartbeats 40000000 in
theorem rm_sr (l : Launch) (Z : State) (a0 : Array Value) (hw : ∀ d ∈ tables_1, d.before a0 Z = true) (ws : List Jvm.Cond) (tc : Addr) (kc : ClassId) (v0 : Int32) (v1 : Int32) (v2 : Int32) (v3 : Int32) (v4 : Int32) (v5 : Int32) (v6 : Int32) (v7 : Int32) (v8 : Int32) (v9 : Int32) (v10 : Int32) (v11 : Int32) (n : Int32) (Y1 : Int32) (h0 : Heap) (n0 : Nat) (Z0 : n0 ≤ h0.size) (pf0 : Arv Z h0 tc kc .char (12 : Int32) [(.int v0), (.int v1), (.int v2), (.int v3), (.int v4), (.int v5), (.int v6), (.int v7), (.int v8), (.int v9), (.int v10), (.int v11)] (.int 0)) (pf1 : Old Z n0 h0) (hq0 : Chr v0) (hq1 : Chr v1) (hq2 : Chr v2) (hq3 : Chr v3) (hq4 : Chr v4) (hq5 : Chr v5) (hq6 : Chr v6) (hq7 : Chr v7) (hq8 : Chr v8) (hq9 : Chr v9) (hq10 : Chr v10) (hq11 : Chr v11) (O2 : Sta Z Z.heap "java/lang/String" "COMPACT_STRINGS" "Z" (.int Y1)) (P5 : ¬ (Y1 = (0 : Int32))) :
    MetFree l (⟨"com/example/groupwright/groupwright/app/KindNamedPinLaw", "str", "([CI)Ljava/lang/String;"⟩ : MethodName) (head1 (Jvm.Cond.code (⟨"com/example/groupwright/groupwright/app/KindNamedPinLaw", "str", "([CI)Ljava/lang/String;"⟩ : MethodName) method_3_code 2 (some (.object "java/lang/String")) :: ws) ({ frames := 4, cells := 6, slots := 28, locals := 66 } : Room)) (fun aa U => aa = #[(.ref tc), (.int n)] ∧ Z.Warmed39 U.vm ∧ U.heap = h0 ∧ CHv Z consts_1 U.vm h0) (fun _ _ _ _ _ => True) (fun _ U o U' => ∃ v L, o = .returned v ∧ Q_sr Z tc kc v0 v1 v2 v3 v4 v5 v6 v7 v8 v9 v10 v11 n Y1 h0 n0 v U'.heap L ∧ CHr Z consts_1 U.vm U.heap U'.vm U'.heap ∧ ReturnedEndW U o U' L ({ frames := 4, cells := 6, slots := 28, locals := 66 } : Room).cells ({ frames := 4, cells := 6, slots := 28, locals := 66 } : Room).slots) := by
  refine MetFree.of_bodySF (plainFor_of_name pn_com_example_groupwright_groupwright_app_KindNamedPinLaw) hisR ?_
  intro p e s m args below meth c s₁ Bd hml0 hP hK
  obtain ⟨rfl, hZ, hh, hH⟩ := hP
  have hx := Bd.exec
  have hby := Bd.bytes
  have hlk : meth.locks = false := BodyLoose.notSynchronized Bd
  have hml : c.maxLocals = 2 := hml0
  have hown : s.vm.findClass "com/example/groupwright/groupwright/app/KindNamedPinLaw" = some m.cls := findClass_of_methodNamed Bd.named
  have hnm := (name_of_methodNamed Bd.named Bd.method).1
  have X0 : Stand p l e ({ frames := 4, cells := 6, slots := 28, locals := 66 } : Room) (s.setVm s.vm) m #[(.ref tc), (.int n)] below meth c s₁ [] 0 0 := Stand.of_body Bd
  have e0 : s₁.heap = h0 := by rw [← hh, Bd.state]; rfl
  have N0 := Fr.nil n0
  show Gl p.tables e below (EndH s Z consts_1 (Q_sr Z tc kc v0 v1 v2 v3 v4 v5 v6 v7 v8 v9 v10 v11 n Y1 h0 n0) ({ frames := 4, cells := 6, slots := 28, locals := 66 } : Room).cells ({ frames := 4, cells := 6, slots := 28, locals := 66 } : Room).slots) _
  refine Gl.cast (ef_sr m tc n) ?_
  show Gl p.tables e below _ (s₁.setTop (mkF m 0 #[.val (.ref tc), .val (.int n)] []))
  have hS0 : s.Since s.vm s₁.heap.size := (State.WarmedH.refl s).since _
  have C0 : CHr Z consts_1 s.vm h0 s.vm h0 := CHr.refl hH
  refine Gl.st (fun _ kq => XS.iloadN X0.here hx rfl (hb hby d9_0) rfl kq) ?_
  show Gl p.tables e below _ (s₁.setTop (mkF m 1 #[.val (.ref tc), .val (.int n)] [(.int n)]))
  by_cases hc1 : n = (0 : Int32)
  · refine Gl.st (fun _ kq => XS.ifNo X0.here hx rfl (hb hby d9_1) rfl ((if0 _ _).trans (teq (hc1 : n = (0 : Int32))).2) kq) ?_
    show Gl p.tables e below _ (s₁.setTop (mkF m 4 #[.val (.ref tc), .val (.int n)] []))
    obtain ⟨T2, h2, X2, e2, E2, A2, D2, U2, st2⟩ := newO X0 hx hZ hown (tw hw 52 rfl) (tw hw 2 rfl) (tw hw 1 rfl) e0 (g := (mkF m 4 #[.val (.ref tc), .val (.int n)] [])) rfl (hb hby d9_4) (by decide) (by decide)
    obtain ⟨b2, g2⟩ : ∃ z, z = h0.size := ⟨_, rfl⟩
    rw [← g2] at A2 D2 U2 st2
    refine Gl.st st2 ?_
    have g3 : n0 ≤ b2 := Nat.le_trans Z0 (Nat.le_of_eq g2.symm)
    have s4 : h0.size ≤ b2 := Nat.le_trans (Nat.le_refl _) (Nat.le_of_eq g2.symm)
    have C5 : CHr Z consts_1 s.vm h0 s.vm h2 := C0.trans (CHr.ext E2 C0.1)
    have F2_4 : Fld Z h2 b2 "java/lang/String" "value" "[B" .null := D2 (Or.inr (tw hw 4 rfl)) (ty := (.array .byte)) (by decide)
    have F2_5 : Fld Z h2 b2 "java/lang/String" "coder" "B" (.int 0) := D2 (Or.inr (tw hw 5 rfl)) (ty := .byte) (by decide)
    show Gl p.tables e below _ (T2.setTop (mkF m 7 #[.val (.ref tc), .val (.int n)] [(.ref b2)]))
    refine Gl.st (fun _ kq => XS.dup X2.here hx rfl (hb hby d9_7) rfl rfl kq) ?_
    refine Gl.st (fun _ kq => XS.iconst X2.here hx rfl (hb hby d9_8) kq) ?_
    show Gl p.tables e below _ (T2.setTop (mkF m 9 #[.val (.ref tc), .val (.int n)] [(.int 0), (.ref b2), (.ref b2)]))
    obtain ⟨T6, h6, k6, X6, e6, E6, A6, st6⟩ := newP X2 hx hZ (tw hw 8 rfl) e2 (g := (mkF m 9 #[.val (.ref tc), .val (.int n)] [(.int 0), (.ref b2), (.ref b2)])) rfl (hb hby d9_9) rfl (by decide) (cap := 0) (by decide) (by decide) (by decide) (by decide)
    obtain ⟨b6, g6⟩ : ∃ z, z = h2.size := ⟨_, rfl⟩
    rw [← g6] at A6 st6
    refine Gl.st st6 ?_
    have g7 : n0 ≤ b6 := Nat.le_trans (Nat.le_trans Z0 E2.1) (Nat.le_of_eq g6.symm)
    have s8 : h0.size ≤ b6 := Nat.le_trans (Nat.le_trans (Nat.le_refl _) E2.1) (Nat.le_of_eq g6.symm)
    have C9 : CHr Z consts_1 s.vm h0 s.vm h6 := C5.trans (CHr.ext E6 C5.1)
    have V6 : Arv Z h6 b6 k6 .char (0 : Int32) [] (.int 0) := (Arv.new A6 (by decide)).pad (pad_rep [] (.int 0) 0)
    show Gl p.tables e below _ (T6.setTop (mkF m 11 #[.val (.ref tc), .val (.int n)] [(.ref b6), (.ref b2), (.ref b2)]))
    have f10 : Exa Z h6 b2 "java/lang/String" := (A2.ext E6)
    have f11 : Fld Z h6 b2 "java/lang/String" "value" "[B" .null := (F2_4.ext E6)
    have f12 : Fld Z h6 b2 "java/lang/String" "coder" "B" (.int 0) := (F2_5.ext E6)
    obtain ⟨_, _, ⟨T15, L15, k15, n15⟩, -, X15, S15, g15, ⟨Lc15, hQ15, l15, y15, z15, R15⟩, st15⟩ := X6.specialBackS hx (y := (⟨"java/lang/String", "<init>", "([C)V"⟩ : MethodName)) rfl hown (mvT hZ (tw hw 53 rfl)) (mvT hZ (tw hw 54 rfl)) (mvT hZ (tw hw 55 rfl)) (by decide) (backOfSH (W := 1) (rm_se1 l Z a0 hw [] (b2) (b6) ((0 : Int32)) (k6) h6 n0 (Nat.le_trans (Nat.le_trans Z0 E2.1) E6.1) f10 f11 f12 V6 g3) hZ (tw hw 55 rfl) (tw hw 1 rfl) (by decide) (by decide) (elW hw) C9.1) (g := (mkF m 11 #[.val (.ref tc), .val (.int n)] [(.ref b6), (.ref b2), (.ref b2)])) rfl (by rw [hml]; rfl) (Steps.refl _) (a := b2) (argsL := [(.ref b6)]) (rest := [(.ref b2)]) (lenOf pd___C_V rfl) rfl (by show 2 * 0 + _ ≤ _; exact Nat.le_of_eq rfl) (hb hby d9_11) (fun _ _ => ⟨rfl, e6, (by decide : 2 + 4 ≤ _), (by decide : 4 + 8 ≤ _)⟩)
    dsimp only [Pt.U, Pt.locs, Pt.cells, Pt.slots] at X15 l15 y15 z15 st15 hQ15 R15
    subst l15 y15 z15
    obtain ⟨X15, S15, hZ15, ho15⟩ := rebS hS0 (Nat.le_trans (Nat.le_trans (Nat.le_trans (Nat.le_of_eq (congrArg Array.size e0)) E2.1) E6.1) (Nat.le_of_eq (congrArg Array.size e6).symm)) X15 S15 g15 hZ hown
    obtain ⟨v13, v14, rfl, N15, K15, q15_0, q15_1, q15_2, q15_3⟩ := hQ15
    have C16 : CHr Z consts_1 s.vm h0 T15.vm T15.heap := C9.trans R15
    have M15 := Fr.app N0 N15
    refine Gl.to st15 ?_
    show Gl p.tables e below _ (T15.setTop (mkF m 14 #[.val (.ref tc), .val (.int n)] [(.ref b2)]))
    show Gl p.tables e below _ (T15.setTop (mkF m 14 #[.val (.ref tc), .val (.int n)] [(.ref b2)]))
    have K17 : Keep h0 T15.heap [] := ((((Keep.refl h0 []).ext E2).ext E6).trans K15 (allS (Or.inr s4) all0))
    exact Gl.retAH X15 hx S15 (Nat.le_refl _) (by rw [hh]; exact C16.trans (CHv.at X15 hZ15 (elW hw) C16.1)) Bd.returns rfl rfl (hb hby d9_14) hlk (by decide) (by decide) ⟨b2, v13, v14, ([] : List Int32), rfl, M15, K17, q15_0, q15_1, q15_2, q15_3, (by decide : ∀ c ∈ ([] : List Int32), ¬ c < 0 ∧ ¬ (255 : Int32) < c), (Nat.le_of_ble_eq_true rfl)⟩
  · refine Gl.st (fun _ kq => XS.ifYes X0.here hx rfl (pc0 := 1) (pc' := 15) rfl (hb hby d9_1) rfl ((if0 _ _).trans (feq (hc1 : ¬ (n = (0 : Int32)))).2) (by decide) (by decide) kq) ?_
    show Gl p.tables e below _ (s₁.setTop (mkF m 15 #[.val (.ref tc), .val (.int n)] []))
    refine Gl.st (fun _ kq => XS.iloadN X0.here hx rfl (hb hby d9_15) rfl kq) ?_
    refine Gl.st (fun _ kq => XS.iconst X0.here hx rfl (hb hby d9_16) kq) ?_
    show Gl p.tables e below _ (s₁.setTop (mkF m 17 #[.val (.ref tc), .val (.int n)] [(.int 1), (.int n)]))
    by_cases hc18 : n = (1 : Int32)
    · refine Gl.st (fun _ kq => XS.icmpNo X0.here hx rfl (hb hby d9_17) rfl (teq (hc18 : n = (1 : Int32))).2 kq) ?_
      show Gl p.tables e below _ (s₁.setTop (mkF m 20 #[.val (.ref tc), .val (.int n)] []))
      obtain ⟨T19, h19, X19, e19, E19, A19, D19, U19, st19⟩ := newO X0 hx hZ hown (tw hw 52 rfl) (tw hw 2 rfl) (tw hw 1 rfl) e0 (g := (mkF m 20 #[.val (.ref tc), .val (.int n)] [])) rfl (hb hby d9_20) (by decide) (by decide)
      obtain ⟨b19, g19⟩ : ∃ z, z = h0.size := ⟨_, rfl⟩
      rw [← g19] at A19 D19 U19 st19
      refine Gl.st st19 ?_
      have g20 : n0 ≤ b19 := Nat.le_trans Z0 (Nat.le_of_eq g19.symm)
      have s21 : h0.size ≤ b19 := Nat.le_trans (Nat.le_refl _) (Nat.le_of_eq g19.symm)
      have C22 : CHr Z consts_1 s.vm h0 s.vm h19 := C0.trans (CHr.ext E19 C0.1)
      have F19_4 : Fld Z h19 b19 "java/lang/String" "value" "[B" .null := D19 (Or.inr (tw hw 4 rfl)) (ty := (.array .byte)) (by decide)
      have F19_5 : Fld Z h19 b19 "java/lang/String" "coder" "B" (.int 0) := D19 (Or.inr (tw hw 5 rfl)) (ty := .byte) (by decide)
      show Gl p.tables e below _ (T19.setTop (mkF m 23 #[.val (.ref tc), .val (.int n)] [(.ref b19)]))
      refine Gl.st (fun _ kq => XS.dup X19.here hx rfl (hb hby d9_23) rfl rfl kq) ?_
      refine Gl.st (fun _ kq => XS.iconst X19.here hx rfl (hb hby d9_24) kq) ?_
      show Gl p.tables e below _ (T19.setTop (mkF m 25 #[.val (.ref tc), .val (.int n)] [(.int 1), (.ref b19), (.ref b19)]))
      obtain ⟨T23, h23, k23, X23, e23, E23, A23, st23⟩ := newP X19 hx hZ (tw hw 8 rfl) e19 (g := (mkF m 25 #[.val (.ref tc), .val (.int n)] [(.int 1), (.ref b19), (.ref b19)])) rfl (hb hby d9_25) rfl (by decide) (cap := 1) (by decide) (by decide) (by decide) (by decide)
      obtain ⟨b23, g23⟩ : ∃ z, z = h19.size := ⟨_, rfl⟩
      rw [← g23] at A23 st23
      refine Gl.st st23 ?_
      have g24 : n0 ≤ b23 := Nat.le_trans (Nat.le_trans Z0 E19.1) (Nat.le_of_eq g23.symm)
      have s25 : h0.size ≤ b23 := Nat.le_trans (Nat.le_trans (Nat.le_refl _) E19.1) (Nat.le_of_eq g23.symm)
      have C26 : CHr Z consts_1 s.vm h0 s.vm h23 := C22.trans (CHr.ext E23 C22.1)
      have V23 : Arv Z h23 b23 k23 .char (1 : Int32) [(.int 0)] (.int 0) := (Arv.new A23 (by decide)).pad (pad_rep [] (.int 0) 1)
      show Gl p.tables e below _ (T23.setTop (mkF m 27 #[.val (.ref tc), .val (.int n)] [(.ref b23), (.ref b19), (.ref b19)]))
      have f27 : Arv Z h23 tc kc .char (12 : Int32) [(.int v0), (.int v1), (.int v2), (.int v3), (.int v4), (.int v5), (.int v6), (.int v7), (.int v8), (.int v9), (.int v10), (.int v11)] (.int 0) := ((pf0.ext E19).ext E23)
      obtain ⟨T28, h28, X28, e28, W28, V28, st28⟩ := cpC X23 hx hZ e23 f27 V23 0 v0 0 #[.val (.ref tc), .val (.int n)] [(.ref b19), (.ref b19)] 27 29 31 ⟨by decide, by decide⟩ ⟨by decide, by decide⟩ rfl (nar_id hq0.1 hq0.2) rfl (Nat.le_of_ble_eq_true rfl) rfl (hb hby d9_27) (fun _ _ kq => XS.iconst X23.here hx rfl (hb hby d9_28) kq) (hb hby d9_29) (fun _ _ kq => XS.iconst X23.here hx rfl (hb hby d9_30) kq) (hb hby d9_31) (hb hby d9_32)
      refine Gl.st st28 ?_
      have C29 : CHr Z consts_1 s.vm h0 s.vm h28 := C26.trans (CHr.wr W28 (Safe.arv hZ.alike V23 (by decide)) C26.1)
      have V28 : Arv Z h28 b23 k23 .char (1 : Int32) [(.int v0)] (.int 0) := V28
      have N28 := Fr.snoc X28 N0 g24
      show Gl p.tables e below _ (T28.setTop (mkF m 33 #[.val (.ref tc), .val (.int n)] [(.ref b23), (.ref b19), (.ref b19)]))
      have f30 : Exa Z h28 b19 "java/lang/String" := ((A19.ext E23).wr W28)
      have ne31 : b19 ≠ b23 := Nat.ne_of_lt (Nat.lt_of_lt_of_le A19.lt (Nat.le_of_eq g23.symm))
      have f32 : Fld Z h28 b19 "java/lang/String" "value" "[B" .null := ((F19_4.ext E23).other W28 (Or.inl ne31))
      have f33 : Fld Z h28 b19 "java/lang/String" "coder" "B" (.int 0) := ((F19_5.ext E23).other W28 (Or.inl ne31))
      have f34 : Old Z n0 h28 := (((pf1.ext E19).ext E23).wr W28 g24)
      have hp35 : ∀ c ∈ ([v0] : List Int32), ¬ c < 0 ∧ ¬ (255 : Int32) < c := (alcS hq0 alc0)
      have Sf37 : Safe Z consts_1 s.vm h28 b19 := (Safe.wr W28 (Safe.arv hZ.alike V23 (by decide)) C26.1 (Safe.ext E23 C22.1 (Safe.ext E19 C0.1 (Safe.new (EL := consts_1) (vm := s.vm) (Nat.le_of_eq g19.symm)))))
      obtain ⟨_, _, ⟨T36, L36, k36, n36⟩, -, X36, ⟨Lc36, hQ36, l36, y36, z36⟩, st36⟩ := X28.specialBack hx (y := (⟨"java/lang/String", "<init>", "([C)V"⟩ : MethodName)) rfl hown (mvT hZ (tw hw 53 rfl)) (mvT hZ (tw hw 54 rfl)) (mvT hZ (tw hw 55 rfl)) (by decide) (StrChars.Road.backV (W := 1) hZ (wdNew hw) (kI := 4) (tw hw 2 rfl) (cs := ([v0] : List Int32)) (bs := (([v0] : List Int32).map (fun c => c.toInt8.toInt32))) (n := 1) g20 (Nat.le_trans (Nat.le_trans (Nat.le_trans Z0 E19.1) E23.1) (Keep.of_wr W28).1) f30 f32 f33 V28 (O2.ext f34.2) P5 rfl rfl (by decide) (by decide) hp35 rfl (by decide) (by decide)) (g := (mkF m 33 #[.val (.ref tc), .val (.int n)] [(.ref b23), (.ref b19), (.ref b19)])) rfl (by rw [hml]; rfl) (Steps.refl _) (a := b19) (argsL := [(.ref b23)]) (rest := [(.ref b19)]) (lenOf pd___C_V rfl) rfl (by show 2 * 0 + _ ≤ _; exact Nat.le_of_eq rfl) (hb hby d9_33) (fun _ _ => ⟨rfl, e28, (by decide : 2 + 1 ≤ _), (by decide : 5 + 1 ≤ _)⟩)
      dsimp only [Pt.U, Pt.locs, Pt.cells, Pt.slots] at X36 l36 y36 z36 st36 hQ36
      subst l36 y36 z36
      obtain ⟨rfl, N36, K36, q36_0, q36_1, t35, k35, y36_0, y36_1, y36_2, q36_2, q36_3⟩ := hQ36
      have C38 : CHr Z consts_1 s.vm h0 s.vm T36.heap := C29.trans (CHr.keep K36 (sfS Sf37 sf0) C29.1)
      have M36 := Fr.app N28 N36
      have g39 : n0 ≤ t35 := Nat.le_trans (Nat.le_trans (Nat.le_trans (Nat.le_trans Z0 E19.1) E23.1) (Keep.of_wr W28).1) y36_1
      have s40 : h0.size ≤ t35 := Nat.le_trans (Nat.le_trans (Nat.le_trans (Nat.le_trans (Nat.le_refl _) E19.1) E23.1) (Keep.of_wr W28).1) y36_1
      refine Gl.to st36 ?_
      show Gl p.tables e below _ (T36.setTop (mkF m 36 #[.val (.ref tc), .val (.int n)] [(.ref b19)]))
      show Gl p.tables e below _ (T36.setTop (mkF m 36 #[.val (.ref tc), .val (.int n)] [(.ref b19)]))
      have K41 : Keep h0 T36.heap [] := (((((Keep.refl h0 []).ext E19).ext E23).wr W28 (Or.inr s25)).trans K36 (allS (Or.inr s21) all0))
      exact Gl.retAH X36 hx hS0 (Nat.le_trans (Nat.le_trans (Nat.le_trans (Nat.le_trans (Nat.le_of_eq (congrArg Array.size e0)) E19.1) E23.1) (Keep.of_wr W28).1) K36.1) (by rw [hh]; exact C38.trans (CHv.at X36 hZ (elW hw) C38.1)) Bd.returns rfl rfl (hb hby d9_36) hlk (by decide) (by decide) ⟨b19, t35, k35, ([v0] : List Int32), rfl, M36, K41, q36_0, q36_1, q36_2, q36_3, (alcS hq0 alc0), (Nat.le_of_ble_eq_true rfl)⟩
    · refine Gl.st (fun _ kq => XS.icmpYes X0.here hx rfl (pc0 := 17) (pc' := 37) rfl (hb hby d9_17) rfl (feq (hc18 : ¬ (n = (1 : Int32)))).2 (by decide) (by decide) kq) ?_
      show Gl p.tables e below _ (s₁.setTop (mkF m 37 #[.val (.ref tc), .val (.int n)] []))
      refine Gl.st (fun _ kq => XS.iloadN X0.here hx rfl (hb hby d9_37) rfl kq) ?_
      refine Gl.st (fun _ kq => XS.iconst X0.here hx rfl (hb hby d9_38) kq) ?_
      show Gl p.tables e below _ (s₁.setTop (mkF m 39 #[.val (.ref tc), .val (.int n)] [(.int 2), (.int n)]))
      by_cases hc42 : n = (2 : Int32)
      · refine Gl.st (fun _ kq => XS.icmpNo X0.here hx rfl (hb hby d9_39) rfl (teq (hc42 : n = (2 : Int32))).2 kq) ?_
        show Gl p.tables e below _ (s₁.setTop (mkF m 42 #[.val (.ref tc), .val (.int n)] []))
        obtain ⟨T43, h43, X43, e43, E43, A43, D43, U43, st43⟩ := newO X0 hx hZ hown (tw hw 52 rfl) (tw hw 2 rfl) (tw hw 1 rfl) e0 (g := (mkF m 42 #[.val (.ref tc), .val (.int n)] [])) rfl (hb hby d9_42) (by decide) (by decide)
        obtain ⟨b43, g43⟩ : ∃ z, z = h0.size := ⟨_, rfl⟩
        rw [← g43] at A43 D43 U43 st43
        refine Gl.st st43 ?_
        have g44 : n0 ≤ b43 := Nat.le_trans Z0 (Nat.le_of_eq g43.symm)
        have s45 : h0.size ≤ b43 := Nat.le_trans (Nat.le_refl _) (Nat.le_of_eq g43.symm)
        have C46 : CHr Z consts_1 s.vm h0 s.vm h43 := C0.trans (CHr.ext E43 C0.1)
        have F43_4 : Fld Z h43 b43 "java/lang/String" "value" "[B" .null := D43 (Or.inr (tw hw 4 rfl)) (ty := (.array .byte)) (by decide)
        have F43_5 : Fld Z h43 b43 "java/lang/String" "coder" "B" (.int 0) := D43 (Or.inr (tw hw 5 rfl)) (ty := .byte) (by decide)
        show Gl p.tables e below _ (T43.setTop (mkF m 45 #[.val (.ref tc), .val (.int n)] [(.ref b43)]))
        refine Gl.st (fun _ kq => XS.dup X43.here hx rfl (hb hby d9_45) rfl rfl kq) ?_
        refine Gl.st (fun _ kq => XS.iconst X43.here hx rfl (hb hby d9_46) kq) ?_
        show Gl p.tables e below _ (T43.setTop (mkF m 47 #[.val (.ref tc), .val (.int n)] [(.int 2), (.ref b43), (.ref b43)]))
        obtain ⟨T47, h47, k47, X47, e47, E47, A47, st47⟩ := newP X43 hx hZ (tw hw 8 rfl) e43 (g := (mkF m 47 #[.val (.ref tc), .val (.int n)] [(.int 2), (.ref b43), (.ref b43)])) rfl (hb hby d9_47) rfl (by decide) (cap := 2) (by decide) (by decide) (by decide) (by decide)
        obtain ⟨b47, g47⟩ : ∃ z, z = h43.size := ⟨_, rfl⟩
        rw [← g47] at A47 st47
        refine Gl.st st47 ?_
        have g48 : n0 ≤ b47 := Nat.le_trans (Nat.le_trans Z0 E43.1) (Nat.le_of_eq g47.symm)
        have s49 : h0.size ≤ b47 := Nat.le_trans (Nat.le_trans (Nat.le_refl _) E43.1) (Nat.le_of_eq g47.symm)
        have C50 : CHr Z consts_1 s.vm h0 s.vm h47 := C46.trans (CHr.ext E47 C46.1)
        have V47 : Arv Z h47 b47 k47 .char (2 : Int32) [(.int 0), (.int 0)] (.int 0) := (Arv.new A47 (by decide)).pad (pad_rep [] (.int 0) 2)
        show Gl p.tables e below _ (T47.setTop (mkF m 49 #[.val (.ref tc), .val (.int n)] [(.ref b47), (.ref b43), (.ref b43)]))
        have f51 : Arv Z h47 tc kc .char (12 : Int32) [(.int v0), (.int v1), (.int v2), (.int v3), (.int v4), (.int v5), (.int v6), (.int v7), (.int v8), (.int v9), (.int v10), (.int v11)] (.int 0) := ((pf0.ext E43).ext E47)
        obtain ⟨T52, h52, X52, e52, W52, V52, st52⟩ := cpC X47 hx hZ e47 f51 V47 0 v0 0 #[.val (.ref tc), .val (.int n)] [(.ref b43), (.ref b43)] 49 51 53 ⟨by decide, by decide⟩ ⟨by decide, by decide⟩ rfl (nar_id hq0.1 hq0.2) rfl (Nat.le_of_ble_eq_true rfl) rfl (hb hby d9_49) (fun _ _ kq => XS.iconst X47.here hx rfl (hb hby d9_50) kq) (hb hby d9_51) (fun _ _ kq => XS.iconst X47.here hx rfl (hb hby d9_52) kq) (hb hby d9_53) (hb hby d9_54)
        refine Gl.st st52 ?_
        have C53 : CHr Z consts_1 s.vm h0 s.vm h52 := C50.trans (CHr.wr W52 (Safe.arv hZ.alike V47 (by decide)) C50.1)
        have V52 : Arv Z h52 b47 k47 .char (2 : Int32) [(.int v0), (.int 0)] (.int 0) := V52
        have N52 := Fr.snoc X52 N0 g48
        show Gl p.tables e below _ (T52.setTop (mkF m 55 #[.val (.ref tc), .val (.int n)] [(.ref b47), (.ref b43), (.ref b43)]))
        have ne54 : tc ≠ b47 := Nat.ne_of_lt (Nat.lt_of_lt_of_le (Nat.lt_of_lt_of_le pf0.lt E43.1) (Nat.le_of_eq g47.symm))
        have f55 : Arv Z h52 tc kc .char (12 : Int32) [(.int v0), (.int v1), (.int v2), (.int v3), (.int v4), (.int v5), (.int v6), (.int v7), (.int v8), (.int v9), (.int v10), (.int v11)] (.int 0) := (f51.other W52 ne54)
        obtain ⟨T56, h56, X56, e56, W56, V56, st56⟩ := cpC X52 hx hZ e52 f55 V52 1 v1 1 #[.val (.ref tc), .val (.int n)] [(.ref b43), (.ref b43)] 55 57 59 ⟨by decide, by decide⟩ ⟨by decide, by decide⟩ rfl (nar_id hq1.1 hq1.2) rfl (Nat.le_of_ble_eq_true rfl) rfl (hb hby d9_55) (fun _ _ kq => XS.iconst X52.here hx rfl (hb hby d9_56) kq) (hb hby d9_57) (fun _ _ kq => XS.iconst X52.here hx rfl (hb hby d9_58) kq) (hb hby d9_59) (hb hby d9_60)
        refine Gl.st st56 ?_
        have C57 : CHr Z consts_1 s.vm h0 s.vm h56 := C53.trans (CHr.wr W56 (Safe.arv hZ.alike V52 (by decide)) C53.1)
        have V56 : Arv Z h56 b47 k47 .char (2 : Int32) [(.int v0), (.int v1)] (.int 0) := V56
        have N56 := Fr.snoc X56 N52 g48
        show Gl p.tables e below _ (T56.setTop (mkF m 61 #[.val (.ref tc), .val (.int n)] [(.ref b47), (.ref b43), (.ref b43)]))
        have f58 : Exa Z h56 b43 "java/lang/String" := (((A43.ext E47).wr W52).wr W56)
        have ne59 : b43 ≠ b47 := Nat.ne_of_lt (Nat.lt_of_lt_of_le A43.lt (Nat.le_of_eq g47.symm))
        have f60 : Fld Z h56 b43 "java/lang/String" "value" "[B" .null := (((F43_4.ext E47).other W52 (Or.inl ne59)).other W56 (Or.inl ne59))
        have f61 : Fld Z h56 b43 "java/lang/String" "coder" "B" (.int 0) := (((F43_5.ext E47).other W52 (Or.inl ne59)).other W56 (Or.inl ne59))
        have f62 : Old Z n0 h56 := ((((pf1.ext E43).ext E47).wr W52 g48).wr W56 g48)
        have hp63 : ∀ c ∈ ([v0, v1] : List Int32), ¬ c < 0 ∧ ¬ (255 : Int32) < c := (alcS hq0 (alcS hq1 alc0))
        have Sf65 : Safe Z consts_1 s.vm h56 b43 := (Safe.wr W56 (Safe.arv hZ.alike V52 (by decide)) C53.1 (Safe.wr W52 (Safe.arv hZ.alike V47 (by decide)) C50.1 (Safe.ext E47 C46.1 (Safe.ext E43 C0.1 (Safe.new (EL := consts_1) (vm := s.vm) (Nat.le_of_eq g43.symm))))))
        obtain ⟨_, _, ⟨T64, L64, k64, n64⟩, -, X64, ⟨Lc64, hQ64, l64, y64, z64⟩, st64⟩ := X56.specialBack hx (y := (⟨"java/lang/String", "<init>", "([C)V"⟩ : MethodName)) rfl hown (mvT hZ (tw hw 53 rfl)) (mvT hZ (tw hw 54 rfl)) (mvT hZ (tw hw 55 rfl)) (by decide) (StrChars.Road.backV (W := 1) hZ (wdNew hw) (kI := 4) (tw hw 2 rfl) (cs := ([v0, v1] : List Int32)) (bs := (([v0, v1] : List Int32).map (fun c => c.toInt8.toInt32))) (n := 2) g44 (Nat.le_trans (Nat.le_trans (Nat.le_trans (Nat.le_trans Z0 E43.1) E47.1) (Keep.of_wr W52).1) (Keep.of_wr W56).1) f58 f60 f61 V56 (O2.ext f62.2) P5 rfl rfl (by decide) (by decide) hp63 rfl (by decide) (by decide)) (g := (mkF m 61 #[.val (.ref tc), .val (.int n)] [(.ref b47), (.ref b43), (.ref b43)])) rfl (by rw [hml]; rfl) (Steps.refl _) (a := b43) (argsL := [(.ref b47)]) (rest := [(.ref b43)]) (lenOf pd___C_V rfl) rfl (by show 2 * 0 + _ ≤ _; exact Nat.le_of_eq rfl) (hb hby d9_61) (fun _ _ => ⟨rfl, e56, (by decide : 2 + 1 ≤ _), (by decide : 6 + 2 ≤ _)⟩)
        dsimp only [Pt.U, Pt.locs, Pt.cells, Pt.slots] at X64 l64 y64 z64 st64 hQ64
        subst l64 y64 z64
        obtain ⟨rfl, N64, K64, q64_0, q64_1, t63, k63, y64_0, y64_1, y64_2, q64_2, q64_3⟩ := hQ64
        have C66 : CHr Z consts_1 s.vm h0 s.vm T64.heap := C57.trans (CHr.keep K64 (sfS Sf65 sf0) C57.1)
        have M64 := Fr.app N56 N64
        have g67 : n0 ≤ t63 := Nat.le_trans (Nat.le_trans (Nat.le_trans (Nat.le_trans (Nat.le_trans Z0 E43.1) E47.1) (Keep.of_wr W52).1) (Keep.of_wr W56).1) y64_1
        have s68 : h0.size ≤ t63 := Nat.le_trans (Nat.le_trans (Nat.le_trans (Nat.le_trans (Nat.le_trans (Nat.le_refl _) E43.1) E47.1) (Keep.of_wr W52).1) (Keep.of_wr W56).1) y64_1
        refine Gl.to st64 ?_
        show Gl p.tables e below _ (T64.setTop (mkF m 64 #[.val (.ref tc), .val (.int n)] [(.ref b43)]))
        show Gl p.tables e below _ (T64.setTop (mkF m 64 #[.val (.ref tc), .val (.int n)] [(.ref b43)]))
        have K69 : Keep h0 T64.heap [] := ((((((Keep.refl h0 []).ext E43).ext E47).wr W52 (Or.inr s49)).wr W56 (Or.inr s49)).trans K64 (allS (Or.inr s45) all0))
        exact Gl.retAH X64 hx hS0 (Nat.le_trans (Nat.le_trans (Nat.le_trans (Nat.le_trans (Nat.le_trans (Nat.le_of_eq (congrArg Array.size e0)) E43.1) E47.1) (Keep.of_wr W52).1) (Keep.of_wr W56).1) K64.1) (by rw [hh]; exact C66.trans (CHv.at X64 hZ (elW hw) C66.1)) Bd.returns rfl rfl (hb hby d9_64) hlk (by decide) (by decide) ⟨b43, t63, k63, ([v0, v1] : List Int32), rfl, M64, K69, q64_0, q64_1, q64_2, q64_3, (alcS hq0 (alcS hq1 alc0)), (Nat.le_of_ble_eq_true rfl)⟩
      · refine Gl.st (fun _ kq => XS.icmpYes X0.here hx rfl (pc0 := 39) (pc' := 65) rfl (hb hby d9_39) rfl (feq (hc42 : ¬ (n = (2 : Int32)))).2 (by decide) (by decide) kq) ?_
        show Gl p.tables e below _ (s₁.setTop (mkF m 65 #[.val (.ref tc), .val (.int n)] []))
        refine Gl.st (fun _ kq => XS.iloadN X0.here hx rfl (hb hby d9_65) rfl kq) ?_
        refine Gl.st (fun _ kq => XS.iconst X0.here hx rfl (hb hby d9_66) kq) ?_
        show Gl p.tables e below _ (s₁.setTop (mkF m 67 #[.val (.ref tc), .val (.int n)] [(.int 3), (.int n)]))
        by_cases hc70 : n = (3 : Int32)
        · refine Gl.st (fun _ kq => XS.icmpNo X0.here hx rfl (hb hby d9_67) rfl (teq (hc70 : n = (3 : Int32))).2 kq) ?_
          show Gl p.tables e below _ (s₁.setTop (mkF m 70 #[.val (.ref tc), .val (.int n)] []))
          obtain ⟨T71, h71, X71, e71, E71, A71, D71, U71, st71⟩ := newO X0 hx hZ hown (tw hw 52 rfl) (tw hw 2 rfl) (tw hw 1 rfl) e0 (g := (mkF m 70 #[.val (.ref tc), .val (.int n)] [])) rfl (hb hby d9_70) (by decide) (by decide)
          obtain ⟨b71, g71⟩ : ∃ z, z = h0.size := ⟨_, rfl⟩
          rw [← g71] at A71 D71 U71 st71
          refine Gl.st st71 ?_
          have g72 : n0 ≤ b71 := Nat.le_trans Z0 (Nat.le_of_eq g71.symm)
          have s73 : h0.size ≤ b71 := Nat.le_trans (Nat.le_refl _) (Nat.le_of_eq g71.symm)
          have C74 : CHr Z consts_1 s.vm h0 s.vm h71 := C0.trans (CHr.ext E71 C0.1)
          have F71_4 : Fld Z h71 b71 "java/lang/String" "value" "[B" .null := D71 (Or.inr (tw hw 4 rfl)) (ty := (.array .byte)) (by decide)
          have F71_5 : Fld Z h71 b71 "java/lang/String" "coder" "B" (.int 0) := D71 (Or.inr (tw hw 5 rfl)) (ty := .byte) (by decide)
          show Gl p.tables e below _ (T71.setTop (mkF m 73 #[.val (.ref tc), .val (.int n)] [(.ref b71)]))
          refine Gl.st (fun _ kq => XS.dup X71.here hx rfl (hb hby d9_73) rfl rfl kq) ?_
          refine Gl.st (fun _ kq => XS.iconst X71.here hx rfl (hb hby d9_74) kq) ?_
          show Gl p.tables e below _ (T71.setTop (mkF m 75 #[.val (.ref tc), .val (.int n)] [(.int 3), (.ref b71), (.ref b71)]))
          obtain ⟨T75, h75, k75, X75, e75, E75, A75, st75⟩ := newP X71 hx hZ (tw hw 8 rfl) e71 (g := (mkF m 75 #[.val (.ref tc), .val (.int n)] [(.int 3), (.ref b71), (.ref b71)])) rfl (hb hby d9_75) rfl (by decide) (cap := 3) (by decide) (by decide) (by decide) (by decide)
          obtain ⟨b75, g75⟩ : ∃ z, z = h71.size := ⟨_, rfl⟩
          rw [← g75] at A75 st75
          refine Gl.st st75 ?_
          have g76 : n0 ≤ b75 := Nat.le_trans (Nat.le_trans Z0 E71.1) (Nat.le_of_eq g75.symm)
          have s77 : h0.size ≤ b75 := Nat.le_trans (Nat.le_trans (Nat.le_refl _) E71.1) (Nat.le_of_eq g75.symm)
          have C78 : CHr Z consts_1 s.vm h0 s.vm h75 := C74.trans (CHr.ext E75 C74.1)
          have V75 : Arv Z h75 b75 k75 .char (3 : Int32) [(.int 0), (.int 0), (.int 0)] (.int 0) := (Arv.new A75 (by decide)).pad (pad_rep [] (.int 0) 3)
          show Gl p.tables e below _ (T75.setTop (mkF m 77 #[.val (.ref tc), .val (.int n)] [(.ref b75), (.ref b71), (.ref b71)]))
          have f79 : Arv Z h75 tc kc .char (12 : Int32) [(.int v0), (.int v1), (.int v2), (.int v3), (.int v4), (.int v5), (.int v6), (.int v7), (.int v8), (.int v9), (.int v10), (.int v11)] (.int 0) := ((pf0.ext E71).ext E75)
          obtain ⟨T80, h80, X80, e80, W80, V80, st80⟩ := cpC X75 hx hZ e75 f79 V75 0 v0 0 #[.val (.ref tc), .val (.int n)] [(.ref b71), (.ref b71)] 77 79 81 ⟨by decide, by decide⟩ ⟨by decide, by decide⟩ rfl (nar_id hq0.1 hq0.2) rfl (Nat.le_of_ble_eq_true rfl) rfl (hb hby d9_77) (fun _ _ kq => XS.iconst X75.here hx rfl (hb hby d9_78) kq) (hb hby d9_79) (fun _ _ kq => XS.iconst X75.here hx rfl (hb hby d9_80) kq) (hb hby d9_81) (hb hby d9_82)
          refine Gl.st st80 ?_
          have C81 : CHr Z consts_1 s.vm h0 s.vm h80 := C78.trans (CHr.wr W80 (Safe.arv hZ.alike V75 (by decide)) C78.1)
          have V80 : Arv Z h80 b75 k75 .char (3 : Int32) [(.int v0), (.int 0), (.int 0)] (.int 0) := V80
          have N80 := Fr.snoc X80 N0 g76
          show Gl p.tables e below _ (T80.setTop (mkF m 83 #[.val (.ref tc), .val (.int n)] [(.ref b75), (.ref b71), (.ref b71)]))
          have ne82 : tc ≠ b75 := Nat.ne_of_lt (Nat.lt_of_lt_of_le (Nat.lt_of_lt_of_le pf0.lt E71.1) (Nat.le_of_eq g75.symm))
          have f83 : Arv Z h80 tc kc .char (12 : Int32) [(.int v0), (.int v1), (.int v2), (.int v3), (.int v4), (.int v5), (.int v6), (.int v7), (.int v8), (.int v9), (.int v10), (.int v11)] (.int 0) := (f79.other W80 ne82)
          obtain ⟨T84, h84, X84, e84, W84, V84, st84⟩ := cpC X80 hx hZ e80 f83 V80 1 v1 1 #[.val (.ref tc), .val (.int n)] [(.ref b71), (.ref b71)] 83 85 87 ⟨by decide, by decide⟩ ⟨by decide, by decide⟩ rfl (nar_id hq1.1 hq1.2) rfl (Nat.le_of_ble_eq_true rfl) rfl (hb hby d9_83) (fun _ _ kq => XS.iconst X80.here hx rfl (hb hby d9_84) kq) (hb hby d9_85) (fun _ _ kq => XS.iconst X80.here hx rfl (hb hby d9_86) kq) (hb hby d9_87) (hb hby d9_88)
          refine Gl.st st84 ?_
          have C85 : CHr Z consts_1 s.vm h0 s.vm h84 := C81.trans (CHr.wr W84 (Safe.arv hZ.alike V80 (by decide)) C81.1)
          have V84 : Arv Z h84 b75 k75 .char (3 : Int32) [(.int v0), (.int v1), (.int 0)] (.int 0) := V84
          have N84 := Fr.snoc X84 N80 g76
          show Gl p.tables e below _ (T84.setTop (mkF m 89 #[.val (.ref tc), .val (.int n)] [(.ref b75), (.ref b71), (.ref b71)]))
          have f86 : Arv Z h84 tc kc .char (12 : Int32) [(.int v0), (.int v1), (.int v2), (.int v3), (.int v4), (.int v5), (.int v6), (.int v7), (.int v8), (.int v9), (.int v10), (.int v11)] (.int 0) := (f83.other W84 ne82)
          obtain ⟨T87, h87, X87, e87, W87, V87, st87⟩ := cpC X84 hx hZ e84 f86 V84 2 v2 2 #[.val (.ref tc), .val (.int n)] [(.ref b71), (.ref b71)] 89 91 93 ⟨by decide, by decide⟩ ⟨by decide, by decide⟩ rfl (nar_id hq2.1 hq2.2) rfl (Nat.le_of_ble_eq_true rfl) rfl (hb hby d9_89) (fun _ _ kq => XS.iconst X84.here hx rfl (hb hby d9_90) kq) (hb hby d9_91) (fun _ _ kq => XS.iconst X84.here hx rfl (hb hby d9_92) kq) (hb hby d9_93) (hb hby d9_94)
          refine Gl.st st87 ?_
          have C88 : CHr Z consts_1 s.vm h0 s.vm h87 := C85.trans (CHr.wr W87 (Safe.arv hZ.alike V84 (by decide)) C85.1)
          have V87 : Arv Z h87 b75 k75 .char (3 : Int32) [(.int v0), (.int v1), (.int v2)] (.int 0) := V87
          have N87 := Fr.snoc X87 N84 g76
          show Gl p.tables e below _ (T87.setTop (mkF m 95 #[.val (.ref tc), .val (.int n)] [(.ref b75), (.ref b71), (.ref b71)]))
          have f89 : Exa Z h87 b71 "java/lang/String" := ((((A71.ext E75).wr W80).wr W84).wr W87)
          have ne90 : b71 ≠ b75 := Nat.ne_of_lt (Nat.lt_of_lt_of_le A71.lt (Nat.le_of_eq g75.symm))
          have f91 : Fld Z h87 b71 "java/lang/String" "value" "[B" .null := ((((F71_4.ext E75).other W80 (Or.inl ne90)).other W84 (Or.inl ne90)).other W87 (Or.inl ne90))
          have f92 : Fld Z h87 b71 "java/lang/String" "coder" "B" (.int 0) := ((((F71_5.ext E75).other W80 (Or.inl ne90)).other W84 (Or.inl ne90)).other W87 (Or.inl ne90))
          have f93 : Old Z n0 h87 := (((((pf1.ext E71).ext E75).wr W80 g76).wr W84 g76).wr W87 g76)
          have hp94 : ∀ c ∈ ([v0, v1, v2] : List Int32), ¬ c < 0 ∧ ¬ (255 : Int32) < c := (alcS hq0 (alcS hq1 (alcS hq2 alc0)))
          have Sf96 : Safe Z consts_1 s.vm h87 b71 := (Safe.wr W87 (Safe.arv hZ.alike V84 (by decide)) C85.1 (Safe.wr W84 (Safe.arv hZ.alike V80 (by decide)) C81.1 (Safe.wr W80 (Safe.arv hZ.alike V75 (by decide)) C78.1 (Safe.ext E75 C74.1 (Safe.ext E71 C0.1 (Safe.new (EL := consts_1) (vm := s.vm) (Nat.le_of_eq g71.symm)))))))
          obtain ⟨_, _, ⟨T95, L95, k95, n95⟩, -, X95, ⟨Lc95, hQ95, l95, y95, z95⟩, st95⟩ := X87.specialBack hx (y := (⟨"java/lang/String", "<init>", "([C)V"⟩ : MethodName)) rfl hown (mvT hZ (tw hw 53 rfl)) (mvT hZ (tw hw 54 rfl)) (mvT hZ (tw hw 55 rfl)) (by decide) (StrChars.Road.backV (W := 1) hZ (wdNew hw) (kI := 4) (tw hw 2 rfl) (cs := ([v0, v1, v2] : List Int32)) (bs := (([v0, v1, v2] : List Int32).map (fun c => c.toInt8.toInt32))) (n := 3) g72 (Nat.le_trans (Nat.le_trans (Nat.le_trans (Nat.le_trans (Nat.le_trans Z0 E71.1) E75.1) (Keep.of_wr W80).1) (Keep.of_wr W84).1) (Keep.of_wr W87).1) f89 f91 f92 V87 (O2.ext f93.2) P5 rfl rfl (by decide) (by decide) hp94 rfl (by decide) (by decide)) (g := (mkF m 95 #[.val (.ref tc), .val (.int n)] [(.ref b75), (.ref b71), (.ref b71)])) rfl (by rw [hml]; rfl) (Steps.refl _) (a := b71) (argsL := [(.ref b75)]) (rest := [(.ref b71)]) (lenOf pd___C_V rfl) rfl (by show 2 * 0 + _ ≤ _; exact Nat.le_of_eq rfl) (hb hby d9_95) (fun _ _ => ⟨rfl, e87, (by decide : 2 + 1 ≤ _), (by decide : 7 + 3 ≤ _)⟩)
          dsimp only [Pt.U, Pt.locs, Pt.cells, Pt.slots] at X95 l95 y95 z95 st95 hQ95
          subst l95 y95 z95
          obtain ⟨rfl, N95, K95, q95_0, q95_1, t94, k94, y95_0, y95_1, y95_2, q95_2, q95_3⟩ := hQ95
          have C97 : CHr Z consts_1 s.vm h0 s.vm T95.heap := C88.trans (CHr.keep K95 (sfS Sf96 sf0) C88.1)
          have M95 := Fr.app N87 N95
          have g98 : n0 ≤ t94 := Nat.le_trans (Nat.le_trans (Nat.le_trans (Nat.le_trans (Nat.le_trans (Nat.le_trans Z0 E71.1) E75.1) (Keep.of_wr W80).1) (Keep.of_wr W84).1) (Keep.of_wr W87).1) y95_1
          have s99 : h0.size ≤ t94 := Nat.le_trans (Nat.le_trans (Nat.le_trans (Nat.le_trans (Nat.le_trans (Nat.le_trans (Nat.le_refl _) E71.1) E75.1) (Keep.of_wr W80).1) (Keep.of_wr W84).1) (Keep.of_wr W87).1) y95_1
          refine Gl.to st95 ?_
          show Gl p.tables e below _ (T95.setTop (mkF m 98 #[.val (.ref tc), .val (.int n)] [(.ref b71)]))
          show Gl p.tables e below _ (T95.setTop (mkF m 98 #[.val (.ref tc), .val (.int n)] [(.ref b71)]))
          have K100 : Keep h0 T95.heap [] := (((((((Keep.refl h0 []).ext E71).ext E75).wr W80 (Or.inr s77)).wr W84 (Or.inr s77)).wr W87 (Or.inr s77)).trans K95 (allS (Or.inr s73) all0))
          exact Gl.retAH X95 hx hS0 (Nat.le_trans (Nat.le_trans (Nat.le_trans (Nat.le_trans (Nat.le_trans (Nat.le_trans (Nat.le_of_eq (congrArg Array.size e0)) E71.1) E75.1) (Keep.of_wr W80).1) (Keep.of_wr W84).1) (Keep.of_wr W87).1) K95.1) (by rw [hh]; exact C97.trans (CHv.at X95 hZ (elW hw) C97.1)) Bd.returns rfl rfl (hb hby d9_98) hlk (by decide) (by decide) ⟨b71, t94, k94, ([v0, v1, v2] : List Int32), rfl, M95, K100, q95_0, q95_1, q95_2, q95_3, (alcS hq0 (alcS hq1 (alcS hq2 alc0))), (Nat.le_of_ble_eq_true rfl)⟩
        · refine Gl.st (fun _ kq => XS.icmpYes X0.here hx rfl (pc0 := 67) (pc' := 99) rfl (hb hby d9_67) rfl (feq (hc70 : ¬ (n = (3 : Int32)))).2 (by decide) (by decide) kq) ?_
          show Gl p.tables e below _ (s₁.setTop (mkF m 99 #[.val (.ref tc), .val (.int n)] []))
          refine Gl.st (fun _ kq => XS.iloadN X0.here hx rfl (hb hby d9_99) rfl kq) ?_
          refine Gl.st (fun _ kq => XS.iconst X0.here hx rfl (hb hby d9_100) kq) ?_
          show Gl p.tables e below _ (s₁.setTop (mkF m 101 #[.val (.ref tc), .val (.int n)] [(.int 4), (.int n)]))
          by_cases hc101 : n = (4 : Int32)
          · refine Gl.st (fun _ kq => XS.icmpNo X0.here hx rfl (hb hby d9_101) rfl (teq (hc101 : n = (4 : Int32))).2 kq) ?_
            show Gl p.tables e below _ (s₁.setTop (mkF m 104 #[.val (.ref tc), .val (.int n)] []))
            obtain ⟨T102, h102, X102, e102, E102, A102, D102, U102, st102⟩ := newO X0 hx hZ hown (tw hw 52 rfl) (tw hw 2 rfl) (tw hw 1 rfl) e0 (g := (mkF m 104 #[.val (.ref tc), .val (.int n)] [])) rfl (hb hby d9_104) (by decide) (by decide)
            obtain ⟨b102, g102⟩ : ∃ z, z = h0.size := ⟨_, rfl⟩
            rw [← g102] at A102 D102 U102 st102
            refine Gl.st st102 ?_
            have g103 : n0 ≤ b102 := Nat.le_trans Z0 (Nat.le_of_eq g102.symm)
            have s104 : h0.size ≤ b102 := Nat.le_trans (Nat.le_refl _) (Nat.le_of_eq g102.symm)
            have C105 : CHr Z consts_1 s.vm h0 s.vm h102 := C0.trans (CHr.ext E102 C0.1)
            have F102_4 : Fld Z h102 b102 "java/lang/String" "value" "[B" .null := D102 (Or.inr (tw hw 4 rfl)) (ty := (.array .byte)) (by decide)
            have F102_5 : Fld Z h102 b102 "java/lang/String" "coder" "B" (.int 0) := D102 (Or.inr (tw hw 5 rfl)) (ty := .byte) (by decide)
            show Gl p.tables e below _ (T102.setTop (mkF m 107 #[.val (.ref tc), .val (.int n)] [(.ref b102)]))
            refine Gl.st (fun _ kq => XS.dup X102.here hx rfl (hb hby d9_107) rfl rfl kq) ?_
            refine Gl.st (fun _ kq => XS.iconst X102.here hx rfl (hb hby d9_108) kq) ?_
            show Gl p.tables e below _ (T102.setTop (mkF m 109 #[.val (.ref tc), .val (.int n)] [(.int 4), (.ref b102), (.ref b102)]))
            obtain ⟨T106, h106, k106, X106, e106, E106, A106, st106⟩ := newP X102 hx hZ (tw hw 8 rfl) e102 (g := (mkF m 109 #[.val (.ref tc), .val (.int n)] [(.int 4), (.ref b102), (.ref b102)])) rfl (hb hby d9_109) rfl (by decide) (cap := 4) (by decide) (by decide) (by decide) (by decide)
            obtain ⟨b106, g106⟩ : ∃ z, z = h102.size := ⟨_, rfl⟩
            rw [← g106] at A106 st106
            refine Gl.st st106 ?_
            have g107 : n0 ≤ b106 := Nat.le_trans (Nat.le_trans Z0 E102.1) (Nat.le_of_eq g106.symm)
            have s108 : h0.size ≤ b106 := Nat.le_trans (Nat.le_trans (Nat.le_refl _) E102.1) (Nat.le_of_eq g106.symm)
            have C109 : CHr Z consts_1 s.vm h0 s.vm h106 := C105.trans (CHr.ext E106 C105.1)
            have V106 : Arv Z h106 b106 k106 .char (4 : Int32) [(.int 0), (.int 0), (.int 0), (.int 0)] (.int 0) := (Arv.new A106 (by decide)).pad (pad_rep [] (.int 0) 4)
            show Gl p.tables e below _ (T106.setTop (mkF m 111 #[.val (.ref tc), .val (.int n)] [(.ref b106), (.ref b102), (.ref b102)]))
            have f110 : Arv Z h106 tc kc .char (12 : Int32) [(.int v0), (.int v1), (.int v2), (.int v3), (.int v4), (.int v5), (.int v6), (.int v7), (.int v8), (.int v9), (.int v10), (.int v11)] (.int 0) := ((pf0.ext E102).ext E106)
            obtain ⟨T111, h111, X111, e111, W111, V111, st111⟩ := cpC X106 hx hZ e106 f110 V106 0 v0 0 #[.val (.ref tc), .val (.int n)] [(.ref b102), (.ref b102)] 111 113 115 ⟨by decide, by decide⟩ ⟨by decide, by decide⟩ rfl (nar_id hq0.1 hq0.2) rfl (Nat.le_of_ble_eq_true rfl) rfl (hb hby d9_111) (fun _ _ kq => XS.iconst X106.here hx rfl (hb hby d9_112) kq) (hb hby d9_113) (fun _ _ kq => XS.iconst X106.here hx rfl (hb hby d9_114) kq) (hb hby d9_115) (hb hby d9_116)
            refine Gl.st st111 ?_
            have C112 : CHr Z consts_1 s.vm h0 s.vm h111 := C109.trans (CHr.wr W111 (Safe.arv hZ.alike V106 (by decide)) C109.1)
            have V111 : Arv Z h111 b106 k106 .char (4 : Int32) [(.int v0), (.int 0), (.int 0), (.int 0)] (.int 0) := V111
            have N111 := Fr.snoc X111 N0 g107
            show Gl p.tables e below _ (T111.setTop (mkF m 117 #[.val (.ref tc), .val (.int n)] [(.ref b106), (.ref b102), (.ref b102)]))
            have ne113 : tc ≠ b106 := Nat.ne_of_lt (Nat.lt_of_lt_of_le (Nat.lt_of_lt_of_le pf0.lt E102.1) (Nat.le_of_eq g106.symm))
            have f114 : Arv Z h111 tc kc .char (12 : Int32) [(.int v0), (.int v1), (.int v2), (.int v3), (.int v4), (.int v5), (.int v6), (.int v7), (.int v8), (.int v9), (.int v10), (.int v11)] (.int 0) := (f110.other W111 ne113)
            obtain ⟨T115, h115, X115, e115, W115, V115, st115⟩ := cpC X111 hx hZ e111 f114 V111 1 v1 1 #[.val (.ref tc), .val (.int n)] [(.ref b102), (.ref b102)] 117 119 121 ⟨by decide, by decide⟩ ⟨by decide, by decide⟩ rfl (nar_id hq1.1 hq1.2) rfl (Nat.le_of_ble_eq_true rfl) rfl (hb hby d9_117) (fun _ _ kq => XS.iconst X111.here hx rfl (hb hby d9_118) kq) (hb hby d9_119) (fun _ _ kq => XS.iconst X111.here hx rfl (hb hby d9_120) kq) (hb hby d9_121) (hb hby d9_122)
            refine Gl.st st115 ?_
            have C116 : CHr Z consts_1 s.vm h0 s.vm h115 := C112.trans (CHr.wr W115 (Safe.arv hZ.alike V111 (by decide)) C112.1)
            have V115 : Arv Z h115 b106 k106 .char (4 : Int32) [(.int v0), (.int v1), (.int 0), (.int 0)] (.int 0) := V115
            have N115 := Fr.snoc X115 N111 g107
            show Gl p.tables e below _ (T115.setTop (mkF m 123 #[.val (.ref tc), .val (.int n)] [(.ref b106), (.ref b102), (.ref b102)]))
            have f117 : Arv Z h115 tc kc .char (12 : Int32) [(.int v0), (.int v1), (.int v2), (.int v3), (.int v4), (.int v5), (.int v6), (.int v7), (.int v8), (.int v9), (.int v10), (.int v11)] (.int 0) := (f114.other W115 ne113)
            obtain ⟨T118, h118, X118, e118, W118, V118, st118⟩ := cpC X115 hx hZ e115 f117 V115 2 v2 2 #[.val (.ref tc), .val (.int n)] [(.ref b102), (.ref b102)] 123 125 127 ⟨by decide, by decide⟩ ⟨by decide, by decide⟩ rfl (nar_id hq2.1 hq2.2) rfl (Nat.le_of_ble_eq_true rfl) rfl (hb hby d9_123) (fun _ _ kq => XS.iconst X115.here hx rfl (hb hby d9_124) kq) (hb hby d9_125) (fun _ _ kq => XS.iconst X115.here hx rfl (hb hby d9_126) kq) (hb hby d9_127) (hb hby d9_128)
            refine Gl.st st118 ?_
            have C119 : CHr Z consts_1 s.vm h0 s.vm h118 := C116.trans (CHr.wr W118 (Safe.arv hZ.alike V115 (by decide)) C116.1)
            have V118 : Arv Z h118 b106 k106 .char (4 : Int32) [(.int v0), (.int v1), (.int v2), (.int 0)] (.int 0) := V118
            have N118 := Fr.snoc X118 N115 g107
            show Gl p.tables e below _ (T118.setTop (mkF m 129 #[.val (.ref tc), .val (.int n)] [(.ref b106), (.ref b102), (.ref b102)]))
            have f120 : Arv Z h118 tc kc .char (12 : Int32) [(.int v0), (.int v1), (.int v2), (.int v3), (.int v4), (.int v5), (.int v6), (.int v7), (.int v8), (.int v9), (.int v10), (.int v11)] (.int 0) := (f117.other W118 ne113)
            obtain ⟨T121, h121, X121, e121, W121, V121, st121⟩ := cpC X118 hx hZ e118 f120 V118 3 v3 3 #[.val (.ref tc), .val (.int n)] [(.ref b102), (.ref b102)] 129 131 133 ⟨by decide, by decide⟩ ⟨by decide, by decide⟩ rfl (nar_id hq3.1 hq3.2) rfl (Nat.le_of_ble_eq_true rfl) rfl (hb hby d9_129) (fun _ _ kq => XS.iconst X118.here hx rfl (hb hby d9_130) kq) (hb hby d9_131) (fun _ _ kq => XS.iconst X118.here hx rfl (hb hby d9_132) kq) (hb hby d9_133) (hb hby d9_134)
            refine Gl.st st121 ?_
            have C122 : CHr Z consts_1 s.vm h0 s.vm h121 := C119.trans (CHr.wr W121 (Safe.arv hZ.alike V118 (by decide)) C119.1)
            have V121 : Arv Z h121 b106 k106 .char (4 : Int32) [(.int v0), (.int v1), (.int v2), (.int v3)] (.int 0) := V121
            have N121 := Fr.snoc X121 N118 g107
            show Gl p.tables e below _ (T121.setTop (mkF m 135 #[.val (.ref tc), .val (.int n)] [(.ref b106), (.ref b102), (.ref b102)]))
            have f123 : Exa Z h121 b102 "java/lang/String" := (((((A102.ext E106).wr W111).wr W115).wr W118).wr W121)
            have ne124 : b102 ≠ b106 := Nat.ne_of_lt (Nat.lt_of_lt_of_le A102.lt (Nat.le_of_eq g106.symm))
            have f125 : Fld Z h121 b102 "java/lang/String" "value" "[B" .null := (((((F102_4.ext E106).other W111 (Or.inl ne124)).other W115 (Or.inl ne124)).other W118 (Or.inl ne124)).other W121 (Or.inl ne124))
            have f126 : Fld Z h121 b102 "java/lang/String" "coder" "B" (.int 0) := (((((F102_5.ext E106).other W111 (Or.inl ne124)).other W115 (Or.inl ne124)).other W118 (Or.inl ne124)).other W121 (Or.inl ne124))
            have f127 : Old Z n0 h121 := ((((((pf1.ext E102).ext E106).wr W111 g107).wr W115 g107).wr W118 g107).wr W121 g107)
            have hp128 : ∀ c ∈ ([v0, v1, v2, v3] : List Int32), ¬ c < 0 ∧ ¬ (255 : Int32) < c := (alcS hq0 (alcS hq1 (alcS hq2 (alcS hq3 alc0))))
            have Sf130 : Safe Z consts_1 s.vm h121 b102 := (Safe.wr W121 (Safe.arv hZ.alike V118 (by decide)) C119.1 (Safe.wr W118 (Safe.arv hZ.alike V115 (by decide)) C116.1 (Safe.wr W115 (Safe.arv hZ.alike V111 (by decide)) C112.1 (Safe.wr W111 (Safe.arv hZ.alike V106 (by decide)) C109.1 (Safe.ext E106 C105.1 (Safe.ext E102 C0.1 (Safe.new (EL := consts_1) (vm := s.vm) (Nat.le_of_eq g102.symm))))))))
            obtain ⟨_, _, ⟨T129, L129, k129, n129⟩, -, X129, ⟨Lc129, hQ129, l129, y129, z129⟩, st129⟩ := X121.specialBack hx (y := (⟨"java/lang/String", "<init>", "([C)V"⟩ : MethodName)) rfl hown (mvT hZ (tw hw 53 rfl)) (mvT hZ (tw hw 54 rfl)) (mvT hZ (tw hw 55 rfl)) (by decide) (StrChars.Road.backV (W := 1) hZ (wdNew hw) (kI := 4) (tw hw 2 rfl) (cs := ([v0, v1, v2, v3] : List Int32)) (bs := (([v0, v1, v2, v3] : List Int32).map (fun c => c.toInt8.toInt32))) (n := 4) g103 (Nat.le_trans (Nat.le_trans (Nat.le_trans (Nat.le_trans (Nat.le_trans (Nat.le_trans Z0 E102.1) E106.1) (Keep.of_wr W111).1) (Keep.of_wr W115).1) (Keep.of_wr W118).1) (Keep.of_wr W121).1) f123 f125 f126 V121 (O2.ext f127.2) P5 rfl rfl (by decide) (by decide) hp128 rfl (by decide) (by decide)) (g := (mkF m 135 #[.val (.ref tc), .val (.int n)] [(.ref b106), (.ref b102), (.ref b102)])) rfl (by rw [hml]; rfl) (Steps.refl _) (a := b102) (argsL := [(.ref b106)]) (rest := [(.ref b102)]) (lenOf pd___C_V rfl) rfl (by show 2 * 0 + _ ≤ _; exact Nat.le_of_eq rfl) (hb hby d9_135) (fun _ _ => ⟨rfl, e121, (by decide : 2 + 1 ≤ _), (by decide : 8 + 4 ≤ _)⟩)
            dsimp only [Pt.U, Pt.locs, Pt.cells, Pt.slots] at X129 l129 y129 z129 st129 hQ129
            subst l129 y129 z129
            obtain ⟨rfl, N129, K129, q129_0, q129_1, t128, k128, y129_0, y129_1, y129_2, q129_2, q129_3⟩ := hQ129
            have C131 : CHr Z consts_1 s.vm h0 s.vm T129.heap := C122.trans (CHr.keep K129 (sfS Sf130 sf0) C122.1)
            have M129 := Fr.app N121 N129
            have g132 : n0 ≤ t128 := Nat.le_trans (Nat.le_trans (Nat.le_trans (Nat.le_trans (Nat.le_trans (Nat.le_trans (Nat.le_trans Z0 E102.1) E106.1) (Keep.of_wr W111).1) (Keep.of_wr W115).1) (Keep.of_wr W118).1) (Keep.of_wr W121).1) y129_1
            have s133 : h0.size ≤ t128 := Nat.le_trans (Nat.le_trans (Nat.le_trans (Nat.le_trans (Nat.le_trans (Nat.le_trans (Nat.le_trans (Nat.le_refl _) E102.1) E106.1) (Keep.of_wr W111).1) (Keep.of_wr W115).1) (Keep.of_wr W118).1) (Keep.of_wr W121).1) y129_1
            refine Gl.to st129 ?_
            show Gl p.tables e below _ (T129.setTop (mkF m 138 #[.val (.ref tc), .val (.int n)] [(.ref b102)]))
            show Gl p.tables e below _ (T129.setTop (mkF m 138 #[.val (.ref tc), .val (.int n)] [(.ref b102)]))
            have K134 : Keep h0 T129.heap [] := ((((((((Keep.refl h0 []).ext E102).ext E106).wr W111 (Or.inr s108)).wr W115 (Or.inr s108)).wr W118 (Or.inr s108)).wr W121 (Or.inr s108)).trans K129 (allS (Or.inr s104) all0))
            exact Gl.retAH X129 hx hS0 (Nat.le_trans (Nat.le_trans (Nat.le_trans (Nat.le_trans (Nat.le_trans (Nat.le_trans (Nat.le_trans (Nat.le_of_eq (congrArg Array.size e0)) E102.1) E106.1) (Keep.of_wr W111).1) (Keep.of_wr W115).1) (Keep.of_wr W118).1) (Keep.of_wr W121).1) K129.1) (by rw [hh]; exact C131.trans (CHv.at X129 hZ (elW hw) C131.1)) Bd.returns rfl rfl (hb hby d9_138) hlk (by decide) (by decide) ⟨b102, t128, k128, ([v0, v1, v2, v3] : List Int32), rfl, M129, K134, q129_0, q129_1, q129_2, q129_3, (alcS hq0 (alcS hq1 (alcS hq2 (alcS hq3 alc0)))), (Nat.le_of_ble_eq_true rfl)⟩
          · refine Gl.st (fun _ kq => XS.icmpYes X0.here hx rfl (pc0 := 101) (pc' := 139) rfl (hb hby d9_101) rfl (feq (hc101 : ¬ (n = (4 : Int32)))).2 (by decide) (by decide) kq) ?_
            show Gl p.tables e below _ (s₁.setTop (mkF m 139 #[.val (.ref tc), .val (.int n)] []))
            refine Gl.st (fun _ kq => XS.iloadN X0.here hx rfl (hb hby d9_139) rfl kq) ?_
            refine Gl.st (fun _ kq => XS.iconst X0.here hx rfl (hb hby d9_140) kq) ?_
            show Gl p.tables e below _ (s₁.setTop (mkF m 141 #[.val (.ref tc), .val (.int n)] [(.int 5), (.int n)]))
            by_cases hc135 : n = (5 : Int32)
            · refine Gl.st (fun _ kq => XS.icmpNo X0.here hx rfl (hb hby d9_141) rfl (teq (hc135 : n = (5 : Int32))).2 kq) ?_
              show Gl p.tables e below _ (s₁.setTop (mkF m 144 #[.val (.ref tc), .val (.int n)] []))
              obtain ⟨T136, h136, X136, e136, E136, A136, D136, U136, st136⟩ := newO X0 hx hZ hown (tw hw 52 rfl) (tw hw 2 rfl) (tw hw 1 rfl) e0 (g := (mkF m 144 #[.val (.ref tc), .val (.int n)] [])) rfl (hb hby d9_144) (by decide) (by decide)
              obtain ⟨b136, g136⟩ : ∃ z, z = h0.size := ⟨_, rfl⟩
              rw [← g136] at A136 D136 U136 st136
              refine Gl.st st136 ?_
              have g137 : n0 ≤ b136 := Nat.le_trans Z0 (Nat.le_of_eq g136.symm)
              have s138 : h0.size ≤ b136 := Nat.le_trans (Nat.le_refl _) (Nat.le_of_eq g136.symm)
              have C139 : CHr Z consts_1 s.vm h0 s.vm h136 := C0.trans (CHr.ext E136 C0.1)
              have F136_4 : Fld Z h136 b136 "java/lang/String" "value" "[B" .null := D136 (Or.inr (tw hw 4 rfl)) (ty := (.array .byte)) (by decide)
              have F136_5 : Fld Z h136 b136 "java/lang/String" "coder" "B" (.int 0) := D136 (Or.inr (tw hw 5 rfl)) (ty := .byte) (by decide)
              show Gl p.tables e below _ (T136.setTop (mkF m 147 #[.val (.ref tc), .val (.int n)] [(.ref b136)]))
              refine Gl.st (fun _ kq => XS.dup X136.here hx rfl (hb hby d9_147) rfl rfl kq) ?_
              refine Gl.st (fun _ kq => XS.iconst X136.here hx rfl (hb hby d9_148) kq) ?_
              show Gl p.tables e below _ (T136.setTop (mkF m 149 #[.val (.ref tc), .val (.int n)] [(.int 5), (.ref b136), (.ref b136)]))
              obtain ⟨T140, h140, k140, X140, e140, E140, A140, st140⟩ := newP X136 hx hZ (tw hw 8 rfl) e136 (g := (mkF m 149 #[.val (.ref tc), .val (.int n)] [(.int 5), (.ref b136), (.ref b136)])) rfl (hb hby d9_149) rfl (by decide) (cap := 5) (by decide) (by decide) (by decide) (by decide)
              obtain ⟨b140, g140⟩ : ∃ z, z = h136.size := ⟨_, rfl⟩
              rw [← g140] at A140 st140
              refine Gl.st st140 ?_
              have g141 : n0 ≤ b140 := Nat.le_trans (Nat.le_trans Z0 E136.1) (Nat.le_of_eq g140.symm)
              have s142 : h0.size ≤ b140 := Nat.le_trans (Nat.le_trans (Nat.le_refl _) E136.1) (Nat.le_of_eq g140.symm)
              have C143 : CHr Z consts_1 s.vm h0 s.vm h140 := C139.trans (CHr.ext E140 C139.1)
              have V140 : Arv Z h140 b140 k140 .char (5 : Int32) [(.int 0), (.int 0), (.int 0), (.int 0), (.int 0)] (.int 0) := (Arv.new A140 (by decide)).pad (pad_rep [] (.int 0) 5)
              show Gl p.tables e below _ (T140.setTop (mkF m 151 #[.val (.ref tc), .val (.int n)] [(.ref b140), (.ref b136), (.ref b136)]))
              have f144 : Arv Z h140 tc kc .char (12 : Int32) [(.int v0), (.int v1), (.int v2), (.int v3), (.int v4), (.int v5), (.int v6), (.int v7), (.int v8), (.int v9), (.int v10), (.int v11)] (.int 0) := ((pf0.ext E136).ext E140)
              obtain ⟨T145, h145, X145, e145, W145, V145, st145⟩ := cpC X140 hx hZ e140 f144 V140 0 v0 0 #[.val (.ref tc), .val (.int n)] [(.ref b136), (.ref b136)] 151 153 155 ⟨by decide, by decide⟩ ⟨by decide, by decide⟩ rfl (nar_id hq0.1 hq0.2) rfl (Nat.le_of_ble_eq_true rfl) rfl (hb hby d9_151) (fun _ _ kq => XS.iconst X140.here hx rfl (hb hby d9_152) kq) (hb hby d9_153) (fun _ _ kq => XS.iconst X140.here hx rfl (hb hby d9_154) kq) (hb hby d9_155) (hb hby d9_156)
              refine Gl.st st145 ?_
              have C146 : CHr Z consts_1 s.vm h0 s.vm h145 := C143.trans (CHr.wr W145 (Safe.arv hZ.alike V140 (by decide)) C143.1)
              have V145 : Arv Z h145 b140 k140 .char (5 : Int32) [(.int v0), (.int 0), (.int 0), (.int 0), (.int 0)] (.int 0) := V145
              have N145 := Fr.snoc X145 N0 g141
              show Gl p.tables e below _ (T145.setTop (mkF m 157 #[.val (.ref tc), .val (.int n)] [(.ref b140), (.ref b136), (.ref b136)]))
              have ne147 : tc ≠ b140 := Nat.ne_of_lt (Nat.lt_of_lt_of_le (Nat.lt_of_lt_of_le pf0.lt E136.1) (Nat.le_of_eq g140.symm))
              have f148 : Arv Z h145 tc kc .char (12 : Int32) [(.int v0), (.int v1), (.int v2), (.int v3), (.int v4), (.int v5), (.int v6), (.int v7), (.int v8), (.int v9), (.int v10), (.int v11)] (.int 0) := (f144.other W145 ne147)
              obtain ⟨T149, h149, X149, e149, W149, V149, st149⟩ := cpC X145 hx hZ e145 f148 V145 1 v1 1 #[.val (.ref tc), .val (.int n)] [(.ref b136), (.ref b136)] 157 159 161 ⟨by decide, by decide⟩ ⟨by decide, by decide⟩ rfl (nar_id hq1.1 hq1.2) rfl (Nat.le_of_ble_eq_true rfl) rfl (hb hby d9_157) (fun _ _ kq => XS.iconst X145.here hx rfl (hb hby d9_158) kq) (hb hby d9_159) (fun _ _ kq => XS.iconst X145.here hx rfl (hb hby d9_160) kq) (hb hby d9_161) (hb hby d9_162)
              refine Gl.st st149 ?_
              have C150 : CHr Z consts_1 s.vm h0 s.vm h149 := C146.trans (CHr.wr W149 (Safe.arv hZ.alike V145 (by decide)) C146.1)
              have V149 : Arv Z h149 b140 k140 .char (5 : Int32) [(.int v0), (.int v1), (.int 0), (.int 0), (.int 0)] (.int 0) := V149
              have N149 := Fr.snoc X149 N145 g141
              show Gl p.tables e below _ (T149.setTop (mkF m 163 #[.val (.ref tc), .val (.int n)] [(.ref b140), (.ref b136), (.ref b136)]))
              have f151 : Arv Z h149 tc kc .char (12 : Int32) [(.int v0), (.int v1), (.int v2), (.int v3), (.int v4), (.int v5), (.int v6), (.int v7), (.int v8), (.int v9), (.int v10), (.int v11)] (.int 0) := (f148.other W149 ne147)
              obtain ⟨T152, h152, X152, e152, W152, V152, st152⟩ := cpC X149 hx hZ e149 f151 V149 2 v2 2 #[.val (.ref tc), .val (.int n)] [(.ref b136), (.ref b136)] 163 165 167 ⟨by decide, by decide⟩ ⟨by decide, by decide⟩ rfl (nar_id hq2.1 hq2.2) rfl (Nat.le_of_ble_eq_true rfl) rfl (hb hby d9_163) (fun _ _ kq => XS.iconst X149.here hx rfl (hb hby d9_164) kq) (hb hby d9_165) (fun _ _ kq => XS.iconst X149.here hx rfl (hb hby d9_166) kq) (hb hby d9_167) (hb hby d9_168)
              refine Gl.st st152 ?_
              have C153 : CHr Z consts_1 s.vm h0 s.vm h152 := C150.trans (CHr.wr W152 (Safe.arv hZ.alike V149 (by decide)) C150.1)
              have V152 : Arv Z h152 b140 k140 .char (5 : Int32) [(.int v0), (.int v1), (.int v2), (.int 0), (.int 0)] (.int 0) := V152
              have N152 := Fr.snoc X152 N149 g141
              show Gl p.tables e below _ (T152.setTop (mkF m 169 #[.val (.ref tc), .val (.int n)] [(.ref b140), (.ref b136), (.ref b136)]))
              have f154 : Arv Z h152 tc kc .char (12 : Int32) [(.int v0), (.int v1), (.int v2), (.int v3), (.int v4), (.int v5), (.int v6), (.int v7), (.int v8), (.int v9), (.int v10), (.int v11)] (.int 0) := (f151.other W152 ne147)
              obtain ⟨T155, h155, X155, e155, W155, V155, st155⟩ := cpC X152 hx hZ e152 f154 V152 3 v3 3 #[.val (.ref tc), .val (.int n)] [(.ref b136), (.ref b136)] 169 171 173 ⟨by decide, by decide⟩ ⟨by decide, by decide⟩ rfl (nar_id hq3.1 hq3.2) rfl (Nat.le_of_ble_eq_true rfl) rfl (hb hby d9_169) (fun _ _ kq => XS.iconst X152.here hx rfl (hb hby d9_170) kq) (hb hby d9_171) (fun _ _ kq => XS.iconst X152.here hx rfl (hb hby d9_172) kq) (hb hby d9_173) (hb hby d9_174)
              refine Gl.st st155 ?_
              have C156 : CHr Z consts_1 s.vm h0 s.vm h155 := C153.trans (CHr.wr W155 (Safe.arv hZ.alike V152 (by decide)) C153.1)
              have V155 : Arv Z h155 b140 k140 .char (5 : Int32) [(.int v0), (.int v1), (.int v2), (.int v3), (.int 0)] (.int 0) := V155
              have N155 := Fr.snoc X155 N152 g141
              show Gl p.tables e below _ (T155.setTop (mkF m 175 #[.val (.ref tc), .val (.int n)] [(.ref b140), (.ref b136), (.ref b136)]))
              have f157 : Arv Z h155 tc kc .char (12 : Int32) [(.int v0), (.int v1), (.int v2), (.int v3), (.int v4), (.int v5), (.int v6), (.int v7), (.int v8), (.int v9), (.int v10), (.int v11)] (.int 0) := (f154.other W155 ne147)
              obtain ⟨T158, h158, X158, e158, W158, V158, st158⟩ := cpC X155 hx hZ e155 f157 V155 4 v4 4 #[.val (.ref tc), .val (.int n)] [(.ref b136), (.ref b136)] 175 177 179 ⟨by decide, by decide⟩ ⟨by decide, by decide⟩ rfl (nar_id hq4.1 hq4.2) rfl (Nat.le_of_ble_eq_true rfl) rfl (hb hby d9_175) (fun _ _ kq => XS.iconst X155.here hx rfl (hb hby d9_176) kq) (hb hby d9_177) (fun _ _ kq => XS.iconst X155.here hx rfl (hb hby d9_178) kq) (hb hby d9_179) (hb hby d9_180)
              refine Gl.st st158 ?_
              have C159 : CHr Z consts_1 s.vm h0 s.vm h158 := C156.trans (CHr.wr W158 (Safe.arv hZ.alike V155 (by decide)) C156.1)
              have V158 : Arv Z h158 b140 k140 .char (5 : Int32) [(.int v0), (.int v1), (.int v2), (.int v3), (.int v4)] (.int 0) := V158
              have N158 := Fr.snoc X158 N155 g141
              show Gl p.tables e below _ (T158.setTop (mkF m 181 #[.val (.ref tc), .val (.int n)] [(.ref b140), (.ref b136), (.ref b136)]))
              have f160 : Exa Z h158 b136 "java/lang/String" := ((((((A136.ext E140).wr W145).wr W149).wr W152).wr W155).wr W158)
              have ne161 : b136 ≠ b140 := Nat.ne_of_lt (Nat.lt_of_lt_of_le A136.lt (Nat.le_of_eq g140.symm))
              have f162 : Fld Z h158 b136 "java/lang/String" "value" "[B" .null := ((((((F136_4.ext E140).other W145 (Or.inl ne161)).other W149 (Or.inl ne161)).other W152 (Or.inl ne161)).other W155 (Or.inl ne161)).other W158 (Or.inl ne161))
              have f163 : Fld Z h158 b136 "java/lang/String" "coder" "B" (.int 0) := ((((((F136_5.ext E140).other W145 (Or.inl ne161)).other W149 (Or.inl ne161)).other W152 (Or.inl ne161)).other W155 (Or.inl ne161)).other W158 (Or.inl ne161))
              have f164 : Old Z n0 h158 := (((((((pf1.ext E136).ext E140).wr W145 g141).wr W149 g141).wr W152 g141).wr W155 g141).wr W158 g141)
              have hp165 : ∀ c ∈ ([v0, v1, v2, v3, v4] : List Int32), ¬ c < 0 ∧ ¬ (255 : Int32) < c := (alcS hq0 (alcS hq1 (alcS hq2 (alcS hq3 (alcS hq4 alc0)))))
              have Sf167 : Safe Z consts_1 s.vm h158 b136 := (Safe.wr W158 (Safe.arv hZ.alike V155 (by decide)) C156.1 (Safe.wr W155 (Safe.arv hZ.alike V152 (by decide)) C153.1 (Safe.wr W152 (Safe.arv hZ.alike V149 (by decide)) C150.1 (Safe.wr W149 (Safe.arv hZ.alike V145 (by decide)) C146.1 (Safe.wr W145 (Safe.arv hZ.alike V140 (by decide)) C143.1 (Safe.ext E140 C139.1 (Safe.ext E136 C0.1 (Safe.new (EL := consts_1) (vm := s.vm) (Nat.le_of_eq g136.symm)))))))))
              obtain ⟨_, _, ⟨T166, L166, k166, n166⟩, -, X166, ⟨Lc166, hQ166, l166, y166, z166⟩, st166⟩ := X158.specialBack hx (y := (⟨"java/lang/String", "<init>", "([C)V"⟩ : MethodName)) rfl hown (mvT hZ (tw hw 53 rfl)) (mvT hZ (tw hw 54 rfl)) (mvT hZ (tw hw 55 rfl)) (by decide) (StrChars.Road.backV (W := 1) hZ (wdNew hw) (kI := 4) (tw hw 2 rfl) (cs := ([v0, v1, v2, v3, v4] : List Int32)) (bs := (([v0, v1, v2, v3, v4] : List Int32).map (fun c => c.toInt8.toInt32))) (n := 5) g137 (Nat.le_trans (Nat.le_trans (Nat.le_trans (Nat.le_trans (Nat.le_trans (Nat.le_trans (Nat.le_trans Z0 E136.1) E140.1) (Keep.of_wr W145).1) (Keep.of_wr W149).1) (Keep.of_wr W152).1) (Keep.of_wr W155).1) (Keep.of_wr W158).1) f160 f162 f163 V158 (O2.ext f164.2) P5 rfl rfl (by decide) (by decide) hp165 rfl (by decide) (by decide)) (g := (mkF m 181 #[.val (.ref tc), .val (.int n)] [(.ref b140), (.ref b136), (.ref b136)])) rfl (by rw [hml]; rfl) (Steps.refl _) (a := b136) (argsL := [(.ref b140)]) (rest := [(.ref b136)]) (lenOf pd___C_V rfl) rfl (by show 2 * 0 + _ ≤ _; exact Nat.le_of_eq rfl) (hb hby d9_181) (fun _ _ => ⟨rfl, e158, (by decide : 2 + 1 ≤ _), (by decide : 9 + 5 ≤ _)⟩)
              dsimp only [Pt.U, Pt.locs, Pt.cells, Pt.slots] at X166 l166 y166 z166 st166 hQ166
              subst l166 y166 z166
              obtain ⟨rfl, N166, K166, q166_0, q166_1, t165, k165, y166_0, y166_1, y166_2, q166_2, q166_3⟩ := hQ166
              have C168 : CHr Z consts_1 s.vm h0 s.vm T166.heap := C159.trans (CHr.keep K166 (sfS Sf167 sf0) C159.1)
              have M166 := Fr.app N158 N166
              have g169 : n0 ≤ t165 := Nat.le_trans (Nat.le_trans (Nat.le_trans (Nat.le_trans (Nat.le_trans (Nat.le_trans (Nat.le_trans (Nat.le_trans Z0 E136.1) E140.1) (Keep.of_wr W145).1) (Keep.of_wr W149).1) (Keep.of_wr W152).1) (Keep.of_wr W155).1) (Keep.of_wr W158).1) y166_1
              have s170 : h0.size ≤ t165 := Nat.le_trans (Nat.le_trans (Nat.le_trans (Nat.le_trans (Nat.le_trans (Nat.le_trans (Nat.le_trans (Nat.le_trans (Nat.le_refl _) E136.1) E140.1) (Keep.of_wr W145).1) (Keep.of_wr W149).1) (Keep.of_wr W152).1) (Keep.of_wr W155).1) (Keep.of_wr W158).1) y166_1
              refine Gl.to st166 ?_
              show Gl p.tables e below _ (T166.setTop (mkF m 184 #[.val (.ref tc), .val (.int n)] [(.ref b136)]))
              show Gl p.tables e below _ (T166.setTop (mkF m 184 #[.val (.ref tc), .val (.int n)] [(.ref b136)]))
              have K171 : Keep h0 T166.heap [] := (((((((((Keep.refl h0 []).ext E136).ext E140).wr W145 (Or.inr s142)).wr W149 (Or.inr s142)).wr W152 (Or.inr s142)).wr W155 (Or.inr s142)).wr W158 (Or.inr s142)).trans K166 (allS (Or.inr s138) all0))
              exact Gl.retAH X166 hx hS0 (Nat.le_trans (Nat.le_trans (Nat.le_trans (Nat.le_trans (Nat.le_trans (Nat.le_trans (Nat.le_trans (Nat.le_trans (Nat.le_of_eq (congrArg Array.size e0)) E136.1) E140.1) (Keep.of_wr W145).1) (Keep.of_wr W149).1) (Keep.of_wr W152).1) (Keep.of_wr W155).1) (Keep.of_wr W158).1) K166.1) (by rw [hh]; exact C168.trans (CHv.at X166 hZ (elW hw) C168.1)) Bd.returns rfl rfl (hb hby d9_184) hlk (by decide) (by decide) ⟨b136, t165, k165, ([v0, v1, v2, v3, v4] : List Int32), rfl, M166, K171, q166_0, q166_1, q166_2, q166_3, (alcS hq0 (alcS hq1 (alcS hq2 (alcS hq3 (alcS hq4 alc0))))), (Nat.le_of_ble_eq_true rfl)⟩
            · refine Gl.st (fun _ kq => XS.icmpYes X0.here hx rfl (pc0 := 141) (pc' := 185) rfl (hb hby d9_141) rfl (feq (hc135 : ¬ (n = (5 : Int32)))).2 (by decide) (by decide) kq) ?_
              show Gl p.tables e below _ (s₁.setTop (mkF m 185 #[.val (.ref tc), .val (.int n)] []))
              refine Gl.st (fun _ kq => XS.iloadN X0.here hx rfl (hb hby d9_185) rfl kq) ?_
              refine Gl.st (fun _ kq => XS.bipush X0.here hx rfl (hb hby d9_186) kq) ?_
              show Gl p.tables e below _ (s₁.setTop (mkF m 188 #[.val (.ref tc), .val (.int n)] [(.int 6), (.int n)]))
              by_cases hc172 : n = (6 : Int32)
              · refine Gl.st (fun _ kq => XS.icmpNo X0.here hx rfl (hb hby d9_188) rfl (teq (hc172 : n = (6 : Int32))).2 kq) ?_
                show Gl p.tables e below _ (s₁.setTop (mkF m 191 #[.val (.ref tc), .val (.int n)] []))
                obtain ⟨T173, h173, X173, e173, E173, A173, D173, U173, st173⟩ := newO X0 hx hZ hown (tw hw 52 rfl) (tw hw 2 rfl) (tw hw 1 rfl) e0 (g := (mkF m 191 #[.val (.ref tc), .val (.int n)] [])) rfl (hb hby d9_191) (by decide) (by decide)
                obtain ⟨b173, g173⟩ : ∃ z, z = h0.size := ⟨_, rfl⟩
                rw [← g173] at A173 D173 U173 st173
                refine Gl.st st173 ?_
                have g174 : n0 ≤ b173 := Nat.le_trans Z0 (Nat.le_of_eq g173.symm)
                have s175 : h0.size ≤ b173 := Nat.le_trans (Nat.le_refl _) (Nat.le_of_eq g173.symm)
                have C176 : CHr Z consts_1 s.vm h0 s.vm h173 := C0.trans (CHr.ext E173 C0.1)
                have F173_4 : Fld Z h173 b173 "java/lang/String" "value" "[B" .null := D173 (Or.inr (tw hw 4 rfl)) (ty := (.array .byte)) (by decide)
                have F173_5 : Fld Z h173 b173 "java/lang/String" "coder" "B" (.int 0) := D173 (Or.inr (tw hw 5 rfl)) (ty := .byte) (by decide)
                show Gl p.tables e below _ (T173.setTop (mkF m 194 #[.val (.ref tc), .val (.int n)] [(.ref b173)]))
                refine Gl.st (fun _ kq => XS.dup X173.here hx rfl (hb hby d9_194) rfl rfl kq) ?_
                refine Gl.st (fun _ kq => XS.bipush X173.here hx rfl (hb hby d9_195) kq) ?_
                show Gl p.tables e below _ (T173.setTop (mkF m 197 #[.val (.ref tc), .val (.int n)] [(.int 6), (.ref b173), (.ref b173)]))
                obtain ⟨T177, h177, k177, X177, e177, E177, A177, st177⟩ := newP X173 hx hZ (tw hw 8 rfl) e173 (g := (mkF m 197 #[.val (.ref tc), .val (.int n)] [(.int 6), (.ref b173), (.ref b173)])) rfl (hb hby d9_197) rfl (by decide) (cap := 6) (by decide) (by decide) (by decide) (by decide)
                obtain ⟨b177, g177⟩ : ∃ z, z = h173.size := ⟨_, rfl⟩
                rw [← g177] at A177 st177
                refine Gl.st st177 ?_
                have g178 : n0 ≤ b177 := Nat.le_trans (Nat.le_trans Z0 E173.1) (Nat.le_of_eq g177.symm)
                have s179 : h0.size ≤ b177 := Nat.le_trans (Nat.le_trans (Nat.le_refl _) E173.1) (Nat.le_of_eq g177.symm)
                have C180 : CHr Z consts_1 s.vm h0 s.vm h177 := C176.trans (CHr.ext E177 C176.1)
                have V177 : Arv Z h177 b177 k177 .char (6 : Int32) [(.int 0), (.int 0), (.int 0), (.int 0), (.int 0), (.int 0)] (.int 0) := (Arv.new A177 (by decide)).pad (pad_rep [] (.int 0) 6)
                show Gl p.tables e below _ (T177.setTop (mkF m 199 #[.val (.ref tc), .val (.int n)] [(.ref b177), (.ref b173), (.ref b173)]))
                have f181 : Arv Z h177 tc kc .char (12 : Int32) [(.int v0), (.int v1), (.int v2), (.int v3), (.int v4), (.int v5), (.int v6), (.int v7), (.int v8), (.int v9), (.int v10), (.int v11)] (.int 0) := ((pf0.ext E173).ext E177)
                obtain ⟨T182, h182, X182, e182, W182, V182, st182⟩ := cpC X177 hx hZ e177 f181 V177 0 v0 0 #[.val (.ref tc), .val (.int n)] [(.ref b173), (.ref b173)] 199 201 203 ⟨by decide, by decide⟩ ⟨by decide, by decide⟩ rfl (nar_id hq0.1 hq0.2) rfl (Nat.le_of_ble_eq_true rfl) rfl (hb hby d9_199) (fun _ _ kq => XS.iconst X177.here hx rfl (hb hby d9_200) kq) (hb hby d9_201) (fun _ _ kq => XS.iconst X177.here hx rfl (hb hby d9_202) kq) (hb hby d9_203) (hb hby d9_204)
                refine Gl.st st182 ?_
                have C183 : CHr Z consts_1 s.vm h0 s.vm h182 := C180.trans (CHr.wr W182 (Safe.arv hZ.alike V177 (by decide)) C180.1)
                have V182 : Arv Z h182 b177 k177 .char (6 : Int32) [(.int v0), (.int 0), (.int 0), (.int 0), (.int 0), (.int 0)] (.int 0) := V182
                have N182 := Fr.snoc X182 N0 g178
                show Gl p.tables e below _ (T182.setTop (mkF m 205 #[.val (.ref tc), .val (.int n)] [(.ref b177), (.ref b173), (.ref b173)]))
                have ne184 : tc ≠ b177 := Nat.ne_of_lt (Nat.lt_of_lt_of_le (Nat.lt_of_lt_of_le pf0.lt E173.1) (Nat.le_of_eq g177.symm))
                have f185 : Arv Z h182 tc kc .char (12 : Int32) [(.int v0), (.int v1), (.int v2), (.int v3), (.int v4), (.int v5), (.int v6), (.int v7), (.int v8), (.int v9), (.int v10), (.int v11)] (.int 0) := (f181.other W182 ne184)
                obtain ⟨T186, h186, X186, e186, W186, V186, st186⟩ := cpC X182 hx hZ e182 f185 V182 1 v1 1 #[.val (.ref tc), .val (.int n)] [(.ref b173), (.ref b173)] 205 207 209 ⟨by decide, by decide⟩ ⟨by decide, by decide⟩ rfl (nar_id hq1.1 hq1.2) rfl (Nat.le_of_ble_eq_true rfl) rfl (hb hby d9_205) (fun _ _ kq => XS.iconst X182.here hx rfl (hb hby d9_206) kq) (hb hby d9_207) (fun _ _ kq => XS.iconst X182.here hx rfl (hb hby d9_208) kq) (hb hby d9_209) (hb hby d9_210)
                refine Gl.st st186 ?_
                have C187 : CHr Z consts_1 s.vm h0 s.vm h186 := C183.trans (CHr.wr W186 (Safe.arv hZ.alike V182 (by decide)) C183.1)
                have V186 : Arv Z h186 b177 k177 .char (6 : Int32) [(.int v0), (.int v1), (.int 0), (.int 0), (.int 0), (.int 0)] (.int 0) := V186
                have N186 := Fr.snoc X186 N182 g178
                show Gl p.tables e below _ (T186.setTop (mkF m 211 #[.val (.ref tc), .val (.int n)] [(.ref b177), (.ref b173), (.ref b173)]))
                have f188 : Arv Z h186 tc kc .char (12 : Int32) [(.int v0), (.int v1), (.int v2), (.int v3), (.int v4), (.int v5), (.int v6), (.int v7), (.int v8), (.int v9), (.int v10), (.int v11)] (.int 0) := (f185.other W186 ne184)
                obtain ⟨T189, h189, X189, e189, W189, V189, st189⟩ := cpC X186 hx hZ e186 f188 V186 2 v2 2 #[.val (.ref tc), .val (.int n)] [(.ref b173), (.ref b173)] 211 213 215 ⟨by decide, by decide⟩ ⟨by decide, by decide⟩ rfl (nar_id hq2.1 hq2.2) rfl (Nat.le_of_ble_eq_true rfl) rfl (hb hby d9_211) (fun _ _ kq => XS.iconst X186.here hx rfl (hb hby d9_212) kq) (hb hby d9_213) (fun _ _ kq => XS.iconst X186.here hx rfl (hb hby d9_214) kq) (hb hby d9_215) (hb hby d9_216)
                refine Gl.st st189 ?_
                have C190 : CHr Z consts_1 s.vm h0 s.vm h189 := C187.trans (CHr.wr W189 (Safe.arv hZ.alike V186 (by decide)) C187.1)
                have V189 : Arv Z h189 b177 k177 .char (6 : Int32) [(.int v0), (.int v1), (.int v2), (.int 0), (.int 0), (.int 0)] (.int 0) := V189
                have N189 := Fr.snoc X189 N186 g178
                show Gl p.tables e below _ (T189.setTop (mkF m 217 #[.val (.ref tc), .val (.int n)] [(.ref b177), (.ref b173), (.ref b173)]))
                have f191 : Arv Z h189 tc kc .char (12 : Int32) [(.int v0), (.int v1), (.int v2), (.int v3), (.int v4), (.int v5), (.int v6), (.int v7), (.int v8), (.int v9), (.int v10), (.int v11)] (.int 0) := (f188.other W189 ne184)
                obtain ⟨T192, h192, X192, e192, W192, V192, st192⟩ := cpC X189 hx hZ e189 f191 V189 3 v3 3 #[.val (.ref tc), .val (.int n)] [(.ref b173), (.ref b173)] 217 219 221 ⟨by decide, by decide⟩ ⟨by decide, by decide⟩ rfl (nar_id hq3.1 hq3.2) rfl (Nat.le_of_ble_eq_true rfl) rfl (hb hby d9_217) (fun _ _ kq => XS.iconst X189.here hx rfl (hb hby d9_218) kq) (hb hby d9_219) (fun _ _ kq => XS.iconst X189.here hx rfl (hb hby d9_220) kq) (hb hby d9_221) (hb hby d9_222)
                refine Gl.st st192 ?_
                have C193 : CHr Z consts_1 s.vm h0 s.vm h192 := C190.trans (CHr.wr W192 (Safe.arv hZ.alike V189 (by decide)) C190.1)
                have V192 : Arv Z h192 b177 k177 .char (6 : Int32) [(.int v0), (.int v1), (.int v2), (.int v3), (.int 0), (.int 0)] (.int 0) := V192
                have N192 := Fr.snoc X192 N189 g178
                show Gl p.tables e below _ (T192.setTop (mkF m 223 #[.val (.ref tc), .val (.int n)] [(.ref b177), (.ref b173), (.ref b173)]))
                have f194 : Arv Z h192 tc kc .char (12 : Int32) [(.int v0), (.int v1), (.int v2), (.int v3), (.int v4), (.int v5), (.int v6), (.int v7), (.int v8), (.int v9), (.int v10), (.int v11)] (.int 0) := (f191.other W192 ne184)
                obtain ⟨T195, h195, X195, e195, W195, V195, st195⟩ := cpC X192 hx hZ e192 f194 V192 4 v4 4 #[.val (.ref tc), .val (.int n)] [(.ref b173), (.ref b173)] 223 225 227 ⟨by decide, by decide⟩ ⟨by decide, by decide⟩ rfl (nar_id hq4.1 hq4.2) rfl (Nat.le_of_ble_eq_true rfl) rfl (hb hby d9_223) (fun _ _ kq => XS.iconst X192.here hx rfl (hb hby d9_224) kq) (hb hby d9_225) (fun _ _ kq => XS.iconst X192.here hx rfl (hb hby d9_226) kq) (hb hby d9_227) (hb hby d9_228)
                refine Gl.st st195 ?_
                have C196 : CHr Z consts_1 s.vm h0 s.vm h195 := C193.trans (CHr.wr W195 (Safe.arv hZ.alike V192 (by decide)) C193.1)
                have V195 : Arv Z h195 b177 k177 .char (6 : Int32) [(.int v0), (.int v1), (.int v2), (.int v3), (.int v4), (.int 0)] (.int 0) := V195
                have N195 := Fr.snoc X195 N192 g178
                show Gl p.tables e below _ (T195.setTop (mkF m 229 #[.val (.ref tc), .val (.int n)] [(.ref b177), (.ref b173), (.ref b173)]))
                have f197 : Arv Z h195 tc kc .char (12 : Int32) [(.int v0), (.int v1), (.int v2), (.int v3), (.int v4), (.int v5), (.int v6), (.int v7), (.int v8), (.int v9), (.int v10), (.int v11)] (.int 0) := (f194.other W195 ne184)
                obtain ⟨T198, h198, X198, e198, W198, V198, st198⟩ := cpC X195 hx hZ e195 f197 V195 5 v5 5 #[.val (.ref tc), .val (.int n)] [(.ref b173), (.ref b173)] 229 231 233 ⟨by decide, by decide⟩ ⟨by decide, by decide⟩ rfl (nar_id hq5.1 hq5.2) rfl (Nat.le_of_ble_eq_true rfl) rfl (hb hby d9_229) (fun _ _ kq => XS.iconst X195.here hx rfl (hb hby d9_230) kq) (hb hby d9_231) (fun _ _ kq => XS.iconst X195.here hx rfl (hb hby d9_232) kq) (hb hby d9_233) (hb hby d9_234)
                refine Gl.st st198 ?_
                have C199 : CHr Z consts_1 s.vm h0 s.vm h198 := C196.trans (CHr.wr W198 (Safe.arv hZ.alike V195 (by decide)) C196.1)
                have V198 : Arv Z h198 b177 k177 .char (6 : Int32) [(.int v0), (.int v1), (.int v2), (.int v3), (.int v4), (.int v5)] (.int 0) := V198
                have N198 := Fr.snoc X198 N195 g178
                show Gl p.tables e below _ (T198.setTop (mkF m 235 #[.val (.ref tc), .val (.int n)] [(.ref b177), (.ref b173), (.ref b173)]))
                have f200 : Exa Z h198 b173 "java/lang/String" := (((((((A173.ext E177).wr W182).wr W186).wr W189).wr W192).wr W195).wr W198)
                have ne201 : b173 ≠ b177 := Nat.ne_of_lt (Nat.lt_of_lt_of_le A173.lt (Nat.le_of_eq g177.symm))
                have f202 : Fld Z h198 b173 "java/lang/String" "value" "[B" .null := (((((((F173_4.ext E177).other W182 (Or.inl ne201)).other W186 (Or.inl ne201)).other W189 (Or.inl ne201)).other W192 (Or.inl ne201)).other W195 (Or.inl ne201)).other W198 (Or.inl ne201))
                have f203 : Fld Z h198 b173 "java/lang/String" "coder" "B" (.int 0) := (((((((F173_5.ext E177).other W182 (Or.inl ne201)).other W186 (Or.inl ne201)).other W189 (Or.inl ne201)).other W192 (Or.inl ne201)).other W195 (Or.inl ne201)).other W198 (Or.inl ne201))
                have f204 : Old Z n0 h198 := ((((((((pf1.ext E173).ext E177).wr W182 g178).wr W186 g178).wr W189 g178).wr W192 g178).wr W195 g178).wr W198 g178)
                have hp205 : ∀ c ∈ ([v0, v1, v2, v3, v4, v5] : List Int32), ¬ c < 0 ∧ ¬ (255 : Int32) < c := (alcS hq0 (alcS hq1 (alcS hq2 (alcS hq3 (alcS hq4 (alcS hq5 alc0))))))
                have Sf207 : Safe Z consts_1 s.vm h198 b173 := (Safe.wr W198 (Safe.arv hZ.alike V195 (by decide)) C196.1 (Safe.wr W195 (Safe.arv hZ.alike V192 (by decide)) C193.1 (Safe.wr W192 (Safe.arv hZ.alike V189 (by decide)) C190.1 (Safe.wr W189 (Safe.arv hZ.alike V186 (by decide)) C187.1 (Safe.wr W186 (Safe.arv hZ.alike V182 (by decide)) C183.1 (Safe.wr W182 (Safe.arv hZ.alike V177 (by decide)) C180.1 (Safe.ext E177 C176.1 (Safe.ext E173 C0.1 (Safe.new (EL := consts_1) (vm := s.vm) (Nat.le_of_eq g173.symm))))))))))
                obtain ⟨_, _, ⟨T206, L206, k206, n206⟩, -, X206, ⟨Lc206, hQ206, l206, y206, z206⟩, st206⟩ := X198.specialBack hx (y := (⟨"java/lang/String", "<init>", "([C)V"⟩ : MethodName)) rfl hown (mvT hZ (tw hw 53 rfl)) (mvT hZ (tw hw 54 rfl)) (mvT hZ (tw hw 55 rfl)) (by decide) (StrChars.Road.backV (W := 1) hZ (wdNew hw) (kI := 4) (tw hw 2 rfl) (cs := ([v0, v1, v2, v3, v4, v5] : List Int32)) (bs := (([v0, v1, v2, v3, v4, v5] : List Int32).map (fun c => c.toInt8.toInt32))) (n := 6) g174 (Nat.le_trans (Nat.le_trans (Nat.le_trans (Nat.le_trans (Nat.le_trans (Nat.le_trans (Nat.le_trans (Nat.le_trans Z0 E173.1) E177.1) (Keep.of_wr W182).1) (Keep.of_wr W186).1) (Keep.of_wr W189).1) (Keep.of_wr W192).1) (Keep.of_wr W195).1) (Keep.of_wr W198).1) f200 f202 f203 V198 (O2.ext f204.2) P5 rfl rfl (by decide) (by decide) hp205 rfl (by decide) (by decide)) (g := (mkF m 235 #[.val (.ref tc), .val (.int n)] [(.ref b177), (.ref b173), (.ref b173)])) rfl (by rw [hml]; rfl) (Steps.refl _) (a := b173) (argsL := [(.ref b177)]) (rest := [(.ref b173)]) (lenOf pd___C_V rfl) rfl (by show 2 * 0 + _ ≤ _; exact Nat.le_of_eq rfl) (hb hby d9_235) (fun _ _ => ⟨rfl, e198, (by decide : 2 + 1 ≤ _), (by decide : 10 + 6 ≤ _)⟩)
                dsimp only [Pt.U, Pt.locs, Pt.cells, Pt.slots] at X206 l206 y206 z206 st206 hQ206
                subst l206 y206 z206
                obtain ⟨rfl, N206, K206, q206_0, q206_1, t205, k205, y206_0, y206_1, y206_2, q206_2, q206_3⟩ := hQ206
                have C208 : CHr Z consts_1 s.vm h0 s.vm T206.heap := C199.trans (CHr.keep K206 (sfS Sf207 sf0) C199.1)
                have M206 := Fr.app N198 N206
                have g209 : n0 ≤ t205 := Nat.le_trans (Nat.le_trans (Nat.le_trans (Nat.le_trans (Nat.le_trans (Nat.le_trans (Nat.le_trans (Nat.le_trans (Nat.le_trans Z0 E173.1) E177.1) (Keep.of_wr W182).1) (Keep.of_wr W186).1) (Keep.of_wr W189).1) (Keep.of_wr W192).1) (Keep.of_wr W195).1) (Keep.of_wr W198).1) y206_1
                have s210 : h0.size ≤ t205 := Nat.le_trans (Nat.le_trans (Nat.le_trans (Nat.le_trans (Nat.le_trans (Nat.le_trans (Nat.le_trans (Nat.le_trans (Nat.le_trans (Nat.le_refl _) E173.1) E177.1) (Keep.of_wr W182).1) (Keep.of_wr W186).1) (Keep.of_wr W189).1) (Keep.of_wr W192).1) (Keep.of_wr W195).1) (Keep.of_wr W198).1) y206_1
                refine Gl.to st206 ?_
                show Gl p.tables e below _ (T206.setTop (mkF m 238 #[.val (.ref tc), .val (.int n)] [(.ref b173)]))
                show Gl p.tables e below _ (T206.setTop (mkF m 238 #[.val (.ref tc), .val (.int n)] [(.ref b173)]))
                have K211 : Keep h0 T206.heap [] := ((((((((((Keep.refl h0 []).ext E173).ext E177).wr W182 (Or.inr s179)).wr W186 (Or.inr s179)).wr W189 (Or.inr s179)).wr W192 (Or.inr s179)).wr W195 (Or.inr s179)).wr W198 (Or.inr s179)).trans K206 (allS (Or.inr s175) all0))
                exact Gl.retAH X206 hx hS0 (Nat.le_trans (Nat.le_trans (Nat.le_trans (Nat.le_trans (Nat.le_trans (Nat.le_trans (Nat.le_trans (Nat.le_trans (Nat.le_trans (Nat.le_of_eq (congrArg Array.size e0)) E173.1) E177.1) (Keep.of_wr W182).1) (Keep.of_wr W186).1) (Keep.of_wr W189).1) (Keep.of_wr W192).1) (Keep.of_wr W195).1) (Keep.of_wr W198).1) K206.1) (by rw [hh]; exact C208.trans (CHv.at X206 hZ (elW hw) C208.1)) Bd.returns rfl rfl (hb hby d9_238) hlk (by decide) (by decide) ⟨b173, t205, k205, ([v0, v1, v2, v3, v4, v5] : List Int32), rfl, M206, K211, q206_0, q206_1, q206_2, q206_3, (alcS hq0 (alcS hq1 (alcS hq2 (alcS hq3 (alcS hq4 (alcS hq5 alc0)))))), (Nat.le_of_ble_eq_true rfl)⟩
              · refine Gl.st (fun _ kq => XS.icmpYes X0.here hx rfl (pc0 := 188) (pc' := 239) rfl (hb hby d9_188) rfl (feq (hc172 : ¬ (n = (6 : Int32)))).2 (by decide) (by decide) kq) ?_
                show Gl p.tables e below _ (s₁.setTop (mkF m 239 #[.val (.ref tc), .val (.int n)] []))
                refine Gl.st (fun _ kq => XS.iloadN X0.here hx rfl (hb hby d9_239) rfl kq) ?_
                refine Gl.st (fun _ kq => XS.bipush X0.here hx rfl (hb hby d9_240) kq) ?_
                show Gl p.tables e below _ (s₁.setTop (mkF m 242 #[.val (.ref tc), .val (.int n)] [(.int 7), (.int n)]))
                by_cases hc212 : n = (7 : Int32)
                · refine Gl.st (fun _ kq => XS.icmpNo X0.here hx rfl (hb hby d9_242) rfl (teq (hc212 : n = (7 : Int32))).2 kq) ?_
                  show Gl p.tables e below _ (s₁.setTop (mkF m 245 #[.val (.ref tc), .val (.int n)] []))
                  obtain ⟨T213, h213, X213, e213, E213, A213, D213, U213, st213⟩ := newO X0 hx hZ hown (tw hw 52 rfl) (tw hw 2 rfl) (tw hw 1 rfl) e0 (g := (mkF m 245 #[.val (.ref tc), .val (.int n)] [])) rfl (hb hby d9_245) (by decide) (by decide)
                  obtain ⟨b213, g213⟩ : ∃ z, z = h0.size := ⟨_, rfl⟩
                  rw [← g213] at A213 D213 U213 st213
                  refine Gl.st st213 ?_
                  have g214 : n0 ≤ b213 := Nat.le_trans Z0 (Nat.le_of_eq g213.symm)
                  have s215 : h0.size ≤ b213 := Nat.le_trans (Nat.le_refl _) (Nat.le_of_eq g213.symm)
                  have C216 : CHr Z consts_1 s.vm h0 s.vm h213 := C0.trans (CHr.ext E213 C0.1)
                  have F213_4 : Fld Z h213 b213 "java/lang/String" "value" "[B" .null := D213 (Or.inr (tw hw 4 rfl)) (ty := (.array .byte)) (by decide)
                  have F213_5 : Fld Z h213 b213 "java/lang/String" "coder" "B" (.int 0) := D213 (Or.inr (tw hw 5 rfl)) (ty := .byte) (by decide)
                  show Gl p.tables e below _ (T213.setTop (mkF m 248 #[.val (.ref tc), .val (.int n)] [(.ref b213)]))
                  refine Gl.st (fun _ kq => XS.dup X213.here hx rfl (hb hby d9_248) rfl rfl kq) ?_
                  refine Gl.st (fun _ kq => XS.bipush X213.here hx rfl (hb hby d9_249) kq) ?_
                  show Gl p.tables e below _ (T213.setTop (mkF m 251 #[.val (.ref tc), .val (.int n)] [(.int 7), (.ref b213), (.ref b213)]))
                  obtain ⟨T217, h217, k217, X217, e217, E217, A217, st217⟩ := newP X213 hx hZ (tw hw 8 rfl) e213 (g := (mkF m 251 #[.val (.ref tc), .val (.int n)] [(.int 7), (.ref b213), (.ref b213)])) rfl (hb hby d9_251) rfl (by decide) (cap := 7) (by decide) (by decide) (by decide) (by decide)
                  obtain ⟨b217, g217⟩ : ∃ z, z = h213.size := ⟨_, rfl⟩
                  rw [← g217] at A217 st217
                  refine Gl.st st217 ?_
                  have g218 : n0 ≤ b217 := Nat.le_trans (Nat.le_trans Z0 E213.1) (Nat.le_of_eq g217.symm)
                  have s219 : h0.size ≤ b217 := Nat.le_trans (Nat.le_trans (Nat.le_refl _) E213.1) (Nat.le_of_eq g217.symm)
                  have C220 : CHr Z consts_1 s.vm h0 s.vm h217 := C216.trans (CHr.ext E217 C216.1)
                  have V217 : Arv Z h217 b217 k217 .char (7 : Int32) [(.int 0), (.int 0), (.int 0), (.int 0), (.int 0), (.int 0), (.int 0)] (.int 0) := (Arv.new A217 (by decide)).pad (pad_rep [] (.int 0) 7)
                  show Gl p.tables e below _ (T217.setTop (mkF m 253 #[.val (.ref tc), .val (.int n)] [(.ref b217), (.ref b213), (.ref b213)]))
                  have f221 : Arv Z h217 tc kc .char (12 : Int32) [(.int v0), (.int v1), (.int v2), (.int v3), (.int v4), (.int v5), (.int v6), (.int v7), (.int v8), (.int v9), (.int v10), (.int v11)] (.int 0) := ((pf0.ext E213).ext E217)
                  obtain ⟨T222, h222, X222, e222, W222, V222, st222⟩ := cpC X217 hx hZ e217 f221 V217 0 v0 0 #[.val (.ref tc), .val (.int n)] [(.ref b213), (.ref b213)] 253 255 257 ⟨by decide, by decide⟩ ⟨by decide, by decide⟩ rfl (nar_id hq0.1 hq0.2) rfl (Nat.le_of_ble_eq_true rfl) rfl (hb hby d9_253) (fun _ _ kq => XS.iconst X217.here hx rfl (hb hby d9_254) kq) (hb hby d9_255) (fun _ _ kq => XS.iconst X217.here hx rfl (hb hby d9_256) kq) (hb hby d9_257) (hb hby d9_258)
                  refine Gl.st st222 ?_
                  have C223 : CHr Z consts_1 s.vm h0 s.vm h222 := C220.trans (CHr.wr W222 (Safe.arv hZ.alike V217 (by decide)) C220.1)
                  have V222 : Arv Z h222 b217 k217 .char (7 : Int32) [(.int v0), (.int 0), (.int 0), (.int 0), (.int 0), (.int 0), (.int 0)] (.int 0) := V222
                  have N222 := Fr.snoc X222 N0 g218
                  show Gl p.tables e below _ (T222.setTop (mkF m 259 #[.val (.ref tc), .val (.int n)] [(.ref b217), (.ref b213), (.ref b213)]))
                  have ne224 : tc ≠ b217 := Nat.ne_of_lt (Nat.lt_of_lt_of_le (Nat.lt_of_lt_of_le pf0.lt E213.1) (Nat.le_of_eq g217.symm))
                  have f225 : Arv Z h222 tc kc .char (12 : Int32) [(.int v0), (.int v1), (.int v2), (.int v3), (.int v4), (.int v5), (.int v6), (.int v7), (.int v8), (.int v9), (.int v10), (.int v11)] (.int 0) := (f221.other W222 ne224)
                  obtain ⟨T226, h226, X226, e226, W226, V226, st226⟩ := cpC X222 hx hZ e222 f225 V222 1 v1 1 #[.val (.ref tc), .val (.int n)] [(.ref b213), (.ref b213)] 259 261 263 ⟨by decide, by decide⟩ ⟨by decide, by decide⟩ rfl (nar_id hq1.1 hq1.2) rfl (Nat.le_of_ble_eq_true rfl) rfl (hb hby d9_259) (fun _ _ kq => XS.iconst X222.here hx rfl (hb hby d9_260) kq) (hb hby d9_261) (fun _ _ kq => XS.iconst X222.here hx rfl (hb hby d9_262) kq) (hb hby d9_263) (hb hby d9_264)
                  refine Gl.st st226 ?_
                  have C227 : CHr Z consts_1 s.vm h0 s.vm h226 := C223.trans (CHr.wr W226 (Safe.arv hZ.alike V222 (by decide)) C223.1)
                  have V226 : Arv Z h226 b217 k217 .char (7 : Int32) [(.int v0), (.int v1), (.int 0), (.int 0), (.int 0), (.int 0), (.int 0)] (.int 0) := V226
                  have N226 := Fr.snoc X226 N222 g218
                  show Gl p.tables e below _ (T226.setTop (mkF m 265 #[.val (.ref tc), .val (.int n)] [(.ref b217), (.ref b213), (.ref b213)]))
                  have f228 : Arv Z h226 tc kc .char (12 : Int32) [(.int v0), (.int v1), (.int v2), (.int v3), (.int v4), (.int v5), (.int v6), (.int v7), (.int v8), (.int v9), (.int v10), (.int v11)] (.int 0) := (f225.other W226 ne224)
                  obtain ⟨T229, h229, X229, e229, W229, V229, st229⟩ := cpC X226 hx hZ e226 f228 V226 2 v2 2 #[.val (.ref tc), .val (.int n)] [(.ref b213), (.ref b213)] 265 267 269 ⟨by decide, by decide⟩ ⟨by decide, by decide⟩ rfl (nar_id hq2.1 hq2.2) rfl (Nat.le_of_ble_eq_true rfl) rfl (hb hby d9_265) (fun _ _ kq => XS.iconst X226.here hx rfl (hb hby d9_266) kq) (hb hby d9_267) (fun _ _ kq => XS.iconst X226.here hx rfl (hb hby d9_268) kq) (hb hby d9_269) (hb hby d9_270)
                  refine Gl.st st229 ?_
                  have C230 : CHr Z consts_1 s.vm h0 s.vm h229 := C227.trans (CHr.wr W229 (Safe.arv hZ.alike V226 (by decide)) C227.1)
                  have V229 : Arv Z h229 b217 k217 .char (7 : Int32) [(.int v0), (.int v1), (.int v2), (.int 0), (.int 0), (.int 0), (.int 0)] (.int 0) := V229
                  have N229 := Fr.snoc X229 N226 g218
                  show Gl p.tables e below _ (T229.setTop (mkF m 271 #[.val (.ref tc), .val (.int n)] [(.ref b217), (.ref b213), (.ref b213)]))
                  have f231 : Arv Z h229 tc kc .char (12 : Int32) [(.int v0), (.int v1), (.int v2), (.int v3), (.int v4), (.int v5), (.int v6), (.int v7), (.int v8), (.int v9), (.int v10), (.int v11)] (.int 0) := (f228.other W229 ne224)
                  obtain ⟨T232, h232, X232, e232, W232, V232, st232⟩ := cpC X229 hx hZ e229 f231 V229 3 v3 3 #[.val (.ref tc), .val (.int n)] [(.ref b213), (.ref b213)] 271 273 275 ⟨by decide, by decide⟩ ⟨by decide, by decide⟩ rfl (nar_id hq3.1 hq3.2) rfl (Nat.le_of_ble_eq_true rfl) rfl (hb hby d9_271) (fun _ _ kq => XS.iconst X229.here hx rfl (hb hby d9_272) kq) (hb hby d9_273) (fun _ _ kq => XS.iconst X229.here hx rfl (hb hby d9_274) kq) (hb hby d9_275) (hb hby d9_276)
                  refine Gl.st st232 ?_
                  have C233 : CHr Z consts_1 s.vm h0 s.vm h232 := C230.trans (CHr.wr W232 (Safe.arv hZ.alike V229 (by decide)) C230.1)
                  have V232 : Arv Z h232 b217 k217 .char (7 : Int32) [(.int v0), (.int v1), (.int v2), (.int v3), (.int 0), (.int 0), (.int 0)] (.int 0) := V232
                  have N232 := Fr.snoc X232 N229 g218
                  show Gl p.tables e below _ (T232.setTop (mkF m 277 #[.val (.ref tc), .val (.int n)] [(.ref b217), (.ref b213), (.ref b213)]))
                  have f234 : Arv Z h232 tc kc .char (12 : Int32) [(.int v0), (.int v1), (.int v2), (.int v3), (.int v4), (.int v5), (.int v6), (.int v7), (.int v8), (.int v9), (.int v10), (.int v11)] (.int 0) := (f231.other W232 ne224)
                  obtain ⟨T235, h235, X235, e235, W235, V235, st235⟩ := cpC X232 hx hZ e232 f234 V232 4 v4 4 #[.val (.ref tc), .val (.int n)] [(.ref b213), (.ref b213)] 277 279 281 ⟨by decide, by decide⟩ ⟨by decide, by decide⟩ rfl (nar_id hq4.1 hq4.2) rfl (Nat.le_of_ble_eq_true rfl) rfl (hb hby d9_277) (fun _ _ kq => XS.iconst X232.here hx rfl (hb hby d9_278) kq) (hb hby d9_279) (fun _ _ kq => XS.iconst X232.here hx rfl (hb hby d9_280) kq) (hb hby d9_281) (hb hby d9_282)
                  refine Gl.st st235 ?_
                  have C236 : CHr Z consts_1 s.vm h0 s.vm h235 := C233.trans (CHr.wr W235 (Safe.arv hZ.alike V232 (by decide)) C233.1)
                  have V235 : Arv Z h235 b217 k217 .char (7 : Int32) [(.int v0), (.int v1), (.int v2), (.int v3), (.int v4), (.int 0), (.int 0)] (.int 0) := V235
                  have N235 := Fr.snoc X235 N232 g218
                  show Gl p.tables e below _ (T235.setTop (mkF m 283 #[.val (.ref tc), .val (.int n)] [(.ref b217), (.ref b213), (.ref b213)]))
                  have f237 : Arv Z h235 tc kc .char (12 : Int32) [(.int v0), (.int v1), (.int v2), (.int v3), (.int v4), (.int v5), (.int v6), (.int v7), (.int v8), (.int v9), (.int v10), (.int v11)] (.int 0) := (f234.other W235 ne224)
                  obtain ⟨T238, h238, X238, e238, W238, V238, st238⟩ := cpC X235 hx hZ e235 f237 V235 5 v5 5 #[.val (.ref tc), .val (.int n)] [(.ref b213), (.ref b213)] 283 285 287 ⟨by decide, by decide⟩ ⟨by decide, by decide⟩ rfl (nar_id hq5.1 hq5.2) rfl (Nat.le_of_ble_eq_true rfl) rfl (hb hby d9_283) (fun _ _ kq => XS.iconst X235.here hx rfl (hb hby d9_284) kq) (hb hby d9_285) (fun _ _ kq => XS.iconst X235.here hx rfl (hb hby d9_286) kq) (hb hby d9_287) (hb hby d9_288)
                  refine Gl.st st238 ?_
                  have C239 : CHr Z consts_1 s.vm h0 s.vm h238 := C236.trans (CHr.wr W238 (Safe.arv hZ.alike V235 (by decide)) C236.1)
                  have V238 : Arv Z h238 b217 k217 .char (7 : Int32) [(.int v0), (.int v1), (.int v2), (.int v3), (.int v4), (.int v5), (.int 0)] (.int 0) := V238
                  have N238 := Fr.snoc X238 N235 g218
                  show Gl p.tables e below _ (T238.setTop (mkF m 289 #[.val (.ref tc), .val (.int n)] [(.ref b217), (.ref b213), (.ref b213)]))
                  have f240 : Arv Z h238 tc kc .char (12 : Int32) [(.int v0), (.int v1), (.int v2), (.int v3), (.int v4), (.int v5), (.int v6), (.int v7), (.int v8), (.int v9), (.int v10), (.int v11)] (.int 0) := (f237.other W238 ne224)
                  obtain ⟨T241, h241, X241, e241, W241, V241, st241⟩ := cpC X238 hx hZ e238 f240 V238 6 v6 6 #[.val (.ref tc), .val (.int n)] [(.ref b213), (.ref b213)] 289 292 295 ⟨by decide, by decide⟩ ⟨by decide, by decide⟩ rfl (nar_id hq6.1 hq6.2) rfl (Nat.le_of_ble_eq_true rfl) rfl (hb hby d9_289) (fun _ _ kq => XS.bipush X238.here hx rfl (hb hby d9_290) kq) (hb hby d9_292) (fun _ _ kq => XS.bipush X238.here hx rfl (hb hby d9_293) kq) (hb hby d9_295) (hb hby d9_296)
                  refine Gl.st st241 ?_
                  have C242 : CHr Z consts_1 s.vm h0 s.vm h241 := C239.trans (CHr.wr W241 (Safe.arv hZ.alike V238 (by decide)) C239.1)
                  have V241 : Arv Z h241 b217 k217 .char (7 : Int32) [(.int v0), (.int v1), (.int v2), (.int v3), (.int v4), (.int v5), (.int v6)] (.int 0) := V241
                  have N241 := Fr.snoc X241 N238 g218
                  show Gl p.tables e below _ (T241.setTop (mkF m 297 #[.val (.ref tc), .val (.int n)] [(.ref b217), (.ref b213), (.ref b213)]))
                  have f243 : Exa Z h241 b213 "java/lang/String" := ((((((((A213.ext E217).wr W222).wr W226).wr W229).wr W232).wr W235).wr W238).wr W241)
                  have ne244 : b213 ≠ b217 := Nat.ne_of_lt (Nat.lt_of_lt_of_le A213.lt (Nat.le_of_eq g217.symm))
                  have f245 : Fld Z h241 b213 "java/lang/String" "value" "[B" .null := ((((((((F213_4.ext E217).other W222 (Or.inl ne244)).other W226 (Or.inl ne244)).other W229 (Or.inl ne244)).other W232 (Or.inl ne244)).other W235 (Or.inl ne244)).other W238 (Or.inl ne244)).other W241 (Or.inl ne244))
                  have f246 : Fld Z h241 b213 "java/lang/String" "coder" "B" (.int 0) := ((((((((F213_5.ext E217).other W222 (Or.inl ne244)).other W226 (Or.inl ne244)).other W229 (Or.inl ne244)).other W232 (Or.inl ne244)).other W235 (Or.inl ne244)).other W238 (Or.inl ne244)).other W241 (Or.inl ne244))
                  have f247 : Old Z n0 h241 := (((((((((pf1.ext E213).ext E217).wr W222 g218).wr W226 g218).wr W229 g218).wr W232 g218).wr W235 g218).wr W238 g218).wr W241 g218)
                  have hp248 : ∀ c ∈ ([v0, v1, v2, v3, v4, v5, v6] : List Int32), ¬ c < 0 ∧ ¬ (255 : Int32) < c := (alcS hq0 (alcS hq1 (alcS hq2 (alcS hq3 (alcS hq4 (alcS hq5 (alcS hq6 alc0)))))))
                  have Sf250 : Safe Z consts_1 s.vm h241 b213 := (Safe.wr W241 (Safe.arv hZ.alike V238 (by decide)) C239.1 (Safe.wr W238 (Safe.arv hZ.alike V235 (by decide)) C236.1 (Safe.wr W235 (Safe.arv hZ.alike V232 (by decide)) C233.1 (Safe.wr W232 (Safe.arv hZ.alike V229 (by decide)) C230.1 (Safe.wr W229 (Safe.arv hZ.alike V226 (by decide)) C227.1 (Safe.wr W226 (Safe.arv hZ.alike V222 (by decide)) C223.1 (Safe.wr W222 (Safe.arv hZ.alike V217 (by decide)) C220.1 (Safe.ext E217 C216.1 (Safe.ext E213 C0.1 (Safe.new (EL := consts_1) (vm := s.vm) (Nat.le_of_eq g213.symm)))))))))))
                  obtain ⟨_, _, ⟨T249, L249, k249, n249⟩, -, X249, ⟨Lc249, hQ249, l249, y249, z249⟩, st249⟩ := X241.specialBack hx (y := (⟨"java/lang/String", "<init>", "([C)V"⟩ : MethodName)) rfl hown (mvT hZ (tw hw 53 rfl)) (mvT hZ (tw hw 54 rfl)) (mvT hZ (tw hw 55 rfl)) (by decide) (StrChars.Road.backV (W := 1) hZ (wdNew hw) (kI := 4) (tw hw 2 rfl) (cs := ([v0, v1, v2, v3, v4, v5, v6] : List Int32)) (bs := (([v0, v1, v2, v3, v4, v5, v6] : List Int32).map (fun c => c.toInt8.toInt32))) (n := 7) g214 (Nat.le_trans (Nat.le_trans (Nat.le_trans (Nat.le_trans (Nat.le_trans (Nat.le_trans (Nat.le_trans (Nat.le_trans (Nat.le_trans Z0 E213.1) E217.1) (Keep.of_wr W222).1) (Keep.of_wr W226).1) (Keep.of_wr W229).1) (Keep.of_wr W232).1) (Keep.of_wr W235).1) (Keep.of_wr W238).1) (Keep.of_wr W241).1) f243 f245 f246 V241 (O2.ext f247.2) P5 rfl rfl (by decide) (by decide) hp248 rfl (by decide) (by decide)) (g := (mkF m 297 #[.val (.ref tc), .val (.int n)] [(.ref b217), (.ref b213), (.ref b213)])) rfl (by rw [hml]; rfl) (Steps.refl _) (a := b213) (argsL := [(.ref b217)]) (rest := [(.ref b213)]) (lenOf pd___C_V rfl) rfl (by show 2 * 0 + _ ≤ _; exact Nat.le_of_eq rfl) (hb hby d9_297) (fun _ _ => ⟨rfl, e241, (by decide : 2 + 1 ≤ _), (by decide : 11 + 7 ≤ _)⟩)
                  dsimp only [Pt.U, Pt.locs, Pt.cells, Pt.slots] at X249 l249 y249 z249 st249 hQ249
                  subst l249 y249 z249
                  obtain ⟨rfl, N249, K249, q249_0, q249_1, t248, k248, y249_0, y249_1, y249_2, q249_2, q249_3⟩ := hQ249
                  have C251 : CHr Z consts_1 s.vm h0 s.vm T249.heap := C242.trans (CHr.keep K249 (sfS Sf250 sf0) C242.1)
                  have M249 := Fr.app N241 N249
                  have g252 : n0 ≤ t248 := Nat.le_trans (Nat.le_trans (Nat.le_trans (Nat.le_trans (Nat.le_trans (Nat.le_trans (Nat.le_trans (Nat.le_trans (Nat.le_trans (Nat.le_trans Z0 E213.1) E217.1) (Keep.of_wr W222).1) (Keep.of_wr W226).1) (Keep.of_wr W229).1) (Keep.of_wr W232).1) (Keep.of_wr W235).1) (Keep.of_wr W238).1) (Keep.of_wr W241).1) y249_1
                  have s253 : h0.size ≤ t248 := Nat.le_trans (Nat.le_trans (Nat.le_trans (Nat.le_trans (Nat.le_trans (Nat.le_trans (Nat.le_trans (Nat.le_trans (Nat.le_trans (Nat.le_trans (Nat.le_refl _) E213.1) E217.1) (Keep.of_wr W222).1) (Keep.of_wr W226).1) (Keep.of_wr W229).1) (Keep.of_wr W232).1) (Keep.of_wr W235).1) (Keep.of_wr W238).1) (Keep.of_wr W241).1) y249_1
                  refine Gl.to st249 ?_
                  show Gl p.tables e below _ (T249.setTop (mkF m 300 #[.val (.ref tc), .val (.int n)] [(.ref b213)]))
                  show Gl p.tables e below _ (T249.setTop (mkF m 300 #[.val (.ref tc), .val (.int n)] [(.ref b213)]))
                  have K254 : Keep h0 T249.heap [] := (((((((((((Keep.refl h0 []).ext E213).ext E217).wr W222 (Or.inr s219)).wr W226 (Or.inr s219)).wr W229 (Or.inr s219)).wr W232 (Or.inr s219)).wr W235 (Or.inr s219)).wr W238 (Or.inr s219)).wr W241 (Or.inr s219)).trans K249 (allS (Or.inr s215) all0))
                  exact Gl.retAH X249 hx hS0 (Nat.le_trans (Nat.le_trans (Nat.le_trans (Nat.le_trans (Nat.le_trans (Nat.le_trans (Nat.le_trans (Nat.le_trans (Nat.le_trans (Nat.le_trans (Nat.le_of_eq (congrArg Array.size e0)) E213.1) E217.1) (Keep.of_wr W222).1) (Keep.of_wr W226).1) (Keep.of_wr W229).1) (Keep.of_wr W232).1) (Keep.of_wr W235).1) (Keep.of_wr W238).1) (Keep.of_wr W241).1) K249.1) (by rw [hh]; exact C251.trans (CHv.at X249 hZ (elW hw) C251.1)) Bd.returns rfl rfl (hb hby d9_300) hlk (by decide) (by decide) ⟨b213, t248, k248, ([v0, v1, v2, v3, v4, v5, v6] : List Int32), rfl, M249, K254, q249_0, q249_1, q249_2, q249_3, (alcS hq0 (alcS hq1 (alcS hq2 (alcS hq3 (alcS hq4 (alcS hq5 (alcS hq6 alc0))))))), (Nat.le_of_ble_eq_true rfl)⟩
                · refine Gl.st (fun _ kq => XS.icmpYes X0.here hx rfl (pc0 := 242) (pc' := 301) rfl (hb hby d9_242) rfl (feq (hc212 : ¬ (n = (7 : Int32)))).2 (by decide) (by decide) kq) ?_
                  show Gl p.tables e below _ (s₁.setTop (mkF m 301 #[.val (.ref tc), .val (.int n)] []))
                  refine Gl.st (fun _ kq => XS.iloadN X0.here hx rfl (hb hby d9_301) rfl kq) ?_
                  refine Gl.st (fun _ kq => XS.bipush X0.here hx rfl (hb hby d9_302) kq) ?_
                  show Gl p.tables e below _ (s₁.setTop (mkF m 304 #[.val (.ref tc), .val (.int n)] [(.int 8), (.int n)]))
                  by_cases hc255 : n = (8 : Int32)
                  · refine Gl.st (fun _ kq => XS.icmpNo X0.here hx rfl (hb hby d9_304) rfl (teq (hc255 : n = (8 : Int32))).2 kq) ?_
                    show Gl p.tables e below _ (s₁.setTop (mkF m 307 #[.val (.ref tc), .val (.int n)] []))
                    obtain ⟨T256, h256, X256, e256, E256, A256, D256, U256, st256⟩ := newO X0 hx hZ hown (tw hw 52 rfl) (tw hw 2 rfl) (tw hw 1 rfl) e0 (g := (mkF m 307 #[.val (.ref tc), .val (.int n)] [])) rfl (hb hby d9_307) (by decide) (by decide)
                    obtain ⟨b256, g256⟩ : ∃ z, z = h0.size := ⟨_, rfl⟩
                    rw [← g256] at A256 D256 U256 st256
                    refine Gl.st st256 ?_
                    have g257 : n0 ≤ b256 := Nat.le_trans Z0 (Nat.le_of_eq g256.symm)
                    have s258 : h0.size ≤ b256 := Nat.le_trans (Nat.le_refl _) (Nat.le_of_eq g256.symm)
                    have C259 : CHr Z consts_1 s.vm h0 s.vm h256 := C0.trans (CHr.ext E256 C0.1)
                    have F256_4 : Fld Z h256 b256 "java/lang/String" "value" "[B" .null := D256 (Or.inr (tw hw 4 rfl)) (ty := (.array .byte)) (by decide)
                    have F256_5 : Fld Z h256 b256 "java/lang/String" "coder" "B" (.int 0) := D256 (Or.inr (tw hw 5 rfl)) (ty := .byte) (by decide)
                    show Gl p.tables e below _ (T256.setTop (mkF m 310 #[.val (.ref tc), .val (.int n)] [(.ref b256)]))
                    refine Gl.st (fun _ kq => XS.dup X256.here hx rfl (hb hby d9_310) rfl rfl kq) ?_
                    refine Gl.st (fun _ kq => XS.bipush X256.here hx rfl (hb hby d9_311) kq) ?_
                    show Gl p.tables e below _ (T256.setTop (mkF m 313 #[.val (.ref tc), .val (.int n)] [(.int 8), (.ref b256), (.ref b256)]))
                    obtain ⟨T260, h260, k260, X260, e260, E260, A260, st260⟩ := newP X256 hx hZ (tw hw 8 rfl) e256 (g := (mkF m 313 #[.val (.ref tc), .val (.int n)] [(.int 8), (.ref b256), (.ref b256)])) rfl (hb hby d9_313) rfl (by decide) (cap := 8) (by decide) (by decide) (by decide) (by decide)
                    obtain ⟨b260, g260⟩ : ∃ z, z = h256.size := ⟨_, rfl⟩
                    rw [← g260] at A260 st260
                    refine Gl.st st260 ?_
                    have g261 : n0 ≤ b260 := Nat.le_trans (Nat.le_trans Z0 E256.1) (Nat.le_of_eq g260.symm)
                    have s262 : h0.size ≤ b260 := Nat.le_trans (Nat.le_trans (Nat.le_refl _) E256.1) (Nat.le_of_eq g260.symm)
                    have C263 : CHr Z consts_1 s.vm h0 s.vm h260 := C259.trans (CHr.ext E260 C259.1)
                    have V260 : Arv Z h260 b260 k260 .char (8 : Int32) [(.int 0), (.int 0), (.int 0), (.int 0), (.int 0), (.int 0), (.int 0), (.int 0)] (.int 0) := (Arv.new A260 (by decide)).pad (pad_rep [] (.int 0) 8)
                    show Gl p.tables e below _ (T260.setTop (mkF m 315 #[.val (.ref tc), .val (.int n)] [(.ref b260), (.ref b256), (.ref b256)]))
                    have f264 : Arv Z h260 tc kc .char (12 : Int32) [(.int v0), (.int v1), (.int v2), (.int v3), (.int v4), (.int v5), (.int v6), (.int v7), (.int v8), (.int v9), (.int v10), (.int v11)] (.int 0) := ((pf0.ext E256).ext E260)
                    obtain ⟨T265, h265, X265, e265, W265, V265, st265⟩ := cpC X260 hx hZ e260 f264 V260 0 v0 0 #[.val (.ref tc), .val (.int n)] [(.ref b256), (.ref b256)] 315 317 319 ⟨by decide, by decide⟩ ⟨by decide, by decide⟩ rfl (nar_id hq0.1 hq0.2) rfl (Nat.le_of_ble_eq_true rfl) rfl (hb hby d9_315) (fun _ _ kq => XS.iconst X260.here hx rfl (hb hby d9_316) kq) (hb hby d9_317) (fun _ _ kq => XS.iconst X260.here hx rfl (hb hby d9_318) kq) (hb hby d9_319) (hb hby d9_320)
                    refine Gl.st st265 ?_
                    have C266 : CHr Z consts_1 s.vm h0 s.vm h265 := C263.trans (CHr.wr W265 (Safe.arv hZ.alike V260 (by decide)) C263.1)
                    have V265 : Arv Z h265 b260 k260 .char (8 : Int32) [(.int v0), (.int 0), (.int 0), (.int 0), (.int 0), (.int 0), (.int 0), (.int 0)] (.int 0) := V265
                    have N265 := Fr.snoc X265 N0 g261
                    show Gl p.tables e below _ (T265.setTop (mkF m 321 #[.val (.ref tc), .val (.int n)] [(.ref b260), (.ref b256), (.ref b256)]))
                    have ne267 : tc ≠ b260 := Nat.ne_of_lt (Nat.lt_of_lt_of_le (Nat.lt_of_lt_of_le pf0.lt E256.1) (Nat.le_of_eq g260.symm))
                    have f268 : Arv Z h265 tc kc .char (12 : Int32) [(.int v0), (.int v1), (.int v2), (.int v3), (.int v4), (.int v5), (.int v6), (.int v7), (.int v8), (.int v9), (.int v10), (.int v11)] (.int 0) := (f264.other W265 ne267)
                    obtain ⟨T269, h269, X269, e269, W269, V269, st269⟩ := cpC X265 hx hZ e265 f268 V265 1 v1 1 #[.val (.ref tc), .val (.int n)] [(.ref b256), (.ref b256)] 321 323 325 ⟨by decide, by decide⟩ ⟨by decide, by decide⟩ rfl (nar_id hq1.1 hq1.2) rfl (Nat.le_of_ble_eq_true rfl) rfl (hb hby d9_321) (fun _ _ kq => XS.iconst X265.here hx rfl (hb hby d9_322) kq) (hb hby d9_323) (fun _ _ kq => XS.iconst X265.here hx rfl (hb hby d9_324) kq) (hb hby d9_325) (hb hby d9_326)
                    refine Gl.st st269 ?_
                    have C270 : CHr Z consts_1 s.vm h0 s.vm h269 := C266.trans (CHr.wr W269 (Safe.arv hZ.alike V265 (by decide)) C266.1)
                    have V269 : Arv Z h269 b260 k260 .char (8 : Int32) [(.int v0), (.int v1), (.int 0), (.int 0), (.int 0), (.int 0), (.int 0), (.int 0)] (.int 0) := V269
                    have N269 := Fr.snoc X269 N265 g261
                    show Gl p.tables e below _ (T269.setTop (mkF m 327 #[.val (.ref tc), .val (.int n)] [(.ref b260), (.ref b256), (.ref b256)]))
                    have f271 : Arv Z h269 tc kc .char (12 : Int32) [(.int v0), (.int v1), (.int v2), (.int v3), (.int v4), (.int v5), (.int v6), (.int v7), (.int v8), (.int v9), (.int v10), (.int v11)] (.int 0) := (f268.other W269 ne267)
                    obtain ⟨T272, h272, X272, e272, W272, V272, st272⟩ := cpC X269 hx hZ e269 f271 V269 2 v2 2 #[.val (.ref tc), .val (.int n)] [(.ref b256), (.ref b256)] 327 329 331 ⟨by decide, by decide⟩ ⟨by decide, by decide⟩ rfl (nar_id hq2.1 hq2.2) rfl (Nat.le_of_ble_eq_true rfl) rfl (hb hby d9_327) (fun _ _ kq => XS.iconst X269.here hx rfl (hb hby d9_328) kq) (hb hby d9_329) (fun _ _ kq => XS.iconst X269.here hx rfl (hb hby d9_330) kq) (hb hby d9_331) (hb hby d9_332)
                    refine Gl.st st272 ?_
                    have C273 : CHr Z consts_1 s.vm h0 s.vm h272 := C270.trans (CHr.wr W272 (Safe.arv hZ.alike V269 (by decide)) C270.1)
                    have V272 : Arv Z h272 b260 k260 .char (8 : Int32) [(.int v0), (.int v1), (.int v2), (.int 0), (.int 0), (.int 0), (.int 0), (.int 0)] (.int 0) := V272
                    have N272 := Fr.snoc X272 N269 g261
                    show Gl p.tables e below _ (T272.setTop (mkF m 333 #[.val (.ref tc), .val (.int n)] [(.ref b260), (.ref b256), (.ref b256)]))
                    have f274 : Arv Z h272 tc kc .char (12 : Int32) [(.int v0), (.int v1), (.int v2), (.int v3), (.int v4), (.int v5), (.int v6), (.int v7), (.int v8), (.int v9), (.int v10), (.int v11)] (.int 0) := (f271.other W272 ne267)
                    obtain ⟨T275, h275, X275, e275, W275, V275, st275⟩ := cpC X272 hx hZ e272 f274 V272 3 v3 3 #[.val (.ref tc), .val (.int n)] [(.ref b256), (.ref b256)] 333 335 337 ⟨by decide, by decide⟩ ⟨by decide, by decide⟩ rfl (nar_id hq3.1 hq3.2) rfl (Nat.le_of_ble_eq_true rfl) rfl (hb hby d9_333) (fun _ _ kq => XS.iconst X272.here hx rfl (hb hby d9_334) kq) (hb hby d9_335) (fun _ _ kq => XS.iconst X272.here hx rfl (hb hby d9_336) kq) (hb hby d9_337) (hb hby d9_338)
                    refine Gl.st st275 ?_
                    have C276 : CHr Z consts_1 s.vm h0 s.vm h275 := C273.trans (CHr.wr W275 (Safe.arv hZ.alike V272 (by decide)) C273.1)
                    have V275 : Arv Z h275 b260 k260 .char (8 : Int32) [(.int v0), (.int v1), (.int v2), (.int v3), (.int 0), (.int 0), (.int 0), (.int 0)] (.int 0) := V275
                    have N275 := Fr.snoc X275 N272 g261
                    show Gl p.tables e below _ (T275.setTop (mkF m 339 #[.val (.ref tc), .val (.int n)] [(.ref b260), (.ref b256), (.ref b256)]))
                    have f277 : Arv Z h275 tc kc .char (12 : Int32) [(.int v0), (.int v1), (.int v2), (.int v3), (.int v4), (.int v5), (.int v6), (.int v7), (.int v8), (.int v9), (.int v10), (.int v11)] (.int 0) := (f274.other W275 ne267)
                    obtain ⟨T278, h278, X278, e278, W278, V278, st278⟩ := cpC X275 hx hZ e275 f277 V275 4 v4 4 #[.val (.ref tc), .val (.int n)] [(.ref b256), (.ref b256)] 339 341 343 ⟨by decide, by decide⟩ ⟨by decide, by decide⟩ rfl (nar_id hq4.1 hq4.2) rfl (Nat.le_of_ble_eq_true rfl) rfl (hb hby d9_339) (fun _ _ kq => XS.iconst X275.here hx rfl (hb hby d9_340) kq) (hb hby d9_341) (fun _ _ kq => XS.iconst X275.here hx rfl (hb hby d9_342) kq) (hb hby d9_343) (hb hby d9_344)
                    refine Gl.st st278 ?_
                    have C279 : CHr Z consts_1 s.vm h0 s.vm h278 := C276.trans (CHr.wr W278 (Safe.arv hZ.alike V275 (by decide)) C276.1)
                    have V278 : Arv Z h278 b260 k260 .char (8 : Int32) [(.int v0), (.int v1), (.int v2), (.int v3), (.int v4), (.int 0), (.int 0), (.int 0)] (.int 0) := V278
                    have N278 := Fr.snoc X278 N275 g261
                    show Gl p.tables e below _ (T278.setTop (mkF m 345 #[.val (.ref tc), .val (.int n)] [(.ref b260), (.ref b256), (.ref b256)]))
                    have f280 : Arv Z h278 tc kc .char (12 : Int32) [(.int v0), (.int v1), (.int v2), (.int v3), (.int v4), (.int v5), (.int v6), (.int v7), (.int v8), (.int v9), (.int v10), (.int v11)] (.int 0) := (f277.other W278 ne267)
                    obtain ⟨T281, h281, X281, e281, W281, V281, st281⟩ := cpC X278 hx hZ e278 f280 V278 5 v5 5 #[.val (.ref tc), .val (.int n)] [(.ref b256), (.ref b256)] 345 347 349 ⟨by decide, by decide⟩ ⟨by decide, by decide⟩ rfl (nar_id hq5.1 hq5.2) rfl (Nat.le_of_ble_eq_true rfl) rfl (hb hby d9_345) (fun _ _ kq => XS.iconst X278.here hx rfl (hb hby d9_346) kq) (hb hby d9_347) (fun _ _ kq => XS.iconst X278.here hx rfl (hb hby d9_348) kq) (hb hby d9_349) (hb hby d9_350)
                    refine Gl.st st281 ?_
                    have C282 : CHr Z consts_1 s.vm h0 s.vm h281 := C279.trans (CHr.wr W281 (Safe.arv hZ.alike V278 (by decide)) C279.1)
                    have V281 : Arv Z h281 b260 k260 .char (8 : Int32) [(.int v0), (.int v1), (.int v2), (.int v3), (.int v4), (.int v5), (.int 0), (.int 0)] (.int 0) := V281
                    have N281 := Fr.snoc X281 N278 g261
                    show Gl p.tables e below _ (T281.setTop (mkF m 351 #[.val (.ref tc), .val (.int n)] [(.ref b260), (.ref b256), (.ref b256)]))
                    have f283 : Arv Z h281 tc kc .char (12 : Int32) [(.int v0), (.int v1), (.int v2), (.int v3), (.int v4), (.int v5), (.int v6), (.int v7), (.int v8), (.int v9), (.int v10), (.int v11)] (.int 0) := (f280.other W281 ne267)
                    obtain ⟨T284, h284, X284, e284, W284, V284, st284⟩ := cpC X281 hx hZ e281 f283 V281 6 v6 6 #[.val (.ref tc), .val (.int n)] [(.ref b256), (.ref b256)] 351 354 357 ⟨by decide, by decide⟩ ⟨by decide, by decide⟩ rfl (nar_id hq6.1 hq6.2) rfl (Nat.le_of_ble_eq_true rfl) rfl (hb hby d9_351) (fun _ _ kq => XS.bipush X281.here hx rfl (hb hby d9_352) kq) (hb hby d9_354) (fun _ _ kq => XS.bipush X281.here hx rfl (hb hby d9_355) kq) (hb hby d9_357) (hb hby d9_358)
                    refine Gl.st st284 ?_
                    have C285 : CHr Z consts_1 s.vm h0 s.vm h284 := C282.trans (CHr.wr W284 (Safe.arv hZ.alike V281 (by decide)) C282.1)
                    have V284 : Arv Z h284 b260 k260 .char (8 : Int32) [(.int v0), (.int v1), (.int v2), (.int v3), (.int v4), (.int v5), (.int v6), (.int 0)] (.int 0) := V284
                    have N284 := Fr.snoc X284 N281 g261
                    show Gl p.tables e below _ (T284.setTop (mkF m 359 #[.val (.ref tc), .val (.int n)] [(.ref b260), (.ref b256), (.ref b256)]))
                    have f286 : Arv Z h284 tc kc .char (12 : Int32) [(.int v0), (.int v1), (.int v2), (.int v3), (.int v4), (.int v5), (.int v6), (.int v7), (.int v8), (.int v9), (.int v10), (.int v11)] (.int 0) := (f283.other W284 ne267)
                    obtain ⟨T287, h287, X287, e287, W287, V287, st287⟩ := cpC X284 hx hZ e284 f286 V284 7 v7 7 #[.val (.ref tc), .val (.int n)] [(.ref b256), (.ref b256)] 359 362 365 ⟨by decide, by decide⟩ ⟨by decide, by decide⟩ rfl (nar_id hq7.1 hq7.2) rfl (Nat.le_of_ble_eq_true rfl) rfl (hb hby d9_359) (fun _ _ kq => XS.bipush X284.here hx rfl (hb hby d9_360) kq) (hb hby d9_362) (fun _ _ kq => XS.bipush X284.here hx rfl (hb hby d9_363) kq) (hb hby d9_365) (hb hby d9_366)
                    refine Gl.st st287 ?_
                    have C288 : CHr Z consts_1 s.vm h0 s.vm h287 := C285.trans (CHr.wr W287 (Safe.arv hZ.alike V284 (by decide)) C285.1)
                    have V287 : Arv Z h287 b260 k260 .char (8 : Int32) [(.int v0), (.int v1), (.int v2), (.int v3), (.int v4), (.int v5), (.int v6), (.int v7)] (.int 0) := V287
                    have N287 := Fr.snoc X287 N284 g261
                    show Gl p.tables e below _ (T287.setTop (mkF m 367 #[.val (.ref tc), .val (.int n)] [(.ref b260), (.ref b256), (.ref b256)]))
                    have f289 : Exa Z h287 b256 "java/lang/String" := (((((((((A256.ext E260).wr W265).wr W269).wr W272).wr W275).wr W278).wr W281).wr W284).wr W287)
                    have ne290 : b256 ≠ b260 := Nat.ne_of_lt (Nat.lt_of_lt_of_le A256.lt (Nat.le_of_eq g260.symm))
                    have f291 : Fld Z h287 b256 "java/lang/String" "value" "[B" .null := (((((((((F256_4.ext E260).other W265 (Or.inl ne290)).other W269 (Or.inl ne290)).other W272 (Or.inl ne290)).other W275 (Or.inl ne290)).other W278 (Or.inl ne290)).other W281 (Or.inl ne290)).other W284 (Or.inl ne290)).other W287 (Or.inl ne290))
                    have f292 : Fld Z h287 b256 "java/lang/String" "coder" "B" (.int 0) := (((((((((F256_5.ext E260).other W265 (Or.inl ne290)).other W269 (Or.inl ne290)).other W272 (Or.inl ne290)).other W275 (Or.inl ne290)).other W278 (Or.inl ne290)).other W281 (Or.inl ne290)).other W284 (Or.inl ne290)).other W287 (Or.inl ne290))
                    have f293 : Old Z n0 h287 := ((((((((((pf1.ext E256).ext E260).wr W265 g261).wr W269 g261).wr W272 g261).wr W275 g261).wr W278 g261).wr W281 g261).wr W284 g261).wr W287 g261)
                    have hp294 : ∀ c ∈ ([v0, v1, v2, v3, v4, v5, v6, v7] : List Int32), ¬ c < 0 ∧ ¬ (255 : Int32) < c := (alcS hq0 (alcS hq1 (alcS hq2 (alcS hq3 (alcS hq4 (alcS hq5 (alcS hq6 (alcS hq7 alc0))))))))
                    have Sf296 : Safe Z consts_1 s.vm h287 b256 := (Safe.wr W287 (Safe.arv hZ.alike V284 (by decide)) C285.1 (Safe.wr W284 (Safe.arv hZ.alike V281 (by decide)) C282.1 (Safe.wr W281 (Safe.arv hZ.alike V278 (by decide)) C279.1 (Safe.wr W278 (Safe.arv hZ.alike V275 (by decide)) C276.1 (Safe.wr W275 (Safe.arv hZ.alike V272 (by decide)) C273.1 (Safe.wr W272 (Safe.arv hZ.alike V269 (by decide)) C270.1 (Safe.wr W269 (Safe.arv hZ.alike V265 (by decide)) C266.1 (Safe.wr W265 (Safe.arv hZ.alike V260 (by decide)) C263.1 (Safe.ext E260 C259.1 (Safe.ext E256 C0.1 (Safe.new (EL := consts_1) (vm := s.vm) (Nat.le_of_eq g256.symm))))))))))))
                    obtain ⟨_, _, ⟨T295, L295, k295, n295⟩, -, X295, ⟨Lc295, hQ295, l295, y295, z295⟩, st295⟩ := X287.specialBack hx (y := (⟨"java/lang/String", "<init>", "([C)V"⟩ : MethodName)) rfl hown (mvT hZ (tw hw 53 rfl)) (mvT hZ (tw hw 54 rfl)) (mvT hZ (tw hw 55 rfl)) (by decide) (StrChars.Road.backV (W := 1) hZ (wdNew hw) (kI := 4) (tw hw 2 rfl) (cs := ([v0, v1, v2, v3, v4, v5, v6, v7] : List Int32)) (bs := (([v0, v1, v2, v3, v4, v5, v6, v7] : List Int32).map (fun c => c.toInt8.toInt32))) (n := 8) g257 (Nat.le_trans (Nat.le_trans (Nat.le_trans (Nat.le_trans (Nat.le_trans (Nat.le_trans (Nat.le_trans (Nat.le_trans (Nat.le_trans (Nat.le_trans Z0 E256.1) E260.1) (Keep.of_wr W265).1) (Keep.of_wr W269).1) (Keep.of_wr W272).1) (Keep.of_wr W275).1) (Keep.of_wr W278).1) (Keep.of_wr W281).1) (Keep.of_wr W284).1) (Keep.of_wr W287).1) f289 f291 f292 V287 (O2.ext f293.2) P5 rfl rfl (by decide) (by decide) hp294 rfl (by decide) (by decide)) (g := (mkF m 367 #[.val (.ref tc), .val (.int n)] [(.ref b260), (.ref b256), (.ref b256)])) rfl (by rw [hml]; rfl) (Steps.refl _) (a := b256) (argsL := [(.ref b260)]) (rest := [(.ref b256)]) (lenOf pd___C_V rfl) rfl (by show 2 * 0 + _ ≤ _; exact Nat.le_of_eq rfl) (hb hby d9_367) (fun _ _ => ⟨rfl, e287, (by decide : 2 + 1 ≤ _), (by decide : 12 + 8 ≤ _)⟩)
                    dsimp only [Pt.U, Pt.locs, Pt.cells, Pt.slots] at X295 l295 y295 z295 st295 hQ295
                    subst l295 y295 z295
                    obtain ⟨rfl, N295, K295, q295_0, q295_1, t294, k294, y295_0, y295_1, y295_2, q295_2, q295_3⟩ := hQ295
                    have C297 : CHr Z consts_1 s.vm h0 s.vm T295.heap := C288.trans (CHr.keep K295 (sfS Sf296 sf0) C288.1)
                    have M295 := Fr.app N287 N295
                    have g298 : n0 ≤ t294 := Nat.le_trans (Nat.le_trans (Nat.le_trans (Nat.le_trans (Nat.le_trans (Nat.le_trans (Nat.le_trans (Nat.le_trans (Nat.le_trans (Nat.le_trans (Nat.le_trans Z0 E256.1) E260.1) (Keep.of_wr W265).1) (Keep.of_wr W269).1) (Keep.of_wr W272).1) (Keep.of_wr W275).1) (Keep.of_wr W278).1) (Keep.of_wr W281).1) (Keep.of_wr W284).1) (Keep.of_wr W287).1) y295_1
                    have s299 : h0.size ≤ t294 := Nat.le_trans (Nat.le_trans (Nat.le_trans (Nat.le_trans (Nat.le_trans (Nat.le_trans (Nat.le_trans (Nat.le_trans (Nat.le_trans (Nat.le_trans (Nat.le_trans (Nat.le_refl _) E256.1) E260.1) (Keep.of_wr W265).1) (Keep.of_wr W269).1) (Keep.of_wr W272).1) (Keep.of_wr W275).1) (Keep.of_wr W278).1) (Keep.of_wr W281).1) (Keep.of_wr W284).1) (Keep.of_wr W287).1) y295_1
                    refine Gl.to st295 ?_
                    show Gl p.tables e below _ (T295.setTop (mkF m 370 #[.val (.ref tc), .val (.int n)] [(.ref b256)]))
                    show Gl p.tables e below _ (T295.setTop (mkF m 370 #[.val (.ref tc), .val (.int n)] [(.ref b256)]))
                    have K300 : Keep h0 T295.heap [] := ((((((((((((Keep.refl h0 []).ext E256).ext E260).wr W265 (Or.inr s262)).wr W269 (Or.inr s262)).wr W272 (Or.inr s262)).wr W275 (Or.inr s262)).wr W278 (Or.inr s262)).wr W281 (Or.inr s262)).wr W284 (Or.inr s262)).wr W287 (Or.inr s262)).trans K295 (allS (Or.inr s258) all0))
                    exact Gl.retAH X295 hx hS0 (Nat.le_trans (Nat.le_trans (Nat.le_trans (Nat.le_trans (Nat.le_trans (Nat.le_trans (Nat.le_trans (Nat.le_trans (Nat.le_trans (Nat.le_trans (Nat.le_trans (Nat.le_of_eq (congrArg Array.size e0)) E256.1) E260.1) (Keep.of_wr W265).1) (Keep.of_wr W269).1) (Keep.of_wr W272).1) (Keep.of_wr W275).1) (Keep.of_wr W278).1) (Keep.of_wr W281).1) (Keep.of_wr W284).1) (Keep.of_wr W287).1) K295.1) (by rw [hh]; exact C297.trans (CHv.at X295 hZ (elW hw) C297.1)) Bd.returns rfl rfl (hb hby d9_370) hlk (by decide) (by decide) ⟨b256, t294, k294, ([v0, v1, v2, v3, v4, v5, v6, v7] : List Int32), rfl, M295, K300, q295_0, q295_1, q295_2, q295_3, (alcS hq0 (alcS hq1 (alcS hq2 (alcS hq3 (alcS hq4 (alcS hq5 (alcS hq6 (alcS hq7 alc0)))))))), (Nat.le_of_ble_eq_true rfl)⟩
                  · refine Gl.st (fun _ kq => XS.icmpYes X0.here hx rfl (pc0 := 304) (pc' := 371) rfl (hb hby d9_304) rfl (feq (hc255 : ¬ (n = (8 : Int32)))).2 (by decide) (by decide) kq) ?_
                    show Gl p.tables e below _ (s₁.setTop (mkF m 371 #[.val (.ref tc), .val (.int n)] []))
                    refine Gl.st (fun _ kq => XS.iloadN X0.here hx rfl (hb hby d9_371) rfl kq) ?_
                    refine Gl.st (fun _ kq => XS.bipush X0.here hx rfl (hb hby d9_372) kq) ?_
                    show Gl p.tables e below _ (s₁.setTop (mkF m 374 #[.val (.ref tc), .val (.int n)] [(.int 9), (.int n)]))
                    by_cases hc301 : n = (9 : Int32)
                    · refine Gl.st (fun _ kq => XS.icmpNo X0.here hx rfl (hb hby d9_374) rfl (teq (hc301 : n = (9 : Int32))).2 kq) ?_
                      show Gl p.tables e below _ (s₁.setTop (mkF m 377 #[.val (.ref tc), .val (.int n)] []))
                      obtain ⟨T302, h302, X302, e302, E302, A302, D302, U302, st302⟩ := newO X0 hx hZ hown (tw hw 52 rfl) (tw hw 2 rfl) (tw hw 1 rfl) e0 (g := (mkF m 377 #[.val (.ref tc), .val (.int n)] [])) rfl (hb hby d9_377) (by decide) (by decide)
                      obtain ⟨b302, g302⟩ : ∃ z, z = h0.size := ⟨_, rfl⟩
                      rw [← g302] at A302 D302 U302 st302
                      refine Gl.st st302 ?_
                      have g303 : n0 ≤ b302 := Nat.le_trans Z0 (Nat.le_of_eq g302.symm)
                      have s304 : h0.size ≤ b302 := Nat.le_trans (Nat.le_refl _) (Nat.le_of_eq g302.symm)
                      have C305 : CHr Z consts_1 s.vm h0 s.vm h302 := C0.trans (CHr.ext E302 C0.1)
                      have F302_4 : Fld Z h302 b302 "java/lang/String" "value" "[B" .null := D302 (Or.inr (tw hw 4 rfl)) (ty := (.array .byte)) (by decide)
                      have F302_5 : Fld Z h302 b302 "java/lang/String" "coder" "B" (.int 0) := D302 (Or.inr (tw hw 5 rfl)) (ty := .byte) (by decide)
                      show Gl p.tables e below _ (T302.setTop (mkF m 380 #[.val (.ref tc), .val (.int n)] [(.ref b302)]))
                      refine Gl.st (fun _ kq => XS.dup X302.here hx rfl (hb hby d9_380) rfl rfl kq) ?_
                      refine Gl.st (fun _ kq => XS.bipush X302.here hx rfl (hb hby d9_381) kq) ?_
                      show Gl p.tables e below _ (T302.setTop (mkF m 383 #[.val (.ref tc), .val (.int n)] [(.int 9), (.ref b302), (.ref b302)]))
                      obtain ⟨T306, h306, k306, X306, e306, E306, A306, st306⟩ := newP X302 hx hZ (tw hw 8 rfl) e302 (g := (mkF m 383 #[.val (.ref tc), .val (.int n)] [(.int 9), (.ref b302), (.ref b302)])) rfl (hb hby d9_383) rfl (by decide) (cap := 9) (by decide) (by decide) (by decide) (by decide)
                      obtain ⟨b306, g306⟩ : ∃ z, z = h302.size := ⟨_, rfl⟩
                      rw [← g306] at A306 st306
                      refine Gl.st st306 ?_
                      have g307 : n0 ≤ b306 := Nat.le_trans (Nat.le_trans Z0 E302.1) (Nat.le_of_eq g306.symm)
                      have s308 : h0.size ≤ b306 := Nat.le_trans (Nat.le_trans (Nat.le_refl _) E302.1) (Nat.le_of_eq g306.symm)
                      have C309 : CHr Z consts_1 s.vm h0 s.vm h306 := C305.trans (CHr.ext E306 C305.1)
                      have V306 : Arv Z h306 b306 k306 .char (9 : Int32) [(.int 0), (.int 0), (.int 0), (.int 0), (.int 0), (.int 0), (.int 0), (.int 0), (.int 0)] (.int 0) := (Arv.new A306 (by decide)).pad (pad_rep [] (.int 0) 9)
                      show Gl p.tables e below _ (T306.setTop (mkF m 385 #[.val (.ref tc), .val (.int n)] [(.ref b306), (.ref b302), (.ref b302)]))
                      have f310 : Arv Z h306 tc kc .char (12 : Int32) [(.int v0), (.int v1), (.int v2), (.int v3), (.int v4), (.int v5), (.int v6), (.int v7), (.int v8), (.int v9), (.int v10), (.int v11)] (.int 0) := ((pf0.ext E302).ext E306)
                      obtain ⟨T311, h311, X311, e311, W311, V311, st311⟩ := cpC X306 hx hZ e306 f310 V306 0 v0 0 #[.val (.ref tc), .val (.int n)] [(.ref b302), (.ref b302)] 385 387 389 ⟨by decide, by decide⟩ ⟨by decide, by decide⟩ rfl (nar_id hq0.1 hq0.2) rfl (Nat.le_of_ble_eq_true rfl) rfl (hb hby d9_385) (fun _ _ kq => XS.iconst X306.here hx rfl (hb hby d9_386) kq) (hb hby d9_387) (fun _ _ kq => XS.iconst X306.here hx rfl (hb hby d9_388) kq) (hb hby d9_389) (hb hby d9_390)
                      refine Gl.st st311 ?_
                      have C312 : CHr Z consts_1 s.vm h0 s.vm h311 := C309.trans (CHr.wr W311 (Safe.arv hZ.alike V306 (by decide)) C309.1)
                      have V311 : Arv Z h311 b306 k306 .char (9 : Int32) [(.int v0), (.int 0), (.int 0), (.int 0), (.int 0), (.int 0), (.int 0), (.int 0), (.int 0)] (.int 0) := V311
                      have N311 := Fr.snoc X311 N0 g307
                      show Gl p.tables e below _ (T311.setTop (mkF m 391 #[.val (.ref tc), .val (.int n)] [(.ref b306), (.ref b302), (.ref b302)]))
                      have ne313 : tc ≠ b306 := Nat.ne_of_lt (Nat.lt_of_lt_of_le (Nat.lt_of_lt_of_le pf0.lt E302.1) (Nat.le_of_eq g306.symm))
                      have f314 : Arv Z h311 tc kc .char (12 : Int32) [(.int v0), (.int v1), (.int v2), (.int v3), (.int v4), (.int v5), (.int v6), (.int v7), (.int v8), (.int v9), (.int v10), (.int v11)] (.int 0) := (f310.other W311 ne313)
                      obtain ⟨T315, h315, X315, e315, W315, V315, st315⟩ := cpC X311 hx hZ e311 f314 V311 1 v1 1 #[.val (.ref tc), .val (.int n)] [(.ref b302), (.ref b302)] 391 393 395 ⟨by decide, by decide⟩ ⟨by decide, by decide⟩ rfl (nar_id hq1.1 hq1.2) rfl (Nat.le_of_ble_eq_true rfl) rfl (hb hby d9_391) (fun _ _ kq => XS.iconst X311.here hx rfl (hb hby d9_392) kq) (hb hby d9_393) (fun _ _ kq => XS.iconst X311.here hx rfl (hb hby d9_394) kq) (hb hby d9_395) (hb hby d9_396)
                      refine Gl.st st315 ?_
                      have C316 : CHr Z consts_1 s.vm h0 s.vm h315 := C312.trans (CHr.wr W315 (Safe.arv hZ.alike V311 (by decide)) C312.1)
                      have V315 : Arv Z h315 b306 k306 .char (9 : Int32) [(.int v0), (.int v1), (.int 0), (.int 0), (.int 0), (.int 0), (.int 0), (.int 0), (.int 0)] (.int 0) := V315
                      have N315 := Fr.snoc X315 N311 g307
                      show Gl p.tables e below _ (T315.setTop (mkF m 397 #[.val (.ref tc), .val (.int n)] [(.ref b306), (.ref b302), (.ref b302)]))
                      have f317 : Arv Z h315 tc kc .char (12 : Int32) [(.int v0), (.int v1), (.int v2), (.int v3), (.int v4), (.int v5), (.int v6), (.int v7), (.int v8), (.int v9), (.int v10), (.int v11)] (.int 0) := (f314.other W315 ne313)
                      obtain ⟨T318, h318, X318, e318, W318, V318, st318⟩ := cpC X315 hx hZ e315 f317 V315 2 v2 2 #[.val (.ref tc), .val (.int n)] [(.ref b302), (.ref b302)] 397 399 401 ⟨by decide, by decide⟩ ⟨by decide, by decide⟩ rfl (nar_id hq2.1 hq2.2) rfl (Nat.le_of_ble_eq_true rfl) rfl (hb hby d9_397) (fun _ _ kq => XS.iconst X315.here hx rfl (hb hby d9_398) kq) (hb hby d9_399) (fun _ _ kq => XS.iconst X315.here hx rfl (hb hby d9_400) kq) (hb hby d9_401) (hb hby d9_402)
                      refine Gl.st st318 ?_
                      have C319 : CHr Z consts_1 s.vm h0 s.vm h318 := C316.trans (CHr.wr W318 (Safe.arv hZ.alike V315 (by decide)) C316.1)
                      have V318 : Arv Z h318 b306 k306 .char (9 : Int32) [(.int v0), (.int v1), (.int v2), (.int 0), (.int 0), (.int 0), (.int 0), (.int 0), (.int 0)] (.int 0) := V318
                      have N318 := Fr.snoc X318 N315 g307
                      show Gl p.tables e below _ (T318.setTop (mkF m 403 #[.val (.ref tc), .val (.int n)] [(.ref b306), (.ref b302), (.ref b302)]))
                      have f320 : Arv Z h318 tc kc .char (12 : Int32) [(.int v0), (.int v1), (.int v2), (.int v3), (.int v4), (.int v5), (.int v6), (.int v7), (.int v8), (.int v9), (.int v10), (.int v11)] (.int 0) := (f317.other W318 ne313)
                      obtain ⟨T321, h321, X321, e321, W321, V321, st321⟩ := cpC X318 hx hZ e318 f320 V318 3 v3 3 #[.val (.ref tc), .val (.int n)] [(.ref b302), (.ref b302)] 403 405 407 ⟨by decide, by decide⟩ ⟨by decide, by decide⟩ rfl (nar_id hq3.1 hq3.2) rfl (Nat.le_of_ble_eq_true rfl) rfl (hb hby d9_403) (fun _ _ kq => XS.iconst X318.here hx rfl (hb hby d9_404) kq) (hb hby d9_405) (fun _ _ kq => XS.iconst X318.here hx rfl (hb hby d9_406) kq) (hb hby d9_407) (hb hby d9_408)
                      refine Gl.st st321 ?_
                      have C322 : CHr Z consts_1 s.vm h0 s.vm h321 := C319.trans (CHr.wr W321 (Safe.arv hZ.alike V318 (by decide)) C319.1)
                      have V321 : Arv Z h321 b306 k306 .char (9 : Int32) [(.int v0), (.int v1), (.int v2), (.int v3), (.int 0), (.int 0), (.int 0), (.int 0), (.int 0)] (.int 0) := V321
                      have N321 := Fr.snoc X321 N318 g307
                      show Gl p.tables e below _ (T321.setTop (mkF m 409 #[.val (.ref tc), .val (.int n)] [(.ref b306), (.ref b302), (.ref b302)]))
                      have f323 : Arv Z h321 tc kc .char (12 : Int32) [(.int v0), (.int v1), (.int v2), (.int v3), (.int v4), (.int v5), (.int v6), (.int v7), (.int v8), (.int v9), (.int v10), (.int v11)] (.int 0) := (f320.other W321 ne313)
                      obtain ⟨T324, h324, X324, e324, W324, V324, st324⟩ := cpC X321 hx hZ e321 f323 V321 4 v4 4 #[.val (.ref tc), .val (.int n)] [(.ref b302), (.ref b302)] 409 411 413 ⟨by decide, by decide⟩ ⟨by decide, by decide⟩ rfl (nar_id hq4.1 hq4.2) rfl (Nat.le_of_ble_eq_true rfl) rfl (hb hby d9_409) (fun _ _ kq => XS.iconst X321.here hx rfl (hb hby d9_410) kq) (hb hby d9_411) (fun _ _ kq => XS.iconst X321.here hx rfl (hb hby d9_412) kq) (hb hby d9_413) (hb hby d9_414)
                      refine Gl.st st324 ?_
                      have C325 : CHr Z consts_1 s.vm h0 s.vm h324 := C322.trans (CHr.wr W324 (Safe.arv hZ.alike V321 (by decide)) C322.1)
                      have V324 : Arv Z h324 b306 k306 .char (9 : Int32) [(.int v0), (.int v1), (.int v2), (.int v3), (.int v4), (.int 0), (.int 0), (.int 0), (.int 0)] (.int 0) := V324
                      have N324 := Fr.snoc X324 N321 g307
                      show Gl p.tables e below _ (T324.setTop (mkF m 415 #[.val (.ref tc), .val (.int n)] [(.ref b306), (.ref b302), (.ref b302)]))
                      have f326 : Arv Z h324 tc kc .char (12 : Int32) [(.int v0), (.int v1), (.int v2), (.int v3), (.int v4), (.int v5), (.int v6), (.int v7), (.int v8), (.int v9), (.int v10), (.int v11)] (.int 0) := (f323.other W324 ne313)
                      obtain ⟨T327, h327, X327, e327, W327, V327, st327⟩ := cpC X324 hx hZ e324 f326 V324 5 v5 5 #[.val (.ref tc), .val (.int n)] [(.ref b302), (.ref b302)] 415 417 419 ⟨by decide, by decide⟩ ⟨by decide, by decide⟩ rfl (nar_id hq5.1 hq5.2) rfl (Nat.le_of_ble_eq_true rfl) rfl (hb hby d9_415) (fun _ _ kq => XS.iconst X324.here hx rfl (hb hby d9_416) kq) (hb hby d9_417) (fun _ _ kq => XS.iconst X324.here hx rfl (hb hby d9_418) kq) (hb hby d9_419) (hb hby d9_420)
                      refine Gl.st st327 ?_
                      have C328 : CHr Z consts_1 s.vm h0 s.vm h327 := C325.trans (CHr.wr W327 (Safe.arv hZ.alike V324 (by decide)) C325.1)
                      have V327 : Arv Z h327 b306 k306 .char (9 : Int32) [(.int v0), (.int v1), (.int v2), (.int v3), (.int v4), (.int v5), (.int 0), (.int 0), (.int 0)] (.int 0) := V327
                      have N327 := Fr.snoc X327 N324 g307
                      show Gl p.tables e below _ (T327.setTop (mkF m 421 #[.val (.ref tc), .val (.int n)] [(.ref b306), (.ref b302), (.ref b302)]))
                      have f329 : Arv Z h327 tc kc .char (12 : Int32) [(.int v0), (.int v1), (.int v2), (.int v3), (.int v4), (.int v5), (.int v6), (.int v7), (.int v8), (.int v9), (.int v10), (.int v11)] (.int 0) := (f326.other W327 ne313)
                      obtain ⟨T330, h330, X330, e330, W330, V330, st330⟩ := cpC X327 hx hZ e327 f329 V327 6 v6 6 #[.val (.ref tc), .val (.int n)] [(.ref b302), (.ref b302)] 421 424 427 ⟨by decide, by decide⟩ ⟨by decide, by decide⟩ rfl (nar_id hq6.1 hq6.2) rfl (Nat.le_of_ble_eq_true rfl) rfl (hb hby d9_421) (fun _ _ kq => XS.bipush X327.here hx rfl (hb hby d9_422) kq) (hb hby d9_424) (fun _ _ kq => XS.bipush X327.here hx rfl (hb hby d9_425) kq) (hb hby d9_427) (hb hby d9_428)
                      refine Gl.st st330 ?_
                      have C331 : CHr Z consts_1 s.vm h0 s.vm h330 := C328.trans (CHr.wr W330 (Safe.arv hZ.alike V327 (by decide)) C328.1)
                      have V330 : Arv Z h330 b306 k306 .char (9 : Int32) [(.int v0), (.int v1), (.int v2), (.int v3), (.int v4), (.int v5), (.int v6), (.int 0), (.int 0)] (.int 0) := V330
                      have N330 := Fr.snoc X330 N327 g307
                      show Gl p.tables e below _ (T330.setTop (mkF m 429 #[.val (.ref tc), .val (.int n)] [(.ref b306), (.ref b302), (.ref b302)]))
                      have f332 : Arv Z h330 tc kc .char (12 : Int32) [(.int v0), (.int v1), (.int v2), (.int v3), (.int v4), (.int v5), (.int v6), (.int v7), (.int v8), (.int v9), (.int v10), (.int v11)] (.int 0) := (f329.other W330 ne313)
                      obtain ⟨T333, h333, X333, e333, W333, V333, st333⟩ := cpC X330 hx hZ e330 f332 V330 7 v7 7 #[.val (.ref tc), .val (.int n)] [(.ref b302), (.ref b302)] 429 432 435 ⟨by decide, by decide⟩ ⟨by decide, by decide⟩ rfl (nar_id hq7.1 hq7.2) rfl (Nat.le_of_ble_eq_true rfl) rfl (hb hby d9_429) (fun _ _ kq => XS.bipush X330.here hx rfl (hb hby d9_430) kq) (hb hby d9_432) (fun _ _ kq => XS.bipush X330.here hx rfl (hb hby d9_433) kq) (hb hby d9_435) (hb hby d9_436)
                      refine Gl.st st333 ?_
                      have C334 : CHr Z consts_1 s.vm h0 s.vm h333 := C331.trans (CHr.wr W333 (Safe.arv hZ.alike V330 (by decide)) C331.1)
                      have V333 : Arv Z h333 b306 k306 .char (9 : Int32) [(.int v0), (.int v1), (.int v2), (.int v3), (.int v4), (.int v5), (.int v6), (.int v7), (.int 0)] (.int 0) := V333
                      have N333 := Fr.snoc X333 N330 g307
                      show Gl p.tables e below _ (T333.setTop (mkF m 437 #[.val (.ref tc), .val (.int n)] [(.ref b306), (.ref b302), (.ref b302)]))
                      have f335 : Arv Z h333 tc kc .char (12 : Int32) [(.int v0), (.int v1), (.int v2), (.int v3), (.int v4), (.int v5), (.int v6), (.int v7), (.int v8), (.int v9), (.int v10), (.int v11)] (.int 0) := (f332.other W333 ne313)
                      obtain ⟨T336, h336, X336, e336, W336, V336, st336⟩ := cpC X333 hx hZ e333 f335 V333 8 v8 8 #[.val (.ref tc), .val (.int n)] [(.ref b302), (.ref b302)] 437 440 443 ⟨by decide, by decide⟩ ⟨by decide, by decide⟩ rfl (nar_id hq8.1 hq8.2) rfl (Nat.le_of_ble_eq_true rfl) rfl (hb hby d9_437) (fun _ _ kq => XS.bipush X333.here hx rfl (hb hby d9_438) kq) (hb hby d9_440) (fun _ _ kq => XS.bipush X333.here hx rfl (hb hby d9_441) kq) (hb hby d9_443) (hb hby d9_444)
                      refine Gl.st st336 ?_
                      have C337 : CHr Z consts_1 s.vm h0 s.vm h336 := C334.trans (CHr.wr W336 (Safe.arv hZ.alike V333 (by decide)) C334.1)
                      have V336 : Arv Z h336 b306 k306 .char (9 : Int32) [(.int v0), (.int v1), (.int v2), (.int v3), (.int v4), (.int v5), (.int v6), (.int v7), (.int v8)] (.int 0) := V336
                      have N336 := Fr.snoc X336 N333 g307
                      show Gl p.tables e below _ (T336.setTop (mkF m 445 #[.val (.ref tc), .val (.int n)] [(.ref b306), (.ref b302), (.ref b302)]))
                      have f338 : Exa Z h336 b302 "java/lang/String" := ((((((((((A302.ext E306).wr W311).wr W315).wr W318).wr W321).wr W324).wr W327).wr W330).wr W333).wr W336)
                      have ne339 : b302 ≠ b306 := Nat.ne_of_lt (Nat.lt_of_lt_of_le A302.lt (Nat.le_of_eq g306.symm))
                      have f340 : Fld Z h336 b302 "java/lang/String" "value" "[B" .null := ((((((((((F302_4.ext E306).other W311 (Or.inl ne339)).other W315 (Or.inl ne339)).other W318 (Or.inl ne339)).other W321 (Or.inl ne339)).other W324 (Or.inl ne339)).other W327 (Or.inl ne339)).other W330 (Or.inl ne339)).other W333 (Or.inl ne339)).other W336 (Or.inl ne339))
                      have f341 : Fld Z h336 b302 "java/lang/String" "coder" "B" (.int 0) := ((((((((((F302_5.ext E306).other W311 (Or.inl ne339)).other W315 (Or.inl ne339)).other W318 (Or.inl ne339)).other W321 (Or.inl ne339)).other W324 (Or.inl ne339)).other W327 (Or.inl ne339)).other W330 (Or.inl ne339)).other W333 (Or.inl ne339)).other W336 (Or.inl ne339))
                      have f342 : Old Z n0 h336 := (((((((((((pf1.ext E302).ext E306).wr W311 g307).wr W315 g307).wr W318 g307).wr W321 g307).wr W324 g307).wr W327 g307).wr W330 g307).wr W333 g307).wr W336 g307)
                      have hp343 : ∀ c ∈ ([v0, v1, v2, v3, v4, v5, v6, v7, v8] : List Int32), ¬ c < 0 ∧ ¬ (255 : Int32) < c := (alcS hq0 (alcS hq1 (alcS hq2 (alcS hq3 (alcS hq4 (alcS hq5 (alcS hq6 (alcS hq7 (alcS hq8 alc0)))))))))
                      have Sf345 : Safe Z consts_1 s.vm h336 b302 := (Safe.wr W336 (Safe.arv hZ.alike V333 (by decide)) C334.1 (Safe.wr W333 (Safe.arv hZ.alike V330 (by decide)) C331.1 (Safe.wr W330 (Safe.arv hZ.alike V327 (by decide)) C328.1 (Safe.wr W327 (Safe.arv hZ.alike V324 (by decide)) C325.1 (Safe.wr W324 (Safe.arv hZ.alike V321 (by decide)) C322.1 (Safe.wr W321 (Safe.arv hZ.alike V318 (by decide)) C319.1 (Safe.wr W318 (Safe.arv hZ.alike V315 (by decide)) C316.1 (Safe.wr W315 (Safe.arv hZ.alike V311 (by decide)) C312.1 (Safe.wr W311 (Safe.arv hZ.alike V306 (by decide)) C309.1 (Safe.ext E306 C305.1 (Safe.ext E302 C0.1 (Safe.new (EL := consts_1) (vm := s.vm) (Nat.le_of_eq g302.symm)))))))))))))
                      obtain ⟨_, _, ⟨T344, L344, k344, n344⟩, -, X344, ⟨Lc344, hQ344, l344, y344, z344⟩, st344⟩ := X336.specialBack hx (y := (⟨"java/lang/String", "<init>", "([C)V"⟩ : MethodName)) rfl hown (mvT hZ (tw hw 53 rfl)) (mvT hZ (tw hw 54 rfl)) (mvT hZ (tw hw 55 rfl)) (by decide) (StrChars.Road.backV (W := 1) hZ (wdNew hw) (kI := 4) (tw hw 2 rfl) (cs := ([v0, v1, v2, v3, v4, v5, v6, v7, v8] : List Int32)) (bs := (([v0, v1, v2, v3, v4, v5, v6, v7, v8] : List Int32).map (fun c => c.toInt8.toInt32))) (n := 9) g303 (Nat.le_trans (Nat.le_trans (Nat.le_trans (Nat.le_trans (Nat.le_trans (Nat.le_trans (Nat.le_trans (Nat.le_trans (Nat.le_trans (Nat.le_trans (Nat.le_trans Z0 E302.1) E306.1) (Keep.of_wr W311).1) (Keep.of_wr W315).1) (Keep.of_wr W318).1) (Keep.of_wr W321).1) (Keep.of_wr W324).1) (Keep.of_wr W327).1) (Keep.of_wr W330).1) (Keep.of_wr W333).1) (Keep.of_wr W336).1) f338 f340 f341 V336 (O2.ext f342.2) P5 rfl rfl (by decide) (by decide) hp343 rfl (by decide) (by decide)) (g := (mkF m 445 #[.val (.ref tc), .val (.int n)] [(.ref b306), (.ref b302), (.ref b302)])) rfl (by rw [hml]; rfl) (Steps.refl _) (a := b302) (argsL := [(.ref b306)]) (rest := [(.ref b302)]) (lenOf pd___C_V rfl) rfl (by show 2 * 0 + _ ≤ _; exact Nat.le_of_eq rfl) (hb hby d9_445) (fun _ _ => ⟨rfl, e336, (by decide : 2 + 1 ≤ _), (by decide : 13 + 9 ≤ _)⟩)
                      dsimp only [Pt.U, Pt.locs, Pt.cells, Pt.slots] at X344 l344 y344 z344 st344 hQ344
                      subst l344 y344 z344
                      obtain ⟨rfl, N344, K344, q344_0, q344_1, t343, k343, y344_0, y344_1, y344_2, q344_2, q344_3⟩ := hQ344
                      have C346 : CHr Z consts_1 s.vm h0 s.vm T344.heap := C337.trans (CHr.keep K344 (sfS Sf345 sf0) C337.1)
                      have M344 := Fr.app N336 N344
                      have g347 : n0 ≤ t343 := Nat.le_trans (Nat.le_trans (Nat.le_trans (Nat.le_trans (Nat.le_trans (Nat.le_trans (Nat.le_trans (Nat.le_trans (Nat.le_trans (Nat.le_trans (Nat.le_trans (Nat.le_trans Z0 E302.1) E306.1) (Keep.of_wr W311).1) (Keep.of_wr W315).1) (Keep.of_wr W318).1) (Keep.of_wr W321).1) (Keep.of_wr W324).1) (Keep.of_wr W327).1) (Keep.of_wr W330).1) (Keep.of_wr W333).1) (Keep.of_wr W336).1) y344_1
                      have s348 : h0.size ≤ t343 := Nat.le_trans (Nat.le_trans (Nat.le_trans (Nat.le_trans (Nat.le_trans (Nat.le_trans (Nat.le_trans (Nat.le_trans (Nat.le_trans (Nat.le_trans (Nat.le_trans (Nat.le_trans (Nat.le_refl _) E302.1) E306.1) (Keep.of_wr W311).1) (Keep.of_wr W315).1) (Keep.of_wr W318).1) (Keep.of_wr W321).1) (Keep.of_wr W324).1) (Keep.of_wr W327).1) (Keep.of_wr W330).1) (Keep.of_wr W333).1) (Keep.of_wr W336).1) y344_1
                      refine Gl.to st344 ?_
                      show Gl p.tables e below _ (T344.setTop (mkF m 448 #[.val (.ref tc), .val (.int n)] [(.ref b302)]))
                      show Gl p.tables e below _ (T344.setTop (mkF m 448 #[.val (.ref tc), .val (.int n)] [(.ref b302)]))
                      have K349 : Keep h0 T344.heap [] := (((((((((((((Keep.refl h0 []).ext E302).ext E306).wr W311 (Or.inr s308)).wr W315 (Or.inr s308)).wr W318 (Or.inr s308)).wr W321 (Or.inr s308)).wr W324 (Or.inr s308)).wr W327 (Or.inr s308)).wr W330 (Or.inr s308)).wr W333 (Or.inr s308)).wr W336 (Or.inr s308)).trans K344 (allS (Or.inr s304) all0))
                      exact Gl.retAH X344 hx hS0 (Nat.le_trans (Nat.le_trans (Nat.le_trans (Nat.le_trans (Nat.le_trans (Nat.le_trans (Nat.le_trans (Nat.le_trans (Nat.le_trans (Nat.le_trans (Nat.le_trans (Nat.le_trans (Nat.le_of_eq (congrArg Array.size e0)) E302.1) E306.1) (Keep.of_wr W311).1) (Keep.of_wr W315).1) (Keep.of_wr W318).1) (Keep.of_wr W321).1) (Keep.of_wr W324).1) (Keep.of_wr W327).1) (Keep.of_wr W330).1) (Keep.of_wr W333).1) (Keep.of_wr W336).1) K344.1) (by rw [hh]; exact C346.trans (CHv.at X344 hZ (elW hw) C346.1)) Bd.returns rfl rfl (hb hby d9_448) hlk (by decide) (by decide) ⟨b302, t343, k343, ([v0, v1, v2, v3, v4, v5, v6, v7, v8] : List Int32), rfl, M344, K349, q344_0, q344_1, q344_2, q344_3, (alcS hq0 (alcS hq1 (alcS hq2 (alcS hq3 (alcS hq4 (alcS hq5 (alcS hq6 (alcS hq7 (alcS hq8 alc0))))))))), (Nat.le_of_ble_eq_true rfl)⟩
                    · refine Gl.st (fun _ kq => XS.icmpYes X0.here hx rfl (pc0 := 374) (pc' := 449) rfl (hb hby d9_374) rfl (feq (hc301 : ¬ (n = (9 : Int32)))).2 (by decide) (by decide) kq) ?_
                      show Gl p.tables e below _ (s₁.setTop (mkF m 449 #[.val (.ref tc), .val (.int n)] []))
                      refine Gl.st (fun _ kq => XS.iloadN X0.here hx rfl (hb hby d9_449) rfl kq) ?_
                      refine Gl.st (fun _ kq => XS.bipush X0.here hx rfl (hb hby d9_450) kq) ?_
                      show Gl p.tables e below _ (s₁.setTop (mkF m 452 #[.val (.ref tc), .val (.int n)] [(.int 10), (.int n)]))
                      by_cases hc350 : n = (10 : Int32)
                      · refine Gl.st (fun _ kq => XS.icmpNo X0.here hx rfl (hb hby d9_452) rfl (teq (hc350 : n = (10 : Int32))).2 kq) ?_
                        show Gl p.tables e below _ (s₁.setTop (mkF m 455 #[.val (.ref tc), .val (.int n)] []))
                        obtain ⟨T351, h351, X351, e351, E351, A351, D351, U351, st351⟩ := newO X0 hx hZ hown (tw hw 52 rfl) (tw hw 2 rfl) (tw hw 1 rfl) e0 (g := (mkF m 455 #[.val (.ref tc), .val (.int n)] [])) rfl (hb hby d9_455) (by decide) (by decide)
                        obtain ⟨b351, g351⟩ : ∃ z, z = h0.size := ⟨_, rfl⟩
                        rw [← g351] at A351 D351 U351 st351
                        refine Gl.st st351 ?_
                        have g352 : n0 ≤ b351 := Nat.le_trans Z0 (Nat.le_of_eq g351.symm)
                        have s353 : h0.size ≤ b351 := Nat.le_trans (Nat.le_refl _) (Nat.le_of_eq g351.symm)
                        have C354 : CHr Z consts_1 s.vm h0 s.vm h351 := C0.trans (CHr.ext E351 C0.1)
                        have F351_4 : Fld Z h351 b351 "java/lang/String" "value" "[B" .null := D351 (Or.inr (tw hw 4 rfl)) (ty := (.array .byte)) (by decide)
                        have F351_5 : Fld Z h351 b351 "java/lang/String" "coder" "B" (.int 0) := D351 (Or.inr (tw hw 5 rfl)) (ty := .byte) (by decide)
                        show Gl p.tables e below _ (T351.setTop (mkF m 458 #[.val (.ref tc), .val (.int n)] [(.ref b351)]))
                        refine Gl.st (fun _ kq => XS.dup X351.here hx rfl (hb hby d9_458) rfl rfl kq) ?_
                        refine Gl.st (fun _ kq => XS.bipush X351.here hx rfl (hb hby d9_459) kq) ?_
                        show Gl p.tables e below _ (T351.setTop (mkF m 461 #[.val (.ref tc), .val (.int n)] [(.int 10), (.ref b351), (.ref b351)]))
                        obtain ⟨T355, h355, k355, X355, e355, E355, A355, st355⟩ := newP X351 hx hZ (tw hw 8 rfl) e351 (g := (mkF m 461 #[.val (.ref tc), .val (.int n)] [(.int 10), (.ref b351), (.ref b351)])) rfl (hb hby d9_461) rfl (by decide) (cap := 10) (by decide) (by decide) (by decide) (by decide)
                        obtain ⟨b355, g355⟩ : ∃ z, z = h351.size := ⟨_, rfl⟩
                        rw [← g355] at A355 st355
                        refine Gl.st st355 ?_
                        have g356 : n0 ≤ b355 := Nat.le_trans (Nat.le_trans Z0 E351.1) (Nat.le_of_eq g355.symm)
                        have s357 : h0.size ≤ b355 := Nat.le_trans (Nat.le_trans (Nat.le_refl _) E351.1) (Nat.le_of_eq g355.symm)
                        have C358 : CHr Z consts_1 s.vm h0 s.vm h355 := C354.trans (CHr.ext E355 C354.1)
                        have V355 : Arv Z h355 b355 k355 .char (10 : Int32) [(.int 0), (.int 0), (.int 0), (.int 0), (.int 0), (.int 0), (.int 0), (.int 0), (.int 0), (.int 0)] (.int 0) := (Arv.new A355 (by decide)).pad (pad_rep [] (.int 0) 10)
                        show Gl p.tables e below _ (T355.setTop (mkF m 463 #[.val (.ref tc), .val (.int n)] [(.ref b355), (.ref b351), (.ref b351)]))
                        have f359 : Arv Z h355 tc kc .char (12 : Int32) [(.int v0), (.int v1), (.int v2), (.int v3), (.int v4), (.int v5), (.int v6), (.int v7), (.int v8), (.int v9), (.int v10), (.int v11)] (.int 0) := ((pf0.ext E351).ext E355)
                        obtain ⟨T360, h360, X360, e360, W360, V360, st360⟩ := cpC X355 hx hZ e355 f359 V355 0 v0 0 #[.val (.ref tc), .val (.int n)] [(.ref b351), (.ref b351)] 463 465 467 ⟨by decide, by decide⟩ ⟨by decide, by decide⟩ rfl (nar_id hq0.1 hq0.2) rfl (Nat.le_of_ble_eq_true rfl) rfl (hb hby d9_463) (fun _ _ kq => XS.iconst X355.here hx rfl (hb hby d9_464) kq) (hb hby d9_465) (fun _ _ kq => XS.iconst X355.here hx rfl (hb hby d9_466) kq) (hb hby d9_467) (hb hby d9_468)
                        refine Gl.st st360 ?_
                        have C361 : CHr Z consts_1 s.vm h0 s.vm h360 := C358.trans (CHr.wr W360 (Safe.arv hZ.alike V355 (by decide)) C358.1)
                        have V360 : Arv Z h360 b355 k355 .char (10 : Int32) [(.int v0), (.int 0), (.int 0), (.int 0), (.int 0), (.int 0), (.int 0), (.int 0), (.int 0), (.int 0)] (.int 0) := V360
                        have N360 := Fr.snoc X360 N0 g356
                        show Gl p.tables e below _ (T360.setTop (mkF m 469 #[.val (.ref tc), .val (.int n)] [(.ref b355), (.ref b351), (.ref b351)]))
                        have ne362 : tc ≠ b355 := Nat.ne_of_lt (Nat.lt_of_lt_of_le (Nat.lt_of_lt_of_le pf0.lt E351.1) (Nat.le_of_eq g355.symm))
                        have f363 : Arv Z h360 tc kc .char (12 : Int32) [(.int v0), (.int v1), (.int v2), (.int v3), (.int v4), (.int v5), (.int v6), (.int v7), (.int v8), (.int v9), (.int v10), (.int v11)] (.int 0) := (f359.other W360 ne362)
                        obtain ⟨T364, h364, X364, e364, W364, V364, st364⟩ := cpC X360 hx hZ e360 f363 V360 1 v1 1 #[.val (.ref tc), .val (.int n)] [(.ref b351), (.ref b351)] 469 471 473 ⟨by decide, by decide⟩ ⟨by decide, by decide⟩ rfl (nar_id hq1.1 hq1.2) rfl (Nat.le_of_ble_eq_true rfl) rfl (hb hby d9_469) (fun _ _ kq => XS.iconst X360.here hx rfl (hb hby d9_470) kq) (hb hby d9_471) (fun _ _ kq => XS.iconst X360.here hx rfl (hb hby d9_472) kq) (hb hby d9_473) (hb hby d9_474)
                        refine Gl.st st364 ?_
                        have C365 : CHr Z consts_1 s.vm h0 s.vm h364 := C361.trans (CHr.wr W364 (Safe.arv hZ.alike V360 (by decide)) C361.1)
                        have V364 : Arv Z h364 b355 k355 .char (10 : Int32) [(.int v0), (.int v1), (.int 0), (.int 0), (.int 0), (.int 0), (.int 0), (.int 0), (.int 0), (.int 0)] (.int 0) := V364
                        have N364 := Fr.snoc X364 N360 g356
                        show Gl p.tables e below _ (T364.setTop (mkF m 475 #[.val (.ref tc), .val (.int n)] [(.ref b355), (.ref b351), (.ref b351)]))
                        have f366 : Arv Z h364 tc kc .char (12 : Int32) [(.int v0), (.int v1), (.int v2), (.int v3), (.int v4), (.int v5), (.int v6), (.int v7), (.int v8), (.int v9), (.int v10), (.int v11)] (.int 0) := (f363.other W364 ne362)
                        obtain ⟨T367, h367, X367, e367, W367, V367, st367⟩ := cpC X364 hx hZ e364 f366 V364 2 v2 2 #[.val (.ref tc), .val (.int n)] [(.ref b351), (.ref b351)] 475 477 479 ⟨by decide, by decide⟩ ⟨by decide, by decide⟩ rfl (nar_id hq2.1 hq2.2) rfl (Nat.le_of_ble_eq_true rfl) rfl (hb hby d9_475) (fun _ _ kq => XS.iconst X364.here hx rfl (hb hby d9_476) kq) (hb hby d9_477) (fun _ _ kq => XS.iconst X364.here hx rfl (hb hby d9_478) kq) (hb hby d9_479) (hb hby d9_480)
                        refine Gl.st st367 ?_
                        have C368 : CHr Z consts_1 s.vm h0 s.vm h367 := C365.trans (CHr.wr W367 (Safe.arv hZ.alike V364 (by decide)) C365.1)
                        have V367 : Arv Z h367 b355 k355 .char (10 : Int32) [(.int v0), (.int v1), (.int v2), (.int 0), (.int 0), (.int 0), (.int 0), (.int 0), (.int 0), (.int 0)] (.int 0) := V367
                        have N367 := Fr.snoc X367 N364 g356
                        show Gl p.tables e below _ (T367.setTop (mkF m 481 #[.val (.ref tc), .val (.int n)] [(.ref b355), (.ref b351), (.ref b351)]))
                        have f369 : Arv Z h367 tc kc .char (12 : Int32) [(.int v0), (.int v1), (.int v2), (.int v3), (.int v4), (.int v5), (.int v6), (.int v7), (.int v8), (.int v9), (.int v10), (.int v11)] (.int 0) := (f366.other W367 ne362)
                        obtain ⟨T370, h370, X370, e370, W370, V370, st370⟩ := cpC X367 hx hZ e367 f369 V367 3 v3 3 #[.val (.ref tc), .val (.int n)] [(.ref b351), (.ref b351)] 481 483 485 ⟨by decide, by decide⟩ ⟨by decide, by decide⟩ rfl (nar_id hq3.1 hq3.2) rfl (Nat.le_of_ble_eq_true rfl) rfl (hb hby d9_481) (fun _ _ kq => XS.iconst X367.here hx rfl (hb hby d9_482) kq) (hb hby d9_483) (fun _ _ kq => XS.iconst X367.here hx rfl (hb hby d9_484) kq) (hb hby d9_485) (hb hby d9_486)
                        refine Gl.st st370 ?_
                        have C371 : CHr Z consts_1 s.vm h0 s.vm h370 := C368.trans (CHr.wr W370 (Safe.arv hZ.alike V367 (by decide)) C368.1)
                        have V370 : Arv Z h370 b355 k355 .char (10 : Int32) [(.int v0), (.int v1), (.int v2), (.int v3), (.int 0), (.int 0), (.int 0), (.int 0), (.int 0), (.int 0)] (.int 0) := V370
                        have N370 := Fr.snoc X370 N367 g356
                        show Gl p.tables e below _ (T370.setTop (mkF m 487 #[.val (.ref tc), .val (.int n)] [(.ref b355), (.ref b351), (.ref b351)]))
                        have f372 : Arv Z h370 tc kc .char (12 : Int32) [(.int v0), (.int v1), (.int v2), (.int v3), (.int v4), (.int v5), (.int v6), (.int v7), (.int v8), (.int v9), (.int v10), (.int v11)] (.int 0) := (f369.other W370 ne362)
                        obtain ⟨T373, h373, X373, e373, W373, V373, st373⟩ := cpC X370 hx hZ e370 f372 V370 4 v4 4 #[.val (.ref tc), .val (.int n)] [(.ref b351), (.ref b351)] 487 489 491 ⟨by decide, by decide⟩ ⟨by decide, by decide⟩ rfl (nar_id hq4.1 hq4.2) rfl (Nat.le_of_ble_eq_true rfl) rfl (hb hby d9_487) (fun _ _ kq => XS.iconst X370.here hx rfl (hb hby d9_488) kq) (hb hby d9_489) (fun _ _ kq => XS.iconst X370.here hx rfl (hb hby d9_490) kq) (hb hby d9_491) (hb hby d9_492)
                        refine Gl.st st373 ?_
                        have C374 : CHr Z consts_1 s.vm h0 s.vm h373 := C371.trans (CHr.wr W373 (Safe.arv hZ.alike V370 (by decide)) C371.1)
                        have V373 : Arv Z h373 b355 k355 .char (10 : Int32) [(.int v0), (.int v1), (.int v2), (.int v3), (.int v4), (.int 0), (.int 0), (.int 0), (.int 0), (.int 0)] (.int 0) := V373
                        have N373 := Fr.snoc X373 N370 g356
                        show Gl p.tables e below _ (T373.setTop (mkF m 493 #[.val (.ref tc), .val (.int n)] [(.ref b355), (.ref b351), (.ref b351)]))
                        have f375 : Arv Z h373 tc kc .char (12 : Int32) [(.int v0), (.int v1), (.int v2), (.int v3), (.int v4), (.int v5), (.int v6), (.int v7), (.int v8), (.int v9), (.int v10), (.int v11)] (.int 0) := (f372.other W373 ne362)
                        obtain ⟨T376, h376, X376, e376, W376, V376, st376⟩ := cpC X373 hx hZ e373 f375 V373 5 v5 5 #[.val (.ref tc), .val (.int n)] [(.ref b351), (.ref b351)] 493 495 497 ⟨by decide, by decide⟩ ⟨by decide, by decide⟩ rfl (nar_id hq5.1 hq5.2) rfl (Nat.le_of_ble_eq_true rfl) rfl (hb hby d9_493) (fun _ _ kq => XS.iconst X373.here hx rfl (hb hby d9_494) kq) (hb hby d9_495) (fun _ _ kq => XS.iconst X373.here hx rfl (hb hby d9_496) kq) (hb hby d9_497) (hb hby d9_498)
                        refine Gl.st st376 ?_
                        have C377 : CHr Z consts_1 s.vm h0 s.vm h376 := C374.trans (CHr.wr W376 (Safe.arv hZ.alike V373 (by decide)) C374.1)
                        have V376 : Arv Z h376 b355 k355 .char (10 : Int32) [(.int v0), (.int v1), (.int v2), (.int v3), (.int v4), (.int v5), (.int 0), (.int 0), (.int 0), (.int 0)] (.int 0) := V376
                        have N376 := Fr.snoc X376 N373 g356
                        show Gl p.tables e below _ (T376.setTop (mkF m 499 #[.val (.ref tc), .val (.int n)] [(.ref b355), (.ref b351), (.ref b351)]))
                        have f378 : Arv Z h376 tc kc .char (12 : Int32) [(.int v0), (.int v1), (.int v2), (.int v3), (.int v4), (.int v5), (.int v6), (.int v7), (.int v8), (.int v9), (.int v10), (.int v11)] (.int 0) := (f375.other W376 ne362)
                        obtain ⟨T379, h379, X379, e379, W379, V379, st379⟩ := cpC X376 hx hZ e376 f378 V376 6 v6 6 #[.val (.ref tc), .val (.int n)] [(.ref b351), (.ref b351)] 499 502 505 ⟨by decide, by decide⟩ ⟨by decide, by decide⟩ rfl (nar_id hq6.1 hq6.2) rfl (Nat.le_of_ble_eq_true rfl) rfl (hb hby d9_499) (fun _ _ kq => XS.bipush X376.here hx rfl (hb hby d9_500) kq) (hb hby d9_502) (fun _ _ kq => XS.bipush X376.here hx rfl (hb hby d9_503) kq) (hb hby d9_505) (hb hby d9_506)
                        refine Gl.st st379 ?_
                        have C380 : CHr Z consts_1 s.vm h0 s.vm h379 := C377.trans (CHr.wr W379 (Safe.arv hZ.alike V376 (by decide)) C377.1)
                        have V379 : Arv Z h379 b355 k355 .char (10 : Int32) [(.int v0), (.int v1), (.int v2), (.int v3), (.int v4), (.int v5), (.int v6), (.int 0), (.int 0), (.int 0)] (.int 0) := V379
                        have N379 := Fr.snoc X379 N376 g356
                        show Gl p.tables e below _ (T379.setTop (mkF m 507 #[.val (.ref tc), .val (.int n)] [(.ref b355), (.ref b351), (.ref b351)]))
                        have f381 : Arv Z h379 tc kc .char (12 : Int32) [(.int v0), (.int v1), (.int v2), (.int v3), (.int v4), (.int v5), (.int v6), (.int v7), (.int v8), (.int v9), (.int v10), (.int v11)] (.int 0) := (f378.other W379 ne362)
                        obtain ⟨T382, h382, X382, e382, W382, V382, st382⟩ := cpC X379 hx hZ e379 f381 V379 7 v7 7 #[.val (.ref tc), .val (.int n)] [(.ref b351), (.ref b351)] 507 510 513 ⟨by decide, by decide⟩ ⟨by decide, by decide⟩ rfl (nar_id hq7.1 hq7.2) rfl (Nat.le_of_ble_eq_true rfl) rfl (hb hby d9_507) (fun _ _ kq => XS.bipush X379.here hx rfl (hb hby d9_508) kq) (hb hby d9_510) (fun _ _ kq => XS.bipush X379.here hx rfl (hb hby d9_511) kq) (hb hby d9_513) (hb hby d9_514)
                        refine Gl.st st382 ?_
                        have C383 : CHr Z consts_1 s.vm h0 s.vm h382 := C380.trans (CHr.wr W382 (Safe.arv hZ.alike V379 (by decide)) C380.1)
                        have V382 : Arv Z h382 b355 k355 .char (10 : Int32) [(.int v0), (.int v1), (.int v2), (.int v3), (.int v4), (.int v5), (.int v6), (.int v7), (.int 0), (.int 0)] (.int 0) := V382
                        have N382 := Fr.snoc X382 N379 g356
                        show Gl p.tables e below _ (T382.setTop (mkF m 515 #[.val (.ref tc), .val (.int n)] [(.ref b355), (.ref b351), (.ref b351)]))
                        have f384 : Arv Z h382 tc kc .char (12 : Int32) [(.int v0), (.int v1), (.int v2), (.int v3), (.int v4), (.int v5), (.int v6), (.int v7), (.int v8), (.int v9), (.int v10), (.int v11)] (.int 0) := (f381.other W382 ne362)
                        obtain ⟨T385, h385, X385, e385, W385, V385, st385⟩ := cpC X382 hx hZ e382 f384 V382 8 v8 8 #[.val (.ref tc), .val (.int n)] [(.ref b351), (.ref b351)] 515 518 521 ⟨by decide, by decide⟩ ⟨by decide, by decide⟩ rfl (nar_id hq8.1 hq8.2) rfl (Nat.le_of_ble_eq_true rfl) rfl (hb hby d9_515) (fun _ _ kq => XS.bipush X382.here hx rfl (hb hby d9_516) kq) (hb hby d9_518) (fun _ _ kq => XS.bipush X382.here hx rfl (hb hby d9_519) kq) (hb hby d9_521) (hb hby d9_522)
                        refine Gl.st st385 ?_
                        have C386 : CHr Z consts_1 s.vm h0 s.vm h385 := C383.trans (CHr.wr W385 (Safe.arv hZ.alike V382 (by decide)) C383.1)
                        have V385 : Arv Z h385 b355 k355 .char (10 : Int32) [(.int v0), (.int v1), (.int v2), (.int v3), (.int v4), (.int v5), (.int v6), (.int v7), (.int v8), (.int 0)] (.int 0) := V385
                        have N385 := Fr.snoc X385 N382 g356
                        show Gl p.tables e below _ (T385.setTop (mkF m 523 #[.val (.ref tc), .val (.int n)] [(.ref b355), (.ref b351), (.ref b351)]))
                        have f387 : Arv Z h385 tc kc .char (12 : Int32) [(.int v0), (.int v1), (.int v2), (.int v3), (.int v4), (.int v5), (.int v6), (.int v7), (.int v8), (.int v9), (.int v10), (.int v11)] (.int 0) := (f384.other W385 ne362)
                        obtain ⟨T388, h388, X388, e388, W388, V388, st388⟩ := cpC X385 hx hZ e385 f387 V385 9 v9 9 #[.val (.ref tc), .val (.int n)] [(.ref b351), (.ref b351)] 523 526 529 ⟨by decide, by decide⟩ ⟨by decide, by decide⟩ rfl (nar_id hq9.1 hq9.2) rfl (Nat.le_of_ble_eq_true rfl) rfl (hb hby d9_523) (fun _ _ kq => XS.bipush X385.here hx rfl (hb hby d9_524) kq) (hb hby d9_526) (fun _ _ kq => XS.bipush X385.here hx rfl (hb hby d9_527) kq) (hb hby d9_529) (hb hby d9_530)
                        refine Gl.st st388 ?_
                        have C389 : CHr Z consts_1 s.vm h0 s.vm h388 := C386.trans (CHr.wr W388 (Safe.arv hZ.alike V385 (by decide)) C386.1)
                        have V388 : Arv Z h388 b355 k355 .char (10 : Int32) [(.int v0), (.int v1), (.int v2), (.int v3), (.int v4), (.int v5), (.int v6), (.int v7), (.int v8), (.int v9)] (.int 0) := V388
                        have N388 := Fr.snoc X388 N385 g356
                        show Gl p.tables e below _ (T388.setTop (mkF m 531 #[.val (.ref tc), .val (.int n)] [(.ref b355), (.ref b351), (.ref b351)]))
                        have f390 : Exa Z h388 b351 "java/lang/String" := (((((((((((A351.ext E355).wr W360).wr W364).wr W367).wr W370).wr W373).wr W376).wr W379).wr W382).wr W385).wr W388)
                        have ne391 : b351 ≠ b355 := Nat.ne_of_lt (Nat.lt_of_lt_of_le A351.lt (Nat.le_of_eq g355.symm))
                        have f392 : Fld Z h388 b351 "java/lang/String" "value" "[B" .null := (((((((((((F351_4.ext E355).other W360 (Or.inl ne391)).other W364 (Or.inl ne391)).other W367 (Or.inl ne391)).other W370 (Or.inl ne391)).other W373 (Or.inl ne391)).other W376 (Or.inl ne391)).other W379 (Or.inl ne391)).other W382 (Or.inl ne391)).other W385 (Or.inl ne391)).other W388 (Or.inl ne391))
                        have f393 : Fld Z h388 b351 "java/lang/String" "coder" "B" (.int 0) := (((((((((((F351_5.ext E355).other W360 (Or.inl ne391)).other W364 (Or.inl ne391)).other W367 (Or.inl ne391)).other W370 (Or.inl ne391)).other W373 (Or.inl ne391)).other W376 (Or.inl ne391)).other W379 (Or.inl ne391)).other W382 (Or.inl ne391)).other W385 (Or.inl ne391)).other W388 (Or.inl ne391))
                        have f394 : Old Z n0 h388 := ((((((((((((pf1.ext E351).ext E355).wr W360 g356).wr W364 g356).wr W367 g356).wr W370 g356).wr W373 g356).wr W376 g356).wr W379 g356).wr W382 g356).wr W385 g356).wr W388 g356)
                        have hp395 : ∀ c ∈ ([v0, v1, v2, v3, v4, v5, v6, v7, v8, v9] : List Int32), ¬ c < 0 ∧ ¬ (255 : Int32) < c := (alcS hq0 (alcS hq1 (alcS hq2 (alcS hq3 (alcS hq4 (alcS hq5 (alcS hq6 (alcS hq7 (alcS hq8 (alcS hq9 alc0))))))))))
                        have Sf397 : Safe Z consts_1 s.vm h388 b351 := (Safe.wr W388 (Safe.arv hZ.alike V385 (by decide)) C386.1 (Safe.wr W385 (Safe.arv hZ.alike V382 (by decide)) C383.1 (Safe.wr W382 (Safe.arv hZ.alike V379 (by decide)) C380.1 (Safe.wr W379 (Safe.arv hZ.alike V376 (by decide)) C377.1 (Safe.wr W376 (Safe.arv hZ.alike V373 (by decide)) C374.1 (Safe.wr W373 (Safe.arv hZ.alike V370 (by decide)) C371.1 (Safe.wr W370 (Safe.arv hZ.alike V367 (by decide)) C368.1 (Safe.wr W367 (Safe.arv hZ.alike V364 (by decide)) C365.1 (Safe.wr W364 (Safe.arv hZ.alike V360 (by decide)) C361.1 (Safe.wr W360 (Safe.arv hZ.alike V355 (by decide)) C358.1 (Safe.ext E355 C354.1 (Safe.ext E351 C0.1 (Safe.new (EL := consts_1) (vm := s.vm) (Nat.le_of_eq g351.symm))))))))))))))
                        obtain ⟨_, _, ⟨T396, L396, k396, n396⟩, -, X396, ⟨Lc396, hQ396, l396, y396, z396⟩, st396⟩ := X388.specialBack hx (y := (⟨"java/lang/String", "<init>", "([C)V"⟩ : MethodName)) rfl hown (mvT hZ (tw hw 53 rfl)) (mvT hZ (tw hw 54 rfl)) (mvT hZ (tw hw 55 rfl)) (by decide) (StrChars.Road.backV (W := 1) hZ (wdNew hw) (kI := 4) (tw hw 2 rfl) (cs := ([v0, v1, v2, v3, v4, v5, v6, v7, v8, v9] : List Int32)) (bs := (([v0, v1, v2, v3, v4, v5, v6, v7, v8, v9] : List Int32).map (fun c => c.toInt8.toInt32))) (n := 10) g352 (Nat.le_trans (Nat.le_trans (Nat.le_trans (Nat.le_trans (Nat.le_trans (Nat.le_trans (Nat.le_trans (Nat.le_trans (Nat.le_trans (Nat.le_trans (Nat.le_trans (Nat.le_trans Z0 E351.1) E355.1) (Keep.of_wr W360).1) (Keep.of_wr W364).1) (Keep.of_wr W367).1) (Keep.of_wr W370).1) (Keep.of_wr W373).1) (Keep.of_wr W376).1) (Keep.of_wr W379).1) (Keep.of_wr W382).1) (Keep.of_wr W385).1) (Keep.of_wr W388).1) f390 f392 f393 V388 (O2.ext f394.2) P5 rfl rfl (by decide) (by decide) hp395 rfl (by decide) (by decide)) (g := (mkF m 531 #[.val (.ref tc), .val (.int n)] [(.ref b355), (.ref b351), (.ref b351)])) rfl (by rw [hml]; rfl) (Steps.refl _) (a := b351) (argsL := [(.ref b355)]) (rest := [(.ref b351)]) (lenOf pd___C_V rfl) rfl (by show 2 * 0 + _ ≤ _; exact Nat.le_of_eq rfl) (hb hby d9_531) (fun _ _ => ⟨rfl, e388, (by decide : 2 + 1 ≤ _), (by decide : 14 + 10 ≤ _)⟩)
                        dsimp only [Pt.U, Pt.locs, Pt.cells, Pt.slots] at X396 l396 y396 z396 st396 hQ396
                        subst l396 y396 z396
                        obtain ⟨rfl, N396, K396, q396_0, q396_1, t395, k395, y396_0, y396_1, y396_2, q396_2, q396_3⟩ := hQ396
                        have C398 : CHr Z consts_1 s.vm h0 s.vm T396.heap := C389.trans (CHr.keep K396 (sfS Sf397 sf0) C389.1)
                        have M396 := Fr.app N388 N396
                        have g399 : n0 ≤ t395 := Nat.le_trans (Nat.le_trans (Nat.le_trans (Nat.le_trans (Nat.le_trans (Nat.le_trans (Nat.le_trans (Nat.le_trans (Nat.le_trans (Nat.le_trans (Nat.le_trans (Nat.le_trans (Nat.le_trans Z0 E351.1) E355.1) (Keep.of_wr W360).1) (Keep.of_wr W364).1) (Keep.of_wr W367).1) (Keep.of_wr W370).1) (Keep.of_wr W373).1) (Keep.of_wr W376).1) (Keep.of_wr W379).1) (Keep.of_wr W382).1) (Keep.of_wr W385).1) (Keep.of_wr W388).1) y396_1
                        have s400 : h0.size ≤ t395 := Nat.le_trans (Nat.le_trans (Nat.le_trans (Nat.le_trans (Nat.le_trans (Nat.le_trans (Nat.le_trans (Nat.le_trans (Nat.le_trans (Nat.le_trans (Nat.le_trans (Nat.le_trans (Nat.le_trans (Nat.le_refl _) E351.1) E355.1) (Keep.of_wr W360).1) (Keep.of_wr W364).1) (Keep.of_wr W367).1) (Keep.of_wr W370).1) (Keep.of_wr W373).1) (Keep.of_wr W376).1) (Keep.of_wr W379).1) (Keep.of_wr W382).1) (Keep.of_wr W385).1) (Keep.of_wr W388).1) y396_1
                        refine Gl.to st396 ?_
                        show Gl p.tables e below _ (T396.setTop (mkF m 534 #[.val (.ref tc), .val (.int n)] [(.ref b351)]))
                        show Gl p.tables e below _ (T396.setTop (mkF m 534 #[.val (.ref tc), .val (.int n)] [(.ref b351)]))
                        have K401 : Keep h0 T396.heap [] := ((((((((((((((Keep.refl h0 []).ext E351).ext E355).wr W360 (Or.inr s357)).wr W364 (Or.inr s357)).wr W367 (Or.inr s357)).wr W370 (Or.inr s357)).wr W373 (Or.inr s357)).wr W376 (Or.inr s357)).wr W379 (Or.inr s357)).wr W382 (Or.inr s357)).wr W385 (Or.inr s357)).wr W388 (Or.inr s357)).trans K396 (allS (Or.inr s353) all0))
                        exact Gl.retAH X396 hx hS0 (Nat.le_trans (Nat.le_trans (Nat.le_trans (Nat.le_trans (Nat.le_trans (Nat.le_trans (Nat.le_trans (Nat.le_trans (Nat.le_trans (Nat.le_trans (Nat.le_trans (Nat.le_trans (Nat.le_trans (Nat.le_of_eq (congrArg Array.size e0)) E351.1) E355.1) (Keep.of_wr W360).1) (Keep.of_wr W364).1) (Keep.of_wr W367).1) (Keep.of_wr W370).1) (Keep.of_wr W373).1) (Keep.of_wr W376).1) (Keep.of_wr W379).1) (Keep.of_wr W382).1) (Keep.of_wr W385).1) (Keep.of_wr W388).1) K396.1) (by rw [hh]; exact C398.trans (CHv.at X396 hZ (elW hw) C398.1)) Bd.returns rfl rfl (hb hby d9_534) hlk (by decide) (by decide) ⟨b351, t395, k395, ([v0, v1, v2, v3, v4, v5, v6, v7, v8, v9] : List Int32), rfl, M396, K401, q396_0, q396_1, q396_2, q396_3, (alcS hq0 (alcS hq1 (alcS hq2 (alcS hq3 (alcS hq4 (alcS hq5 (alcS hq6 (alcS hq7 (alcS hq8 (alcS hq9 alc0)))))))))), (Nat.le_of_ble_eq_true rfl)⟩
                      · refine Gl.st (fun _ kq => XS.icmpYes X0.here hx rfl (pc0 := 452) (pc' := 535) rfl (hb hby d9_452) rfl (feq (hc350 : ¬ (n = (10 : Int32)))).2 (by decide) (by decide) kq) ?_
                        show Gl p.tables e below _ (s₁.setTop (mkF m 535 #[.val (.ref tc), .val (.int n)] []))
                        refine Gl.st (fun _ kq => XS.iloadN X0.here hx rfl (hb hby d9_535) rfl kq) ?_
                        refine Gl.st (fun _ kq => XS.bipush X0.here hx rfl (hb hby d9_536) kq) ?_
                        show Gl p.tables e below _ (s₁.setTop (mkF m 538 #[.val (.ref tc), .val (.int n)] [(.int 11), (.int n)]))
                        by_cases hc402 : n = (11 : Int32)
                        · refine Gl.st (fun _ kq => XS.icmpNo X0.here hx rfl (hb hby d9_538) rfl (teq (hc402 : n = (11 : Int32))).2 kq) ?_
                          show Gl p.tables e below _ (s₁.setTop (mkF m 541 #[.val (.ref tc), .val (.int n)] []))
                          obtain ⟨T403, h403, X403, e403, E403, A403, D403, U403, st403⟩ := newO X0 hx hZ hown (tw hw 52 rfl) (tw hw 2 rfl) (tw hw 1 rfl) e0 (g := (mkF m 541 #[.val (.ref tc), .val (.int n)] [])) rfl (hb hby d9_541) (by decide) (by decide)
                          obtain ⟨b403, g403⟩ : ∃ z, z = h0.size := ⟨_, rfl⟩
                          rw [← g403] at A403 D403 U403 st403
                          refine Gl.st st403 ?_
                          have g404 : n0 ≤ b403 := Nat.le_trans Z0 (Nat.le_of_eq g403.symm)
                          have s405 : h0.size ≤ b403 := Nat.le_trans (Nat.le_refl _) (Nat.le_of_eq g403.symm)
                          have C406 : CHr Z consts_1 s.vm h0 s.vm h403 := C0.trans (CHr.ext E403 C0.1)
                          have F403_4 : Fld Z h403 b403 "java/lang/String" "value" "[B" .null := D403 (Or.inr (tw hw 4 rfl)) (ty := (.array .byte)) (by decide)
                          have F403_5 : Fld Z h403 b403 "java/lang/String" "coder" "B" (.int 0) := D403 (Or.inr (tw hw 5 rfl)) (ty := .byte) (by decide)
                          show Gl p.tables e below _ (T403.setTop (mkF m 544 #[.val (.ref tc), .val (.int n)] [(.ref b403)]))
                          refine Gl.st (fun _ kq => XS.dup X403.here hx rfl (hb hby d9_544) rfl rfl kq) ?_
                          refine Gl.st (fun _ kq => XS.bipush X403.here hx rfl (hb hby d9_545) kq) ?_
                          show Gl p.tables e below _ (T403.setTop (mkF m 547 #[.val (.ref tc), .val (.int n)] [(.int 11), (.ref b403), (.ref b403)]))
                          obtain ⟨T407, h407, k407, X407, e407, E407, A407, st407⟩ := newP X403 hx hZ (tw hw 8 rfl) e403 (g := (mkF m 547 #[.val (.ref tc), .val (.int n)] [(.int 11), (.ref b403), (.ref b403)])) rfl (hb hby d9_547) rfl (by decide) (cap := 11) (by decide) (by decide) (by decide) (by decide)
                          obtain ⟨b407, g407⟩ : ∃ z, z = h403.size := ⟨_, rfl⟩
                          rw [← g407] at A407 st407
                          refine Gl.st st407 ?_
                          have g408 : n0 ≤ b407 := Nat.le_trans (Nat.le_trans Z0 E403.1) (Nat.le_of_eq g407.symm)
                          have s409 : h0.size ≤ b407 := Nat.le_trans (Nat.le_trans (Nat.le_refl _) E403.1) (Nat.le_of_eq g407.symm)
                          have C410 : CHr Z consts_1 s.vm h0 s.vm h407 := C406.trans (CHr.ext E407 C406.1)
                          have V407 : Arv Z h407 b407 k407 .char (11 : Int32) [(.int 0), (.int 0), (.int 0), (.int 0), (.int 0), (.int 0), (.int 0), (.int 0), (.int 0), (.int 0), (.int 0)] (.int 0) := (Arv.new A407 (by decide)).pad (pad_rep [] (.int 0) 11)
                          show Gl p.tables e below _ (T407.setTop (mkF m 549 #[.val (.ref tc), .val (.int n)] [(.ref b407), (.ref b403), (.ref b403)]))
                          have f411 : Arv Z h407 tc kc .char (12 : Int32) [(.int v0), (.int v1), (.int v2), (.int v3), (.int v4), (.int v5), (.int v6), (.int v7), (.int v8), (.int v9), (.int v10), (.int v11)] (.int 0) := ((pf0.ext E403).ext E407)
                          obtain ⟨T412, h412, X412, e412, W412, V412, st412⟩ := cpC X407 hx hZ e407 f411 V407 0 v0 0 #[.val (.ref tc), .val (.int n)] [(.ref b403), (.ref b403)] 549 551 553 ⟨by decide, by decide⟩ ⟨by decide, by decide⟩ rfl (nar_id hq0.1 hq0.2) rfl (Nat.le_of_ble_eq_true rfl) rfl (hb hby d9_549) (fun _ _ kq => XS.iconst X407.here hx rfl (hb hby d9_550) kq) (hb hby d9_551) (fun _ _ kq => XS.iconst X407.here hx rfl (hb hby d9_552) kq) (hb hby d9_553) (hb hby d9_554)
                          refine Gl.st st412 ?_
                          have C413 : CHr Z consts_1 s.vm h0 s.vm h412 := C410.trans (CHr.wr W412 (Safe.arv hZ.alike V407 (by decide)) C410.1)
                          have V412 : Arv Z h412 b407 k407 .char (11 : Int32) [(.int v0), (.int 0), (.int 0), (.int 0), (.int 0), (.int 0), (.int 0), (.int 0), (.int 0), (.int 0), (.int 0)] (.int 0) := V412
                          have N412 := Fr.snoc X412 N0 g408
                          show Gl p.tables e below _ (T412.setTop (mkF m 555 #[.val (.ref tc), .val (.int n)] [(.ref b407), (.ref b403), (.ref b403)]))
                          have ne414 : tc ≠ b407 := Nat.ne_of_lt (Nat.lt_of_lt_of_le (Nat.lt_of_lt_of_le pf0.lt E403.1) (Nat.le_of_eq g407.symm))
                          have f415 : Arv Z h412 tc kc .char (12 : Int32) [(.int v0), (.int v1), (.int v2), (.int v3), (.int v4), (.int v5), (.int v6), (.int v7), (.int v8), (.int v9), (.int v10), (.int v11)] (.int 0) := (f411.other W412 ne414)
                          obtain ⟨T416, h416, X416, e416, W416, V416, st416⟩ := cpC X412 hx hZ e412 f415 V412 1 v1 1 #[.val (.ref tc), .val (.int n)] [(.ref b403), (.ref b403)] 555 557 559 ⟨by decide, by decide⟩ ⟨by decide, by decide⟩ rfl (nar_id hq1.1 hq1.2) rfl (Nat.le_of_ble_eq_true rfl) rfl (hb hby d9_555) (fun _ _ kq => XS.iconst X412.here hx rfl (hb hby d9_556) kq) (hb hby d9_557) (fun _ _ kq => XS.iconst X412.here hx rfl (hb hby d9_558) kq) (hb hby d9_559) (hb hby d9_560)
                          refine Gl.st st416 ?_
                          have C417 : CHr Z consts_1 s.vm h0 s.vm h416 := C413.trans (CHr.wr W416 (Safe.arv hZ.alike V412 (by decide)) C413.1)
                          have V416 : Arv Z h416 b407 k407 .char (11 : Int32) [(.int v0), (.int v1), (.int 0), (.int 0), (.int 0), (.int 0), (.int 0), (.int 0), (.int 0), (.int 0), (.int 0)] (.int 0) := V416
                          have N416 := Fr.snoc X416 N412 g408
                          show Gl p.tables e below _ (T416.setTop (mkF m 561 #[.val (.ref tc), .val (.int n)] [(.ref b407), (.ref b403), (.ref b403)]))
                          have f418 : Arv Z h416 tc kc .char (12 : Int32) [(.int v0), (.int v1), (.int v2), (.int v3), (.int v4), (.int v5), (.int v6), (.int v7), (.int v8), (.int v9), (.int v10), (.int v11)] (.int 0) := (f415.other W416 ne414)
                          obtain ⟨T419, h419, X419, e419, W419, V419, st419⟩ := cpC X416 hx hZ e416 f418 V416 2 v2 2 #[.val (.ref tc), .val (.int n)] [(.ref b403), (.ref b403)] 561 563 565 ⟨by decide, by decide⟩ ⟨by decide, by decide⟩ rfl (nar_id hq2.1 hq2.2) rfl (Nat.le_of_ble_eq_true rfl) rfl (hb hby d9_561) (fun _ _ kq => XS.iconst X416.here hx rfl (hb hby d9_562) kq) (hb hby d9_563) (fun _ _ kq => XS.iconst X416.here hx rfl (hb hby d9_564) kq) (hb hby d9_565) (hb hby d9_566)
                          refine Gl.st st419 ?_
                          have C420 : CHr Z consts_1 s.vm h0 s.vm h419 := C417.trans (CHr.wr W419 (Safe.arv hZ.alike V416 (by decide)) C417.1)
                          have V419 : Arv Z h419 b407 k407 .char (11 : Int32) [(.int v0), (.int v1), (.int v2), (.int 0), (.int 0), (.int 0), (.int 0), (.int 0), (.int 0), (.int 0), (.int 0)] (.int 0) := V419
                          have N419 := Fr.snoc X419 N416 g408
                          show Gl p.tables e below _ (T419.setTop (mkF m 567 #[.val (.ref tc), .val (.int n)] [(.ref b407), (.ref b403), (.ref b403)]))
                          have f421 : Arv Z h419 tc kc .char (12 : Int32) [(.int v0), (.int v1), (.int v2), (.int v3), (.int v4), (.int v5), (.int v6), (.int v7), (.int v8), (.int v9), (.int v10), (.int v11)] (.int 0) := (f418.other W419 ne414)
                          obtain ⟨T422, h422, X422, e422, W422, V422, st422⟩ := cpC X419 hx hZ e419 f421 V419 3 v3 3 #[.val (.ref tc), .val (.int n)] [(.ref b403), (.ref b403)] 567 569 571 ⟨by decide, by decide⟩ ⟨by decide, by decide⟩ rfl (nar_id hq3.1 hq3.2) rfl (Nat.le_of_ble_eq_true rfl) rfl (hb hby d9_567) (fun _ _ kq => XS.iconst X419.here hx rfl (hb hby d9_568) kq) (hb hby d9_569) (fun _ _ kq => XS.iconst X419.here hx rfl (hb hby d9_570) kq) (hb hby d9_571) (hb hby d9_572)
                          refine Gl.st st422 ?_
                          have C423 : CHr Z consts_1 s.vm h0 s.vm h422 := C420.trans (CHr.wr W422 (Safe.arv hZ.alike V419 (by decide)) C420.1)
                          have V422 : Arv Z h422 b407 k407 .char (11 : Int32) [(.int v0), (.int v1), (.int v2), (.int v3), (.int 0), (.int 0), (.int 0), (.int 0), (.int 0), (.int 0), (.int 0)] (.int 0) := V422
                          have N422 := Fr.snoc X422 N419 g408
                          show Gl p.tables e below _ (T422.setTop (mkF m 573 #[.val (.ref tc), .val (.int n)] [(.ref b407), (.ref b403), (.ref b403)]))
                          have f424 : Arv Z h422 tc kc .char (12 : Int32) [(.int v0), (.int v1), (.int v2), (.int v3), (.int v4), (.int v5), (.int v6), (.int v7), (.int v8), (.int v9), (.int v10), (.int v11)] (.int 0) := (f421.other W422 ne414)
                          obtain ⟨T425, h425, X425, e425, W425, V425, st425⟩ := cpC X422 hx hZ e422 f424 V422 4 v4 4 #[.val (.ref tc), .val (.int n)] [(.ref b403), (.ref b403)] 573 575 577 ⟨by decide, by decide⟩ ⟨by decide, by decide⟩ rfl (nar_id hq4.1 hq4.2) rfl (Nat.le_of_ble_eq_true rfl) rfl (hb hby d9_573) (fun _ _ kq => XS.iconst X422.here hx rfl (hb hby d9_574) kq) (hb hby d9_575) (fun _ _ kq => XS.iconst X422.here hx rfl (hb hby d9_576) kq) (hb hby d9_577) (hb hby d9_578)
                          refine Gl.st st425 ?_
                          have C426 : CHr Z consts_1 s.vm h0 s.vm h425 := C423.trans (CHr.wr W425 (Safe.arv hZ.alike V422 (by decide)) C423.1)
                          have V425 : Arv Z h425 b407 k407 .char (11 : Int32) [(.int v0), (.int v1), (.int v2), (.int v3), (.int v4), (.int 0), (.int 0), (.int 0), (.int 0), (.int 0), (.int 0)] (.int 0) := V425
                          have N425 := Fr.snoc X425 N422 g408
                          show Gl p.tables e below _ (T425.setTop (mkF m 579 #[.val (.ref tc), .val (.int n)] [(.ref b407), (.ref b403), (.ref b403)]))
                          have f427 : Arv Z h425 tc kc .char (12 : Int32) [(.int v0), (.int v1), (.int v2), (.int v3), (.int v4), (.int v5), (.int v6), (.int v7), (.int v8), (.int v9), (.int v10), (.int v11)] (.int 0) := (f424.other W425 ne414)
                          obtain ⟨T428, h428, X428, e428, W428, V428, st428⟩ := cpC X425 hx hZ e425 f427 V425 5 v5 5 #[.val (.ref tc), .val (.int n)] [(.ref b403), (.ref b403)] 579 581 583 ⟨by decide, by decide⟩ ⟨by decide, by decide⟩ rfl (nar_id hq5.1 hq5.2) rfl (Nat.le_of_ble_eq_true rfl) rfl (hb hby d9_579) (fun _ _ kq => XS.iconst X425.here hx rfl (hb hby d9_580) kq) (hb hby d9_581) (fun _ _ kq => XS.iconst X425.here hx rfl (hb hby d9_582) kq) (hb hby d9_583) (hb hby d9_584)
                          refine Gl.st st428 ?_
                          have C429 : CHr Z consts_1 s.vm h0 s.vm h428 := C426.trans (CHr.wr W428 (Safe.arv hZ.alike V425 (by decide)) C426.1)
                          have V428 : Arv Z h428 b407 k407 .char (11 : Int32) [(.int v0), (.int v1), (.int v2), (.int v3), (.int v4), (.int v5), (.int 0), (.int 0), (.int 0), (.int 0), (.int 0)] (.int 0) := V428
                          have N428 := Fr.snoc X428 N425 g408
                          show Gl p.tables e below _ (T428.setTop (mkF m 585 #[.val (.ref tc), .val (.int n)] [(.ref b407), (.ref b403), (.ref b403)]))
                          have f430 : Arv Z h428 tc kc .char (12 : Int32) [(.int v0), (.int v1), (.int v2), (.int v3), (.int v4), (.int v5), (.int v6), (.int v7), (.int v8), (.int v9), (.int v10), (.int v11)] (.int 0) := (f427.other W428 ne414)
                          obtain ⟨T431, h431, X431, e431, W431, V431, st431⟩ := cpC X428 hx hZ e428 f430 V428 6 v6 6 #[.val (.ref tc), .val (.int n)] [(.ref b403), (.ref b403)] 585 588 591 ⟨by decide, by decide⟩ ⟨by decide, by decide⟩ rfl (nar_id hq6.1 hq6.2) rfl (Nat.le_of_ble_eq_true rfl) rfl (hb hby d9_585) (fun _ _ kq => XS.bipush X428.here hx rfl (hb hby d9_586) kq) (hb hby d9_588) (fun _ _ kq => XS.bipush X428.here hx rfl (hb hby d9_589) kq) (hb hby d9_591) (hb hby d9_592)
                          refine Gl.st st431 ?_
                          have C432 : CHr Z consts_1 s.vm h0 s.vm h431 := C429.trans (CHr.wr W431 (Safe.arv hZ.alike V428 (by decide)) C429.1)
                          have V431 : Arv Z h431 b407 k407 .char (11 : Int32) [(.int v0), (.int v1), (.int v2), (.int v3), (.int v4), (.int v5), (.int v6), (.int 0), (.int 0), (.int 0), (.int 0)] (.int 0) := V431
                          have N431 := Fr.snoc X431 N428 g408
                          show Gl p.tables e below _ (T431.setTop (mkF m 593 #[.val (.ref tc), .val (.int n)] [(.ref b407), (.ref b403), (.ref b403)]))
                          have f433 : Arv Z h431 tc kc .char (12 : Int32) [(.int v0), (.int v1), (.int v2), (.int v3), (.int v4), (.int v5), (.int v6), (.int v7), (.int v8), (.int v9), (.int v10), (.int v11)] (.int 0) := (f430.other W431 ne414)
                          obtain ⟨T434, h434, X434, e434, W434, V434, st434⟩ := cpC X431 hx hZ e431 f433 V431 7 v7 7 #[.val (.ref tc), .val (.int n)] [(.ref b403), (.ref b403)] 593 596 599 ⟨by decide, by decide⟩ ⟨by decide, by decide⟩ rfl (nar_id hq7.1 hq7.2) rfl (Nat.le_of_ble_eq_true rfl) rfl (hb hby d9_593) (fun _ _ kq => XS.bipush X431.here hx rfl (hb hby d9_594) kq) (hb hby d9_596) (fun _ _ kq => XS.bipush X431.here hx rfl (hb hby d9_597) kq) (hb hby d9_599) (hb hby d9_600)
                          refine Gl.st st434 ?_
                          have C435 : CHr Z consts_1 s.vm h0 s.vm h434 := C432.trans (CHr.wr W434 (Safe.arv hZ.alike V431 (by decide)) C432.1)
                          have V434 : Arv Z h434 b407 k407 .char (11 : Int32) [(.int v0), (.int v1), (.int v2), (.int v3), (.int v4), (.int v5), (.int v6), (.int v7), (.int 0), (.int 0), (.int 0)] (.int 0) := V434
                          have N434 := Fr.snoc X434 N431 g408
                          show Gl p.tables e below _ (T434.setTop (mkF m 601 #[.val (.ref tc), .val (.int n)] [(.ref b407), (.ref b403), (.ref b403)]))
                          have f436 : Arv Z h434 tc kc .char (12 : Int32) [(.int v0), (.int v1), (.int v2), (.int v3), (.int v4), (.int v5), (.int v6), (.int v7), (.int v8), (.int v9), (.int v10), (.int v11)] (.int 0) := (f433.other W434 ne414)
                          obtain ⟨T437, h437, X437, e437, W437, V437, st437⟩ := cpC X434 hx hZ e434 f436 V434 8 v8 8 #[.val (.ref tc), .val (.int n)] [(.ref b403), (.ref b403)] 601 604 607 ⟨by decide, by decide⟩ ⟨by decide, by decide⟩ rfl (nar_id hq8.1 hq8.2) rfl (Nat.le_of_ble_eq_true rfl) rfl (hb hby d9_601) (fun _ _ kq => XS.bipush X434.here hx rfl (hb hby d9_602) kq) (hb hby d9_604) (fun _ _ kq => XS.bipush X434.here hx rfl (hb hby d9_605) kq) (hb hby d9_607) (hb hby d9_608)
                          refine Gl.st st437 ?_
                          have C438 : CHr Z consts_1 s.vm h0 s.vm h437 := C435.trans (CHr.wr W437 (Safe.arv hZ.alike V434 (by decide)) C435.1)
                          have V437 : Arv Z h437 b407 k407 .char (11 : Int32) [(.int v0), (.int v1), (.int v2), (.int v3), (.int v4), (.int v5), (.int v6), (.int v7), (.int v8), (.int 0), (.int 0)] (.int 0) := V437
                          have N437 := Fr.snoc X437 N434 g408
                          show Gl p.tables e below _ (T437.setTop (mkF m 609 #[.val (.ref tc), .val (.int n)] [(.ref b407), (.ref b403), (.ref b403)]))
                          have f439 : Arv Z h437 tc kc .char (12 : Int32) [(.int v0), (.int v1), (.int v2), (.int v3), (.int v4), (.int v5), (.int v6), (.int v7), (.int v8), (.int v9), (.int v10), (.int v11)] (.int 0) := (f436.other W437 ne414)
                          obtain ⟨T440, h440, X440, e440, W440, V440, st440⟩ := cpC X437 hx hZ e437 f439 V437 9 v9 9 #[.val (.ref tc), .val (.int n)] [(.ref b403), (.ref b403)] 609 612 615 ⟨by decide, by decide⟩ ⟨by decide, by decide⟩ rfl (nar_id hq9.1 hq9.2) rfl (Nat.le_of_ble_eq_true rfl) rfl (hb hby d9_609) (fun _ _ kq => XS.bipush X437.here hx rfl (hb hby d9_610) kq) (hb hby d9_612) (fun _ _ kq => XS.bipush X437.here hx rfl (hb hby d9_613) kq) (hb hby d9_615) (hb hby d9_616)
                          refine Gl.st st440 ?_
                          have C441 : CHr Z consts_1 s.vm h0 s.vm h440 := C438.trans (CHr.wr W440 (Safe.arv hZ.alike V437 (by decide)) C438.1)
                          have V440 : Arv Z h440 b407 k407 .char (11 : Int32) [(.int v0), (.int v1), (.int v2), (.int v3), (.int v4), (.int v5), (.int v6), (.int v7), (.int v8), (.int v9), (.int 0)] (.int 0) := V440
                          have N440 := Fr.snoc X440 N437 g408
                          show Gl p.tables e below _ (T440.setTop (mkF m 617 #[.val (.ref tc), .val (.int n)] [(.ref b407), (.ref b403), (.ref b403)]))
                          have f442 : Arv Z h440 tc kc .char (12 : Int32) [(.int v0), (.int v1), (.int v2), (.int v3), (.int v4), (.int v5), (.int v6), (.int v7), (.int v8), (.int v9), (.int v10), (.int v11)] (.int 0) := (f439.other W440 ne414)
                          obtain ⟨T443, h443, X443, e443, W443, V443, st443⟩ := cpC X440 hx hZ e440 f442 V440 10 v10 10 #[.val (.ref tc), .val (.int n)] [(.ref b403), (.ref b403)] 617 620 623 ⟨by decide, by decide⟩ ⟨by decide, by decide⟩ rfl (nar_id hq10.1 hq10.2) rfl (Nat.le_of_ble_eq_true rfl) rfl (hb hby d9_617) (fun _ _ kq => XS.bipush X440.here hx rfl (hb hby d9_618) kq) (hb hby d9_620) (fun _ _ kq => XS.bipush X440.here hx rfl (hb hby d9_621) kq) (hb hby d9_623) (hb hby d9_624)
                          refine Gl.st st443 ?_
                          have C444 : CHr Z consts_1 s.vm h0 s.vm h443 := C441.trans (CHr.wr W443 (Safe.arv hZ.alike V440 (by decide)) C441.1)
                          have V443 : Arv Z h443 b407 k407 .char (11 : Int32) [(.int v0), (.int v1), (.int v2), (.int v3), (.int v4), (.int v5), (.int v6), (.int v7), (.int v8), (.int v9), (.int v10)] (.int 0) := V443
                          have N443 := Fr.snoc X443 N440 g408
                          show Gl p.tables e below _ (T443.setTop (mkF m 625 #[.val (.ref tc), .val (.int n)] [(.ref b407), (.ref b403), (.ref b403)]))
                          have f445 : Exa Z h443 b403 "java/lang/String" := ((((((((((((A403.ext E407).wr W412).wr W416).wr W419).wr W422).wr W425).wr W428).wr W431).wr W434).wr W437).wr W440).wr W443)
                          have ne446 : b403 ≠ b407 := Nat.ne_of_lt (Nat.lt_of_lt_of_le A403.lt (Nat.le_of_eq g407.symm))
                          have f447 : Fld Z h443 b403 "java/lang/String" "value" "[B" .null := ((((((((((((F403_4.ext E407).other W412 (Or.inl ne446)).other W416 (Or.inl ne446)).other W419 (Or.inl ne446)).other W422 (Or.inl ne446)).other W425 (Or.inl ne446)).other W428 (Or.inl ne446)).other W431 (Or.inl ne446)).other W434 (Or.inl ne446)).other W437 (Or.inl ne446)).other W440 (Or.inl ne446)).other W443 (Or.inl ne446))
                          have f448 : Fld Z h443 b403 "java/lang/String" "coder" "B" (.int 0) := ((((((((((((F403_5.ext E407).other W412 (Or.inl ne446)).other W416 (Or.inl ne446)).other W419 (Or.inl ne446)).other W422 (Or.inl ne446)).other W425 (Or.inl ne446)).other W428 (Or.inl ne446)).other W431 (Or.inl ne446)).other W434 (Or.inl ne446)).other W437 (Or.inl ne446)).other W440 (Or.inl ne446)).other W443 (Or.inl ne446))
                          have f449 : Old Z n0 h443 := (((((((((((((pf1.ext E403).ext E407).wr W412 g408).wr W416 g408).wr W419 g408).wr W422 g408).wr W425 g408).wr W428 g408).wr W431 g408).wr W434 g408).wr W437 g408).wr W440 g408).wr W443 g408)
                          have hp450 : ∀ c ∈ ([v0, v1, v2, v3, v4, v5, v6, v7, v8, v9, v10] : List Int32), ¬ c < 0 ∧ ¬ (255 : Int32) < c := (alcS hq0 (alcS hq1 (alcS hq2 (alcS hq3 (alcS hq4 (alcS hq5 (alcS hq6 (alcS hq7 (alcS hq8 (alcS hq9 (alcS hq10 alc0)))))))))))
                          have Sf452 : Safe Z consts_1 s.vm h443 b403 := (Safe.wr W443 (Safe.arv hZ.alike V440 (by decide)) C441.1 (Safe.wr W440 (Safe.arv hZ.alike V437 (by decide)) C438.1 (Safe.wr W437 (Safe.arv hZ.alike V434 (by decide)) C435.1 (Safe.wr W434 (Safe.arv hZ.alike V431 (by decide)) C432.1 (Safe.wr W431 (Safe.arv hZ.alike V428 (by decide)) C429.1 (Safe.wr W428 (Safe.arv hZ.alike V425 (by decide)) C426.1 (Safe.wr W425 (Safe.arv hZ.alike V422 (by decide)) C423.1 (Safe.wr W422 (Safe.arv hZ.alike V419 (by decide)) C420.1 (Safe.wr W419 (Safe.arv hZ.alike V416 (by decide)) C417.1 (Safe.wr W416 (Safe.arv hZ.alike V412 (by decide)) C413.1 (Safe.wr W412 (Safe.arv hZ.alike V407 (by decide)) C410.1 (Safe.ext E407 C406.1 (Safe.ext E403 C0.1 (Safe.new (EL := consts_1) (vm := s.vm) (Nat.le_of_eq g403.symm)))))))))))))))
                          obtain ⟨_, _, ⟨T451, L451, k451, n451⟩, -, X451, ⟨Lc451, hQ451, l451, y451, z451⟩, st451⟩ := X443.specialBack hx (y := (⟨"java/lang/String", "<init>", "([C)V"⟩ : MethodName)) rfl hown (mvT hZ (tw hw 53 rfl)) (mvT hZ (tw hw 54 rfl)) (mvT hZ (tw hw 55 rfl)) (by decide) (StrChars.Road.backV (W := 1) hZ (wdNew hw) (kI := 4) (tw hw 2 rfl) (cs := ([v0, v1, v2, v3, v4, v5, v6, v7, v8, v9, v10] : List Int32)) (bs := (([v0, v1, v2, v3, v4, v5, v6, v7, v8, v9, v10] : List Int32).map (fun c => c.toInt8.toInt32))) (n := 11) g404 (Nat.le_trans (Nat.le_trans (Nat.le_trans (Nat.le_trans (Nat.le_trans (Nat.le_trans (Nat.le_trans (Nat.le_trans (Nat.le_trans (Nat.le_trans (Nat.le_trans (Nat.le_trans (Nat.le_trans Z0 E403.1) E407.1) (Keep.of_wr W412).1) (Keep.of_wr W416).1) (Keep.of_wr W419).1) (Keep.of_wr W422).1) (Keep.of_wr W425).1) (Keep.of_wr W428).1) (Keep.of_wr W431).1) (Keep.of_wr W434).1) (Keep.of_wr W437).1) (Keep.of_wr W440).1) (Keep.of_wr W443).1) f445 f447 f448 V443 (O2.ext f449.2) P5 rfl rfl (by decide) (by decide) hp450 rfl (by decide) (by decide)) (g := (mkF m 625 #[.val (.ref tc), .val (.int n)] [(.ref b407), (.ref b403), (.ref b403)])) rfl (by rw [hml]; rfl) (Steps.refl _) (a := b403) (argsL := [(.ref b407)]) (rest := [(.ref b403)]) (lenOf pd___C_V rfl) rfl (by show 2 * 0 + _ ≤ _; exact Nat.le_of_eq rfl) (hb hby d9_625) (fun _ _ => ⟨rfl, e443, (by decide : 2 + 1 ≤ _), (by decide : 15 + 11 ≤ _)⟩)
                          dsimp only [Pt.U, Pt.locs, Pt.cells, Pt.slots] at X451 l451 y451 z451 st451 hQ451
                          subst l451 y451 z451
                          obtain ⟨rfl, N451, K451, q451_0, q451_1, t450, k450, y451_0, y451_1, y451_2, q451_2, q451_3⟩ := hQ451
                          have C453 : CHr Z consts_1 s.vm h0 s.vm T451.heap := C444.trans (CHr.keep K451 (sfS Sf452 sf0) C444.1)
                          have M451 := Fr.app N443 N451
                          have g454 : n0 ≤ t450 := Nat.le_trans (Nat.le_trans (Nat.le_trans (Nat.le_trans (Nat.le_trans (Nat.le_trans (Nat.le_trans (Nat.le_trans (Nat.le_trans (Nat.le_trans (Nat.le_trans (Nat.le_trans (Nat.le_trans (Nat.le_trans Z0 E403.1) E407.1) (Keep.of_wr W412).1) (Keep.of_wr W416).1) (Keep.of_wr W419).1) (Keep.of_wr W422).1) (Keep.of_wr W425).1) (Keep.of_wr W428).1) (Keep.of_wr W431).1) (Keep.of_wr W434).1) (Keep.of_wr W437).1) (Keep.of_wr W440).1) (Keep.of_wr W443).1) y451_1
                          have s455 : h0.size ≤ t450 := Nat.le_trans (Nat.le_trans (Nat.le_trans (Nat.le_trans (Nat.le_trans (Nat.le_trans (Nat.le_trans (Nat.le_trans (Nat.le_trans (Nat.le_trans (Nat.le_trans (Nat.le_trans (Nat.le_trans (Nat.le_trans (Nat.le_refl _) E403.1) E407.1) (Keep.of_wr W412).1) (Keep.of_wr W416).1) (Keep.of_wr W419).1) (Keep.of_wr W422).1) (Keep.of_wr W425).1) (Keep.of_wr W428).1) (Keep.of_wr W431).1) (Keep.of_wr W434).1) (Keep.of_wr W437).1) (Keep.of_wr W440).1) (Keep.of_wr W443).1) y451_1
                          refine Gl.to st451 ?_
                          show Gl p.tables e below _ (T451.setTop (mkF m 628 #[.val (.ref tc), .val (.int n)] [(.ref b403)]))
                          show Gl p.tables e below _ (T451.setTop (mkF m 628 #[.val (.ref tc), .val (.int n)] [(.ref b403)]))
                          have K456 : Keep h0 T451.heap [] := (((((((((((((((Keep.refl h0 []).ext E403).ext E407).wr W412 (Or.inr s409)).wr W416 (Or.inr s409)).wr W419 (Or.inr s409)).wr W422 (Or.inr s409)).wr W425 (Or.inr s409)).wr W428 (Or.inr s409)).wr W431 (Or.inr s409)).wr W434 (Or.inr s409)).wr W437 (Or.inr s409)).wr W440 (Or.inr s409)).wr W443 (Or.inr s409)).trans K451 (allS (Or.inr s405) all0))
                          exact Gl.retAH X451 hx hS0 (Nat.le_trans (Nat.le_trans (Nat.le_trans (Nat.le_trans (Nat.le_trans (Nat.le_trans (Nat.le_trans (Nat.le_trans (Nat.le_trans (Nat.le_trans (Nat.le_trans (Nat.le_trans (Nat.le_trans (Nat.le_trans (Nat.le_of_eq (congrArg Array.size e0)) E403.1) E407.1) (Keep.of_wr W412).1) (Keep.of_wr W416).1) (Keep.of_wr W419).1) (Keep.of_wr W422).1) (Keep.of_wr W425).1) (Keep.of_wr W428).1) (Keep.of_wr W431).1) (Keep.of_wr W434).1) (Keep.of_wr W437).1) (Keep.of_wr W440).1) (Keep.of_wr W443).1) K451.1) (by rw [hh]; exact C453.trans (CHv.at X451 hZ (elW hw) C453.1)) Bd.returns rfl rfl (hb hby d9_628) hlk (by decide) (by decide) ⟨b403, t450, k450, ([v0, v1, v2, v3, v4, v5, v6, v7, v8, v9, v10] : List Int32), rfl, M451, K456, q451_0, q451_1, q451_2, q451_3, (alcS hq0 (alcS hq1 (alcS hq2 (alcS hq3 (alcS hq4 (alcS hq5 (alcS hq6 (alcS hq7 (alcS hq8 (alcS hq9 (alcS hq10 alc0))))))))))), (Nat.le_of_ble_eq_true rfl)⟩
                        · refine Gl.st (fun _ kq => XS.icmpYes X0.here hx rfl (pc0 := 538) (pc' := 629) rfl (hb hby d9_538) rfl (feq (hc402 : ¬ (n = (11 : Int32)))).2 (by decide) (by decide) kq) ?_
                          show Gl p.tables e below _ (s₁.setTop (mkF m 629 #[.val (.ref tc), .val (.int n)] []))
                          obtain ⟨T457, h457, X457, e457, E457, A457, D457, U457, st457⟩ := newO X0 hx hZ hown (tw hw 52 rfl) (tw hw 2 rfl) (tw hw 1 rfl) e0 (g := (mkF m 629 #[.val (.ref tc), .val (.int n)] [])) rfl (hb hby d9_629) (by decide) (by decide)
                          obtain ⟨b457, g457⟩ : ∃ z, z = h0.size := ⟨_, rfl⟩
                          rw [← g457] at A457 D457 U457 st457
                          refine Gl.st st457 ?_
                          have g458 : n0 ≤ b457 := Nat.le_trans Z0 (Nat.le_of_eq g457.symm)
                          have s459 : h0.size ≤ b457 := Nat.le_trans (Nat.le_refl _) (Nat.le_of_eq g457.symm)
                          have C460 : CHr Z consts_1 s.vm h0 s.vm h457 := C0.trans (CHr.ext E457 C0.1)
                          have F457_4 : Fld Z h457 b457 "java/lang/String" "value" "[B" .null := D457 (Or.inr (tw hw 4 rfl)) (ty := (.array .byte)) (by decide)
                          have F457_5 : Fld Z h457 b457 "java/lang/String" "coder" "B" (.int 0) := D457 (Or.inr (tw hw 5 rfl)) (ty := .byte) (by decide)
                          show Gl p.tables e below _ (T457.setTop (mkF m 632 #[.val (.ref tc), .val (.int n)] [(.ref b457)]))
                          refine Gl.st (fun _ kq => XS.dup X457.here hx rfl (hb hby d9_632) rfl rfl kq) ?_
                          refine Gl.st (fun _ kq => XS.bipush X457.here hx rfl (hb hby d9_633) kq) ?_
                          show Gl p.tables e below _ (T457.setTop (mkF m 635 #[.val (.ref tc), .val (.int n)] [(.int 12), (.ref b457), (.ref b457)]))
                          obtain ⟨T461, h461, k461, X461, e461, E461, A461, st461⟩ := newP X457 hx hZ (tw hw 8 rfl) e457 (g := (mkF m 635 #[.val (.ref tc), .val (.int n)] [(.int 12), (.ref b457), (.ref b457)])) rfl (hb hby d9_635) rfl (by decide) (cap := 12) (by decide) (by decide) (by decide) (by decide)
                          obtain ⟨b461, g461⟩ : ∃ z, z = h457.size := ⟨_, rfl⟩
                          rw [← g461] at A461 st461
                          refine Gl.st st461 ?_
                          have g462 : n0 ≤ b461 := Nat.le_trans (Nat.le_trans Z0 E457.1) (Nat.le_of_eq g461.symm)
                          have s463 : h0.size ≤ b461 := Nat.le_trans (Nat.le_trans (Nat.le_refl _) E457.1) (Nat.le_of_eq g461.symm)
                          have C464 : CHr Z consts_1 s.vm h0 s.vm h461 := C460.trans (CHr.ext E461 C460.1)
                          have V461 : Arv Z h461 b461 k461 .char (12 : Int32) [(.int 0), (.int 0), (.int 0), (.int 0), (.int 0), (.int 0), (.int 0), (.int 0), (.int 0), (.int 0), (.int 0), (.int 0)] (.int 0) := (Arv.new A461 (by decide)).pad (pad_rep [] (.int 0) 12)
                          show Gl p.tables e below _ (T461.setTop (mkF m 637 #[.val (.ref tc), .val (.int n)] [(.ref b461), (.ref b457), (.ref b457)]))
                          have f465 : Arv Z h461 tc kc .char (12 : Int32) [(.int v0), (.int v1), (.int v2), (.int v3), (.int v4), (.int v5), (.int v6), (.int v7), (.int v8), (.int v9), (.int v10), (.int v11)] (.int 0) := ((pf0.ext E457).ext E461)
                          obtain ⟨T466, h466, X466, e466, W466, V466, st466⟩ := cpC X461 hx hZ e461 f465 V461 0 v0 0 #[.val (.ref tc), .val (.int n)] [(.ref b457), (.ref b457)] 637 639 641 ⟨by decide, by decide⟩ ⟨by decide, by decide⟩ rfl (nar_id hq0.1 hq0.2) rfl (Nat.le_of_ble_eq_true rfl) rfl (hb hby d9_637) (fun _ _ kq => XS.iconst X461.here hx rfl (hb hby d9_638) kq) (hb hby d9_639) (fun _ _ kq => XS.iconst X461.here hx rfl (hb hby d9_640) kq) (hb hby d9_641) (hb hby d9_642)
                          refine Gl.st st466 ?_
                          have C467 : CHr Z consts_1 s.vm h0 s.vm h466 := C464.trans (CHr.wr W466 (Safe.arv hZ.alike V461 (by decide)) C464.1)
                          have V466 : Arv Z h466 b461 k461 .char (12 : Int32) [(.int v0), (.int 0), (.int 0), (.int 0), (.int 0), (.int 0), (.int 0), (.int 0), (.int 0), (.int 0), (.int 0), (.int 0)] (.int 0) := V466
                          have N466 := Fr.snoc X466 N0 g462
                          show Gl p.tables e below _ (T466.setTop (mkF m 643 #[.val (.ref tc), .val (.int n)] [(.ref b461), (.ref b457), (.ref b457)]))
                          have ne468 : tc ≠ b461 := Nat.ne_of_lt (Nat.lt_of_lt_of_le (Nat.lt_of_lt_of_le pf0.lt E457.1) (Nat.le_of_eq g461.symm))
                          have f469 : Arv Z h466 tc kc .char (12 : Int32) [(.int v0), (.int v1), (.int v2), (.int v3), (.int v4), (.int v5), (.int v6), (.int v7), (.int v8), (.int v9), (.int v10), (.int v11)] (.int 0) := (f465.other W466 ne468)
                          obtain ⟨T470, h470, X470, e470, W470, V470, st470⟩ := cpC X466 hx hZ e466 f469 V466 1 v1 1 #[.val (.ref tc), .val (.int n)] [(.ref b457), (.ref b457)] 643 645 647 ⟨by decide, by decide⟩ ⟨by decide, by decide⟩ rfl (nar_id hq1.1 hq1.2) rfl (Nat.le_of_ble_eq_true rfl) rfl (hb hby d9_643) (fun _ _ kq => XS.iconst X466.here hx rfl (hb hby d9_644) kq) (hb hby d9_645) (fun _ _ kq => XS.iconst X466.here hx rfl (hb hby d9_646) kq) (hb hby d9_647) (hb hby d9_648)
                          refine Gl.st st470 ?_
                          have C471 : CHr Z consts_1 s.vm h0 s.vm h470 := C467.trans (CHr.wr W470 (Safe.arv hZ.alike V466 (by decide)) C467.1)
                          have V470 : Arv Z h470 b461 k461 .char (12 : Int32) [(.int v0), (.int v1), (.int 0), (.int 0), (.int 0), (.int 0), (.int 0), (.int 0), (.int 0), (.int 0), (.int 0), (.int 0)] (.int 0) := V470
                          have N470 := Fr.snoc X470 N466 g462
                          show Gl p.tables e below _ (T470.setTop (mkF m 649 #[.val (.ref tc), .val (.int n)] [(.ref b461), (.ref b457), (.ref b457)]))
                          have f472 : Arv Z h470 tc kc .char (12 : Int32) [(.int v0), (.int v1), (.int v2), (.int v3), (.int v4), (.int v5), (.int v6), (.int v7), (.int v8), (.int v9), (.int v10), (.int v11)] (.int 0) := (f469.other W470 ne468)
                          obtain ⟨T473, h473, X473, e473, W473, V473, st473⟩ := cpC X470 hx hZ e470 f472 V470 2 v2 2 #[.val (.ref tc), .val (.int n)] [(.ref b457), (.ref b457)] 649 651 653 ⟨by decide, by decide⟩ ⟨by decide, by decide⟩ rfl (nar_id hq2.1 hq2.2) rfl (Nat.le_of_ble_eq_true rfl) rfl (hb hby d9_649) (fun _ _ kq => XS.iconst X470.here hx rfl (hb hby d9_650) kq) (hb hby d9_651) (fun _ _ kq => XS.iconst X470.here hx rfl (hb hby d9_652) kq) (hb hby d9_653) (hb hby d9_654)
                          refine Gl.st st473 ?_
                          have C474 : CHr Z consts_1 s.vm h0 s.vm h473 := C471.trans (CHr.wr W473 (Safe.arv hZ.alike V470 (by decide)) C471.1)
                          have V473 : Arv Z h473 b461 k461 .char (12 : Int32) [(.int v0), (.int v1), (.int v2), (.int 0), (.int 0), (.int 0), (.int 0), (.int 0), (.int 0), (.int 0), (.int 0), (.int 0)] (.int 0) := V473
                          have N473 := Fr.snoc X473 N470 g462
                          show Gl p.tables e below _ (T473.setTop (mkF m 655 #[.val (.ref tc), .val (.int n)] [(.ref b461), (.ref b457), (.ref b457)]))
                          have f475 : Arv Z h473 tc kc .char (12 : Int32) [(.int v0), (.int v1), (.int v2), (.int v3), (.int v4), (.int v5), (.int v6), (.int v7), (.int v8), (.int v9), (.int v10), (.int v11)] (.int 0) := (f472.other W473 ne468)
                          obtain ⟨T476, h476, X476, e476, W476, V476, st476⟩ := cpC X473 hx hZ e473 f475 V473 3 v3 3 #[.val (.ref tc), .val (.int n)] [(.ref b457), (.ref b457)] 655 657 659 ⟨by decide, by decide⟩ ⟨by decide, by decide⟩ rfl (nar_id hq3.1 hq3.2) rfl (Nat.le_of_ble_eq_true rfl) rfl (hb hby d9_655) (fun _ _ kq => XS.iconst X473.here hx rfl (hb hby d9_656) kq) (hb hby d9_657) (fun _ _ kq => XS.iconst X473.here hx rfl (hb hby d9_658) kq) (hb hby d9_659) (hb hby d9_660)
                          refine Gl.st st476 ?_
                          have C477 : CHr Z consts_1 s.vm h0 s.vm h476 := C474.trans (CHr.wr W476 (Safe.arv hZ.alike V473 (by decide)) C474.1)
                          have V476 : Arv Z h476 b461 k461 .char (12 : Int32) [(.int v0), (.int v1), (.int v2), (.int v3), (.int 0), (.int 0), (.int 0), (.int 0), (.int 0), (.int 0), (.int 0), (.int 0)] (.int 0) := V476
                          have N476 := Fr.snoc X476 N473 g462
                          show Gl p.tables e below _ (T476.setTop (mkF m 661 #[.val (.ref tc), .val (.int n)] [(.ref b461), (.ref b457), (.ref b457)]))
                          have f478 : Arv Z h476 tc kc .char (12 : Int32) [(.int v0), (.int v1), (.int v2), (.int v3), (.int v4), (.int v5), (.int v6), (.int v7), (.int v8), (.int v9), (.int v10), (.int v11)] (.int 0) := (f475.other W476 ne468)
                          obtain ⟨T479, h479, X479, e479, W479, V479, st479⟩ := cpC X476 hx hZ e476 f478 V476 4 v4 4 #[.val (.ref tc), .val (.int n)] [(.ref b457), (.ref b457)] 661 663 665 ⟨by decide, by decide⟩ ⟨by decide, by decide⟩ rfl (nar_id hq4.1 hq4.2) rfl (Nat.le_of_ble_eq_true rfl) rfl (hb hby d9_661) (fun _ _ kq => XS.iconst X476.here hx rfl (hb hby d9_662) kq) (hb hby d9_663) (fun _ _ kq => XS.iconst X476.here hx rfl (hb hby d9_664) kq) (hb hby d9_665) (hb hby d9_666)
                          refine Gl.st st479 ?_
                          have C480 : CHr Z consts_1 s.vm h0 s.vm h479 := C477.trans (CHr.wr W479 (Safe.arv hZ.alike V476 (by decide)) C477.1)
                          have V479 : Arv Z h479 b461 k461 .char (12 : Int32) [(.int v0), (.int v1), (.int v2), (.int v3), (.int v4), (.int 0), (.int 0), (.int 0), (.int 0), (.int 0), (.int 0), (.int 0)] (.int 0) := V479
                          have N479 := Fr.snoc X479 N476 g462
                          show Gl p.tables e below _ (T479.setTop (mkF m 667 #[.val (.ref tc), .val (.int n)] [(.ref b461), (.ref b457), (.ref b457)]))
                          have f481 : Arv Z h479 tc kc .char (12 : Int32) [(.int v0), (.int v1), (.int v2), (.int v3), (.int v4), (.int v5), (.int v6), (.int v7), (.int v8), (.int v9), (.int v10), (.int v11)] (.int 0) := (f478.other W479 ne468)
                          obtain ⟨T482, h482, X482, e482, W482, V482, st482⟩ := cpC X479 hx hZ e479 f481 V479 5 v5 5 #[.val (.ref tc), .val (.int n)] [(.ref b457), (.ref b457)] 667 669 671 ⟨by decide, by decide⟩ ⟨by decide, by decide⟩ rfl (nar_id hq5.1 hq5.2) rfl (Nat.le_of_ble_eq_true rfl) rfl (hb hby d9_667) (fun _ _ kq => XS.iconst X479.here hx rfl (hb hby d9_668) kq) (hb hby d9_669) (fun _ _ kq => XS.iconst X479.here hx rfl (hb hby d9_670) kq) (hb hby d9_671) (hb hby d9_672)
                          refine Gl.st st482 ?_
                          have C483 : CHr Z consts_1 s.vm h0 s.vm h482 := C480.trans (CHr.wr W482 (Safe.arv hZ.alike V479 (by decide)) C480.1)
                          have V482 : Arv Z h482 b461 k461 .char (12 : Int32) [(.int v0), (.int v1), (.int v2), (.int v3), (.int v4), (.int v5), (.int 0), (.int 0), (.int 0), (.int 0), (.int 0), (.int 0)] (.int 0) := V482
                          have N482 := Fr.snoc X482 N479 g462
                          show Gl p.tables e below _ (T482.setTop (mkF m 673 #[.val (.ref tc), .val (.int n)] [(.ref b461), (.ref b457), (.ref b457)]))
                          have f484 : Arv Z h482 tc kc .char (12 : Int32) [(.int v0), (.int v1), (.int v2), (.int v3), (.int v4), (.int v5), (.int v6), (.int v7), (.int v8), (.int v9), (.int v10), (.int v11)] (.int 0) := (f481.other W482 ne468)
                          obtain ⟨T485, h485, X485, e485, W485, V485, st485⟩ := cpC X482 hx hZ e482 f484 V482 6 v6 6 #[.val (.ref tc), .val (.int n)] [(.ref b457), (.ref b457)] 673 676 679 ⟨by decide, by decide⟩ ⟨by decide, by decide⟩ rfl (nar_id hq6.1 hq6.2) rfl (Nat.le_of_ble_eq_true rfl) rfl (hb hby d9_673) (fun _ _ kq => XS.bipush X482.here hx rfl (hb hby d9_674) kq) (hb hby d9_676) (fun _ _ kq => XS.bipush X482.here hx rfl (hb hby d9_677) kq) (hb hby d9_679) (hb hby d9_680)
                          refine Gl.st st485 ?_
                          have C486 : CHr Z consts_1 s.vm h0 s.vm h485 := C483.trans (CHr.wr W485 (Safe.arv hZ.alike V482 (by decide)) C483.1)
                          have V485 : Arv Z h485 b461 k461 .char (12 : Int32) [(.int v0), (.int v1), (.int v2), (.int v3), (.int v4), (.int v5), (.int v6), (.int 0), (.int 0), (.int 0), (.int 0), (.int 0)] (.int 0) := V485
                          have N485 := Fr.snoc X485 N482 g462
                          show Gl p.tables e below _ (T485.setTop (mkF m 681 #[.val (.ref tc), .val (.int n)] [(.ref b461), (.ref b457), (.ref b457)]))
                          have f487 : Arv Z h485 tc kc .char (12 : Int32) [(.int v0), (.int v1), (.int v2), (.int v3), (.int v4), (.int v5), (.int v6), (.int v7), (.int v8), (.int v9), (.int v10), (.int v11)] (.int 0) := (f484.other W485 ne468)
                          obtain ⟨T488, h488, X488, e488, W488, V488, st488⟩ := cpC X485 hx hZ e485 f487 V485 7 v7 7 #[.val (.ref tc), .val (.int n)] [(.ref b457), (.ref b457)] 681 684 687 ⟨by decide, by decide⟩ ⟨by decide, by decide⟩ rfl (nar_id hq7.1 hq7.2) rfl (Nat.le_of_ble_eq_true rfl) rfl (hb hby d9_681) (fun _ _ kq => XS.bipush X485.here hx rfl (hb hby d9_682) kq) (hb hby d9_684) (fun _ _ kq => XS.bipush X485.here hx rfl (hb hby d9_685) kq) (hb hby d9_687) (hb hby d9_688)
                          refine Gl.st st488 ?_
                          have C489 : CHr Z consts_1 s.vm h0 s.vm h488 := C486.trans (CHr.wr W488 (Safe.arv hZ.alike V485 (by decide)) C486.1)
                          have V488 : Arv Z h488 b461 k461 .char (12 : Int32) [(.int v0), (.int v1), (.int v2), (.int v3), (.int v4), (.int v5), (.int v6), (.int v7), (.int 0), (.int 0), (.int 0), (.int 0)] (.int 0) := V488
                          have N488 := Fr.snoc X488 N485 g462
                          show Gl p.tables e below _ (T488.setTop (mkF m 689 #[.val (.ref tc), .val (.int n)] [(.ref b461), (.ref b457), (.ref b457)]))
                          have f490 : Arv Z h488 tc kc .char (12 : Int32) [(.int v0), (.int v1), (.int v2), (.int v3), (.int v4), (.int v5), (.int v6), (.int v7), (.int v8), (.int v9), (.int v10), (.int v11)] (.int 0) := (f487.other W488 ne468)
                          obtain ⟨T491, h491, X491, e491, W491, V491, st491⟩ := cpC X488 hx hZ e488 f490 V488 8 v8 8 #[.val (.ref tc), .val (.int n)] [(.ref b457), (.ref b457)] 689 692 695 ⟨by decide, by decide⟩ ⟨by decide, by decide⟩ rfl (nar_id hq8.1 hq8.2) rfl (Nat.le_of_ble_eq_true rfl) rfl (hb hby d9_689) (fun _ _ kq => XS.bipush X488.here hx rfl (hb hby d9_690) kq) (hb hby d9_692) (fun _ _ kq => XS.bipush X488.here hx rfl (hb hby d9_693) kq) (hb hby d9_695) (hb hby d9_696)
                          refine Gl.st st491 ?_
                          have C492 : CHr Z consts_1 s.vm h0 s.vm h491 := C489.trans (CHr.wr W491 (Safe.arv hZ.alike V488 (by decide)) C489.1)
                          have V491 : Arv Z h491 b461 k461 .char (12 : Int32) [(.int v0), (.int v1), (.int v2), (.int v3), (.int v4), (.int v5), (.int v6), (.int v7), (.int v8), (.int 0), (.int 0), (.int 0)] (.int 0) := V491
                          have N491 := Fr.snoc X491 N488 g462
                          show Gl p.tables e below _ (T491.setTop (mkF m 697 #[.val (.ref tc), .val (.int n)] [(.ref b461), (.ref b457), (.ref b457)]))
                          have f493 : Arv Z h491 tc kc .char (12 : Int32) [(.int v0), (.int v1), (.int v2), (.int v3), (.int v4), (.int v5), (.int v6), (.int v7), (.int v8), (.int v9), (.int v10), (.int v11)] (.int 0) := (f490.other W491 ne468)
                          obtain ⟨T494, h494, X494, e494, W494, V494, st494⟩ := cpC X491 hx hZ e491 f493 V491 9 v9 9 #[.val (.ref tc), .val (.int n)] [(.ref b457), (.ref b457)] 697 700 703 ⟨by decide, by decide⟩ ⟨by decide, by decide⟩ rfl (nar_id hq9.1 hq9.2) rfl (Nat.le_of_ble_eq_true rfl) rfl (hb hby d9_697) (fun _ _ kq => XS.bipush X491.here hx rfl (hb hby d9_698) kq) (hb hby d9_700) (fun _ _ kq => XS.bipush X491.here hx rfl (hb hby d9_701) kq) (hb hby d9_703) (hb hby d9_704)
                          refine Gl.st st494 ?_
                          have C495 : CHr Z consts_1 s.vm h0 s.vm h494 := C492.trans (CHr.wr W494 (Safe.arv hZ.alike V491 (by decide)) C492.1)
                          have V494 : Arv Z h494 b461 k461 .char (12 : Int32) [(.int v0), (.int v1), (.int v2), (.int v3), (.int v4), (.int v5), (.int v6), (.int v7), (.int v8), (.int v9), (.int 0), (.int 0)] (.int 0) := V494
                          have N494 := Fr.snoc X494 N491 g462
                          show Gl p.tables e below _ (T494.setTop (mkF m 705 #[.val (.ref tc), .val (.int n)] [(.ref b461), (.ref b457), (.ref b457)]))
                          have f496 : Arv Z h494 tc kc .char (12 : Int32) [(.int v0), (.int v1), (.int v2), (.int v3), (.int v4), (.int v5), (.int v6), (.int v7), (.int v8), (.int v9), (.int v10), (.int v11)] (.int 0) := (f493.other W494 ne468)
                          obtain ⟨T497, h497, X497, e497, W497, V497, st497⟩ := cpC X494 hx hZ e494 f496 V494 10 v10 10 #[.val (.ref tc), .val (.int n)] [(.ref b457), (.ref b457)] 705 708 711 ⟨by decide, by decide⟩ ⟨by decide, by decide⟩ rfl (nar_id hq10.1 hq10.2) rfl (Nat.le_of_ble_eq_true rfl) rfl (hb hby d9_705) (fun _ _ kq => XS.bipush X494.here hx rfl (hb hby d9_706) kq) (hb hby d9_708) (fun _ _ kq => XS.bipush X494.here hx rfl (hb hby d9_709) kq) (hb hby d9_711) (hb hby d9_712)
                          refine Gl.st st497 ?_
                          have C498 : CHr Z consts_1 s.vm h0 s.vm h497 := C495.trans (CHr.wr W497 (Safe.arv hZ.alike V494 (by decide)) C495.1)
                          have V497 : Arv Z h497 b461 k461 .char (12 : Int32) [(.int v0), (.int v1), (.int v2), (.int v3), (.int v4), (.int v5), (.int v6), (.int v7), (.int v8), (.int v9), (.int v10), (.int 0)] (.int 0) := V497
                          have N497 := Fr.snoc X497 N494 g462
                          show Gl p.tables e below _ (T497.setTop (mkF m 713 #[.val (.ref tc), .val (.int n)] [(.ref b461), (.ref b457), (.ref b457)]))
                          have f499 : Arv Z h497 tc kc .char (12 : Int32) [(.int v0), (.int v1), (.int v2), (.int v3), (.int v4), (.int v5), (.int v6), (.int v7), (.int v8), (.int v9), (.int v10), (.int v11)] (.int 0) := (f496.other W497 ne468)
                          obtain ⟨T500, h500, X500, e500, W500, V500, st500⟩ := cpC X497 hx hZ e497 f499 V497 11 v11 11 #[.val (.ref tc), .val (.int n)] [(.ref b457), (.ref b457)] 713 716 719 ⟨by decide, by decide⟩ ⟨by decide, by decide⟩ rfl (nar_id hq11.1 hq11.2) rfl (Nat.le_of_ble_eq_true rfl) rfl (hb hby d9_713) (fun _ _ kq => XS.bipush X497.here hx rfl (hb hby d9_714) kq) (hb hby d9_716) (fun _ _ kq => XS.bipush X497.here hx rfl (hb hby d9_717) kq) (hb hby d9_719) (hb hby d9_720)
                          refine Gl.st st500 ?_
                          have C501 : CHr Z consts_1 s.vm h0 s.vm h500 := C498.trans (CHr.wr W500 (Safe.arv hZ.alike V497 (by decide)) C498.1)
                          have V500 : Arv Z h500 b461 k461 .char (12 : Int32) [(.int v0), (.int v1), (.int v2), (.int v3), (.int v4), (.int v5), (.int v6), (.int v7), (.int v8), (.int v9), (.int v10), (.int v11)] (.int 0) := V500
                          have N500 := Fr.snoc X500 N497 g462
                          show Gl p.tables e below _ (T500.setTop (mkF m 721 #[.val (.ref tc), .val (.int n)] [(.ref b461), (.ref b457), (.ref b457)]))
                          have f502 : Exa Z h500 b457 "java/lang/String" := (((((((((((((A457.ext E461).wr W466).wr W470).wr W473).wr W476).wr W479).wr W482).wr W485).wr W488).wr W491).wr W494).wr W497).wr W500)
                          have ne503 : b457 ≠ b461 := Nat.ne_of_lt (Nat.lt_of_lt_of_le A457.lt (Nat.le_of_eq g461.symm))
                          have f504 : Fld Z h500 b457 "java/lang/String" "value" "[B" .null := (((((((((((((F457_4.ext E461).other W466 (Or.inl ne503)).other W470 (Or.inl ne503)).other W473 (Or.inl ne503)).other W476 (Or.inl ne503)).other W479 (Or.inl ne503)).other W482 (Or.inl ne503)).other W485 (Or.inl ne503)).other W488 (Or.inl ne503)).other W491 (Or.inl ne503)).other W494 (Or.inl ne503)).other W497 (Or.inl ne503)).other W500 (Or.inl ne503))
                          have f505 : Fld Z h500 b457 "java/lang/String" "coder" "B" (.int 0) := (((((((((((((F457_5.ext E461).other W466 (Or.inl ne503)).other W470 (Or.inl ne503)).other W473 (Or.inl ne503)).other W476 (Or.inl ne503)).other W479 (Or.inl ne503)).other W482 (Or.inl ne503)).other W485 (Or.inl ne503)).other W488 (Or.inl ne503)).other W491 (Or.inl ne503)).other W494 (Or.inl ne503)).other W497 (Or.inl ne503)).other W500 (Or.inl ne503))
                          have f506 : Old Z n0 h500 := ((((((((((((((pf1.ext E457).ext E461).wr W466 g462).wr W470 g462).wr W473 g462).wr W476 g462).wr W479 g462).wr W482 g462).wr W485 g462).wr W488 g462).wr W491 g462).wr W494 g462).wr W497 g462).wr W500 g462)
                          have hp507 : ∀ c ∈ ([v0, v1, v2, v3, v4, v5, v6, v7, v8, v9, v10, v11] : List Int32), ¬ c < 0 ∧ ¬ (255 : Int32) < c := (alcS hq0 (alcS hq1 (alcS hq2 (alcS hq3 (alcS hq4 (alcS hq5 (alcS hq6 (alcS hq7 (alcS hq8 (alcS hq9 (alcS hq10 (alcS hq11 alc0))))))))))))
                          have Sf509 : Safe Z consts_1 s.vm h500 b457 := (Safe.wr W500 (Safe.arv hZ.alike V497 (by decide)) C498.1 (Safe.wr W497 (Safe.arv hZ.alike V494 (by decide)) C495.1 (Safe.wr W494 (Safe.arv hZ.alike V491 (by decide)) C492.1 (Safe.wr W491 (Safe.arv hZ.alike V488 (by decide)) C489.1 (Safe.wr W488 (Safe.arv hZ.alike V485 (by decide)) C486.1 (Safe.wr W485 (Safe.arv hZ.alike V482 (by decide)) C483.1 (Safe.wr W482 (Safe.arv hZ.alike V479 (by decide)) C480.1 (Safe.wr W479 (Safe.arv hZ.alike V476 (by decide)) C477.1 (Safe.wr W476 (Safe.arv hZ.alike V473 (by decide)) C474.1 (Safe.wr W473 (Safe.arv hZ.alike V470 (by decide)) C471.1 (Safe.wr W470 (Safe.arv hZ.alike V466 (by decide)) C467.1 (Safe.wr W466 (Safe.arv hZ.alike V461 (by decide)) C464.1 (Safe.ext E461 C460.1 (Safe.ext E457 C0.1 (Safe.new (EL := consts_1) (vm := s.vm) (Nat.le_of_eq g457.symm))))))))))))))))
                          obtain ⟨_, _, ⟨T508, L508, k508, n508⟩, -, X508, ⟨Lc508, hQ508, l508, y508, z508⟩, st508⟩ := X500.specialBack hx (y := (⟨"java/lang/String", "<init>", "([C)V"⟩ : MethodName)) rfl hown (mvT hZ (tw hw 53 rfl)) (mvT hZ (tw hw 54 rfl)) (mvT hZ (tw hw 55 rfl)) (by decide) (StrChars.Road.backV (W := 1) hZ (wdNew hw) (kI := 4) (tw hw 2 rfl) (cs := ([v0, v1, v2, v3, v4, v5, v6, v7, v8, v9, v10, v11] : List Int32)) (bs := (([v0, v1, v2, v3, v4, v5, v6, v7, v8, v9, v10, v11] : List Int32).map (fun c => c.toInt8.toInt32))) (n := 12) g458 (Nat.le_trans (Nat.le_trans (Nat.le_trans (Nat.le_trans (Nat.le_trans (Nat.le_trans (Nat.le_trans (Nat.le_trans (Nat.le_trans (Nat.le_trans (Nat.le_trans (Nat.le_trans (Nat.le_trans (Nat.le_trans Z0 E457.1) E461.1) (Keep.of_wr W466).1) (Keep.of_wr W470).1) (Keep.of_wr W473).1) (Keep.of_wr W476).1) (Keep.of_wr W479).1) (Keep.of_wr W482).1) (Keep.of_wr W485).1) (Keep.of_wr W488).1) (Keep.of_wr W491).1) (Keep.of_wr W494).1) (Keep.of_wr W497).1) (Keep.of_wr W500).1) f502 f504 f505 V500 (O2.ext f506.2) P5 rfl rfl (by decide) (by decide) hp507 rfl (by decide) (by decide)) (g := (mkF m 721 #[.val (.ref tc), .val (.int n)] [(.ref b461), (.ref b457), (.ref b457)])) rfl (by rw [hml]; rfl) (Steps.refl _) (a := b457) (argsL := [(.ref b461)]) (rest := [(.ref b457)]) (lenOf pd___C_V rfl) rfl (by show 2 * 0 + _ ≤ _; exact Nat.le_of_eq rfl) (hb hby d9_721) (fun _ _ => ⟨rfl, e500, (by decide : 2 + 1 ≤ _), (by decide : 16 + 12 ≤ _)⟩)
                          dsimp only [Pt.U, Pt.locs, Pt.cells, Pt.slots] at X508 l508 y508 z508 st508 hQ508
                          subst l508 y508 z508
                          obtain ⟨rfl, N508, K508, q508_0, q508_1, t507, k507, y508_0, y508_1, y508_2, q508_2, q508_3⟩ := hQ508
                          have C510 : CHr Z consts_1 s.vm h0 s.vm T508.heap := C501.trans (CHr.keep K508 (sfS Sf509 sf0) C501.1)
                          have M508 := Fr.app N500 N508
                          have g511 : n0 ≤ t507 := Nat.le_trans (Nat.le_trans (Nat.le_trans (Nat.le_trans (Nat.le_trans (Nat.le_trans (Nat.le_trans (Nat.le_trans (Nat.le_trans (Nat.le_trans (Nat.le_trans (Nat.le_trans (Nat.le_trans (Nat.le_trans (Nat.le_trans Z0 E457.1) E461.1) (Keep.of_wr W466).1) (Keep.of_wr W470).1) (Keep.of_wr W473).1) (Keep.of_wr W476).1) (Keep.of_wr W479).1) (Keep.of_wr W482).1) (Keep.of_wr W485).1) (Keep.of_wr W488).1) (Keep.of_wr W491).1) (Keep.of_wr W494).1) (Keep.of_wr W497).1) (Keep.of_wr W500).1) y508_1
                          have s512 : h0.size ≤ t507 := Nat.le_trans (Nat.le_trans (Nat.le_trans (Nat.le_trans (Nat.le_trans (Nat.le_trans (Nat.le_trans (Nat.le_trans (Nat.le_trans (Nat.le_trans (Nat.le_trans (Nat.le_trans (Nat.le_trans (Nat.le_trans (Nat.le_trans (Nat.le_refl _) E457.1) E461.1) (Keep.of_wr W466).1) (Keep.of_wr W470).1) (Keep.of_wr W473).1) (Keep.of_wr W476).1) (Keep.of_wr W479).1) (Keep.of_wr W482).1) (Keep.of_wr W485).1) (Keep.of_wr W488).1) (Keep.of_wr W491).1) (Keep.of_wr W494).1) (Keep.of_wr W497).1) (Keep.of_wr W500).1) y508_1
                          refine Gl.to st508 ?_
                          show Gl p.tables e below _ (T508.setTop (mkF m 724 #[.val (.ref tc), .val (.int n)] [(.ref b457)]))
                          show Gl p.tables e below _ (T508.setTop (mkF m 724 #[.val (.ref tc), .val (.int n)] [(.ref b457)]))
                          have K513 : Keep h0 T508.heap [] := ((((((((((((((((Keep.refl h0 []).ext E457).ext E461).wr W466 (Or.inr s463)).wr W470 (Or.inr s463)).wr W473 (Or.inr s463)).wr W476 (Or.inr s463)).wr W479 (Or.inr s463)).wr W482 (Or.inr s463)).wr W485 (Or.inr s463)).wr W488 (Or.inr s463)).wr W491 (Or.inr s463)).wr W494 (Or.inr s463)).wr W497 (Or.inr s463)).wr W500 (Or.inr s463)).trans K508 (allS (Or.inr s459) all0))
                          exact Gl.retAH X508 hx hS0 (Nat.le_trans (Nat.le_trans (Nat.le_trans (Nat.le_trans (Nat.le_trans (Nat.le_trans (Nat.le_trans (Nat.le_trans (Nat.le_trans (Nat.le_trans (Nat.le_trans (Nat.le_trans (Nat.le_trans (Nat.le_trans (Nat.le_trans (Nat.le_of_eq (congrArg Array.size e0)) E457.1) E461.1) (Keep.of_wr W466).1) (Keep.of_wr W470).1) (Keep.of_wr W473).1) (Keep.of_wr W476).1) (Keep.of_wr W479).1) (Keep.of_wr W482).1) (Keep.of_wr W485).1) (Keep.of_wr W488).1) (Keep.of_wr W491).1) (Keep.of_wr W494).1) (Keep.of_wr W497).1) (Keep.of_wr W500).1) K508.1) (by rw [hh]; exact C510.trans (CHv.at X508 hZ (elW hw) C510.1)) Bd.returns rfl rfl (hb hby d9_724) hlk (by decide) (by decide) ⟨b457, t507, k507, ([v0, v1, v2, v3, v4, v5, v6, v7, v8, v9, v10, v11] : List Int32), rfl, M508, K513, q508_0, q508_1, q508_2, q508_3, (alcS hq0 (alcS hq1 (alcS hq2 (alcS hq3 (alcS hq4 (alcS hq5 (alcS hq6 (alcS hq7 (alcS hq8 (alcS hq9 (alcS hq10 (alcS hq11 alc0)))))))))))), (Nat.le_of_ble_eq_true rfl)⟩
theorem d18_0 : decode jdk_42_method_66_code 0 = .ok (.aload_n 0, 1) := by decide +kernel
theorem d18_1 : decode jdk_42_method_66_code 1 = .ok (.aload_n 1, 1) := by decide +kernel
theorem d18_2 : decode jdk_42_method_66_code 2 = .ok (.if_acmp .ne 5, 3) := by decide +kernel
theorem d18_7 : decode jdk_42_method_66_code 7 = .ok (.aload_n 1, 1) := by decide +kernel
theorem d18_8 : decode jdk_42_method_66_code 8 = .ok (.instanceof 10, 3) := by decide +kernel
theorem d18_11 : decode jdk_42_method_66_code 11 = .ok (.ifCond .eq 43, 3) := by decide +kernel
theorem d18_54 : decode jdk_42_method_66_code 54 = .ok (.iconst 0, 1) := by decide +kernel
theorem d18_55 : decode jdk_42_method_66_code 55 = .ok (.ireturn, 1) := by decide +kernel
theorem ef_eqn (m : MethodId) (b : Addr) : entryFrame m #[(.ref b), .null] 3 = mkF m 0 #[.val (.ref b), .val .null, .unset] [] := by first | (simp [entryFrame, mkF, argsToLocals, Value.category]; done) | rfl
def Q_eqn (Z : State) (b : Addr) (h0 : Heap) (n0 : Nat) (v : Option Value) (h : Heap) (L : List Loc) : Prop := (v = some (.int 0) ∧ Fr n0 L ∧ h = h0)
set_option maxRecDepth 65536 in
set_option maxHeartbeats 40000000 in
theorem rm_eqn (l : Launch) (Z : State) (a0 : Array Value) (hw : ∀ d ∈ tables_1, d.before a0 Z = true) (ws : List Jvm.Cond) (b : Addr) (h0 : Heap) (n0 : Nat) (Z0 : n0 ≤ h0.size) :
    MetFree l (⟨"java/lang/String", "equals", "(Ljava/lang/Object;)Z"⟩ : MethodName) (head1 (Jvm.Cond.code (⟨"java/lang/String", "equals", "(Ljava/lang/Object;)Z"⟩ : MethodName) jdk_42_method_66_code 3 (some .boolean) :: ws) ({ frames := 0, cells := 0, slots := 0, locals := 0 } : Room)) (fun aa U => aa = #[(.ref b), .null] ∧ Z.Warmed39 U.vm ∧ U.heap = h0) (fun _ _ _ _ _ => True) (fun _ U o U' => ∃ v L, o = .returned v ∧ Q_eqn Z b h0 n0 v U'.heap L ∧ FrameEnd U o U' L ({ frames := 0, cells := 0, slots := 0, locals := 0 } : Room).cells ({ frames := 0, cells := 0, slots := 0, locals := 0 } : Room).slots) := by
  refine MetFree.of_bodySF (plainFor_of_name pn_java_lang_String) hisR ?_
  intro p e s m args below meth c s₁ Bd hml0 hP hK
  obtain ⟨rfl, hZ, hh⟩ := hP
  have hx := Bd.exec
  have hby := Bd.bytes
  have hlk : meth.locks = false := BodyLoose.notSynchronized Bd
  have hml : c.maxLocals = 3 := hml0
  have hown : s.vm.findClass "java/lang/String" = some m.cls := findClass_of_methodNamed Bd.named
  have hnm := (name_of_methodNamed Bd.named Bd.method).1
  have X0 : Stand p l e ({ frames := 0, cells := 0, slots := 0, locals := 0 } : Room) s m #[(.ref b), .null] below meth c s₁ [] 0 0 := Stand.of_body Bd
  have e0 : s₁.heap = h0 := by rw [← hh, Bd.state]; rfl
  have N0 := Fr.nil n0
  show Gl p.tables e below (EndN s (Q_eqn Z b h0 n0) ({ frames := 0, cells := 0, slots := 0, locals := 0 } : Room).cells ({ frames := 0, cells := 0, slots := 0, locals := 0 } : Room).slots) _
  refine Gl.cast (ef_eqn m b) ?_
  show Gl p.tables e below _ (s₁.setTop (mkF m 0 #[.val (.ref b), .val .null, .unset] []))
  refine Gl.st (fun _ kq => XS.aloadN X0.here hx rfl (hb hby d18_0) rfl rfl kq) ?_
  refine Gl.st (fun _ kq => XS.aloadN X0.here hx rfl (hb hby d18_1) rfl rfl kq) ?_
  show Gl p.tables e below _ (s₁.setTop (mkF m 2 #[.val (.ref b), .val .null, .unset] [.null, (.ref b)]))
  refine Gl.st (fun _ kq => Jvm.RoadKit.acmp (g := (mkF m 2 #[.val (.ref b), .val .null, .unset] [.null, (.ref b)])) X0 hx rfl rfl rfl (pc0 := 2) (pc' := 7) (same := false) rfl (hb hby d18_2) rfl (decide_eq_false nofun) (by decide) (by decide) kq) ?_
  show Gl p.tables e below _ (s₁.setTop (mkF m 7 #[.val (.ref b), .val .null, .unset] []))
  refine Gl.st (fun _ kq => XS.aloadN X0.here hx rfl (hb hby d18_7) rfl rfl kq) ?_
  show Gl p.tables e below _ (s₁.setTop (mkF m 8 #[.val (.ref b), .val .null, .unset] [.null]))
  refine Gl.st (fun _ kq => X0.instanceofNull hx (g := (mkF m 8 #[.val (.ref b), .val .null, .unset] [.null])) rfl rfl (hb hby d18_8) _ kq) ?_
  show Gl p.tables e below _ (s₁.setTop (mkF m 11 #[.val (.ref b), .val .null, .unset] [(.int 0)]))
  refine Gl.st (fun _ kq => XS.ifYes X0.here hx rfl (pc0 := 11) (pc' := 54) rfl (hb hby d18_11) rfl ((if0 _ _).trans (teq ((by decide) : (0 : Int32) = (0 : Int32))).1) (by decide) (by decide) kq) ?_
  show Gl p.tables e below _ (s₁.setTop (mkF m 54 #[.val (.ref b), .val .null, .unset] []))
  refine Gl.st (fun _ kq => XS.iconst X0.here hx rfl (hb hby d18_54) kq) ?_
  exact Gl.retN X0 hx (t := .boolean) Bd.returns (by simp) (hb hby d18_55) hlk (by decide) (by decide) (by rw [e0]; exact ⟨rfl, N0, rfl⟩)
theorem d17_0 : decode prog_12_method_1_code 0 = .ok (.getstatic 13, 3) := by decide +kernel
theorem d17_3 : decode prog_12_method_1_code 3 = .ok (.invokevirtual 17, 3) := by decide +kernel
theorem d17_6 : decode prog_12_method_1_code 6 = .ok (.checkcast 18, 3) := by decide +kernel
theorem d17_9 : decode prog_12_method_1_code 9 = .ok (.areturn, 1) := by decide +kernel
theorem ef_vals (m : MethodId)  : entryFrame m #[] 0 = mkF m 0 #[] [] := by first | (simp [entryFrame, mkF, argsToLocals, Value.category]; done) | rfl
def Q_vals (Z : State) (va : Addr) (kva : ClassId) (uk1 : Addr) (uk2 : Addr) (uk3 : Addr) (h0 : Heap) (n0 : Nat) (v : Option Value) (h : Heap) (L : List Loc) : Prop := (∃ vb : Addr, v = some (.ref vb) ∧ Fr n0 L ∧ Keep h0 h [] ∧ Arv Z h vb kva (.object "com/example/groupwright/groupwright/app/Registration$Kind") (3 : Int32) [(.ref uk1), (.ref uk2), (.ref uk3)] .null ∧ (h0.size ≤ vb))
set_option maxRecDepth 65536 in
set_option maxHeartbeats 40000000 in
theorem rm_vals (l : Launch) (Z : State) (a0 : Array Value) (hw : ∀ d ∈ tables_1, d.before a0 Z = true) (ws : List Jvm.Cond) (va : Addr) (kva : ClassId) (uk1 : Addr) (uk2 : Addr) (uk3 : Addr) (h0 : Heap) (n0 : Nat) (Z0 : n0 ≤ h0.size) (pf0 : Arv Z h0 va kva (.object "com/example/groupwright/groupwright/app/Registration$Kind") (3 : Int32) [(.ref uk1), (.ref uk2), (.ref uk3)] .null) (pf1 : Exa Z h0 va "[Lcom/example/groupwright/groupwright/app/Registration$Kind;") (pf2 : Old Z n0 h0) (OV : Sta Z Z.heap "com/example/groupwright/groupwright/app/Registration$Kind" "$VALUES" "[Lcom/example/groupwright/groupwright/app/Registration$Kind;" (.ref va)) :
    MetFree l (⟨"com/example/groupwright/groupwright/app/Registration$Kind", "values", "()[Lcom/example/groupwright/groupwright/app/Registration$Kind;"⟩ : MethodName) (head1 (Jvm.Cond.code (⟨"com/example/groupwright/groupwright/app/Registration$Kind", "values", "()[Lcom/example/groupwright/groupwright/app/Registration$Kind;"⟩ : MethodName) prog_12_method_1_code 0 (some (.array (.object "com/example/groupwright/groupwright/app/Registration$Kind"))) :: ws) ({ frames := 1, cells := 1, slots := 3, locals := 14 } : Room)) (fun aa U => aa = #[] ∧ Z.Warmed39 U.vm ∧ U.heap = h0) (fun _ _ _ _ _ => True) (fun _ U o U' => ∃ v L, o = .returned v ∧ Q_vals Z va kva uk1 uk2 uk3 h0 n0 v U'.heap L ∧ FrameEnd U o U' L ({ frames := 1, cells := 1, slots := 3, locals := 14 } : Room).cells ({ frames := 1, cells := 1, slots := 3, locals := 14 } : Room).slots) := by
  refine MetFree.of_bodySF (plainFor_of_name pn_com_example_groupwright_groupwright_app_Registration_Kind) hisR ?_
  intro p e s m args below meth c s₁ Bd hml0 hP hK
  obtain ⟨rfl, hZ, hh⟩ := hP
  have hx := Bd.exec
  have hby := Bd.bytes
  have hlk : meth.locks = false := BodyLoose.notSynchronized Bd
  have hml : c.maxLocals = 0 := hml0
  have hown : s.vm.findClass "com/example/groupwright/groupwright/app/Registration$Kind" = some m.cls := findClass_of_methodNamed Bd.named
  have hnm := (name_of_methodNamed Bd.named Bd.method).1
  have X0 : Stand p l e ({ frames := 1, cells := 1, slots := 3, locals := 14 } : Room) s m #[] below meth c s₁ [] 0 0 := Stand.of_body Bd
  have e0 : s₁.heap = h0 := by rw [← hh, Bd.state]; rfl
  have N0 := Fr.nil n0
  show Gl p.tables e below (EndN s (Q_vals Z va kva uk1 uk2 uk3 h0 n0) ({ frames := 1, cells := 1, slots := 3, locals := 14 } : Room).cells ({ frames := 1, cells := 1, slots := 3, locals := 14 } : Room).slots) _
  refine Gl.cast (ef_vals m ) ?_
  show Gl p.tables e below _ (s₁.setTop (mkF m 0 #[] []))
  obtain ⟨T1, X1, e1, st1⟩ := getS2 X0 hx hZ hown (host := "") (Or.inl (tw hw 80 rfl)) Via.refl e0 (OV.ext pf2.2) (g := (mkF m 0 #[] [])) rfl (hb hby d17_0)
  refine Gl.st st1 ?_
  show Gl p.tables e below _ (T1.setTop (mkF m 3 #[] [(.ref va)]))
  obtain ⟨T2, h2, X2, e2, E2, V2, A2, st2⟩ := cloneH X1 hx hZ hown (tw hw 82 rfl) (tw hw 83 rfl) (tw hw 87 rfl) (tw hw 85 rfl) (tw hw 86 rfl) (tw hw 88 rfl) e1 pf0.arh pf1 (g := (mkF m 3 #[] [(.ref va)])) rfl (by rw [hml]; rfl) rfl (hb hby d17_3) (by decide) (W := 0) (cap := 3) (by show 2 * 0 + _ ≤ _; exact Nat.le_of_eq rfl) (by decide) (by decide) (by decide) (by decide)
  obtain ⟨b2, g2⟩ : ∃ z, z = h0.size := ⟨_, rfl⟩
  rw [← g2] at V2 A2 st2
  refine Gl.st st2 ?_
  have g3 : n0 ≤ b2 := Nat.le_trans Z0 (Nat.le_of_eq g2.symm)
  have s4 : h0.size ≤ b2 := Nat.le_trans (Nat.le_refl _) (Nat.le_of_eq g2.symm)
  have V2 : Arv Z h2 b2 kva (.object "com/example/groupwright/groupwright/app/Registration$Kind") (3 : Int32) [(.ref uk1), (.ref uk2), (.ref uk3)] .null := V2
  show Gl p.tables e below _ (T2.setTop (mkF m 6 #[] [(.ref b2)]))
  show Gl p.tables e below _ (T2.setTop (mkF m 6 #[] [(.ref b2)]))
  obtain ⟨T5, X5, e5, st5⟩ := castY X2 hx hZ hown (tw hw 93 rfl) e2 (Ins.self A2) (g := (mkF m 6 #[] [(.ref b2)])) rfl rfl (hb hby d17_6)
  refine Gl.st st5 ?_
  show Gl p.tables e below _ (T5.setTop (mkF m 9 #[] [(.ref b2)]))
  have K6 : Keep h0 h2 [] := ((Keep.refl h0 []).ext E2)
  exact Gl.retA X5 hx Bd.returns rfl rfl (hb hby d17_9) hlk (by decide) (by decide) (by rw [e5]; exact ⟨b2, rfl, N0, K6, V2, s4⟩)
theorem d16_0 : decode prog_12_method_4_code 0 = .ok (.aconst_null, 1) := by decide +kernel
theorem d16_1 : decode prog_12_method_4_code 1 = .ok (.astore_n 1, 1) := by decide +kernel
theorem d16_2 : decode prog_12_method_4_code 2 = .ok (.invokestatic 36, 3) := by decide +kernel
theorem d16_5 : decode prog_12_method_4_code 5 = .ok (.astore_n 2, 1) := by decide +kernel
theorem d16_6 : decode prog_12_method_4_code 6 = .ok (.aload_n 2, 1) := by decide +kernel
theorem d16_7 : decode prog_12_method_4_code 7 = .ok (.arraylength, 1) := by decide +kernel
theorem d16_8 : decode prog_12_method_4_code 8 = .ok (.istore_n 3, 1) := by decide +kernel
theorem d16_9 : decode prog_12_method_4_code 9 = .ok (.iconst 0, 1) := by decide +kernel
theorem d16_10 : decode prog_12_method_4_code 10 = .ok (.istore 4, 2) := by decide +kernel
theorem d16_12 : decode prog_12_method_4_code 12 = .ok (.iload 4, 2) := by decide +kernel
theorem d16_14 : decode prog_12_method_4_code 14 = .ok (.iload_n 3, 1) := by decide +kernel
theorem d16_15 : decode prog_12_method_4_code 15 = .ok (.if_icmp .ge 30, 3) := by decide +kernel
theorem d16_18 : decode prog_12_method_4_code 18 = .ok (.aload_n 2, 1) := by decide +kernel
theorem d16_19 : decode prog_12_method_4_code 19 = .ok (.iload 4, 2) := by decide +kernel
theorem d16_21 : decode prog_12_method_4_code 21 = .ok (.aaload, 1) := by decide +kernel
theorem d16_22 : decode prog_12_method_4_code 22 = .ok (.astore 5, 2) := by decide +kernel
theorem d16_24 : decode prog_12_method_4_code 24 = .ok (.aload 5, 2) := by decide +kernel
theorem d16_26 : decode prog_12_method_4_code 26 = .ok (.getfield 32, 3) := by decide +kernel
theorem d16_29 : decode prog_12_method_4_code 29 = .ok (.aload_n 0, 1) := by decide +kernel
theorem d16_30 : decode prog_12_method_4_code 30 = .ok (.invokevirtual 40, 3) := by decide +kernel
theorem d16_33 : decode prog_12_method_4_code 33 = .ok (.ifCond .eq 6, 3) := by decide +kernel
theorem d16_39 : decode prog_12_method_4_code 39 = .ok (.iinc 4 1, 3) := by decide +kernel
theorem d16_42 : decode prog_12_method_4_code 42 = .ok (.goto (-30), 3) := by decide +kernel
theorem d16_45 : decode prog_12_method_4_code 45 = .ok (.aload_n 1, 1) := by decide +kernel
theorem d16_46 : decode prog_12_method_4_code 46 = .ok (.areturn, 1) := by decide +kernel
theorem ef_nmN (m : MethodId)  : entryFrame m #[.null] 6 = mkF m 0 #[.val .null, .unset, .unset, .unset, .unset, .unset] [] := by first | (simp [entryFrame, mkF, argsToLocals, Value.category]; done) | rfl
def Q_nmN (Z : State) (va : Addr) (kva : ClassId) (uk1 : Addr) (uk2 : Addr) (uk3 : Addr) (uw1 : Addr) (ut1 : Addr) (uj1 : ClassId) (uw2 : Addr) (ut2 : Addr) (uj2 : ClassId) (uw3 : Addr) (ut3 : Addr) (uj3 : ClassId) (h0 : Heap) (n0 : Nat) (v : Option Value) (h : Heap) (L : List Loc) : Prop := (v = some .null ∧ Fr n0 L ∧ Keep h0 h [])
set_option maxRecDepth 65536 in
set_option maxHeartbeats 40000000 in
theorem rm_nmN (l : Launch) (Z : State) (a0 : Array Value) (hw : ∀ d ∈ tables_1, d.before a0 Z = true) (ws : List Jvm.Cond) (va : Addr) (kva : ClassId) (uk1 : Addr) (uk2 : Addr) (uk3 : Addr) (uw1 : Addr) (ut1 : Addr) (uj1 : ClassId) (uw2 : Addr) (ut2 : Addr) (uj2 : ClassId) (uw3 : Addr) (ut3 : Addr) (uj3 : ClassId) (h0 : Heap) (n0 : Nat) (Z0 : n0 ≤ h0.size) (pf0 : Arv Z h0 va kva (.object "com/example/groupwright/groupwright/app/Registration$Kind") (3 : Int32) [(.ref uk1), (.ref uk2), (.ref uk3)] .null) (pf1 : Exa Z h0 va "[Lcom/example/groupwright/groupwright/app/Registration$Kind;") (pf2 : Fld Z h0 uk1 "com/example/groupwright/groupwright/app/Registration$Kind" "word" "Ljava/lang/String;" (.ref uw1)) (pf3 : Exa Z h0 uw1 "java/lang/String") (pf4 : Fld Z h0 uw1 "java/lang/String" "coder" "B" (.int 0)) (pf5 : Fld Z h0 uw1 "java/lang/String" "value" "[B" (.ref ut1)) (pf6 : Arv Z h0 ut1 uj1 .byte (Int32.ofNat ([99, 111, 108, 108, 101, 99, 116, 105, 111, 110] : List Int32).length) ((([99, 111, 108, 108, 101, 99, 116, 105, 111, 110] : List Int32).map (fun c => c.toInt8.toInt32)).map Value.int) (.int 0)) (pf7 : Fld Z h0 uk2 "com/example/groupwright/groupwright/app/Registration$Kind" "word" "Ljava/lang/String;" (.ref uw2)) (pf8 : Exa Z h0 uw2 "java/lang/String") (pf9 : Fld Z h0 uw2 "java/lang/String" "coder" "B" (.int 0)) (pf10 : Fld Z h0 uw2 "java/lang/String" "value" "[B" (.ref ut2)) (pf11 : Arv Z h0 ut2 uj2 .byte (Int32.ofNat ([111, 98, 106, 101, 99, 116] : List Int32).length) ((([111, 98, 106, 101, 99, 116] : List Int32).map (fun c => c.toInt8.toInt32)).map Value.int) (.int 0)) (pf12 : Fld Z h0 uk3 "com/example/groupwright/groupwright/app/Registration$Kind" "word" "Ljava/lang/String;" (.ref uw3)) (pf13 : Exa Z h0 uw3 "java/lang/String") (pf14 : Fld Z h0 uw3 "java/lang/String" "coder" "B" (.int 0)) (pf15 : Fld Z h0 uw3 "java/lang/String" "value" "[B" (.ref ut3)) (pf16 : Arv Z h0 ut3 uj3 .byte (Int32.ofNat ([100, 97, 116, 97, 115, 101, 116] : List Int32).length) ((([100, 97, 116, 97, 115, 101, 116] : List Int32).map (fun c => c.toInt8.toInt32)).map Value.int) (.int 0)) (pf17 : Old Z n0 h0) (OV : Sta Z Z.heap "com/example/groupwright/groupwright/app/Registration$Kind" "$VALUES" "[Lcom/example/groupwright/groupwright/app/Registration$Kind;" (.ref va)) :
    MetFree l (⟨"com/example/groupwright/groupwright/app/Registration$Kind", "named", "(Ljava/lang/String;)Lcom/example/groupwright/groupwright/app/Registration$Kind;"⟩ : MethodName) (head1 (Jvm.Cond.code (⟨"com/example/groupwright/groupwright/app/Registration$Kind", "named", "(Ljava/lang/String;)Lcom/example/groupwright/groupwright/app/Registration$Kind;"⟩ : MethodName) prog_12_method_4_code 6 (some (.object "com/example/groupwright/groupwright/app/Registration$Kind")) :: ws) ({ frames := 2, cells := 1, slots := 3, locals := 25 } : Room)) (fun aa U => aa = #[.null] ∧ Z.Warmed39 U.vm ∧ U.heap = h0) (fun _ _ _ _ _ => True) (fun _ U o U' => ∃ v L, o = .returned v ∧ Q_nmN Z va kva uk1 uk2 uk3 uw1 ut1 uj1 uw2 ut2 uj2 uw3 ut3 uj3 h0 n0 v U'.heap L ∧ FrameEnd U o U' L ({ frames := 2, cells := 1, slots := 3, locals := 25 } : Room).cells ({ frames := 2, cells := 1, slots := 3, locals := 25 } : Room).slots) := by
  refine MetFree.of_bodySF (plainFor_of_name pn_com_example_groupwright_groupwright_app_Registration_Kind) hisR ?_
  intro p e s m args below meth c s₁ Bd hml0 hP hK
  obtain ⟨rfl, hZ, hh⟩ := hP
  have hx := Bd.exec
  have hby := Bd.bytes
  have hlk : meth.locks = false := BodyLoose.notSynchronized Bd
  have hml : c.maxLocals = 6 := hml0
  have hown : s.vm.findClass "com/example/groupwright/groupwright/app/Registration$Kind" = some m.cls := findClass_of_methodNamed Bd.named
  have hnm := (name_of_methodNamed Bd.named Bd.method).1
  have X0 : Stand p l e ({ frames := 2, cells := 1, slots := 3, locals := 25 } : Room) s m #[.null] below meth c s₁ [] 0 0 := Stand.of_body Bd
  have e0 : s₁.heap = h0 := by rw [← hh, Bd.state]; rfl
  have N0 := Fr.nil n0
  show Gl p.tables e below (EndN s (Q_nmN Z va kva uk1 uk2 uk3 uw1 ut1 uj1 uw2 ut2 uj2 uw3 ut3 uj3 h0 n0) ({ frames := 2, cells := 1, slots := 3, locals := 25 } : Room).cells ({ frames := 2, cells := 1, slots := 3, locals := 25 } : Room).slots) _
  refine Gl.cast (ef_nmN m ) ?_
  show Gl p.tables e below _ (s₁.setTop (mkF m 0 #[.val .null, .unset, .unset, .unset, .unset, .unset] []))
  refine Gl.st (fun _ kq => XS.aconstNull X0.here hx rfl (hb hby d16_0) kq) ?_
  refine Gl.st (fun _ kq => XS.astoreN X0.here hx rfl (hb hby d16_1) rfl rfl (l' := #[.val .null, .val .null, .unset, .unset, .unset, .unset]) rfl kq) ?_
  show Gl p.tables e below _ (s₁.setTop (mkF m 2 #[.val .null, .val .null, .unset, .unset, .unset, .unset] []))
  obtain ⟨_, _, ⟨T2, L2, k2, n2⟩, -, X2, ⟨Lc2, hQ2, l2, y2, z2⟩, st2⟩ := Jvm.LawKit.callS X0 hx (y := (⟨"com/example/groupwright/groupwright/app/Registration$Kind", "values", "()[Lcom/example/groupwright/groupwright/app/Registration$Kind;"⟩ : MethodName)) hown (mvT hZ (tw hw 77 rfl)) (mvT hZ (tw hw 78 rfl)) (mvT hZ (tw hw 75 rfl)) (mvT hZ (tw hw 79 rfl)) (by decide) (backOf (W := 0) (rm_vals l Z a0 hw [] (va) (kva) (uk1) (uk2) (uk3) h0 n0 Z0 pf0 pf1 pf17 OV) hZ (tw hw 79 rfl) (tw hw 75 rfl) (by decide) (by decide)) (g := (mkF m 2 #[.val .null, .val .null, .unset, .unset, .unset, .unset] [])) rfl (by rw [hml]; rfl) (argsL := []) (rest := []) (lenOf pd____Lcom_example_groupwright_groupwright_app_Registration_Kind_ rfl) rfl (by show 2 * 0 + _ ≤ _; exact Nat.le_of_eq rfl) (hb hby d16_2) (fun _ _ => ⟨rfl, e0, (by decide : 0 + 1 ≤ _), (by decide : 0 + 3 ≤ _)⟩)
  dsimp only [Pt.U, Pt.locs, Pt.cells, Pt.slots] at X2 l2 y2 z2 st2 hQ2
  subst l2 y2 z2
  obtain ⟨v1, rfl, N2, K2, q2_0, y2_0⟩ := hQ2
  have M2 := Fr.app N0 N2
  have g3 : n0 ≤ v1 := Nat.le_trans Z0 y2_0
  have s4 : h0.size ≤ v1 := Nat.le_trans (Nat.le_refl _) y2_0
  refine Gl.st st2 ?_
  show Gl p.tables e below _ (T2.setTop (mkF m 5 #[.val .null, .val .null, .unset, .unset, .unset, .unset] [(.ref v1)]))
  show Gl p.tables e below _ (T2.setTop (mkF m 5 #[.val .null, .val .null, .unset, .unset, .unset, .unset] [(.ref v1)]))
  refine Gl.st (fun _ kq => XS.astoreN X2.here hx rfl (hb hby d16_5) rfl rfl (l' := #[.val .null, .val .null, .val (.ref v1), .unset, .unset, .unset]) rfl kq) ?_
  refine Gl.st (fun _ kq => XS.aloadN X2.here hx rfl (hb hby d16_6) rfl rfl kq) ?_
  show Gl p.tables e below _ (T2.setTop (mkF m 7 #[.val .null, .val .null, .val (.ref v1), .unset, .unset, .unset] [(.ref v1)]))
  obtain ⟨c5, a5, q5, S5, M5, H5, G5⟩ := id q2_0
  refine Gl.st (fun _ kq => X2.arraylength hx a5.1 (State.isArrayOf_alike hZ.alike a5.2.1) (g := (mkF m 7 #[.val .null, .val .null, .val (.ref v1), .unset, .unset, .unset] [(.ref v1)])) rfl rfl (hb hby d16_7) _ kq) ?_
  rw [len_of S5 M5]
  show Gl p.tables e below _ (T2.setTop (mkF m 8 #[.val .null, .val .null, .val (.ref v1), .unset, .unset, .unset] [(.int 3)]))
  refine Gl.st (fun _ kq => XS.istoreN X2.here hx rfl (hb hby d16_8) rfl (l' := #[.val .null, .val .null, .val (.ref v1), .val (.int 3), .unset, .unset]) rfl kq) ?_
  refine Gl.st (fun _ kq => XS.iconst X2.here hx rfl (hb hby d16_9) kq) ?_
  refine Gl.st (fun _ kq => XS.istore X2.here hx rfl (hb hby d16_10) rfl (l' := #[.val .null, .val .null, .val (.ref v1), .val (.int 3), .val (.int 0), .unset]) rfl kq) ?_
  refine Gl.st (fun _ kq => XS.iload X2.here hx rfl (hb hby d16_12) rfl kq) ?_
  refine Gl.st (fun _ kq => XS.iloadN X2.here hx rfl (hb hby d16_14) rfl kq) ?_
  show Gl p.tables e below _ (T2.setTop (mkF m 15 #[.val .null, .val .null, .val (.ref v1), .val (.int 3), .val (.int 0), .unset] [(.int 3), (.int 0)]))
  refine Gl.st (fun _ kq => XS.icmpNo X2.here hx rfl (hb hby d16_15) rfl (tlt ((by decide) : (0 : Int32) < (3 : Int32))).2.1 kq) ?_
  show Gl p.tables e below _ (T2.setTop (mkF m 18 #[.val .null, .val .null, .val (.ref v1), .val (.int 3), .val (.int 0), .unset] []))
  refine Gl.st (fun _ kq => XS.aloadN X2.here hx rfl (hb hby d16_18) rfl rfl kq) ?_
  refine Gl.st (fun _ kq => XS.iload X2.here hx rfl (hb hby d16_19) rfl kq) ?_
  show Gl p.tables e below _ (T2.setTop (mkF m 21 #[.val .null, .val .null, .val (.ref v1), .val (.int 3), .val (.int 0), .unset] [(.int 0), (.ref v1)]))
  obtain ⟨c6, a6, q6, S6, M6, H6, G6⟩ := id q2_0
  refine Gl.st (fun _ kq => X2.aaload hx (j := (0 : Int32)) (v := (.ref uk1)) a6.1 (State.isArrayOf_alike hZ.alike a6.2.1) rfl a6.2.2 (inb_of S6 ⟨by decide, by decide⟩) (Has.at H6 (inb_of S6 ⟨by decide, by decide⟩) rfl) (g := (mkF m 21 #[.val .null, .val .null, .val (.ref v1), .val (.int 3), .val (.int 0), .unset] [(.int 0), (.ref v1)])) rfl rfl (hb hby d16_21) _ kq) ?_
  show Gl p.tables e below _ (T2.setTop (mkF m 22 #[.val .null, .val .null, .val (.ref v1), .val (.int 3), .val (.int 0), .unset] [(.ref uk1)]))
  refine Gl.st (fun _ kq => XS.astore X2.here hx rfl (hb hby d16_22) rfl rfl (l' := #[.val .null, .val .null, .val (.ref v1), .val (.int 3), .val (.int 0), .val (.ref uk1)]) rfl kq) ?_
  refine Gl.st (fun _ kq => XS.aload X2.here hx rfl (hb hby d16_24) rfl rfl kq) ?_
  show Gl p.tables e below _ (T2.setTop (mkF m 26 #[.val .null, .val .null, .val (.ref v1), .val (.int 3), .val (.int 0), .val (.ref uk1)] [(.ref uk1)]))
  have f7 : Fld Z T2.heap uk1 "com/example/groupwright/groupwright/app/Registration$Kind" "word" "Ljava/lang/String;" (.ref uw1) := (pf2.keep K2 nin0)
  obtain ⟨T8, X8, e8, st8⟩ := getF X2 hx hZ hown (host := "") (Or.inl (tw hw 95 rfl)) Via.refl rfl f7 (g := (mkF m 26 #[.val .null, .val .null, .val (.ref v1), .val (.int 3), .val (.int 0), .val (.ref uk1)] [(.ref uk1)])) rfl rfl (hb hby d16_26)
  refine Gl.st st8 ?_
  show Gl p.tables e below _ (T8.setTop (mkF m 29 #[.val .null, .val .null, .val (.ref v1), .val (.int 3), .val (.int 0), .val (.ref uk1)] [(.ref uw1)]))
  refine Gl.st (fun _ kq => XS.aloadN X8.here hx rfl (hb hby d16_29) rfl rfl kq) ?_
  show Gl p.tables e below _ (T8.setTop (mkF m 30 #[.val .null, .val .null, .val (.ref v1), .val (.int 3), .val (.int 0), .val (.ref uk1)] [.null, (.ref uw1)]))
  have f10 : Exa Z T2.heap uw1 "java/lang/String" := (pf3.keep K2)
  obtain ⟨cq9, kq9, q9a, q9b, q9c⟩ := isOf hZ e8 f10
  obtain ⟨_, _, ⟨T9, L9, k9, n9⟩, -, X9, ⟨Lc9, hQ9, l9, y9, z9⟩, st9⟩ := X8.virtualBack hx (y := (⟨"java/lang/String", "equals", "(Ljava/lang/Object;)Z"⟩ : MethodName)) (z := (⟨"java/lang/String", "equals", "(Ljava/lang/Object;)Z"⟩ : MethodName)) hown (mvT hZ (tw hw 97 rfl)) (mvT hZ (tw hw 98 rfl)) (notFace_of_selects (args := #[]) (mvT hZ (tw hw 100 rfl))) (mvT hZ (tw hw 100 rfl)) (mvT hZ (tw hw 99 rfl)) (by decide) (backOf (W := 0) (rm_eqn l Z a0 hw [] (uw1) T2.heap n0 (Nat.le_trans Z0 K2.1) ) hZ (tw hw 101 rfl) (tw hw 1 rfl) (by decide) (by decide)) q9a q9c (g := (mkF m 30 #[.val .null, .val .null, .val (.ref v1), .val (.int 3), .val (.int 0), .val (.ref uk1)] [.null, (.ref uw1)])) rfl (by rw [hml]; rfl) (Steps.refl _) (argsL := [.null]) (rest := []) (lenOf pd__Ljava_lang_Object__Z rfl) rfl (by show 2 * 0 + _ ≤ _; exact Nat.le_of_eq rfl) (hb hby d16_30) (fun _ _ => ⟨rfl, e8, (by decide : 1 + 0 ≤ _), (by decide : 3 + 0 ≤ _)⟩)
  dsimp only [Pt.U, Pt.locs, Pt.cells, Pt.slots] at X9 l9 y9 z9 st9 hQ9
  subst l9 y9 z9
  obtain ⟨rfl, N9, e9⟩ := hQ9
  have M9 := Fr.app M2 N9
  refine Gl.to st9 ?_
  show Gl p.tables e below _ (T9.setTop (mkF m 33 #[.val .null, .val .null, .val (.ref v1), .val (.int 3), .val (.int 0), .val (.ref uk1)] [(.int 0)]))
  show Gl p.tables e below _ (T9.setTop (mkF m 33 #[.val .null, .val .null, .val (.ref v1), .val (.int 3), .val (.int 0), .val (.ref uk1)] [(.int 0)]))
  refine Gl.st (fun _ kq => XS.ifYes X9.here hx rfl (pc0 := 33) (pc' := 39) rfl (hb hby d16_33) rfl ((if0 _ _).trans (teq ((by decide) : (0 : Int32) = (0 : Int32))).1) (by decide) (by decide) kq) ?_
  show Gl p.tables e below _ (T9.setTop (mkF m 39 #[.val .null, .val .null, .val (.ref v1), .val (.int 3), .val (.int 0), .val (.ref uk1)] []))
  refine Gl.st (fun _ kq => XS.iinc X9.here hx rfl (hb hby d16_39) rfl (l' := #[.val .null, .val .null, .val (.ref v1), .val (.int 3), .val (.int 1), .val (.ref uk1)]) rfl kq) ?_
  refine Gl.st (fun _ kq => XS.goto X9.here hx rfl (pc0 := 42) (pc' := 12) rfl (hb hby d16_42) (by decide) (by decide) kq) ?_
  refine Gl.st (fun _ kq => XS.iload X9.here hx rfl (hb hby d16_12) rfl kq) ?_
  refine Gl.st (fun _ kq => XS.iloadN X9.here hx rfl (hb hby d16_14) rfl kq) ?_
  show Gl p.tables e below _ (T9.setTop (mkF m 15 #[.val .null, .val .null, .val (.ref v1), .val (.int 3), .val (.int 1), .val (.ref uk1)] [(.int 3), (.int 1)]))
  refine Gl.st (fun _ kq => XS.icmpNo X9.here hx rfl (hb hby d16_15) rfl (tlt ((by decide) : (1 : Int32) < (3 : Int32))).2.1 kq) ?_
  show Gl p.tables e below _ (T9.setTop (mkF m 18 #[.val .null, .val .null, .val (.ref v1), .val (.int 3), .val (.int 1), .val (.ref uk1)] []))
  refine Gl.st (fun _ kq => XS.aloadN X9.here hx rfl (hb hby d16_18) rfl rfl kq) ?_
  refine Gl.st (fun _ kq => XS.iload X9.here hx rfl (hb hby d16_19) rfl kq) ?_
  show Gl p.tables e below _ (T9.setTop (mkF m 21 #[.val .null, .val .null, .val (.ref v1), .val (.int 3), .val (.int 1), .val (.ref uk1)] [(.int 1), (.ref v1)]))
  obtain ⟨c11, a11, q11, S11, M11, H11, G11⟩ := id q2_0
  refine Gl.st (fun _ kq => X9.aaload hx (j := (1 : Int32)) (v := (.ref uk2)) (by rw [e9]; exact a11.1) (State.isArrayOf_alike hZ.alike a11.2.1) rfl a11.2.2 (inb_of S11 ⟨by decide, by decide⟩) (Has.at H11 (inb_of S11 ⟨by decide, by decide⟩) rfl) (g := (mkF m 21 #[.val .null, .val .null, .val (.ref v1), .val (.int 3), .val (.int 1), .val (.ref uk1)] [(.int 1), (.ref v1)])) rfl rfl (hb hby d16_21) _ kq) ?_
  show Gl p.tables e below _ (T9.setTop (mkF m 22 #[.val .null, .val .null, .val (.ref v1), .val (.int 3), .val (.int 1), .val (.ref uk1)] [(.ref uk2)]))
  refine Gl.st (fun _ kq => XS.astore X9.here hx rfl (hb hby d16_22) rfl rfl (l' := #[.val .null, .val .null, .val (.ref v1), .val (.int 3), .val (.int 1), .val (.ref uk2)]) rfl kq) ?_
  refine Gl.st (fun _ kq => XS.aload X9.here hx rfl (hb hby d16_24) rfl rfl kq) ?_
  show Gl p.tables e below _ (T9.setTop (mkF m 26 #[.val .null, .val .null, .val (.ref v1), .val (.int 3), .val (.int 1), .val (.ref uk2)] [(.ref uk2)]))
  have f12 : Fld Z T2.heap uk2 "com/example/groupwright/groupwright/app/Registration$Kind" "word" "Ljava/lang/String;" (.ref uw2) := (pf7.keep K2 nin0)
  obtain ⟨T13, X13, e13, st13⟩ := getF X9 hx hZ hown (host := "") (Or.inl (tw hw 95 rfl)) Via.refl e9 f12 (g := (mkF m 26 #[.val .null, .val .null, .val (.ref v1), .val (.int 3), .val (.int 1), .val (.ref uk2)] [(.ref uk2)])) rfl rfl (hb hby d16_26)
  refine Gl.st st13 ?_
  show Gl p.tables e below _ (T13.setTop (mkF m 29 #[.val .null, .val .null, .val (.ref v1), .val (.int 3), .val (.int 1), .val (.ref uk2)] [(.ref uw2)]))
  refine Gl.st (fun _ kq => XS.aloadN X13.here hx rfl (hb hby d16_29) rfl rfl kq) ?_
  show Gl p.tables e below _ (T13.setTop (mkF m 30 #[.val .null, .val .null, .val (.ref v1), .val (.int 3), .val (.int 1), .val (.ref uk2)] [.null, (.ref uw2)]))
  have f15 : Exa Z T2.heap uw2 "java/lang/String" := (pf8.keep K2)
  obtain ⟨cq14, kq14, q14a, q14b, q14c⟩ := isOf hZ e13 f15
  obtain ⟨_, _, ⟨T14, L14, k14, n14⟩, -, X14, ⟨Lc14, hQ14, l14, y14, z14⟩, st14⟩ := X13.virtualBack hx (y := (⟨"java/lang/String", "equals", "(Ljava/lang/Object;)Z"⟩ : MethodName)) (z := (⟨"java/lang/String", "equals", "(Ljava/lang/Object;)Z"⟩ : MethodName)) hown (mvT hZ (tw hw 97 rfl)) (mvT hZ (tw hw 98 rfl)) (notFace_of_selects (args := #[]) (mvT hZ (tw hw 100 rfl))) (mvT hZ (tw hw 100 rfl)) (mvT hZ (tw hw 99 rfl)) (by decide) (backOf (W := 0) (rm_eqn l Z a0 hw [] (uw2) T2.heap n0 (Nat.le_trans Z0 K2.1) ) hZ (tw hw 101 rfl) (tw hw 1 rfl) (by decide) (by decide)) q14a q14c (g := (mkF m 30 #[.val .null, .val .null, .val (.ref v1), .val (.int 3), .val (.int 1), .val (.ref uk2)] [.null, (.ref uw2)])) rfl (by rw [hml]; rfl) (Steps.refl _) (argsL := [.null]) (rest := []) (lenOf pd__Ljava_lang_Object__Z rfl) rfl (by show 2 * 0 + _ ≤ _; exact Nat.le_of_eq rfl) (hb hby d16_30) (fun _ _ => ⟨rfl, e13, (by decide : 1 + 0 ≤ _), (by decide : 3 + 0 ≤ _)⟩)
  dsimp only [Pt.U, Pt.locs, Pt.cells, Pt.slots] at X14 l14 y14 z14 st14 hQ14
  subst l14 y14 z14
  obtain ⟨rfl, N14, e14⟩ := hQ14
  have M14 := Fr.app M9 N14
  refine Gl.to st14 ?_
  show Gl p.tables e below _ (T14.setTop (mkF m 33 #[.val .null, .val .null, .val (.ref v1), .val (.int 3), .val (.int 1), .val (.ref uk2)] [(.int 0)]))
  show Gl p.tables e below _ (T14.setTop (mkF m 33 #[.val .null, .val .null, .val (.ref v1), .val (.int 3), .val (.int 1), .val (.ref uk2)] [(.int 0)]))
  refine Gl.st (fun _ kq => XS.ifYes X14.here hx rfl (pc0 := 33) (pc' := 39) rfl (hb hby d16_33) rfl ((if0 _ _).trans (teq ((by decide) : (0 : Int32) = (0 : Int32))).1) (by decide) (by decide) kq) ?_
  show Gl p.tables e below _ (T14.setTop (mkF m 39 #[.val .null, .val .null, .val (.ref v1), .val (.int 3), .val (.int 1), .val (.ref uk2)] []))
  refine Gl.st (fun _ kq => XS.iinc X14.here hx rfl (hb hby d16_39) rfl (l' := #[.val .null, .val .null, .val (.ref v1), .val (.int 3), .val (.int 2), .val (.ref uk2)]) rfl kq) ?_
  refine Gl.st (fun _ kq => XS.goto X14.here hx rfl (pc0 := 42) (pc' := 12) rfl (hb hby d16_42) (by decide) (by decide) kq) ?_
  refine Gl.st (fun _ kq => XS.iload X14.here hx rfl (hb hby d16_12) rfl kq) ?_
  refine Gl.st (fun _ kq => XS.iloadN X14.here hx rfl (hb hby d16_14) rfl kq) ?_
  show Gl p.tables e below _ (T14.setTop (mkF m 15 #[.val .null, .val .null, .val (.ref v1), .val (.int 3), .val (.int 2), .val (.ref uk2)] [(.int 3), (.int 2)]))
  refine Gl.st (fun _ kq => XS.icmpNo X14.here hx rfl (hb hby d16_15) rfl (tlt ((by decide) : (2 : Int32) < (3 : Int32))).2.1 kq) ?_
  show Gl p.tables e below _ (T14.setTop (mkF m 18 #[.val .null, .val .null, .val (.ref v1), .val (.int 3), .val (.int 2), .val (.ref uk2)] []))
  refine Gl.st (fun _ kq => XS.aloadN X14.here hx rfl (hb hby d16_18) rfl rfl kq) ?_
  refine Gl.st (fun _ kq => XS.iload X14.here hx rfl (hb hby d16_19) rfl kq) ?_
  show Gl p.tables e below _ (T14.setTop (mkF m 21 #[.val .null, .val .null, .val (.ref v1), .val (.int 3), .val (.int 2), .val (.ref uk2)] [(.int 2), (.ref v1)]))
  obtain ⟨c16, a16, q16, S16, M16, H16, G16⟩ := id q2_0
  refine Gl.st (fun _ kq => X14.aaload hx (j := (2 : Int32)) (v := (.ref uk3)) (by rw [e14]; exact a16.1) (State.isArrayOf_alike hZ.alike a16.2.1) rfl a16.2.2 (inb_of S16 ⟨by decide, by decide⟩) (Has.at H16 (inb_of S16 ⟨by decide, by decide⟩) rfl) (g := (mkF m 21 #[.val .null, .val .null, .val (.ref v1), .val (.int 3), .val (.int 2), .val (.ref uk2)] [(.int 2), (.ref v1)])) rfl rfl (hb hby d16_21) _ kq) ?_
  show Gl p.tables e below _ (T14.setTop (mkF m 22 #[.val .null, .val .null, .val (.ref v1), .val (.int 3), .val (.int 2), .val (.ref uk2)] [(.ref uk3)]))
  refine Gl.st (fun _ kq => XS.astore X14.here hx rfl (hb hby d16_22) rfl rfl (l' := #[.val .null, .val .null, .val (.ref v1), .val (.int 3), .val (.int 2), .val (.ref uk3)]) rfl kq) ?_
  refine Gl.st (fun _ kq => XS.aload X14.here hx rfl (hb hby d16_24) rfl rfl kq) ?_
  show Gl p.tables e below _ (T14.setTop (mkF m 26 #[.val .null, .val .null, .val (.ref v1), .val (.int 3), .val (.int 2), .val (.ref uk3)] [(.ref uk3)]))
  have f17 : Fld Z T2.heap uk3 "com/example/groupwright/groupwright/app/Registration$Kind" "word" "Ljava/lang/String;" (.ref uw3) := (pf12.keep K2 nin0)
  obtain ⟨T18, X18, e18, st18⟩ := getF X14 hx hZ hown (host := "") (Or.inl (tw hw 95 rfl)) Via.refl e14 f17 (g := (mkF m 26 #[.val .null, .val .null, .val (.ref v1), .val (.int 3), .val (.int 2), .val (.ref uk3)] [(.ref uk3)])) rfl rfl (hb hby d16_26)
  refine Gl.st st18 ?_
  show Gl p.tables e below _ (T18.setTop (mkF m 29 #[.val .null, .val .null, .val (.ref v1), .val (.int 3), .val (.int 2), .val (.ref uk3)] [(.ref uw3)]))
  refine Gl.st (fun _ kq => XS.aloadN X18.here hx rfl (hb hby d16_29) rfl rfl kq) ?_
  show Gl p.tables e below _ (T18.setTop (mkF m 30 #[.val .null, .val .null, .val (.ref v1), .val (.int 3), .val (.int 2), .val (.ref uk3)] [.null, (.ref uw3)]))
  have f20 : Exa Z T2.heap uw3 "java/lang/String" := (pf13.keep K2)
  obtain ⟨cq19, kq19, q19a, q19b, q19c⟩ := isOf hZ e18 f20
  obtain ⟨_, _, ⟨T19, L19, k19, n19⟩, -, X19, ⟨Lc19, hQ19, l19, y19, z19⟩, st19⟩ := X18.virtualBack hx (y := (⟨"java/lang/String", "equals", "(Ljava/lang/Object;)Z"⟩ : MethodName)) (z := (⟨"java/lang/String", "equals", "(Ljava/lang/Object;)Z"⟩ : MethodName)) hown (mvT hZ (tw hw 97 rfl)) (mvT hZ (tw hw 98 rfl)) (notFace_of_selects (args := #[]) (mvT hZ (tw hw 100 rfl))) (mvT hZ (tw hw 100 rfl)) (mvT hZ (tw hw 99 rfl)) (by decide) (backOf (W := 0) (rm_eqn l Z a0 hw [] (uw3) T2.heap n0 (Nat.le_trans Z0 K2.1) ) hZ (tw hw 101 rfl) (tw hw 1 rfl) (by decide) (by decide)) q19a q19c (g := (mkF m 30 #[.val .null, .val .null, .val (.ref v1), .val (.int 3), .val (.int 2), .val (.ref uk3)] [.null, (.ref uw3)])) rfl (by rw [hml]; rfl) (Steps.refl _) (argsL := [.null]) (rest := []) (lenOf pd__Ljava_lang_Object__Z rfl) rfl (by show 2 * 0 + _ ≤ _; exact Nat.le_of_eq rfl) (hb hby d16_30) (fun _ _ => ⟨rfl, e18, (by decide : 1 + 0 ≤ _), (by decide : 3 + 0 ≤ _)⟩)
  dsimp only [Pt.U, Pt.locs, Pt.cells, Pt.slots] at X19 l19 y19 z19 st19 hQ19
  subst l19 y19 z19
  obtain ⟨rfl, N19, e19⟩ := hQ19
  have M19 := Fr.app M14 N19
  refine Gl.to st19 ?_
  show Gl p.tables e below _ (T19.setTop (mkF m 33 #[.val .null, .val .null, .val (.ref v1), .val (.int 3), .val (.int 2), .val (.ref uk3)] [(.int 0)]))
  show Gl p.tables e below _ (T19.setTop (mkF m 33 #[.val .null, .val .null, .val (.ref v1), .val (.int 3), .val (.int 2), .val (.ref uk3)] [(.int 0)]))
  refine Gl.st (fun _ kq => XS.ifYes X19.here hx rfl (pc0 := 33) (pc' := 39) rfl (hb hby d16_33) rfl ((if0 _ _).trans (teq ((by decide) : (0 : Int32) = (0 : Int32))).1) (by decide) (by decide) kq) ?_
  show Gl p.tables e below _ (T19.setTop (mkF m 39 #[.val .null, .val .null, .val (.ref v1), .val (.int 3), .val (.int 2), .val (.ref uk3)] []))
  refine Gl.st (fun _ kq => XS.iinc X19.here hx rfl (hb hby d16_39) rfl (l' := #[.val .null, .val .null, .val (.ref v1), .val (.int 3), .val (.int 3), .val (.ref uk3)]) rfl kq) ?_
  refine Gl.st (fun _ kq => XS.goto X19.here hx rfl (pc0 := 42) (pc' := 12) rfl (hb hby d16_42) (by decide) (by decide) kq) ?_
  refine Gl.st (fun _ kq => XS.iload X19.here hx rfl (hb hby d16_12) rfl kq) ?_
  refine Gl.st (fun _ kq => XS.iloadN X19.here hx rfl (hb hby d16_14) rfl kq) ?_
  show Gl p.tables e below _ (T19.setTop (mkF m 15 #[.val .null, .val .null, .val (.ref v1), .val (.int 3), .val (.int 3), .val (.ref uk3)] [(.int 3), (.int 3)]))
  refine Gl.st (fun _ kq => XS.icmpYes X19.here hx rfl (pc0 := 15) (pc' := 45) rfl (hb hby d16_15) rfl (flt ((by decide) : ¬ ((3 : Int32) < (3 : Int32)))).2.1 (by decide) (by decide) kq) ?_
  show Gl p.tables e below _ (T19.setTop (mkF m 45 #[.val .null, .val .null, .val (.ref v1), .val (.int 3), .val (.int 3), .val (.ref uk3)] []))
  refine Gl.st (fun _ kq => XS.aloadN X19.here hx rfl (hb hby d16_45) rfl rfl kq) ?_
  have K21 : Keep h0 T2.heap [] := ((Keep.refl h0 []).trans K2 all0)
  exact Gl.retA X19 hx Bd.returns rfl rfl (hb hby d16_46) hlk (by decide) (by decide) (by rw [e19]; exact ⟨rfl, M19, K21⟩)
theorem d16_36 : decode prog_12_method_4_code 36 = .ok (.aload 5, 2) := by decide +kernel
theorem d16_38 : decode prog_12_method_4_code 38 = .ok (.astore_n 1, 1) := by decide +kernel
theorem ef_nm (m : MethodId) (b : Addr) : entryFrame m #[(.ref b)] 6 = mkF m 0 #[.val (.ref b), .unset, .unset, .unset, .unset, .unset] [] := by first | (simp [entryFrame, mkF, argsToLocals, Value.category]; done) | rfl
def Q_nm (Z : State) (b : Addr) (t : Addr) (k : ClassId) (cs : List Int32) (va : Addr) (kva : ClassId) (uk1 : Addr) (uk2 : Addr) (uk3 : Addr) (uw1 : Addr) (ut1 : Addr) (uj1 : ClassId) (uw2 : Addr) (ut2 : Addr) (uj2 : ClassId) (uw3 : Addr) (ut3 : Addr) (uj3 : ClassId) (Y1 : Int32) (h0 : Heap) (n0 : Nat) (v : Option Value) (h : Heap) (L : List Loc) : Prop := (v = some (.ref uk1) ∧ Fr n0 L ∧ Keep h0 h [] ∧ (([99, 111, 108, 108, 101, 99, 116, 105, 111, 110] : List Int32) = cs)) ∨ (v = some (.ref uk2) ∧ Fr n0 L ∧ Keep h0 h [] ∧ (([111, 98, 106, 101, 99, 116] : List Int32) = cs)) ∨ (v = some (.ref uk3) ∧ Fr n0 L ∧ Keep h0 h [] ∧ (([100, 97, 116, 97, 115, 101, 116] : List Int32) = cs)) ∨ (v = some .null ∧ Fr n0 L ∧ Keep h0 h [] ∧ (¬ (([99, 111, 108, 108, 101, 99, 116, 105, 111, 110] : List Int32) = cs)) ∧ (¬ (([111, 98, 106, 101, 99, 116] : List Int32) = cs)) ∧ (¬ (([100, 97, 116, 97, 115, 101, 116] : List Int32) = cs)))
set_option maxRecDepth 65536 in
set_option maxHeartbeats 40000000 in
theorem rm_nm (l : Launch) (Z : State) (a0 : Array Value) (hw : ∀ d ∈ tables_1, d.before a0 Z = true) (ws : List Jvm.Cond) (b : Addr) (t : Addr) (k : ClassId) (cs : List Int32) (va : Addr) (kva : ClassId) (uk1 : Addr) (uk2 : Addr) (uk3 : Addr) (uw1 : Addr) (ut1 : Addr) (uj1 : ClassId) (uw2 : Addr) (ut2 : Addr) (uj2 : ClassId) (uw3 : Addr) (ut3 : Addr) (uj3 : ClassId) (Y1 : Int32) (h0 : Heap) (n0 : Nat) (Z0 : n0 ≤ h0.size) (pf0 : Exa Z h0 b "java/lang/String") (pf1 : Fld Z h0 b "java/lang/String" "coder" "B" (.int 0)) (pf2 : Fld Z h0 b "java/lang/String" "value" "[B" (.ref t)) (pf3 : Arv Z h0 t k .byte (Int32.ofNat cs.length) ((cs.map (fun c => c.toInt8.toInt32)).map Value.int) (.int 0)) (pf4 : Arv Z h0 va kva (.object "com/example/groupwright/groupwright/app/Registration$Kind") (3 : Int32) [(.ref uk1), (.ref uk2), (.ref uk3)] .null) (pf5 : Exa Z h0 va "[Lcom/example/groupwright/groupwright/app/Registration$Kind;") (pf6 : Fld Z h0 uk1 "com/example/groupwright/groupwright/app/Registration$Kind" "word" "Ljava/lang/String;" (.ref uw1)) (pf7 : Exa Z h0 uw1 "java/lang/String") (pf8 : Fld Z h0 uw1 "java/lang/String" "coder" "B" (.int 0)) (pf9 : Fld Z h0 uw1 "java/lang/String" "value" "[B" (.ref ut1)) (pf10 : Arv Z h0 ut1 uj1 .byte (Int32.ofNat ([99, 111, 108, 108, 101, 99, 116, 105, 111, 110] : List Int32).length) ((([99, 111, 108, 108, 101, 99, 116, 105, 111, 110] : List Int32).map (fun c => c.toInt8.toInt32)).map Value.int) (.int 0)) (pf11 : Fld Z h0 uk2 "com/example/groupwright/groupwright/app/Registration$Kind" "word" "Ljava/lang/String;" (.ref uw2)) (pf12 : Exa Z h0 uw2 "java/lang/String") (pf13 : Fld Z h0 uw2 "java/lang/String" "coder" "B" (.int 0)) (pf14 : Fld Z h0 uw2 "java/lang/String" "value" "[B" (.ref ut2)) (pf15 : Arv Z h0 ut2 uj2 .byte (Int32.ofNat ([111, 98, 106, 101, 99, 116] : List Int32).length) ((([111, 98, 106, 101, 99, 116] : List Int32).map (fun c => c.toInt8.toInt32)).map Value.int) (.int 0)) (pf16 : Fld Z h0 uk3 "com/example/groupwright/groupwright/app/Registration$Kind" "word" "Ljava/lang/String;" (.ref uw3)) (pf17 : Exa Z h0 uw3 "java/lang/String") (pf18 : Fld Z h0 uw3 "java/lang/String" "coder" "B" (.int 0)) (pf19 : Fld Z h0 uw3 "java/lang/String" "value" "[B" (.ref ut3)) (pf20 : Arv Z h0 ut3 uj3 .byte (Int32.ofNat ([100, 97, 116, 97, 115, 101, 116] : List Int32).length) ((([100, 97, 116, 97, 115, 101, 116] : List Int32).map (fun c => c.toInt8.toInt32)).map Value.int) (.int 0)) (pf21 : Old Z n0 h0) (hr : Rng cs) (hl : cs.length ≤ 12) (OV : Sta Z Z.heap "com/example/groupwright/groupwright/app/Registration$Kind" "$VALUES" "[Lcom/example/groupwright/groupwright/app/Registration$Kind;" (.ref va)) (O2 : Sta Z Z.heap "java/lang/String" "COMPACT_STRINGS" "Z" (.int Y1)) (P5 : ¬ (Y1 = (0 : Int32))) :
    MetFree l (⟨"com/example/groupwright/groupwright/app/Registration$Kind", "named", "(Ljava/lang/String;)Lcom/example/groupwright/groupwright/app/Registration$Kind;"⟩ : MethodName) (head1 (Jvm.Cond.code (⟨"com/example/groupwright/groupwright/app/Registration$Kind", "named", "(Ljava/lang/String;)Lcom/example/groupwright/groupwright/app/Registration$Kind;"⟩ : MethodName) prog_12_method_4_code 6 (some (.object "com/example/groupwright/groupwright/app/Registration$Kind")) :: ws) ({ frames := 2, cells := 1, slots := 3, locals := 28 } : Room)) (fun aa U => aa = #[(.ref b)] ∧ Z.Warmed39 U.vm ∧ U.heap = h0) (fun _ _ _ _ _ => True) (fun _ U o U' => ∃ v L, o = .returned v ∧ Q_nm Z b t k cs va kva uk1 uk2 uk3 uw1 ut1 uj1 uw2 ut2 uj2 uw3 ut3 uj3 Y1 h0 n0 v U'.heap L ∧ FrameEnd U o U' L ({ frames := 2, cells := 1, slots := 3, locals := 28 } : Room).cells ({ frames := 2, cells := 1, slots := 3, locals := 28 } : Room).slots) := by
  refine MetFree.of_bodySF (plainFor_of_name pn_com_example_groupwright_groupwright_app_Registration_Kind) hisR ?_
  intro p e s m args below meth c s₁ Bd hml0 hP hK
  obtain ⟨rfl, hZ, hh⟩ := hP
  have hx := Bd.exec
  have hby := Bd.bytes
  have hlk : meth.locks = false := BodyLoose.notSynchronized Bd
  have hml : c.maxLocals = 6 := hml0
  have hown : s.vm.findClass "com/example/groupwright/groupwright/app/Registration$Kind" = some m.cls := findClass_of_methodNamed Bd.named
  have hnm := (name_of_methodNamed Bd.named Bd.method).1
  have X0 : Stand p l e ({ frames := 2, cells := 1, slots := 3, locals := 28 } : Room) s m #[(.ref b)] below meth c s₁ [] 0 0 := Stand.of_body Bd
  have e0 : s₁.heap = h0 := by rw [← hh, Bd.state]; rfl
  have N0 := Fr.nil n0
  show Gl p.tables e below (EndN s (Q_nm Z b t k cs va kva uk1 uk2 uk3 uw1 ut1 uj1 uw2 ut2 uj2 uw3 ut3 uj3 Y1 h0 n0) ({ frames := 2, cells := 1, slots := 3, locals := 28 } : Room).cells ({ frames := 2, cells := 1, slots := 3, locals := 28 } : Room).slots) _
  refine Gl.cast (ef_nm m b) ?_
  show Gl p.tables e below _ (s₁.setTop (mkF m 0 #[.val (.ref b), .unset, .unset, .unset, .unset, .unset] []))
  refine Gl.st (fun _ kq => XS.aconstNull X0.here hx rfl (hb hby d16_0) kq) ?_
  refine Gl.st (fun _ kq => XS.astoreN X0.here hx rfl (hb hby d16_1) rfl rfl (l' := #[.val (.ref b), .val .null, .unset, .unset, .unset, .unset]) rfl kq) ?_
  show Gl p.tables e below _ (s₁.setTop (mkF m 2 #[.val (.ref b), .val .null, .unset, .unset, .unset, .unset] []))
  obtain ⟨_, _, ⟨T2, L2, k2, n2⟩, -, X2, ⟨Lc2, hQ2, l2, y2, z2⟩, st2⟩ := Jvm.LawKit.callS X0 hx (y := (⟨"com/example/groupwright/groupwright/app/Registration$Kind", "values", "()[Lcom/example/groupwright/groupwright/app/Registration$Kind;"⟩ : MethodName)) hown (mvT hZ (tw hw 77 rfl)) (mvT hZ (tw hw 78 rfl)) (mvT hZ (tw hw 75 rfl)) (mvT hZ (tw hw 79 rfl)) (by decide) (backOf (W := 0) (rm_vals l Z a0 hw [] (va) (kva) (uk1) (uk2) (uk3) h0 n0 Z0 pf4 pf5 pf21 OV) hZ (tw hw 79 rfl) (tw hw 75 rfl) (by decide) (by decide)) (g := (mkF m 2 #[.val (.ref b), .val .null, .unset, .unset, .unset, .unset] [])) rfl (by rw [hml]; rfl) (argsL := []) (rest := []) (lenOf pd____Lcom_example_groupwright_groupwright_app_Registration_Kind_ rfl) rfl (by show 2 * 0 + _ ≤ _; exact Nat.le_of_eq rfl) (hb hby d16_2) (fun _ _ => ⟨rfl, e0, (by decide : 0 + 1 ≤ _), (by decide : 0 + 3 ≤ _)⟩)
  dsimp only [Pt.U, Pt.locs, Pt.cells, Pt.slots] at X2 l2 y2 z2 st2 hQ2
  subst l2 y2 z2
  obtain ⟨v1, rfl, N2, K2, q2_0, y2_0⟩ := hQ2
  have M2 := Fr.app N0 N2
  have g3 : n0 ≤ v1 := Nat.le_trans Z0 y2_0
  have s4 : h0.size ≤ v1 := Nat.le_trans (Nat.le_refl _) y2_0
  refine Gl.st st2 ?_
  show Gl p.tables e below _ (T2.setTop (mkF m 5 #[.val (.ref b), .val .null, .unset, .unset, .unset, .unset] [(.ref v1)]))
  show Gl p.tables e below _ (T2.setTop (mkF m 5 #[.val (.ref b), .val .null, .unset, .unset, .unset, .unset] [(.ref v1)]))
  refine Gl.st (fun _ kq => XS.astoreN X2.here hx rfl (hb hby d16_5) rfl rfl (l' := #[.val (.ref b), .val .null, .val (.ref v1), .unset, .unset, .unset]) rfl kq) ?_
  refine Gl.st (fun _ kq => XS.aloadN X2.here hx rfl (hb hby d16_6) rfl rfl kq) ?_
  show Gl p.tables e below _ (T2.setTop (mkF m 7 #[.val (.ref b), .val .null, .val (.ref v1), .unset, .unset, .unset] [(.ref v1)]))
  obtain ⟨c5, a5, q5, S5, M5, H5, G5⟩ := id q2_0
  refine Gl.st (fun _ kq => X2.arraylength hx a5.1 (State.isArrayOf_alike hZ.alike a5.2.1) (g := (mkF m 7 #[.val (.ref b), .val .null, .val (.ref v1), .unset, .unset, .unset] [(.ref v1)])) rfl rfl (hb hby d16_7) _ kq) ?_
  rw [len_of S5 M5]
  show Gl p.tables e below _ (T2.setTop (mkF m 8 #[.val (.ref b), .val .null, .val (.ref v1), .unset, .unset, .unset] [(.int 3)]))
  refine Gl.st (fun _ kq => XS.istoreN X2.here hx rfl (hb hby d16_8) rfl (l' := #[.val (.ref b), .val .null, .val (.ref v1), .val (.int 3), .unset, .unset]) rfl kq) ?_
  refine Gl.st (fun _ kq => XS.iconst X2.here hx rfl (hb hby d16_9) kq) ?_
  refine Gl.st (fun _ kq => XS.istore X2.here hx rfl (hb hby d16_10) rfl (l' := #[.val (.ref b), .val .null, .val (.ref v1), .val (.int 3), .val (.int 0), .unset]) rfl kq) ?_
  refine Gl.st (fun _ kq => XS.iload X2.here hx rfl (hb hby d16_12) rfl kq) ?_
  refine Gl.st (fun _ kq => XS.iloadN X2.here hx rfl (hb hby d16_14) rfl kq) ?_
  show Gl p.tables e below _ (T2.setTop (mkF m 15 #[.val (.ref b), .val .null, .val (.ref v1), .val (.int 3), .val (.int 0), .unset] [(.int 3), (.int 0)]))
  refine Gl.st (fun _ kq => XS.icmpNo X2.here hx rfl (hb hby d16_15) rfl (tlt ((by decide) : (0 : Int32) < (3 : Int32))).2.1 kq) ?_
  show Gl p.tables e below _ (T2.setTop (mkF m 18 #[.val (.ref b), .val .null, .val (.ref v1), .val (.int 3), .val (.int 0), .unset] []))
  refine Gl.st (fun _ kq => XS.aloadN X2.here hx rfl (hb hby d16_18) rfl rfl kq) ?_
  refine Gl.st (fun _ kq => XS.iload X2.here hx rfl (hb hby d16_19) rfl kq) ?_
  show Gl p.tables e below _ (T2.setTop (mkF m 21 #[.val (.ref b), .val .null, .val (.ref v1), .val (.int 3), .val (.int 0), .unset] [(.int 0), (.ref v1)]))
  obtain ⟨c6, a6, q6, S6, M6, H6, G6⟩ := id q2_0
  refine Gl.st (fun _ kq => X2.aaload hx (j := (0 : Int32)) (v := (.ref uk1)) a6.1 (State.isArrayOf_alike hZ.alike a6.2.1) rfl a6.2.2 (inb_of S6 ⟨by decide, by decide⟩) (Has.at H6 (inb_of S6 ⟨by decide, by decide⟩) rfl) (g := (mkF m 21 #[.val (.ref b), .val .null, .val (.ref v1), .val (.int 3), .val (.int 0), .unset] [(.int 0), (.ref v1)])) rfl rfl (hb hby d16_21) _ kq) ?_
  show Gl p.tables e below _ (T2.setTop (mkF m 22 #[.val (.ref b), .val .null, .val (.ref v1), .val (.int 3), .val (.int 0), .unset] [(.ref uk1)]))
  refine Gl.st (fun _ kq => XS.astore X2.here hx rfl (hb hby d16_22) rfl rfl (l' := #[.val (.ref b), .val .null, .val (.ref v1), .val (.int 3), .val (.int 0), .val (.ref uk1)]) rfl kq) ?_
  refine Gl.st (fun _ kq => XS.aload X2.here hx rfl (hb hby d16_24) rfl rfl kq) ?_
  show Gl p.tables e below _ (T2.setTop (mkF m 26 #[.val (.ref b), .val .null, .val (.ref v1), .val (.int 3), .val (.int 0), .val (.ref uk1)] [(.ref uk1)]))
  have f7 : Fld Z T2.heap uk1 "com/example/groupwright/groupwright/app/Registration$Kind" "word" "Ljava/lang/String;" (.ref uw1) := (pf6.keep K2 nin0)
  obtain ⟨T8, X8, e8, st8⟩ := getF X2 hx hZ hown (host := "") (Or.inl (tw hw 95 rfl)) Via.refl rfl f7 (g := (mkF m 26 #[.val (.ref b), .val .null, .val (.ref v1), .val (.int 3), .val (.int 0), .val (.ref uk1)] [(.ref uk1)])) rfl rfl (hb hby d16_26)
  refine Gl.st st8 ?_
  show Gl p.tables e below _ (T8.setTop (mkF m 29 #[.val (.ref b), .val .null, .val (.ref v1), .val (.int 3), .val (.int 0), .val (.ref uk1)] [(.ref uw1)]))
  refine Gl.st (fun _ kq => XS.aloadN X8.here hx rfl (hb hby d16_29) rfl rfl kq) ?_
  show Gl p.tables e below _ (T8.setTop (mkF m 30 #[.val (.ref b), .val .null, .val (.ref v1), .val (.int 3), .val (.int 0), .val (.ref uk1)] [(.ref b), (.ref uw1)]))
  have f9 : Exa Z T2.heap uw1 "java/lang/String" := (pf7.keep K2)
  have f10 : Fld Z T2.heap uw1 "java/lang/String" "value" "[B" (.ref ut1) := (pf9.keep K2 nin0)
  have f11 : Fld Z T2.heap uw1 "java/lang/String" "coder" "B" (.int 0) := (pf8.keep K2 nin0)
  have f12 : Arv Z T2.heap ut1 uj1 .byte (Int32.ofNat ([99, 111, 108, 108, 101, 99, 116, 105, 111, 110] : List Int32).length) ((([99, 111, 108, 108, 101, 99, 116, 105, 111, 110] : List Int32).map (fun c => c.toInt8.toInt32)).map Value.int) (.int 0) := (pf10.keep K2 nin0)
  have f13 : Exa Z T2.heap b "java/lang/String" := (pf0.keep K2)
  have f14 : Fld Z T2.heap b "java/lang/String" "value" "[B" (.ref t) := (pf2.keep K2 nin0)
  have f15 : Fld Z T2.heap b "java/lang/String" "coder" "B" (.int 0) := (pf1.keep K2 nin0)
  have f16 : Arv Z T2.heap t k .byte (Int32.ofNat cs.length) ((cs.map (fun c => c.toInt8.toInt32)).map Value.int) (.int 0) := (pf3.keep K2 nin0)
  have f17 : Old Z n0 T2.heap := (pf21.keep K2 all0)
  obtain ⟨cq18, kq18, q18a, q18b, q18c⟩ := isOf hZ e8 f9
  obtain ⟨_, _, ⟨T18, L18, k18, n18⟩, -, X18, ⟨Lc18, hQ18, l18, y18, z18⟩, st18⟩ := X8.virtualBack hx (y := (⟨"java/lang/String", "equals", "(Ljava/lang/Object;)Z"⟩ : MethodName)) (z := (⟨"java/lang/String", "equals", "(Ljava/lang/Object;)Z"⟩ : MethodName)) hown (mvT hZ (tw hw 97 rfl)) (mvT hZ (tw hw 98 rfl)) (notFace_of_selects (args := #[]) (mvT hZ (tw hw 100 rfl))) (mvT hZ (tw hw 100 rfl)) (mvT hZ (tw hw 99 rfl)) (by decide) (StrChars.Road.eqW (W := 0) hZ (wdEq hw) (kI := 4) (tw hw 2 rfl) f9 f10 f11 f12 (StrChars.Road.codOf (cs := ([99, 111, 108, 108, 101, 99, 116, 105, 111, 110] : List Int32)) rfl (fun x hx => ((by decide : ∀ c ∈ ([99, 111, 108, 108, 101, 99, 116, 105, 111, 110] : List Int32), ¬ c < 0 ∧ ¬ (255 : Int32) < c) x hx).2)) (up255 _ (by decide : ∀ c ∈ ([99, 111, 108, 108, 101, 99, 116, 105, 111, 110] : List Int32), ¬ c < 0 ∧ ¬ (255 : Int32) < c)) (Nat.le_of_ble_eq_true rfl) f13 f14 f15 f16 (StrChars.Road.codOf (cs := cs) rfl (fun x hx => (hr x hx).2)) (up255 _ hr) (Nat.le_trans hl (by decide)) (O2.ext f17.2) P5 (by decide) (by decide)) q18a q18c (g := (mkF m 30 #[.val (.ref b), .val .null, .val (.ref v1), .val (.int 3), .val (.int 0), .val (.ref uk1)] [(.ref b), (.ref uw1)])) rfl (by rw [hml]; rfl) (Steps.refl _) (argsL := [(.ref b)]) (rest := []) (lenOf pd__Ljava_lang_Object__Z rfl) rfl (by show 2 * 0 + _ ≤ _; exact Nat.le_of_eq rfl) (hb hby d16_30) (fun _ _ => ⟨rfl, e8, (by decide : 1 + 0 ≤ _), (by decide : 3 + 0 ≤ _)⟩)
  dsimp only [Pt.U, Pt.locs, Pt.cells, Pt.slots] at X18 l18 y18 z18 st18 hQ18
  subst l18 y18 z18
  obtain ⟨⟨rfl, y18_0⟩ | ⟨rfl, y18_0⟩, rfl, e18⟩ := hQ18
  · have N18 : Fr n0 ([] : List Loc) := Fr.nil n0
    have M18 := Fr.app M2 N18
    refine Gl.to st18 ?_
    show Gl p.tables e below _ (T18.setTop (mkF m 33 #[.val (.ref b), .val .null, .val (.ref v1), .val (.int 3), .val (.int 0), .val (.ref uk1)] [(.int 1)]))
    refine Gl.st (fun _ kq => XS.ifNo X18.here hx rfl (hb hby d16_33) rfl ((if0 _ _).trans (feq ((by decide) : ¬ ((1 : Int32) = (0 : Int32)))).1) kq) ?_
    show Gl p.tables e below _ (T18.setTop (mkF m 36 #[.val (.ref b), .val .null, .val (.ref v1), .val (.int 3), .val (.int 0), .val (.ref uk1)] []))
    refine Gl.st (fun _ kq => XS.aload X18.here hx rfl (hb hby d16_36) rfl rfl kq) ?_
    refine Gl.st (fun _ kq => XS.astoreN X18.here hx rfl (hb hby d16_38) rfl rfl (l' := #[.val (.ref b), .val (.ref uk1), .val (.ref v1), .val (.int 3), .val (.int 0), .val (.ref uk1)]) rfl kq) ?_
    refine Gl.st (fun _ kq => XS.iinc X18.here hx rfl (hb hby d16_39) rfl (l' := #[.val (.ref b), .val (.ref uk1), .val (.ref v1), .val (.int 3), .val (.int 1), .val (.ref uk1)]) rfl kq) ?_
    refine Gl.st (fun _ kq => XS.goto X18.here hx rfl (pc0 := 42) (pc' := 12) rfl (hb hby d16_42) (by decide) (by decide) kq) ?_
    refine Gl.st (fun _ kq => XS.iload X18.here hx rfl (hb hby d16_12) rfl kq) ?_
    refine Gl.st (fun _ kq => XS.iloadN X18.here hx rfl (hb hby d16_14) rfl kq) ?_
    show Gl p.tables e below _ (T18.setTop (mkF m 15 #[.val (.ref b), .val (.ref uk1), .val (.ref v1), .val (.int 3), .val (.int 1), .val (.ref uk1)] [(.int 3), (.int 1)]))
    refine Gl.st (fun _ kq => XS.icmpNo X18.here hx rfl (hb hby d16_15) rfl (tlt ((by decide) : (1 : Int32) < (3 : Int32))).2.1 kq) ?_
    show Gl p.tables e below _ (T18.setTop (mkF m 18 #[.val (.ref b), .val (.ref uk1), .val (.ref v1), .val (.int 3), .val (.int 1), .val (.ref uk1)] []))
    refine Gl.st (fun _ kq => XS.aloadN X18.here hx rfl (hb hby d16_18) rfl rfl kq) ?_
    refine Gl.st (fun _ kq => XS.iload X18.here hx rfl (hb hby d16_19) rfl kq) ?_
    show Gl p.tables e below _ (T18.setTop (mkF m 21 #[.val (.ref b), .val (.ref uk1), .val (.ref v1), .val (.int 3), .val (.int 1), .val (.ref uk1)] [(.int 1), (.ref v1)]))
    obtain ⟨c19, a19, q19, S19, M19, H19, G19⟩ := id q2_0
    refine Gl.st (fun _ kq => X18.aaload hx (j := (1 : Int32)) (v := (.ref uk2)) (by rw [e18]; exact a19.1) (State.isArrayOf_alike hZ.alike a19.2.1) rfl a19.2.2 (inb_of S19 ⟨by decide, by decide⟩) (Has.at H19 (inb_of S19 ⟨by decide, by decide⟩) rfl) (g := (mkF m 21 #[.val (.ref b), .val (.ref uk1), .val (.ref v1), .val (.int 3), .val (.int 1), .val (.ref uk1)] [(.int 1), (.ref v1)])) rfl rfl (hb hby d16_21) _ kq) ?_
    show Gl p.tables e below _ (T18.setTop (mkF m 22 #[.val (.ref b), .val (.ref uk1), .val (.ref v1), .val (.int 3), .val (.int 1), .val (.ref uk1)] [(.ref uk2)]))
    refine Gl.st (fun _ kq => XS.astore X18.here hx rfl (hb hby d16_22) rfl rfl (l' := #[.val (.ref b), .val (.ref uk1), .val (.ref v1), .val (.int 3), .val (.int 1), .val (.ref uk2)]) rfl kq) ?_
    refine Gl.st (fun _ kq => XS.aload X18.here hx rfl (hb hby d16_24) rfl rfl kq) ?_
    show Gl p.tables e below _ (T18.setTop (mkF m 26 #[.val (.ref b), .val (.ref uk1), .val (.ref v1), .val (.int 3), .val (.int 1), .val (.ref uk2)] [(.ref uk2)]))
    have f20 : Fld Z T2.heap uk2 "com/example/groupwright/groupwright/app/Registration$Kind" "word" "Ljava/lang/String;" (.ref uw2) := (pf11.keep K2 nin0)
    obtain ⟨T21, X21, e21, st21⟩ := getF X18 hx hZ hown (host := "") (Or.inl (tw hw 95 rfl)) Via.refl e18 f20 (g := (mkF m 26 #[.val (.ref b), .val (.ref uk1), .val (.ref v1), .val (.int 3), .val (.int 1), .val (.ref uk2)] [(.ref uk2)])) rfl rfl (hb hby d16_26)
    refine Gl.st st21 ?_
    show Gl p.tables e below _ (T21.setTop (mkF m 29 #[.val (.ref b), .val (.ref uk1), .val (.ref v1), .val (.int 3), .val (.int 1), .val (.ref uk2)] [(.ref uw2)]))
    refine Gl.st (fun _ kq => XS.aloadN X21.here hx rfl (hb hby d16_29) rfl rfl kq) ?_
    show Gl p.tables e below _ (T21.setTop (mkF m 30 #[.val (.ref b), .val (.ref uk1), .val (.ref v1), .val (.int 3), .val (.int 1), .val (.ref uk2)] [(.ref b), (.ref uw2)]))
    have f22 : Exa Z T2.heap uw2 "java/lang/String" := (pf12.keep K2)
    have f23 : Fld Z T2.heap uw2 "java/lang/String" "value" "[B" (.ref ut2) := (pf14.keep K2 nin0)
    have f24 : Fld Z T2.heap uw2 "java/lang/String" "coder" "B" (.int 0) := (pf13.keep K2 nin0)
    have f25 : Arv Z T2.heap ut2 uj2 .byte (Int32.ofNat ([111, 98, 106, 101, 99, 116] : List Int32).length) ((([111, 98, 106, 101, 99, 116] : List Int32).map (fun c => c.toInt8.toInt32)).map Value.int) (.int 0) := (pf15.keep K2 nin0)
    obtain ⟨cq26, kq26, q26a, q26b, q26c⟩ := isOf hZ e21 f22
    obtain ⟨_, _, ⟨T26, L26, k26, n26⟩, -, X26, ⟨Lc26, hQ26, l26, y26, z26⟩, st26⟩ := X21.virtualBack hx (y := (⟨"java/lang/String", "equals", "(Ljava/lang/Object;)Z"⟩ : MethodName)) (z := (⟨"java/lang/String", "equals", "(Ljava/lang/Object;)Z"⟩ : MethodName)) hown (mvT hZ (tw hw 97 rfl)) (mvT hZ (tw hw 98 rfl)) (notFace_of_selects (args := #[]) (mvT hZ (tw hw 100 rfl))) (mvT hZ (tw hw 100 rfl)) (mvT hZ (tw hw 99 rfl)) (by decide) (StrChars.Road.eqW (W := 0) hZ (wdEq hw) (kI := 4) (tw hw 2 rfl) f22 f23 f24 f25 (StrChars.Road.codOf (cs := ([111, 98, 106, 101, 99, 116] : List Int32)) rfl (fun x hx => ((by decide : ∀ c ∈ ([111, 98, 106, 101, 99, 116] : List Int32), ¬ c < 0 ∧ ¬ (255 : Int32) < c) x hx).2)) (up255 _ (by decide : ∀ c ∈ ([111, 98, 106, 101, 99, 116] : List Int32), ¬ c < 0 ∧ ¬ (255 : Int32) < c)) (Nat.le_of_ble_eq_true rfl) f13 f14 f15 f16 (StrChars.Road.codOf (cs := cs) rfl (fun x hx => (hr x hx).2)) (up255 _ hr) (Nat.le_trans hl (by decide)) (O2.ext f17.2) P5 (by decide) (by decide)) q26a q26c (g := (mkF m 30 #[.val (.ref b), .val (.ref uk1), .val (.ref v1), .val (.int 3), .val (.int 1), .val (.ref uk2)] [(.ref b), (.ref uw2)])) rfl (by rw [hml]; rfl) (Steps.refl _) (argsL := [(.ref b)]) (rest := []) (lenOf pd__Ljava_lang_Object__Z rfl) rfl (by show 2 * 0 + _ ≤ _; exact Nat.le_of_eq rfl) (hb hby d16_30) (fun _ _ => ⟨rfl, e21, (by decide : 1 + 0 ≤ _), (by decide : 3 + 0 ≤ _)⟩)
    dsimp only [Pt.U, Pt.locs, Pt.cells, Pt.slots] at X26 l26 y26 z26 st26 hQ26
    subst l26 y26 z26
    obtain ⟨⟨rfl, y26_0⟩ | ⟨rfl, y26_0⟩, rfl, e26⟩ := hQ26
    · exact absurd (y18_0.trans y26_0.symm) (by decide)
    · have N26 : Fr n0 ([] : List Loc) := Fr.nil n0
      have M26 := Fr.app M18 N26
      refine Gl.to st26 ?_
      show Gl p.tables e below _ (T26.setTop (mkF m 33 #[.val (.ref b), .val (.ref uk1), .val (.ref v1), .val (.int 3), .val (.int 1), .val (.ref uk2)] [(.int 0)]))
      refine Gl.st (fun _ kq => XS.ifYes X26.here hx rfl (pc0 := 33) (pc' := 39) rfl (hb hby d16_33) rfl ((if0 _ _).trans (teq ((by decide) : (0 : Int32) = (0 : Int32))).1) (by decide) (by decide) kq) ?_
      show Gl p.tables e below _ (T26.setTop (mkF m 39 #[.val (.ref b), .val (.ref uk1), .val (.ref v1), .val (.int 3), .val (.int 1), .val (.ref uk2)] []))
      refine Gl.st (fun _ kq => XS.iinc X26.here hx rfl (hb hby d16_39) rfl (l' := #[.val (.ref b), .val (.ref uk1), .val (.ref v1), .val (.int 3), .val (.int 2), .val (.ref uk2)]) rfl kq) ?_
      refine Gl.st (fun _ kq => XS.goto X26.here hx rfl (pc0 := 42) (pc' := 12) rfl (hb hby d16_42) (by decide) (by decide) kq) ?_
      refine Gl.st (fun _ kq => XS.iload X26.here hx rfl (hb hby d16_12) rfl kq) ?_
      refine Gl.st (fun _ kq => XS.iloadN X26.here hx rfl (hb hby d16_14) rfl kq) ?_
      show Gl p.tables e below _ (T26.setTop (mkF m 15 #[.val (.ref b), .val (.ref uk1), .val (.ref v1), .val (.int 3), .val (.int 2), .val (.ref uk2)] [(.int 3), (.int 2)]))
      refine Gl.st (fun _ kq => XS.icmpNo X26.here hx rfl (hb hby d16_15) rfl (tlt ((by decide) : (2 : Int32) < (3 : Int32))).2.1 kq) ?_
      show Gl p.tables e below _ (T26.setTop (mkF m 18 #[.val (.ref b), .val (.ref uk1), .val (.ref v1), .val (.int 3), .val (.int 2), .val (.ref uk2)] []))
      refine Gl.st (fun _ kq => XS.aloadN X26.here hx rfl (hb hby d16_18) rfl rfl kq) ?_
      refine Gl.st (fun _ kq => XS.iload X26.here hx rfl (hb hby d16_19) rfl kq) ?_
      show Gl p.tables e below _ (T26.setTop (mkF m 21 #[.val (.ref b), .val (.ref uk1), .val (.ref v1), .val (.int 3), .val (.int 2), .val (.ref uk2)] [(.int 2), (.ref v1)]))
      obtain ⟨c27, a27, q27, S27, M27, H27, G27⟩ := id q2_0
      refine Gl.st (fun _ kq => X26.aaload hx (j := (2 : Int32)) (v := (.ref uk3)) (by rw [e26]; exact a27.1) (State.isArrayOf_alike hZ.alike a27.2.1) rfl a27.2.2 (inb_of S27 ⟨by decide, by decide⟩) (Has.at H27 (inb_of S27 ⟨by decide, by decide⟩) rfl) (g := (mkF m 21 #[.val (.ref b), .val (.ref uk1), .val (.ref v1), .val (.int 3), .val (.int 2), .val (.ref uk2)] [(.int 2), (.ref v1)])) rfl rfl (hb hby d16_21) _ kq) ?_
      show Gl p.tables e below _ (T26.setTop (mkF m 22 #[.val (.ref b), .val (.ref uk1), .val (.ref v1), .val (.int 3), .val (.int 2), .val (.ref uk2)] [(.ref uk3)]))
      refine Gl.st (fun _ kq => XS.astore X26.here hx rfl (hb hby d16_22) rfl rfl (l' := #[.val (.ref b), .val (.ref uk1), .val (.ref v1), .val (.int 3), .val (.int 2), .val (.ref uk3)]) rfl kq) ?_
      refine Gl.st (fun _ kq => XS.aload X26.here hx rfl (hb hby d16_24) rfl rfl kq) ?_
      show Gl p.tables e below _ (T26.setTop (mkF m 26 #[.val (.ref b), .val (.ref uk1), .val (.ref v1), .val (.int 3), .val (.int 2), .val (.ref uk3)] [(.ref uk3)]))
      have f28 : Fld Z T2.heap uk3 "com/example/groupwright/groupwright/app/Registration$Kind" "word" "Ljava/lang/String;" (.ref uw3) := (pf16.keep K2 nin0)
      obtain ⟨T29, X29, e29, st29⟩ := getF X26 hx hZ hown (host := "") (Or.inl (tw hw 95 rfl)) Via.refl e26 f28 (g := (mkF m 26 #[.val (.ref b), .val (.ref uk1), .val (.ref v1), .val (.int 3), .val (.int 2), .val (.ref uk3)] [(.ref uk3)])) rfl rfl (hb hby d16_26)
      refine Gl.st st29 ?_
      show Gl p.tables e below _ (T29.setTop (mkF m 29 #[.val (.ref b), .val (.ref uk1), .val (.ref v1), .val (.int 3), .val (.int 2), .val (.ref uk3)] [(.ref uw3)]))
      refine Gl.st (fun _ kq => XS.aloadN X29.here hx rfl (hb hby d16_29) rfl rfl kq) ?_
      show Gl p.tables e below _ (T29.setTop (mkF m 30 #[.val (.ref b), .val (.ref uk1), .val (.ref v1), .val (.int 3), .val (.int 2), .val (.ref uk3)] [(.ref b), (.ref uw3)]))
      have f30 : Exa Z T2.heap uw3 "java/lang/String" := (pf17.keep K2)
      have f31 : Fld Z T2.heap uw3 "java/lang/String" "value" "[B" (.ref ut3) := (pf19.keep K2 nin0)
      have f32 : Fld Z T2.heap uw3 "java/lang/String" "coder" "B" (.int 0) := (pf18.keep K2 nin0)
      have f33 : Arv Z T2.heap ut3 uj3 .byte (Int32.ofNat ([100, 97, 116, 97, 115, 101, 116] : List Int32).length) ((([100, 97, 116, 97, 115, 101, 116] : List Int32).map (fun c => c.toInt8.toInt32)).map Value.int) (.int 0) := (pf20.keep K2 nin0)
      obtain ⟨cq34, kq34, q34a, q34b, q34c⟩ := isOf hZ e29 f30
      obtain ⟨_, _, ⟨T34, L34, k34, n34⟩, -, X34, ⟨Lc34, hQ34, l34, y34, z34⟩, st34⟩ := X29.virtualBack hx (y := (⟨"java/lang/String", "equals", "(Ljava/lang/Object;)Z"⟩ : MethodName)) (z := (⟨"java/lang/String", "equals", "(Ljava/lang/Object;)Z"⟩ : MethodName)) hown (mvT hZ (tw hw 97 rfl)) (mvT hZ (tw hw 98 rfl)) (notFace_of_selects (args := #[]) (mvT hZ (tw hw 100 rfl))) (mvT hZ (tw hw 100 rfl)) (mvT hZ (tw hw 99 rfl)) (by decide) (StrChars.Road.eqW (W := 0) hZ (wdEq hw) (kI := 4) (tw hw 2 rfl) f30 f31 f32 f33 (StrChars.Road.codOf (cs := ([100, 97, 116, 97, 115, 101, 116] : List Int32)) rfl (fun x hx => ((by decide : ∀ c ∈ ([100, 97, 116, 97, 115, 101, 116] : List Int32), ¬ c < 0 ∧ ¬ (255 : Int32) < c) x hx).2)) (up255 _ (by decide : ∀ c ∈ ([100, 97, 116, 97, 115, 101, 116] : List Int32), ¬ c < 0 ∧ ¬ (255 : Int32) < c)) (Nat.le_of_ble_eq_true rfl) f13 f14 f15 f16 (StrChars.Road.codOf (cs := cs) rfl (fun x hx => (hr x hx).2)) (up255 _ hr) (Nat.le_trans hl (by decide)) (O2.ext f17.2) P5 (by decide) (by decide)) q34a q34c (g := (mkF m 30 #[.val (.ref b), .val (.ref uk1), .val (.ref v1), .val (.int 3), .val (.int 2), .val (.ref uk3)] [(.ref b), (.ref uw3)])) rfl (by rw [hml]; rfl) (Steps.refl _) (argsL := [(.ref b)]) (rest := []) (lenOf pd__Ljava_lang_Object__Z rfl) rfl (by show 2 * 0 + _ ≤ _; exact Nat.le_of_eq rfl) (hb hby d16_30) (fun _ _ => ⟨rfl, e29, (by decide : 1 + 0 ≤ _), (by decide : 3 + 0 ≤ _)⟩)
      dsimp only [Pt.U, Pt.locs, Pt.cells, Pt.slots] at X34 l34 y34 z34 st34 hQ34
      subst l34 y34 z34
      obtain ⟨⟨rfl, y34_0⟩ | ⟨rfl, y34_0⟩, rfl, e34⟩ := hQ34
      · exact absurd (y18_0.trans y34_0.symm) (by decide)
      · have N34 : Fr n0 ([] : List Loc) := Fr.nil n0
        have M34 := Fr.app M26 N34
        refine Gl.to st34 ?_
        show Gl p.tables e below _ (T34.setTop (mkF m 33 #[.val (.ref b), .val (.ref uk1), .val (.ref v1), .val (.int 3), .val (.int 2), .val (.ref uk3)] [(.int 0)]))
        refine Gl.st (fun _ kq => XS.ifYes X34.here hx rfl (pc0 := 33) (pc' := 39) rfl (hb hby d16_33) rfl ((if0 _ _).trans (teq ((by decide) : (0 : Int32) = (0 : Int32))).1) (by decide) (by decide) kq) ?_
        show Gl p.tables e below _ (T34.setTop (mkF m 39 #[.val (.ref b), .val (.ref uk1), .val (.ref v1), .val (.int 3), .val (.int 2), .val (.ref uk3)] []))
        refine Gl.st (fun _ kq => XS.iinc X34.here hx rfl (hb hby d16_39) rfl (l' := #[.val (.ref b), .val (.ref uk1), .val (.ref v1), .val (.int 3), .val (.int 3), .val (.ref uk3)]) rfl kq) ?_
        refine Gl.st (fun _ kq => XS.goto X34.here hx rfl (pc0 := 42) (pc' := 12) rfl (hb hby d16_42) (by decide) (by decide) kq) ?_
        refine Gl.st (fun _ kq => XS.iload X34.here hx rfl (hb hby d16_12) rfl kq) ?_
        refine Gl.st (fun _ kq => XS.iloadN X34.here hx rfl (hb hby d16_14) rfl kq) ?_
        show Gl p.tables e below _ (T34.setTop (mkF m 15 #[.val (.ref b), .val (.ref uk1), .val (.ref v1), .val (.int 3), .val (.int 3), .val (.ref uk3)] [(.int 3), (.int 3)]))
        refine Gl.st (fun _ kq => XS.icmpYes X34.here hx rfl (pc0 := 15) (pc' := 45) rfl (hb hby d16_15) rfl (flt ((by decide) : ¬ ((3 : Int32) < (3 : Int32)))).2.1 (by decide) (by decide) kq) ?_
        show Gl p.tables e below _ (T34.setTop (mkF m 45 #[.val (.ref b), .val (.ref uk1), .val (.ref v1), .val (.int 3), .val (.int 3), .val (.ref uk3)] []))
        refine Gl.st (fun _ kq => XS.aloadN X34.here hx rfl (hb hby d16_45) rfl rfl kq) ?_
        have K35 : Keep h0 T2.heap [] := ((Keep.refl h0 []).trans K2 all0)
        exact Gl.retA X34 hx Bd.returns rfl rfl (hb hby d16_46) hlk (by decide) (by decide) (by rw [e34]; exact (Or.inl ⟨rfl, M34, K35, y18_0⟩))
  · have N18 : Fr n0 ([] : List Loc) := Fr.nil n0
    have M18 := Fr.app M2 N18
    refine Gl.to st18 ?_
    show Gl p.tables e below _ (T18.setTop (mkF m 33 #[.val (.ref b), .val .null, .val (.ref v1), .val (.int 3), .val (.int 0), .val (.ref uk1)] [(.int 0)]))
    refine Gl.st (fun _ kq => XS.ifYes X18.here hx rfl (pc0 := 33) (pc' := 39) rfl (hb hby d16_33) rfl ((if0 _ _).trans (teq ((by decide) : (0 : Int32) = (0 : Int32))).1) (by decide) (by decide) kq) ?_
    show Gl p.tables e below _ (T18.setTop (mkF m 39 #[.val (.ref b), .val .null, .val (.ref v1), .val (.int 3), .val (.int 0), .val (.ref uk1)] []))
    refine Gl.st (fun _ kq => XS.iinc X18.here hx rfl (hb hby d16_39) rfl (l' := #[.val (.ref b), .val .null, .val (.ref v1), .val (.int 3), .val (.int 1), .val (.ref uk1)]) rfl kq) ?_
    refine Gl.st (fun _ kq => XS.goto X18.here hx rfl (pc0 := 42) (pc' := 12) rfl (hb hby d16_42) (by decide) (by decide) kq) ?_
    refine Gl.st (fun _ kq => XS.iload X18.here hx rfl (hb hby d16_12) rfl kq) ?_
    refine Gl.st (fun _ kq => XS.iloadN X18.here hx rfl (hb hby d16_14) rfl kq) ?_
    show Gl p.tables e below _ (T18.setTop (mkF m 15 #[.val (.ref b), .val .null, .val (.ref v1), .val (.int 3), .val (.int 1), .val (.ref uk1)] [(.int 3), (.int 1)]))
    refine Gl.st (fun _ kq => XS.icmpNo X18.here hx rfl (hb hby d16_15) rfl (tlt ((by decide) : (1 : Int32) < (3 : Int32))).2.1 kq) ?_
    show Gl p.tables e below _ (T18.setTop (mkF m 18 #[.val (.ref b), .val .null, .val (.ref v1), .val (.int 3), .val (.int 1), .val (.ref uk1)] []))
    refine Gl.st (fun _ kq => XS.aloadN X18.here hx rfl (hb hby d16_18) rfl rfl kq) ?_
    refine Gl.st (fun _ kq => XS.iload X18.here hx rfl (hb hby d16_19) rfl kq) ?_
    show Gl p.tables e below _ (T18.setTop (mkF m 21 #[.val (.ref b), .val .null, .val (.ref v1), .val (.int 3), .val (.int 1), .val (.ref uk1)] [(.int 1), (.ref v1)]))
    obtain ⟨c36, a36, q36, S36, M36, H36, G36⟩ := id q2_0
    refine Gl.st (fun _ kq => X18.aaload hx (j := (1 : Int32)) (v := (.ref uk2)) (by rw [e18]; exact a36.1) (State.isArrayOf_alike hZ.alike a36.2.1) rfl a36.2.2 (inb_of S36 ⟨by decide, by decide⟩) (Has.at H36 (inb_of S36 ⟨by decide, by decide⟩) rfl) (g := (mkF m 21 #[.val (.ref b), .val .null, .val (.ref v1), .val (.int 3), .val (.int 1), .val (.ref uk1)] [(.int 1), (.ref v1)])) rfl rfl (hb hby d16_21) _ kq) ?_
    show Gl p.tables e below _ (T18.setTop (mkF m 22 #[.val (.ref b), .val .null, .val (.ref v1), .val (.int 3), .val (.int 1), .val (.ref uk1)] [(.ref uk2)]))
    refine Gl.st (fun _ kq => XS.astore X18.here hx rfl (hb hby d16_22) rfl rfl (l' := #[.val (.ref b), .val .null, .val (.ref v1), .val (.int 3), .val (.int 1), .val (.ref uk2)]) rfl kq) ?_
    refine Gl.st (fun _ kq => XS.aload X18.here hx rfl (hb hby d16_24) rfl rfl kq) ?_
    show Gl p.tables e below _ (T18.setTop (mkF m 26 #[.val (.ref b), .val .null, .val (.ref v1), .val (.int 3), .val (.int 1), .val (.ref uk2)] [(.ref uk2)]))
    have f37 : Fld Z T2.heap uk2 "com/example/groupwright/groupwright/app/Registration$Kind" "word" "Ljava/lang/String;" (.ref uw2) := (pf11.keep K2 nin0)
    obtain ⟨T38, X38, e38, st38⟩ := getF X18 hx hZ hown (host := "") (Or.inl (tw hw 95 rfl)) Via.refl e18 f37 (g := (mkF m 26 #[.val (.ref b), .val .null, .val (.ref v1), .val (.int 3), .val (.int 1), .val (.ref uk2)] [(.ref uk2)])) rfl rfl (hb hby d16_26)
    refine Gl.st st38 ?_
    show Gl p.tables e below _ (T38.setTop (mkF m 29 #[.val (.ref b), .val .null, .val (.ref v1), .val (.int 3), .val (.int 1), .val (.ref uk2)] [(.ref uw2)]))
    refine Gl.st (fun _ kq => XS.aloadN X38.here hx rfl (hb hby d16_29) rfl rfl kq) ?_
    show Gl p.tables e below _ (T38.setTop (mkF m 30 #[.val (.ref b), .val .null, .val (.ref v1), .val (.int 3), .val (.int 1), .val (.ref uk2)] [(.ref b), (.ref uw2)]))
    have f39 : Exa Z T2.heap uw2 "java/lang/String" := (pf12.keep K2)
    have f40 : Fld Z T2.heap uw2 "java/lang/String" "value" "[B" (.ref ut2) := (pf14.keep K2 nin0)
    have f41 : Fld Z T2.heap uw2 "java/lang/String" "coder" "B" (.int 0) := (pf13.keep K2 nin0)
    have f42 : Arv Z T2.heap ut2 uj2 .byte (Int32.ofNat ([111, 98, 106, 101, 99, 116] : List Int32).length) ((([111, 98, 106, 101, 99, 116] : List Int32).map (fun c => c.toInt8.toInt32)).map Value.int) (.int 0) := (pf15.keep K2 nin0)
    obtain ⟨cq43, kq43, q43a, q43b, q43c⟩ := isOf hZ e38 f39
    obtain ⟨_, _, ⟨T43, L43, k43, n43⟩, -, X43, ⟨Lc43, hQ43, l43, y43, z43⟩, st43⟩ := X38.virtualBack hx (y := (⟨"java/lang/String", "equals", "(Ljava/lang/Object;)Z"⟩ : MethodName)) (z := (⟨"java/lang/String", "equals", "(Ljava/lang/Object;)Z"⟩ : MethodName)) hown (mvT hZ (tw hw 97 rfl)) (mvT hZ (tw hw 98 rfl)) (notFace_of_selects (args := #[]) (mvT hZ (tw hw 100 rfl))) (mvT hZ (tw hw 100 rfl)) (mvT hZ (tw hw 99 rfl)) (by decide) (StrChars.Road.eqW (W := 0) hZ (wdEq hw) (kI := 4) (tw hw 2 rfl) f39 f40 f41 f42 (StrChars.Road.codOf (cs := ([111, 98, 106, 101, 99, 116] : List Int32)) rfl (fun x hx => ((by decide : ∀ c ∈ ([111, 98, 106, 101, 99, 116] : List Int32), ¬ c < 0 ∧ ¬ (255 : Int32) < c) x hx).2)) (up255 _ (by decide : ∀ c ∈ ([111, 98, 106, 101, 99, 116] : List Int32), ¬ c < 0 ∧ ¬ (255 : Int32) < c)) (Nat.le_of_ble_eq_true rfl) f13 f14 f15 f16 (StrChars.Road.codOf (cs := cs) rfl (fun x hx => (hr x hx).2)) (up255 _ hr) (Nat.le_trans hl (by decide)) (O2.ext f17.2) P5 (by decide) (by decide)) q43a q43c (g := (mkF m 30 #[.val (.ref b), .val .null, .val (.ref v1), .val (.int 3), .val (.int 1), .val (.ref uk2)] [(.ref b), (.ref uw2)])) rfl (by rw [hml]; rfl) (Steps.refl _) (argsL := [(.ref b)]) (rest := []) (lenOf pd__Ljava_lang_Object__Z rfl) rfl (by show 2 * 0 + _ ≤ _; exact Nat.le_of_eq rfl) (hb hby d16_30) (fun _ _ => ⟨rfl, e38, (by decide : 1 + 0 ≤ _), (by decide : 3 + 0 ≤ _)⟩)
    dsimp only [Pt.U, Pt.locs, Pt.cells, Pt.slots] at X43 l43 y43 z43 st43 hQ43
    subst l43 y43 z43
    obtain ⟨⟨rfl, y43_0⟩ | ⟨rfl, y43_0⟩, rfl, e43⟩ := hQ43
    · have N43 : Fr n0 ([] : List Loc) := Fr.nil n0
      have M43 := Fr.app M18 N43
      refine Gl.to st43 ?_
      show Gl p.tables e below _ (T43.setTop (mkF m 33 #[.val (.ref b), .val .null, .val (.ref v1), .val (.int 3), .val (.int 1), .val (.ref uk2)] [(.int 1)]))
      refine Gl.st (fun _ kq => XS.ifNo X43.here hx rfl (hb hby d16_33) rfl ((if0 _ _).trans (feq ((by decide) : ¬ ((1 : Int32) = (0 : Int32)))).1) kq) ?_
      show Gl p.tables e below _ (T43.setTop (mkF m 36 #[.val (.ref b), .val .null, .val (.ref v1), .val (.int 3), .val (.int 1), .val (.ref uk2)] []))
      refine Gl.st (fun _ kq => XS.aload X43.here hx rfl (hb hby d16_36) rfl rfl kq) ?_
      refine Gl.st (fun _ kq => XS.astoreN X43.here hx rfl (hb hby d16_38) rfl rfl (l' := #[.val (.ref b), .val (.ref uk2), .val (.ref v1), .val (.int 3), .val (.int 1), .val (.ref uk2)]) rfl kq) ?_
      refine Gl.st (fun _ kq => XS.iinc X43.here hx rfl (hb hby d16_39) rfl (l' := #[.val (.ref b), .val (.ref uk2), .val (.ref v1), .val (.int 3), .val (.int 2), .val (.ref uk2)]) rfl kq) ?_
      refine Gl.st (fun _ kq => XS.goto X43.here hx rfl (pc0 := 42) (pc' := 12) rfl (hb hby d16_42) (by decide) (by decide) kq) ?_
      refine Gl.st (fun _ kq => XS.iload X43.here hx rfl (hb hby d16_12) rfl kq) ?_
      refine Gl.st (fun _ kq => XS.iloadN X43.here hx rfl (hb hby d16_14) rfl kq) ?_
      show Gl p.tables e below _ (T43.setTop (mkF m 15 #[.val (.ref b), .val (.ref uk2), .val (.ref v1), .val (.int 3), .val (.int 2), .val (.ref uk2)] [(.int 3), (.int 2)]))
      refine Gl.st (fun _ kq => XS.icmpNo X43.here hx rfl (hb hby d16_15) rfl (tlt ((by decide) : (2 : Int32) < (3 : Int32))).2.1 kq) ?_
      show Gl p.tables e below _ (T43.setTop (mkF m 18 #[.val (.ref b), .val (.ref uk2), .val (.ref v1), .val (.int 3), .val (.int 2), .val (.ref uk2)] []))
      refine Gl.st (fun _ kq => XS.aloadN X43.here hx rfl (hb hby d16_18) rfl rfl kq) ?_
      refine Gl.st (fun _ kq => XS.iload X43.here hx rfl (hb hby d16_19) rfl kq) ?_
      show Gl p.tables e below _ (T43.setTop (mkF m 21 #[.val (.ref b), .val (.ref uk2), .val (.ref v1), .val (.int 3), .val (.int 2), .val (.ref uk2)] [(.int 2), (.ref v1)]))
      obtain ⟨c44, a44, q44, S44, M44, H44, G44⟩ := id q2_0
      refine Gl.st (fun _ kq => X43.aaload hx (j := (2 : Int32)) (v := (.ref uk3)) (by rw [e43]; exact a44.1) (State.isArrayOf_alike hZ.alike a44.2.1) rfl a44.2.2 (inb_of S44 ⟨by decide, by decide⟩) (Has.at H44 (inb_of S44 ⟨by decide, by decide⟩) rfl) (g := (mkF m 21 #[.val (.ref b), .val (.ref uk2), .val (.ref v1), .val (.int 3), .val (.int 2), .val (.ref uk2)] [(.int 2), (.ref v1)])) rfl rfl (hb hby d16_21) _ kq) ?_
      show Gl p.tables e below _ (T43.setTop (mkF m 22 #[.val (.ref b), .val (.ref uk2), .val (.ref v1), .val (.int 3), .val (.int 2), .val (.ref uk2)] [(.ref uk3)]))
      refine Gl.st (fun _ kq => XS.astore X43.here hx rfl (hb hby d16_22) rfl rfl (l' := #[.val (.ref b), .val (.ref uk2), .val (.ref v1), .val (.int 3), .val (.int 2), .val (.ref uk3)]) rfl kq) ?_
      refine Gl.st (fun _ kq => XS.aload X43.here hx rfl (hb hby d16_24) rfl rfl kq) ?_
      show Gl p.tables e below _ (T43.setTop (mkF m 26 #[.val (.ref b), .val (.ref uk2), .val (.ref v1), .val (.int 3), .val (.int 2), .val (.ref uk3)] [(.ref uk3)]))
      have f45 : Fld Z T2.heap uk3 "com/example/groupwright/groupwright/app/Registration$Kind" "word" "Ljava/lang/String;" (.ref uw3) := (pf16.keep K2 nin0)
      obtain ⟨T46, X46, e46, st46⟩ := getF X43 hx hZ hown (host := "") (Or.inl (tw hw 95 rfl)) Via.refl e43 f45 (g := (mkF m 26 #[.val (.ref b), .val (.ref uk2), .val (.ref v1), .val (.int 3), .val (.int 2), .val (.ref uk3)] [(.ref uk3)])) rfl rfl (hb hby d16_26)
      refine Gl.st st46 ?_
      show Gl p.tables e below _ (T46.setTop (mkF m 29 #[.val (.ref b), .val (.ref uk2), .val (.ref v1), .val (.int 3), .val (.int 2), .val (.ref uk3)] [(.ref uw3)]))
      refine Gl.st (fun _ kq => XS.aloadN X46.here hx rfl (hb hby d16_29) rfl rfl kq) ?_
      show Gl p.tables e below _ (T46.setTop (mkF m 30 #[.val (.ref b), .val (.ref uk2), .val (.ref v1), .val (.int 3), .val (.int 2), .val (.ref uk3)] [(.ref b), (.ref uw3)]))
      have f47 : Exa Z T2.heap uw3 "java/lang/String" := (pf17.keep K2)
      have f48 : Fld Z T2.heap uw3 "java/lang/String" "value" "[B" (.ref ut3) := (pf19.keep K2 nin0)
      have f49 : Fld Z T2.heap uw3 "java/lang/String" "coder" "B" (.int 0) := (pf18.keep K2 nin0)
      have f50 : Arv Z T2.heap ut3 uj3 .byte (Int32.ofNat ([100, 97, 116, 97, 115, 101, 116] : List Int32).length) ((([100, 97, 116, 97, 115, 101, 116] : List Int32).map (fun c => c.toInt8.toInt32)).map Value.int) (.int 0) := (pf20.keep K2 nin0)
      obtain ⟨cq51, kq51, q51a, q51b, q51c⟩ := isOf hZ e46 f47
      obtain ⟨_, _, ⟨T51, L51, k51, n51⟩, -, X51, ⟨Lc51, hQ51, l51, y51, z51⟩, st51⟩ := X46.virtualBack hx (y := (⟨"java/lang/String", "equals", "(Ljava/lang/Object;)Z"⟩ : MethodName)) (z := (⟨"java/lang/String", "equals", "(Ljava/lang/Object;)Z"⟩ : MethodName)) hown (mvT hZ (tw hw 97 rfl)) (mvT hZ (tw hw 98 rfl)) (notFace_of_selects (args := #[]) (mvT hZ (tw hw 100 rfl))) (mvT hZ (tw hw 100 rfl)) (mvT hZ (tw hw 99 rfl)) (by decide) (StrChars.Road.eqW (W := 0) hZ (wdEq hw) (kI := 4) (tw hw 2 rfl) f47 f48 f49 f50 (StrChars.Road.codOf (cs := ([100, 97, 116, 97, 115, 101, 116] : List Int32)) rfl (fun x hx => ((by decide : ∀ c ∈ ([100, 97, 116, 97, 115, 101, 116] : List Int32), ¬ c < 0 ∧ ¬ (255 : Int32) < c) x hx).2)) (up255 _ (by decide : ∀ c ∈ ([100, 97, 116, 97, 115, 101, 116] : List Int32), ¬ c < 0 ∧ ¬ (255 : Int32) < c)) (Nat.le_of_ble_eq_true rfl) f13 f14 f15 f16 (StrChars.Road.codOf (cs := cs) rfl (fun x hx => (hr x hx).2)) (up255 _ hr) (Nat.le_trans hl (by decide)) (O2.ext f17.2) P5 (by decide) (by decide)) q51a q51c (g := (mkF m 30 #[.val (.ref b), .val (.ref uk2), .val (.ref v1), .val (.int 3), .val (.int 2), .val (.ref uk3)] [(.ref b), (.ref uw3)])) rfl (by rw [hml]; rfl) (Steps.refl _) (argsL := [(.ref b)]) (rest := []) (lenOf pd__Ljava_lang_Object__Z rfl) rfl (by show 2 * 0 + _ ≤ _; exact Nat.le_of_eq rfl) (hb hby d16_30) (fun _ _ => ⟨rfl, e46, (by decide : 1 + 0 ≤ _), (by decide : 3 + 0 ≤ _)⟩)
      dsimp only [Pt.U, Pt.locs, Pt.cells, Pt.slots] at X51 l51 y51 z51 st51 hQ51
      subst l51 y51 z51
      obtain ⟨⟨rfl, y51_0⟩ | ⟨rfl, y51_0⟩, rfl, e51⟩ := hQ51
      · exact absurd (y43_0.trans y51_0.symm) (by decide)
      · have N51 : Fr n0 ([] : List Loc) := Fr.nil n0
        have M51 := Fr.app M43 N51
        refine Gl.to st51 ?_
        show Gl p.tables e below _ (T51.setTop (mkF m 33 #[.val (.ref b), .val (.ref uk2), .val (.ref v1), .val (.int 3), .val (.int 2), .val (.ref uk3)] [(.int 0)]))
        refine Gl.st (fun _ kq => XS.ifYes X51.here hx rfl (pc0 := 33) (pc' := 39) rfl (hb hby d16_33) rfl ((if0 _ _).trans (teq ((by decide) : (0 : Int32) = (0 : Int32))).1) (by decide) (by decide) kq) ?_
        show Gl p.tables e below _ (T51.setTop (mkF m 39 #[.val (.ref b), .val (.ref uk2), .val (.ref v1), .val (.int 3), .val (.int 2), .val (.ref uk3)] []))
        refine Gl.st (fun _ kq => XS.iinc X51.here hx rfl (hb hby d16_39) rfl (l' := #[.val (.ref b), .val (.ref uk2), .val (.ref v1), .val (.int 3), .val (.int 3), .val (.ref uk3)]) rfl kq) ?_
        refine Gl.st (fun _ kq => XS.goto X51.here hx rfl (pc0 := 42) (pc' := 12) rfl (hb hby d16_42) (by decide) (by decide) kq) ?_
        refine Gl.st (fun _ kq => XS.iload X51.here hx rfl (hb hby d16_12) rfl kq) ?_
        refine Gl.st (fun _ kq => XS.iloadN X51.here hx rfl (hb hby d16_14) rfl kq) ?_
        show Gl p.tables e below _ (T51.setTop (mkF m 15 #[.val (.ref b), .val (.ref uk2), .val (.ref v1), .val (.int 3), .val (.int 3), .val (.ref uk3)] [(.int 3), (.int 3)]))
        refine Gl.st (fun _ kq => XS.icmpYes X51.here hx rfl (pc0 := 15) (pc' := 45) rfl (hb hby d16_15) rfl (flt ((by decide) : ¬ ((3 : Int32) < (3 : Int32)))).2.1 (by decide) (by decide) kq) ?_
        show Gl p.tables e below _ (T51.setTop (mkF m 45 #[.val (.ref b), .val (.ref uk2), .val (.ref v1), .val (.int 3), .val (.int 3), .val (.ref uk3)] []))
        refine Gl.st (fun _ kq => XS.aloadN X51.here hx rfl (hb hby d16_45) rfl rfl kq) ?_
        have K52 : Keep h0 T2.heap [] := ((Keep.refl h0 []).trans K2 all0)
        exact Gl.retA X51 hx Bd.returns rfl rfl (hb hby d16_46) hlk (by decide) (by decide) (by rw [e51]; exact (Or.inr (Or.inl ⟨rfl, M51, K52, y43_0⟩)))
    · have N43 : Fr n0 ([] : List Loc) := Fr.nil n0
      have M43 := Fr.app M18 N43
      refine Gl.to st43 ?_
      show Gl p.tables e below _ (T43.setTop (mkF m 33 #[.val (.ref b), .val .null, .val (.ref v1), .val (.int 3), .val (.int 1), .val (.ref uk2)] [(.int 0)]))
      refine Gl.st (fun _ kq => XS.ifYes X43.here hx rfl (pc0 := 33) (pc' := 39) rfl (hb hby d16_33) rfl ((if0 _ _).trans (teq ((by decide) : (0 : Int32) = (0 : Int32))).1) (by decide) (by decide) kq) ?_
      show Gl p.tables e below _ (T43.setTop (mkF m 39 #[.val (.ref b), .val .null, .val (.ref v1), .val (.int 3), .val (.int 1), .val (.ref uk2)] []))
      refine Gl.st (fun _ kq => XS.iinc X43.here hx rfl (hb hby d16_39) rfl (l' := #[.val (.ref b), .val .null, .val (.ref v1), .val (.int 3), .val (.int 2), .val (.ref uk2)]) rfl kq) ?_
      refine Gl.st (fun _ kq => XS.goto X43.here hx rfl (pc0 := 42) (pc' := 12) rfl (hb hby d16_42) (by decide) (by decide) kq) ?_
      refine Gl.st (fun _ kq => XS.iload X43.here hx rfl (hb hby d16_12) rfl kq) ?_
      refine Gl.st (fun _ kq => XS.iloadN X43.here hx rfl (hb hby d16_14) rfl kq) ?_
      show Gl p.tables e below _ (T43.setTop (mkF m 15 #[.val (.ref b), .val .null, .val (.ref v1), .val (.int 3), .val (.int 2), .val (.ref uk2)] [(.int 3), (.int 2)]))
      refine Gl.st (fun _ kq => XS.icmpNo X43.here hx rfl (hb hby d16_15) rfl (tlt ((by decide) : (2 : Int32) < (3 : Int32))).2.1 kq) ?_
      show Gl p.tables e below _ (T43.setTop (mkF m 18 #[.val (.ref b), .val .null, .val (.ref v1), .val (.int 3), .val (.int 2), .val (.ref uk2)] []))
      refine Gl.st (fun _ kq => XS.aloadN X43.here hx rfl (hb hby d16_18) rfl rfl kq) ?_
      refine Gl.st (fun _ kq => XS.iload X43.here hx rfl (hb hby d16_19) rfl kq) ?_
      show Gl p.tables e below _ (T43.setTop (mkF m 21 #[.val (.ref b), .val .null, .val (.ref v1), .val (.int 3), .val (.int 2), .val (.ref uk2)] [(.int 2), (.ref v1)]))
      obtain ⟨c53, a53, q53, S53, M53, H53, G53⟩ := id q2_0
      refine Gl.st (fun _ kq => X43.aaload hx (j := (2 : Int32)) (v := (.ref uk3)) (by rw [e43]; exact a53.1) (State.isArrayOf_alike hZ.alike a53.2.1) rfl a53.2.2 (inb_of S53 ⟨by decide, by decide⟩) (Has.at H53 (inb_of S53 ⟨by decide, by decide⟩) rfl) (g := (mkF m 21 #[.val (.ref b), .val .null, .val (.ref v1), .val (.int 3), .val (.int 2), .val (.ref uk2)] [(.int 2), (.ref v1)])) rfl rfl (hb hby d16_21) _ kq) ?_
      show Gl p.tables e below _ (T43.setTop (mkF m 22 #[.val (.ref b), .val .null, .val (.ref v1), .val (.int 3), .val (.int 2), .val (.ref uk2)] [(.ref uk3)]))
      refine Gl.st (fun _ kq => XS.astore X43.here hx rfl (hb hby d16_22) rfl rfl (l' := #[.val (.ref b), .val .null, .val (.ref v1), .val (.int 3), .val (.int 2), .val (.ref uk3)]) rfl kq) ?_
      refine Gl.st (fun _ kq => XS.aload X43.here hx rfl (hb hby d16_24) rfl rfl kq) ?_
      show Gl p.tables e below _ (T43.setTop (mkF m 26 #[.val (.ref b), .val .null, .val (.ref v1), .val (.int 3), .val (.int 2), .val (.ref uk3)] [(.ref uk3)]))
      have f54 : Fld Z T2.heap uk3 "com/example/groupwright/groupwright/app/Registration$Kind" "word" "Ljava/lang/String;" (.ref uw3) := (pf16.keep K2 nin0)
      obtain ⟨T55, X55, e55, st55⟩ := getF X43 hx hZ hown (host := "") (Or.inl (tw hw 95 rfl)) Via.refl e43 f54 (g := (mkF m 26 #[.val (.ref b), .val .null, .val (.ref v1), .val (.int 3), .val (.int 2), .val (.ref uk3)] [(.ref uk3)])) rfl rfl (hb hby d16_26)
      refine Gl.st st55 ?_
      show Gl p.tables e below _ (T55.setTop (mkF m 29 #[.val (.ref b), .val .null, .val (.ref v1), .val (.int 3), .val (.int 2), .val (.ref uk3)] [(.ref uw3)]))
      refine Gl.st (fun _ kq => XS.aloadN X55.here hx rfl (hb hby d16_29) rfl rfl kq) ?_
      show Gl p.tables e below _ (T55.setTop (mkF m 30 #[.val (.ref b), .val .null, .val (.ref v1), .val (.int 3), .val (.int 2), .val (.ref uk3)] [(.ref b), (.ref uw3)]))
      have f56 : Exa Z T2.heap uw3 "java/lang/String" := (pf17.keep K2)
      have f57 : Fld Z T2.heap uw3 "java/lang/String" "value" "[B" (.ref ut3) := (pf19.keep K2 nin0)
      have f58 : Fld Z T2.heap uw3 "java/lang/String" "coder" "B" (.int 0) := (pf18.keep K2 nin0)
      have f59 : Arv Z T2.heap ut3 uj3 .byte (Int32.ofNat ([100, 97, 116, 97, 115, 101, 116] : List Int32).length) ((([100, 97, 116, 97, 115, 101, 116] : List Int32).map (fun c => c.toInt8.toInt32)).map Value.int) (.int 0) := (pf20.keep K2 nin0)
      obtain ⟨cq60, kq60, q60a, q60b, q60c⟩ := isOf hZ e55 f56
      obtain ⟨_, _, ⟨T60, L60, k60, n60⟩, -, X60, ⟨Lc60, hQ60, l60, y60, z60⟩, st60⟩ := X55.virtualBack hx (y := (⟨"java/lang/String", "equals", "(Ljava/lang/Object;)Z"⟩ : MethodName)) (z := (⟨"java/lang/String", "equals", "(Ljava/lang/Object;)Z"⟩ : MethodName)) hown (mvT hZ (tw hw 97 rfl)) (mvT hZ (tw hw 98 rfl)) (notFace_of_selects (args := #[]) (mvT hZ (tw hw 100 rfl))) (mvT hZ (tw hw 100 rfl)) (mvT hZ (tw hw 99 rfl)) (by decide) (StrChars.Road.eqW (W := 0) hZ (wdEq hw) (kI := 4) (tw hw 2 rfl) f56 f57 f58 f59 (StrChars.Road.codOf (cs := ([100, 97, 116, 97, 115, 101, 116] : List Int32)) rfl (fun x hx => ((by decide : ∀ c ∈ ([100, 97, 116, 97, 115, 101, 116] : List Int32), ¬ c < 0 ∧ ¬ (255 : Int32) < c) x hx).2)) (up255 _ (by decide : ∀ c ∈ ([100, 97, 116, 97, 115, 101, 116] : List Int32), ¬ c < 0 ∧ ¬ (255 : Int32) < c)) (Nat.le_of_ble_eq_true rfl) f13 f14 f15 f16 (StrChars.Road.codOf (cs := cs) rfl (fun x hx => (hr x hx).2)) (up255 _ hr) (Nat.le_trans hl (by decide)) (O2.ext f17.2) P5 (by decide) (by decide)) q60a q60c (g := (mkF m 30 #[.val (.ref b), .val .null, .val (.ref v1), .val (.int 3), .val (.int 2), .val (.ref uk3)] [(.ref b), (.ref uw3)])) rfl (by rw [hml]; rfl) (Steps.refl _) (argsL := [(.ref b)]) (rest := []) (lenOf pd__Ljava_lang_Object__Z rfl) rfl (by show 2 * 0 + _ ≤ _; exact Nat.le_of_eq rfl) (hb hby d16_30) (fun _ _ => ⟨rfl, e55, (by decide : 1 + 0 ≤ _), (by decide : 3 + 0 ≤ _)⟩)
      dsimp only [Pt.U, Pt.locs, Pt.cells, Pt.slots] at X60 l60 y60 z60 st60 hQ60
      subst l60 y60 z60
      obtain ⟨⟨rfl, y60_0⟩ | ⟨rfl, y60_0⟩, rfl, e60⟩ := hQ60
      · have N60 : Fr n0 ([] : List Loc) := Fr.nil n0
        have M60 := Fr.app M43 N60
        refine Gl.to st60 ?_
        show Gl p.tables e below _ (T60.setTop (mkF m 33 #[.val (.ref b), .val .null, .val (.ref v1), .val (.int 3), .val (.int 2), .val (.ref uk3)] [(.int 1)]))
        refine Gl.st (fun _ kq => XS.ifNo X60.here hx rfl (hb hby d16_33) rfl ((if0 _ _).trans (feq ((by decide) : ¬ ((1 : Int32) = (0 : Int32)))).1) kq) ?_
        show Gl p.tables e below _ (T60.setTop (mkF m 36 #[.val (.ref b), .val .null, .val (.ref v1), .val (.int 3), .val (.int 2), .val (.ref uk3)] []))
        refine Gl.st (fun _ kq => XS.aload X60.here hx rfl (hb hby d16_36) rfl rfl kq) ?_
        refine Gl.st (fun _ kq => XS.astoreN X60.here hx rfl (hb hby d16_38) rfl rfl (l' := #[.val (.ref b), .val (.ref uk3), .val (.ref v1), .val (.int 3), .val (.int 2), .val (.ref uk3)]) rfl kq) ?_
        refine Gl.st (fun _ kq => XS.iinc X60.here hx rfl (hb hby d16_39) rfl (l' := #[.val (.ref b), .val (.ref uk3), .val (.ref v1), .val (.int 3), .val (.int 3), .val (.ref uk3)]) rfl kq) ?_
        refine Gl.st (fun _ kq => XS.goto X60.here hx rfl (pc0 := 42) (pc' := 12) rfl (hb hby d16_42) (by decide) (by decide) kq) ?_
        refine Gl.st (fun _ kq => XS.iload X60.here hx rfl (hb hby d16_12) rfl kq) ?_
        refine Gl.st (fun _ kq => XS.iloadN X60.here hx rfl (hb hby d16_14) rfl kq) ?_
        show Gl p.tables e below _ (T60.setTop (mkF m 15 #[.val (.ref b), .val (.ref uk3), .val (.ref v1), .val (.int 3), .val (.int 3), .val (.ref uk3)] [(.int 3), (.int 3)]))
        refine Gl.st (fun _ kq => XS.icmpYes X60.here hx rfl (pc0 := 15) (pc' := 45) rfl (hb hby d16_15) rfl (flt ((by decide) : ¬ ((3 : Int32) < (3 : Int32)))).2.1 (by decide) (by decide) kq) ?_
        show Gl p.tables e below _ (T60.setTop (mkF m 45 #[.val (.ref b), .val (.ref uk3), .val (.ref v1), .val (.int 3), .val (.int 3), .val (.ref uk3)] []))
        refine Gl.st (fun _ kq => XS.aloadN X60.here hx rfl (hb hby d16_45) rfl rfl kq) ?_
        have K61 : Keep h0 T2.heap [] := ((Keep.refl h0 []).trans K2 all0)
        exact Gl.retA X60 hx Bd.returns rfl rfl (hb hby d16_46) hlk (by decide) (by decide) (by rw [e60]; exact (Or.inr (Or.inr (Or.inl ⟨rfl, M60, K61, y60_0⟩))))
      · have N60 : Fr n0 ([] : List Loc) := Fr.nil n0
        have M60 := Fr.app M43 N60
        refine Gl.to st60 ?_
        show Gl p.tables e below _ (T60.setTop (mkF m 33 #[.val (.ref b), .val .null, .val (.ref v1), .val (.int 3), .val (.int 2), .val (.ref uk3)] [(.int 0)]))
        refine Gl.st (fun _ kq => XS.ifYes X60.here hx rfl (pc0 := 33) (pc' := 39) rfl (hb hby d16_33) rfl ((if0 _ _).trans (teq ((by decide) : (0 : Int32) = (0 : Int32))).1) (by decide) (by decide) kq) ?_
        show Gl p.tables e below _ (T60.setTop (mkF m 39 #[.val (.ref b), .val .null, .val (.ref v1), .val (.int 3), .val (.int 2), .val (.ref uk3)] []))
        refine Gl.st (fun _ kq => XS.iinc X60.here hx rfl (hb hby d16_39) rfl (l' := #[.val (.ref b), .val .null, .val (.ref v1), .val (.int 3), .val (.int 3), .val (.ref uk3)]) rfl kq) ?_
        refine Gl.st (fun _ kq => XS.goto X60.here hx rfl (pc0 := 42) (pc' := 12) rfl (hb hby d16_42) (by decide) (by decide) kq) ?_
        refine Gl.st (fun _ kq => XS.iload X60.here hx rfl (hb hby d16_12) rfl kq) ?_
        refine Gl.st (fun _ kq => XS.iloadN X60.here hx rfl (hb hby d16_14) rfl kq) ?_
        show Gl p.tables e below _ (T60.setTop (mkF m 15 #[.val (.ref b), .val .null, .val (.ref v1), .val (.int 3), .val (.int 3), .val (.ref uk3)] [(.int 3), (.int 3)]))
        refine Gl.st (fun _ kq => XS.icmpYes X60.here hx rfl (pc0 := 15) (pc' := 45) rfl (hb hby d16_15) rfl (flt ((by decide) : ¬ ((3 : Int32) < (3 : Int32)))).2.1 (by decide) (by decide) kq) ?_
        show Gl p.tables e below _ (T60.setTop (mkF m 45 #[.val (.ref b), .val .null, .val (.ref v1), .val (.int 3), .val (.int 3), .val (.ref uk3)] []))
        refine Gl.st (fun _ kq => XS.aloadN X60.here hx rfl (hb hby d16_45) rfl rfl kq) ?_
        have K62 : Keep h0 T2.heap [] := ((Keep.refl h0 []).trans K2 all0)
        exact Gl.retA X60 hx Bd.returns rfl rfl (hb hby d16_46) hlk (by decide) (by decide) (by rw [e60]; exact (Or.inr (Or.inr (Or.inr (⟨rfl, M60, K62, y18_0, y43_0, y60_0⟩)))))
theorem ef_law (m : MethodId) (sel : Int32) (pos : Int32) (ch : Int32) (aq : Int64) (bq : Int64) : entryFrame m #[(.int sel), (.int pos), (.int ch), (.long aq), (.long bq)] maxLocals = mkF m 0 #[.val (.int sel), .val (.int pos), .val (.int ch), .val (.long aq), .second, .val (.long bq), .second, .unset, .unset, .unset, .unset, .unset, .unset, .unset, .unset] [] := by first | (simp [entryFrame, mkF, argsToLocals, Value.category, maxLocals]; done) | rfl
def Q_law (Z : State) (sel : Int32) (pos : Int32) (ch : Int32) (aq : Int64) (bq : Int64) (Y1 : Int32) (Y3 : Value) (va : Addr) (kva : ClassId) (uk1 : Addr) (uk2 : Addr) (uk3 : Addr) (uw1 : Addr) (ut1 : Addr) (uj1 : ClassId) (uw2 : Addr) (ut2 : Addr) (uj2 : ClassId) (uw3 : Addr) (ut3 : Addr) (uj3 : ClassId) (h0 : Heap) (n0 : Nat) (v : Option Value) (h : Heap) (L : List Loc) : Prop := (v = some (.int 1) ∧ Fr n0 L)
set_option maxRecDepth 65536 in
set_option maxHeartbeats 40000000 in
theorem rm_law (l : Launch) (Z : State) (a0 : Array Value) (hw : ∀ d ∈ tables_1, d.before a0 Z = true) (ws : List Jvm.Cond) (sel : Int32) (pos : Int32) (ch : Int32) (aq : Int64) (bq : Int64) (Y1 : Int32) (Y3 : Value) (va : Addr) (kva : ClassId) (uk1 : Addr) (uk2 : Addr) (uk3 : Addr) (uw1 : Addr) (ut1 : Addr) (uj1 : ClassId) (uw2 : Addr) (ut2 : Addr) (uj2 : ClassId) (uw3 : Addr) (ut3 : Addr) (uj3 : ClassId) (h0 : Heap) (n0 : Nat) (Z0 : n0 ≤ h0.size) (pf0 : Arv Z h0 va kva (.object "com/example/groupwright/groupwright/app/Registration$Kind") (3 : Int32) [(.ref uk1), (.ref uk2), (.ref uk3)] .null) (pf1 : Exa Z h0 va "[Lcom/example/groupwright/groupwright/app/Registration$Kind;") (pf2 : Fld Z h0 uk1 "com/example/groupwright/groupwright/app/Registration$Kind" "word" "Ljava/lang/String;" (.ref uw1)) (pf3 : Exa Z h0 uw1 "java/lang/String") (pf4 : Fld Z h0 uw1 "java/lang/String" "coder" "B" (.int 0)) (pf5 : Fld Z h0 uw1 "java/lang/String" "value" "[B" (.ref ut1)) (pf6 : Arv Z h0 ut1 uj1 .byte (Int32.ofNat ([99, 111, 108, 108, 101, 99, 116, 105, 111, 110] : List Int32).length) ((([99, 111, 108, 108, 101, 99, 116, 105, 111, 110] : List Int32).map (fun c => c.toInt8.toInt32)).map Value.int) (.int 0)) (pf7 : Fld Z h0 uk2 "com/example/groupwright/groupwright/app/Registration$Kind" "word" "Ljava/lang/String;" (.ref uw2)) (pf8 : Exa Z h0 uw2 "java/lang/String") (pf9 : Fld Z h0 uw2 "java/lang/String" "coder" "B" (.int 0)) (pf10 : Fld Z h0 uw2 "java/lang/String" "value" "[B" (.ref ut2)) (pf11 : Arv Z h0 ut2 uj2 .byte (Int32.ofNat ([111, 98, 106, 101, 99, 116] : List Int32).length) ((([111, 98, 106, 101, 99, 116] : List Int32).map (fun c => c.toInt8.toInt32)).map Value.int) (.int 0)) (pf12 : Fld Z h0 uk3 "com/example/groupwright/groupwright/app/Registration$Kind" "word" "Ljava/lang/String;" (.ref uw3)) (pf13 : Exa Z h0 uw3 "java/lang/String") (pf14 : Fld Z h0 uw3 "java/lang/String" "coder" "B" (.int 0)) (pf15 : Fld Z h0 uw3 "java/lang/String" "value" "[B" (.ref ut3)) (pf16 : Arv Z h0 ut3 uj3 .byte (Int32.ofNat ([100, 97, 116, 97, 115, 101, 116] : List Int32).length) ((([100, 97, 116, 97, 115, 101, 116] : List Int32).map (fun c => c.toInt8.toInt32)).map Value.int) (.int 0)) (pf17 : Old Z n0 h0) (OV : Sta Z Z.heap "com/example/groupwright/groupwright/app/Registration$Kind" "$VALUES" "[Lcom/example/groupwright/groupwright/app/Registration$Kind;" (.ref va)) (OK1 : Sta Z Z.heap "com/example/groupwright/groupwright/app/Registration$Kind" "COLLECTION" "Lcom/example/groupwright/groupwright/app/Registration$Kind;" (.ref uk1)) (OK2 : Sta Z Z.heap "com/example/groupwright/groupwright/app/Registration$Kind" "OBJECT" "Lcom/example/groupwright/groupwright/app/Registration$Kind;" (.ref uk2)) (OK3 : Sta Z Z.heap "com/example/groupwright/groupwright/app/Registration$Kind" "DATA_SET" "Lcom/example/groupwright/groupwright/app/Registration$Kind;" (.ref uk3)) (O2 : Sta Z Z.heap "java/lang/String" "COMPACT_STRINGS" "Z" (.int Y1)) (P5 : ¬ (Y1 = (0 : Int32))) (O4 : Sta Z Z.heap "jdk/internal/util/Preconditions" "SIOOBE_FORMATTER" "Ljava/util/function/BiFunction;" Y3) (rG3 : Y3.isRef = true) :
    MetFree l x (head1 (Jvm.Cond.code x code maxLocals ret :: ws) room_1) (fun aa U => aa = #[(.int sel), (.int pos), (.int ch), (.long aq), (.long bq)] ∧ Z.Warmed39 U.vm ∧ U.heap = h0 ∧ CHv Z consts_1 U.vm h0) (fun _ _ _ _ _ => True) (fun _ U o U' => ∃ v L, o = .returned v ∧ Q_law Z sel pos ch aq bq Y1 Y3 va kva uk1 uk2 uk3 uw1 ut1 uj1 uw2 ut2 uj2 uw3 ut3 uj3 h0 n0 v U'.heap L ∧ CHr Z consts_1 U.vm U.heap U'.vm U'.heap ∧ ReturnedEndW U o U' L room_1.cells room_1.slots) := by
  refine MetFree.of_bodySF (plainFor_of_name pn_com_example_groupwright_groupwright_app_KindNamedPinLaw) hisR ?_
  intro p e s m args below meth c s₁ Bd hml0 hP hK
  obtain ⟨rfl, hZ, hh, hH⟩ := hP
  have hx := Bd.exec
  have hby := Bd.bytes
  have hlk : meth.locks = false := BodyLoose.notSynchronized Bd
  have hml : c.maxLocals = 15 := hml0
  have hown : s.vm.findClass "com/example/groupwright/groupwright/app/KindNamedPinLaw" = some m.cls := findClass_of_methodNamed Bd.named
  have hnm := (name_of_methodNamed Bd.named Bd.method).1
  have X0 : Stand p l e room_1 (s.setVm s.vm) m #[(.int sel), (.int pos), (.int ch), (.long aq), (.long bq)] below meth c s₁ [] 0 0 := Stand.of_body Bd
  have e0 : s₁.heap = h0 := by rw [← hh, Bd.state]; rfl
  have N0 := Fr.nil n0
  show Gl p.tables e below (EndH s Z consts_1 (Q_law Z sel pos ch aq bq Y1 Y3 va kva uk1 uk2 uk3 uw1 ut1 uj1 uw2 ut2 uj2 uw3 ut3 uj3 h0 n0) room_1.cells room_1.slots) _
  refine Gl.cast (ef_law m sel pos ch aq bq) ?_
  show Gl p.tables e below _ (s₁.setTop (mkF m 0 #[.val (.int sel), .val (.int pos), .val (.int ch), .val (.long aq), .second, .val (.long bq), .second, .unset, .unset, .unset, .unset, .unset, .unset, .unset, .unset] []))
  have hS0 : s.Since s.vm s₁.heap.size := (State.WarmedH.refl s).since _
  have C0 : CHr Z consts_1 s.vm h0 s.vm h0 := CHr.refl hH
  refine Gl.st (fun _ kq => XS.iloadN X0.here hx rfl (hb hby at_0) rfl kq) ?_
  refine Gl.st (fun _ kq => XS.iconst X0.here hx rfl (hb hby at_1) kq) ?_
  refine Gl.st (fun _ kq => XS.iand X0.here hx rfl (hb hby at_2) rfl kq) ?_
  refine Gl.st (fun _ kq => XS.istore X0.here hx rfl (hb hby at_3) rfl (l' := #[.val (.int sel), .val (.int pos), .val (.int ch), .val (.long aq), .second, .val (.long bq), .second, .val (.int (sel &&& (3 : Int32))), .unset, .unset, .unset, .unset, .unset, .unset, .unset]) rfl kq) ?_
  show Gl p.tables e below _ (s₁.setTop (mkF m 5 #[.val (.int sel), .val (.int pos), .val (.int ch), .val (.long aq), .second, .val (.long bq), .second, .val (.int (sel &&& (3 : Int32))), .unset, .unset, .unset, .unset, .unset, .unset, .unset] []))
  have Js : ∀ (Ts : State) (hs : Heap) (Ls : List Loc) (vms : Vm) (ks : Nat) (hSs : s.Since vms ks) (hZs : Z.Warmed39 vms) (hos : vms.findClass "com/example/groupwright/groupwright/app/KindNamedPinLaw" = some m.cls) (hks : ks ≤ hs.size) (Cs : CHr Z consts_1 s.vm h0 vms hs) (Xs : Stand p l e room_1 (s.setVm vms) m #[(.int sel), (.int pos), (.int ch), (.long aq), (.long bq)] below meth c Ts Ls 2 44) (es : Ts.heap = hs) (Ns : Fr n0 Ls) (zs : n0 ≤ hs.size) (sb : Addr) (sx : Addr) (sk : ClassId) (cs : List Int32) (fs_0 : Arv Z hs va kva (.object "com/example/groupwright/groupwright/app/Registration$Kind") (3 : Int32) [(.ref uk1), (.ref uk2), (.ref uk3)] .null) (fs_1 : Exa Z hs va "[Lcom/example/groupwright/groupwright/app/Registration$Kind;") (fs_2 : Fld Z hs uk1 "com/example/groupwright/groupwright/app/Registration$Kind" "word" "Ljava/lang/String;" (.ref uw1)) (fs_3 : Exa Z hs uw1 "java/lang/String") (fs_4 : Fld Z hs uw1 "java/lang/String" "coder" "B" (.int 0)) (fs_5 : Fld Z hs uw1 "java/lang/String" "value" "[B" (.ref ut1)) (fs_6 : Arv Z hs ut1 uj1 .byte (Int32.ofNat ([99, 111, 108, 108, 101, 99, 116, 105, 111, 110] : List Int32).length) ((([99, 111, 108, 108, 101, 99, 116, 105, 111, 110] : List Int32).map (fun c => c.toInt8.toInt32)).map Value.int) (.int 0)) (fs_7 : Fld Z hs uk2 "com/example/groupwright/groupwright/app/Registration$Kind" "word" "Ljava/lang/String;" (.ref uw2)) (fs_8 : Exa Z hs uw2 "java/lang/String") (fs_9 : Fld Z hs uw2 "java/lang/String" "coder" "B" (.int 0)) (fs_10 : Fld Z hs uw2 "java/lang/String" "value" "[B" (.ref ut2)) (fs_11 : Arv Z hs ut2 uj2 .byte (Int32.ofNat ([111, 98, 106, 101, 99, 116] : List Int32).length) ((([111, 98, 106, 101, 99, 116] : List Int32).map (fun c => c.toInt8.toInt32)).map Value.int) (.int 0)) (fs_12 : Fld Z hs uk3 "com/example/groupwright/groupwright/app/Registration$Kind" "word" "Ljava/lang/String;" (.ref uw3)) (fs_13 : Exa Z hs uw3 "java/lang/String") (fs_14 : Fld Z hs uw3 "java/lang/String" "coder" "B" (.int 0)) (fs_15 : Fld Z hs uw3 "java/lang/String" "value" "[B" (.ref ut3)) (fs_16 : Arv Z hs ut3 uj3 .byte (Int32.ofNat ([100, 97, 116, 97, 115, 101, 116] : List Int32).length) ((([100, 97, 116, 97, 115, 101, 116] : List Int32).map (fun c => c.toInt8.toInt32)).map Value.int) (.int 0)) (fs_17 : Old Z n0 hs) (fs_18 : Exa Z hs sb "java/lang/String") (fs_19 : Fld Z hs sb "java/lang/String" "coder" "B" (.int 0)) (fs_20 : Fld Z hs sb "java/lang/String" "value" "[B" (.ref sx)) (fs_21 : Arv Z hs sx sk .byte (Int32.ofNat cs.length) ((cs.map (fun c => c.toInt8.toInt32)).map Value.int) (.int 0)) (ys_0 : Rng cs) (ys_1 : cs.length ≤ 12), Gl p.tables e below (EndH s Z consts_1 (Q_law Z sel pos ch aq bq Y1 Y3 va kva uk1 uk2 uk3 uw1 ut1 uj1 uw2 ut2 uj2 uw3 ut3 uj3 h0 n0) room_1.cells room_1.slots) (Ts.setTop (mkF m 41 #[.val (.int sel), .val (.int pos), .val (.int ch), .val (.long aq), .second, .val (.long bq), .second, .val (.int (sel &&& (3 : Int32))), .val (.ref sb), .unset, .unset, .unset, .unset, .unset, .unset] [])) := by
    intro Ts hs Ls vms ks hSs hZs hos hks Cs Xs es Ns zs sb sx sk cs fs_0 fs_1 fs_2 fs_3 fs_4 fs_5 fs_6 fs_7 fs_8 fs_9 fs_10 fs_11 fs_12 fs_13 fs_14 fs_15 fs_16 fs_17 fs_18 fs_19 fs_20 fs_21 ys_0 ys_1
    show Gl p.tables e below _ (Ts.setTop (mkF m 41 #[.val (.int sel), .val (.int pos), .val (.int ch), .val (.long aq), .second, .val (.long bq), .second, .val (.int (sel &&& (3 : Int32))), .val (.ref sb), .unset, .unset, .unset, .unset, .unset, .unset] []))
    refine Gl.st (fun _ kq => XS.bipush Xs.here hx rfl (hb hby at_41) kq) ?_
    show Gl p.tables e below _ (Ts.setTop (mkF m 43 #[.val (.int sel), .val (.int pos), .val (.int ch), .val (.long aq), .second, .val (.long bq), .second, .val (.int (sel &&& (3 : Int32))), .val (.ref sb), .unset, .unset, .unset, .unset, .unset, .unset] [(.int 12)]))
    obtain ⟨T1, h1, k1, X1, e1, E1, A1, st1⟩ := newP Xs hx hZs (tw hw 8 rfl) es (g := (mkF m 43 #[.val (.int sel), .val (.int pos), .val (.int ch), .val (.long aq), .second, .val (.long bq), .second, .val (.int (sel &&& (3 : Int32))), .val (.ref sb), .unset, .unset, .unset, .unset, .unset, .unset] [(.int 12)])) rfl (hb hby at_43) rfl (by decide) (cap := 12) (by decide) (by decide) (by decide) (by decide)
    obtain ⟨b1, g1⟩ : ∃ z, z = hs.size := ⟨_, rfl⟩
    rw [← g1] at A1 st1
    refine Gl.st st1 ?_
    have g2 : n0 ≤ b1 := Nat.le_trans zs (Nat.le_of_eq g1.symm)
    have C3 : CHr Z consts_1 s.vm h0 vms h1 := Cs.trans (CHr.ext E1 Cs.1)
    have V1 : Arv Z h1 b1 k1 .char (12 : Int32) [(.int 0), (.int 0), (.int 0), (.int 0), (.int 0), (.int 0), (.int 0), (.int 0), (.int 0), (.int 0), (.int 0), (.int 0)] (.int 0) := (Arv.new A1 (by decide)).pad (pad_rep [] (.int 0) 12)
    show Gl p.tables e below _ (T1.setTop (mkF m 45 #[.val (.int sel), .val (.int pos), .val (.int ch), .val (.long aq), .second, .val (.long bq), .second, .val (.int (sel &&& (3 : Int32))), .val (.ref sb), .unset, .unset, .unset, .unset, .unset, .unset] [(.ref b1)]))
    refine Gl.st (fun _ kq => XS.astore X1.here hx rfl (hb hby at_45) rfl rfl (l' := #[.val (.int sel), .val (.int pos), .val (.int ch), .val (.long aq), .second, .val (.long bq), .second, .val (.int (sel &&& (3 : Int32))), .val (.ref sb), .val (.ref b1), .unset, .unset, .unset, .unset, .unset]) rfl kq) ?_
    refine Gl.st (fun _ kq => XS.aload X1.here hx rfl (hb hby at_47) rfl rfl kq) ?_
    refine Gl.st (fun _ kq => XS.iconst X1.here hx rfl (hb hby at_49) kq) ?_
    refine Gl.st (fun _ kq => XS.aload X1.here hx rfl (hb hby at_50) rfl rfl kq) ?_
    refine Gl.st (fun _ kq => XS.iconst X1.here hx rfl (hb hby at_52) kq) ?_
    refine Gl.st (fun _ kq => XS.lloadN X1.here hx rfl (hb hby at_53) rfl kq) ?_
    refine Gl.st (fun _ kq => XS.lload X1.here hx rfl (hb hby at_54) rfl kq) ?_
    show Gl p.tables e below _ (T1.setTop (mkF m 56 #[.val (.int sel), .val (.int pos), .val (.int ch), .val (.long aq), .second, .val (.long bq), .second, .val (.int (sel &&& (3 : Int32))), .val (.ref sb), .val (.ref b1), .unset, .unset, .unset, .unset, .unset] [(.long bq), (.long aq), (.int 0), (.ref sb), (.int 0), (.ref b1)]))
    have f4 : Exa Z h1 sb "java/lang/String" := (fs_18.ext E1)
    have f5 : Fld Z h1 sb "java/lang/String" "coder" "B" (.int 0) := (fs_19.ext E1)
    have f6 : Fld Z h1 sb "java/lang/String" "value" "[B" (.ref sx) := (fs_20.ext E1)
    have f7 : Arv Z h1 sx sk .byte (Int32.ofNat cs.length) ((cs.map (fun c => c.toInt8.toInt32)).map Value.int) (.int 0) := (fs_21.ext E1)
    have f8 : Old Z n0 h1 := (fs_17.ext E1)
    obtain ⟨_, _, ⟨T10, L10, k10, n10⟩, -, X10, ⟨Lc10, hQ10, l10, y10, z10⟩, st10⟩ := Jvm.LawKit.callS X1 hx (y := (⟨"com/example/groupwright/groupwright/app/KindNamedPinLaw", "at", "(Ljava/lang/String;IJJ)C"⟩ : MethodName)) hos (mvT hZs (tw hw 9 rfl)) (mvT hZs (tw hw 10 rfl)) (mvT hZs (tw hw 11 rfl)) (mvT hZs (tw hw 12 rfl)) (by decide) (backOf (W := 2) (rm_at l Z a0 hw [] (sb) (sx) (sk) (cs) (0) (aq) (bq) (Y1) (Y3) h1 n0 (Nat.le_trans zs E1.1) f4 f5 f6 f7 f8 ys_0 ys_1 (by decide) O2 P5 O4 rG3) hZs (tw hw 12 rfl) (tw hw 11 rfl) (by decide) (by decide)) (g := (mkF m 56 #[.val (.int sel), .val (.int pos), .val (.int ch), .val (.long aq), .second, .val (.long bq), .second, .val (.int (sel &&& (3 : Int32))), .val (.ref sb), .val (.ref b1), .unset, .unset, .unset, .unset, .unset] [(.long bq), (.long aq), (.int 0), (.ref sb), (.int 0), (.ref b1)])) rfl (by rw [hml]; rfl) (argsL := [(.ref sb), (.int 0), (.long aq), (.long bq)]) (rest := [(.int 0), (.ref b1)]) (lenOf pd__Ljava_lang_String_IJJ_C rfl) rfl (by show 2 * 0 + _ ≤ _; exact Nat.le_of_eq rfl) (hb hby at_56) (fun _ _ => ⟨rfl, e1, (by decide : 3 + 0 ≤ _), (by decide : 56 + 0 ≤ _)⟩)
    dsimp only [Pt.U, Pt.locs, Pt.cells, Pt.slots] at X10 l10 y10 z10 st10 hQ10
    subst l10 y10 z10
    obtain ⟨v9, rfl, N10, e10, y10_0⟩ := hQ10
    have M10 := Fr.app Ns N10
    refine Gl.st st10 ?_
    show Gl p.tables e below _ (T10.setTop (mkF m 59 #[.val (.int sel), .val (.int pos), .val (.int ch), .val (.long aq), .second, .val (.long bq), .second, .val (.int (sel &&& (3 : Int32))), .val (.ref sb), .val (.ref b1), .unset, .unset, .unset, .unset, .unset] [(.int v9), (.int 0), (.ref b1)]))
    show Gl p.tables e below _ (T10.setTop (mkF m 59 #[.val (.int sel), .val (.int pos), .val (.int ch), .val (.long aq), .second, .val (.long bq), .second, .val (.int (sel &&& (3 : Int32))), .val (.ref sb), .val (.ref b1), .unset, .unset, .unset, .unset, .unset] [(.int v9), (.int 0), (.ref b1)]))
    obtain ⟨c11, a11, q11, S11, M11, H11, G11⟩ := id V1
    obtain ⟨T11, h11, X11, e11, W11, st11⟩ := stC X10 hx hZs e10 a11 (j := (0 : Int32)) (inb_of S11 ⟨by decide, by decide⟩) (g := (mkF m 59 #[.val (.int sel), .val (.int pos), .val (.int ch), .val (.long aq), .second, .val (.long bq), .second, .val (.int (sel &&& (3 : Int32))), .val (.ref sb), .val (.ref b1), .unset, .unset, .unset, .unset, .unset] [(.int v9), (.int 0), (.ref b1)])) rfl rfl (hb hby at_59)
    refine Gl.st st11 ?_
    have C12 : CHr Z consts_1 s.vm h0 vms h11 := C3.trans (CHr.wr W11 (Safe.arv hZs.alike V1 (by decide)) C3.1)
    have V11 : Arv Z h11 b1 k1 .char (12 : Int32) [(.int v9), (.int 0), (.int 0), (.int 0), (.int 0), (.int 0), (.int 0), (.int 0), (.int 0), (.int 0), (.int 0), (.int 0)] (.int 0) := by
      have q := Arv.set a11 q11 S11 M11 H11 G11 (fits_nar_char _) W11 0 rfl (Nat.le_of_ble_eq_true rfl)
      rw [nar_id y10_0.1 y10_0.2] at q
      exact q
    have N11 := Fr.snoc X11 M10 g2
    show Gl p.tables e below _ (T11.setTop (mkF m 60 #[.val (.int sel), .val (.int pos), .val (.int ch), .val (.long aq), .second, .val (.long bq), .second, .val (.int (sel &&& (3 : Int32))), .val (.ref sb), .val (.ref b1), .unset, .unset, .unset, .unset, .unset] []))
    refine Gl.st (fun _ kq => XS.aload X11.here hx rfl (hb hby at_60) rfl rfl kq) ?_
    refine Gl.st (fun _ kq => XS.iconst X11.here hx rfl (hb hby at_62) kq) ?_
    refine Gl.st (fun _ kq => XS.aload X11.here hx rfl (hb hby at_63) rfl rfl kq) ?_
    refine Gl.st (fun _ kq => XS.iconst X11.here hx rfl (hb hby at_65) kq) ?_
    refine Gl.st (fun _ kq => XS.lloadN X11.here hx rfl (hb hby at_66) rfl kq) ?_
    refine Gl.st (fun _ kq => XS.lload X11.here hx rfl (hb hby at_67) rfl kq) ?_
    show Gl p.tables e below _ (T11.setTop (mkF m 69 #[.val (.int sel), .val (.int pos), .val (.int ch), .val (.long aq), .second, .val (.long bq), .second, .val (.int (sel &&& (3 : Int32))), .val (.ref sb), .val (.ref b1), .unset, .unset, .unset, .unset, .unset] [(.long bq), (.long aq), (.int 1), (.ref sb), (.int 1), (.ref b1)]))
    have f13 : Exa Z h11 sb "java/lang/String" := (f4.wr W11)
    have ne14 : sb ≠ b1 := Nat.ne_of_lt (Nat.lt_of_lt_of_le fs_18.lt (Nat.le_of_eq g1.symm))
    have f15 : Fld Z h11 sb "java/lang/String" "coder" "B" (.int 0) := (f5.other W11 (Or.inl ne14))
    have f16 : Fld Z h11 sb "java/lang/String" "value" "[B" (.ref sx) := (f6.other W11 (Or.inl ne14))
    have ne17 : sx ≠ b1 := Nat.ne_of_lt (Nat.lt_of_lt_of_le fs_21.lt (Nat.le_of_eq g1.symm))
    have f18 : Arv Z h11 sx sk .byte (Int32.ofNat cs.length) ((cs.map (fun c => c.toInt8.toInt32)).map Value.int) (.int 0) := (f7.other W11 ne17)
    have f19 : Old Z n0 h11 := (f8.wr W11 g2)
    obtain ⟨_, _, ⟨T21, L21, k21, n21⟩, -, X21, ⟨Lc21, hQ21, l21, y21, z21⟩, st21⟩ := Jvm.LawKit.callS X11 hx (y := (⟨"com/example/groupwright/groupwright/app/KindNamedPinLaw", "at", "(Ljava/lang/String;IJJ)C"⟩ : MethodName)) hos (mvT hZs (tw hw 9 rfl)) (mvT hZs (tw hw 10 rfl)) (mvT hZs (tw hw 11 rfl)) (mvT hZs (tw hw 12 rfl)) (by decide) (backOf (W := 2) (rm_at l Z a0 hw [] (sb) (sx) (sk) (cs) (1) (aq) (bq) (Y1) (Y3) h11 n0 (Nat.le_trans (Nat.le_trans zs E1.1) (Keep.of_wr W11).1) f13 f15 f16 f18 f19 ys_0 ys_1 (by decide) O2 P5 O4 rG3) hZs (tw hw 12 rfl) (tw hw 11 rfl) (by decide) (by decide)) (g := (mkF m 69 #[.val (.int sel), .val (.int pos), .val (.int ch), .val (.long aq), .second, .val (.long bq), .second, .val (.int (sel &&& (3 : Int32))), .val (.ref sb), .val (.ref b1), .unset, .unset, .unset, .unset, .unset] [(.long bq), (.long aq), (.int 1), (.ref sb), (.int 1), (.ref b1)])) rfl (by rw [hml]; rfl) (argsL := [(.ref sb), (.int 1), (.long aq), (.long bq)]) (rest := [(.int 1), (.ref b1)]) (lenOf pd__Ljava_lang_String_IJJ_C rfl) rfl (by show 2 * 0 + _ ≤ _; exact Nat.le_of_eq rfl) (hb hby at_69) (fun _ _ => ⟨rfl, e11, (by decide : 3 + 0 ≤ _), (by decide : 56 + 0 ≤ _)⟩)
    dsimp only [Pt.U, Pt.locs, Pt.cells, Pt.slots] at X21 l21 y21 z21 st21 hQ21
    subst l21 y21 z21
    obtain ⟨v20, rfl, N21, e21, y21_0⟩ := hQ21
    have M21 := Fr.app N11 N21
    refine Gl.st st21 ?_
    show Gl p.tables e below _ (T21.setTop (mkF m 72 #[.val (.int sel), .val (.int pos), .val (.int ch), .val (.long aq), .second, .val (.long bq), .second, .val (.int (sel &&& (3 : Int32))), .val (.ref sb), .val (.ref b1), .unset, .unset, .unset, .unset, .unset] [(.int v20), (.int 1), (.ref b1)]))
    show Gl p.tables e below _ (T21.setTop (mkF m 72 #[.val (.int sel), .val (.int pos), .val (.int ch), .val (.long aq), .second, .val (.long bq), .second, .val (.int (sel &&& (3 : Int32))), .val (.ref sb), .val (.ref b1), .unset, .unset, .unset, .unset, .unset] [(.int v20), (.int 1), (.ref b1)]))
    obtain ⟨c22, a22, q22, S22, M22, H22, G22⟩ := id V11
    obtain ⟨T22, h22, X22, e22, W22, st22⟩ := stC X21 hx hZs e21 a22 (j := (1 : Int32)) (inb_of S22 ⟨by decide, by decide⟩) (g := (mkF m 72 #[.val (.int sel), .val (.int pos), .val (.int ch), .val (.long aq), .second, .val (.long bq), .second, .val (.int (sel &&& (3 : Int32))), .val (.ref sb), .val (.ref b1), .unset, .unset, .unset, .unset, .unset] [(.int v20), (.int 1), (.ref b1)])) rfl rfl (hb hby at_72)
    refine Gl.st st22 ?_
    have C23 : CHr Z consts_1 s.vm h0 vms h22 := C12.trans (CHr.wr W22 (Safe.arv hZs.alike V11 (by decide)) C12.1)
    have V22 : Arv Z h22 b1 k1 .char (12 : Int32) [(.int v9), (.int v20), (.int 0), (.int 0), (.int 0), (.int 0), (.int 0), (.int 0), (.int 0), (.int 0), (.int 0), (.int 0)] (.int 0) := by
      have q := Arv.set a22 q22 S22 M22 H22 G22 (fits_nar_char _) W22 1 rfl (Nat.le_of_ble_eq_true rfl)
      rw [nar_id y21_0.1 y21_0.2] at q
      exact q
    have N22 := Fr.snoc X22 M21 g2
    show Gl p.tables e below _ (T22.setTop (mkF m 73 #[.val (.int sel), .val (.int pos), .val (.int ch), .val (.long aq), .second, .val (.long bq), .second, .val (.int (sel &&& (3 : Int32))), .val (.ref sb), .val (.ref b1), .unset, .unset, .unset, .unset, .unset] []))
    refine Gl.st (fun _ kq => XS.aload X22.here hx rfl (hb hby at_73) rfl rfl kq) ?_
    refine Gl.st (fun _ kq => XS.iconst X22.here hx rfl (hb hby at_75) kq) ?_
    refine Gl.st (fun _ kq => XS.aload X22.here hx rfl (hb hby at_76) rfl rfl kq) ?_
    refine Gl.st (fun _ kq => XS.iconst X22.here hx rfl (hb hby at_78) kq) ?_
    refine Gl.st (fun _ kq => XS.lloadN X22.here hx rfl (hb hby at_79) rfl kq) ?_
    refine Gl.st (fun _ kq => XS.lload X22.here hx rfl (hb hby at_80) rfl kq) ?_
    show Gl p.tables e below _ (T22.setTop (mkF m 82 #[.val (.int sel), .val (.int pos), .val (.int ch), .val (.long aq), .second, .val (.long bq), .second, .val (.int (sel &&& (3 : Int32))), .val (.ref sb), .val (.ref b1), .unset, .unset, .unset, .unset, .unset] [(.long bq), (.long aq), (.int 2), (.ref sb), (.int 2), (.ref b1)]))
    have f24 : Exa Z h22 sb "java/lang/String" := (f13.wr W22)
    have f25 : Fld Z h22 sb "java/lang/String" "coder" "B" (.int 0) := (f15.other W22 (Or.inl ne14))
    have f26 : Fld Z h22 sb "java/lang/String" "value" "[B" (.ref sx) := (f16.other W22 (Or.inl ne14))
    have f27 : Arv Z h22 sx sk .byte (Int32.ofNat cs.length) ((cs.map (fun c => c.toInt8.toInt32)).map Value.int) (.int 0) := (f18.other W22 ne17)
    have f28 : Old Z n0 h22 := (f19.wr W22 g2)
    obtain ⟨_, _, ⟨T30, L30, k30, n30⟩, -, X30, ⟨Lc30, hQ30, l30, y30, z30⟩, st30⟩ := Jvm.LawKit.callS X22 hx (y := (⟨"com/example/groupwright/groupwright/app/KindNamedPinLaw", "at", "(Ljava/lang/String;IJJ)C"⟩ : MethodName)) hos (mvT hZs (tw hw 9 rfl)) (mvT hZs (tw hw 10 rfl)) (mvT hZs (tw hw 11 rfl)) (mvT hZs (tw hw 12 rfl)) (by decide) (backOf (W := 2) (rm_at l Z a0 hw [] (sb) (sx) (sk) (cs) (2) (aq) (bq) (Y1) (Y3) h22 n0 (Nat.le_trans (Nat.le_trans (Nat.le_trans zs E1.1) (Keep.of_wr W11).1) (Keep.of_wr W22).1) f24 f25 f26 f27 f28 ys_0 ys_1 (by decide) O2 P5 O4 rG3) hZs (tw hw 12 rfl) (tw hw 11 rfl) (by decide) (by decide)) (g := (mkF m 82 #[.val (.int sel), .val (.int pos), .val (.int ch), .val (.long aq), .second, .val (.long bq), .second, .val (.int (sel &&& (3 : Int32))), .val (.ref sb), .val (.ref b1), .unset, .unset, .unset, .unset, .unset] [(.long bq), (.long aq), (.int 2), (.ref sb), (.int 2), (.ref b1)])) rfl (by rw [hml]; rfl) (argsL := [(.ref sb), (.int 2), (.long aq), (.long bq)]) (rest := [(.int 2), (.ref b1)]) (lenOf pd__Ljava_lang_String_IJJ_C rfl) rfl (by show 2 * 0 + _ ≤ _; exact Nat.le_of_eq rfl) (hb hby at_82) (fun _ _ => ⟨rfl, e22, (by decide : 3 + 0 ≤ _), (by decide : 56 + 0 ≤ _)⟩)
    dsimp only [Pt.U, Pt.locs, Pt.cells, Pt.slots] at X30 l30 y30 z30 st30 hQ30
    subst l30 y30 z30
    obtain ⟨v29, rfl, N30, e30, y30_0⟩ := hQ30
    have M30 := Fr.app N22 N30
    refine Gl.st st30 ?_
    show Gl p.tables e below _ (T30.setTop (mkF m 85 #[.val (.int sel), .val (.int pos), .val (.int ch), .val (.long aq), .second, .val (.long bq), .second, .val (.int (sel &&& (3 : Int32))), .val (.ref sb), .val (.ref b1), .unset, .unset, .unset, .unset, .unset] [(.int v29), (.int 2), (.ref b1)]))
    show Gl p.tables e below _ (T30.setTop (mkF m 85 #[.val (.int sel), .val (.int pos), .val (.int ch), .val (.long aq), .second, .val (.long bq), .second, .val (.int (sel &&& (3 : Int32))), .val (.ref sb), .val (.ref b1), .unset, .unset, .unset, .unset, .unset] [(.int v29), (.int 2), (.ref b1)]))
    obtain ⟨c31, a31, q31, S31, M31, H31, G31⟩ := id V22
    obtain ⟨T31, h31, X31, e31, W31, st31⟩ := stC X30 hx hZs e30 a31 (j := (2 : Int32)) (inb_of S31 ⟨by decide, by decide⟩) (g := (mkF m 85 #[.val (.int sel), .val (.int pos), .val (.int ch), .val (.long aq), .second, .val (.long bq), .second, .val (.int (sel &&& (3 : Int32))), .val (.ref sb), .val (.ref b1), .unset, .unset, .unset, .unset, .unset] [(.int v29), (.int 2), (.ref b1)])) rfl rfl (hb hby at_85)
    refine Gl.st st31 ?_
    have C32 : CHr Z consts_1 s.vm h0 vms h31 := C23.trans (CHr.wr W31 (Safe.arv hZs.alike V22 (by decide)) C23.1)
    have V31 : Arv Z h31 b1 k1 .char (12 : Int32) [(.int v9), (.int v20), (.int v29), (.int 0), (.int 0), (.int 0), (.int 0), (.int 0), (.int 0), (.int 0), (.int 0), (.int 0)] (.int 0) := by
      have q := Arv.set a31 q31 S31 M31 H31 G31 (fits_nar_char _) W31 2 rfl (Nat.le_of_ble_eq_true rfl)
      rw [nar_id y30_0.1 y30_0.2] at q
      exact q
    have N31 := Fr.snoc X31 M30 g2
    show Gl p.tables e below _ (T31.setTop (mkF m 86 #[.val (.int sel), .val (.int pos), .val (.int ch), .val (.long aq), .second, .val (.long bq), .second, .val (.int (sel &&& (3 : Int32))), .val (.ref sb), .val (.ref b1), .unset, .unset, .unset, .unset, .unset] []))
    refine Gl.st (fun _ kq => XS.aload X31.here hx rfl (hb hby at_86) rfl rfl kq) ?_
    refine Gl.st (fun _ kq => XS.iconst X31.here hx rfl (hb hby at_88) kq) ?_
    refine Gl.st (fun _ kq => XS.aload X31.here hx rfl (hb hby at_89) rfl rfl kq) ?_
    refine Gl.st (fun _ kq => XS.iconst X31.here hx rfl (hb hby at_91) kq) ?_
    refine Gl.st (fun _ kq => XS.lloadN X31.here hx rfl (hb hby at_92) rfl kq) ?_
    refine Gl.st (fun _ kq => XS.lload X31.here hx rfl (hb hby at_93) rfl kq) ?_
    show Gl p.tables e below _ (T31.setTop (mkF m 95 #[.val (.int sel), .val (.int pos), .val (.int ch), .val (.long aq), .second, .val (.long bq), .second, .val (.int (sel &&& (3 : Int32))), .val (.ref sb), .val (.ref b1), .unset, .unset, .unset, .unset, .unset] [(.long bq), (.long aq), (.int 3), (.ref sb), (.int 3), (.ref b1)]))
    have f33 : Exa Z h31 sb "java/lang/String" := (f24.wr W31)
    have f34 : Fld Z h31 sb "java/lang/String" "coder" "B" (.int 0) := (f25.other W31 (Or.inl ne14))
    have f35 : Fld Z h31 sb "java/lang/String" "value" "[B" (.ref sx) := (f26.other W31 (Or.inl ne14))
    have f36 : Arv Z h31 sx sk .byte (Int32.ofNat cs.length) ((cs.map (fun c => c.toInt8.toInt32)).map Value.int) (.int 0) := (f27.other W31 ne17)
    have f37 : Old Z n0 h31 := (f28.wr W31 g2)
    obtain ⟨_, _, ⟨T39, L39, k39, n39⟩, -, X39, ⟨Lc39, hQ39, l39, y39, z39⟩, st39⟩ := Jvm.LawKit.callS X31 hx (y := (⟨"com/example/groupwright/groupwright/app/KindNamedPinLaw", "at", "(Ljava/lang/String;IJJ)C"⟩ : MethodName)) hos (mvT hZs (tw hw 9 rfl)) (mvT hZs (tw hw 10 rfl)) (mvT hZs (tw hw 11 rfl)) (mvT hZs (tw hw 12 rfl)) (by decide) (backOf (W := 2) (rm_at l Z a0 hw [] (sb) (sx) (sk) (cs) (3) (aq) (bq) (Y1) (Y3) h31 n0 (Nat.le_trans (Nat.le_trans (Nat.le_trans (Nat.le_trans zs E1.1) (Keep.of_wr W11).1) (Keep.of_wr W22).1) (Keep.of_wr W31).1) f33 f34 f35 f36 f37 ys_0 ys_1 (by decide) O2 P5 O4 rG3) hZs (tw hw 12 rfl) (tw hw 11 rfl) (by decide) (by decide)) (g := (mkF m 95 #[.val (.int sel), .val (.int pos), .val (.int ch), .val (.long aq), .second, .val (.long bq), .second, .val (.int (sel &&& (3 : Int32))), .val (.ref sb), .val (.ref b1), .unset, .unset, .unset, .unset, .unset] [(.long bq), (.long aq), (.int 3), (.ref sb), (.int 3), (.ref b1)])) rfl (by rw [hml]; rfl) (argsL := [(.ref sb), (.int 3), (.long aq), (.long bq)]) (rest := [(.int 3), (.ref b1)]) (lenOf pd__Ljava_lang_String_IJJ_C rfl) rfl (by show 2 * 0 + _ ≤ _; exact Nat.le_of_eq rfl) (hb hby at_95) (fun _ _ => ⟨rfl, e31, (by decide : 3 + 0 ≤ _), (by decide : 56 + 0 ≤ _)⟩)
    dsimp only [Pt.U, Pt.locs, Pt.cells, Pt.slots] at X39 l39 y39 z39 st39 hQ39
    subst l39 y39 z39
    obtain ⟨v38, rfl, N39, e39, y39_0⟩ := hQ39
    have M39 := Fr.app N31 N39
    refine Gl.st st39 ?_
    show Gl p.tables e below _ (T39.setTop (mkF m 98 #[.val (.int sel), .val (.int pos), .val (.int ch), .val (.long aq), .second, .val (.long bq), .second, .val (.int (sel &&& (3 : Int32))), .val (.ref sb), .val (.ref b1), .unset, .unset, .unset, .unset, .unset] [(.int v38), (.int 3), (.ref b1)]))
    show Gl p.tables e below _ (T39.setTop (mkF m 98 #[.val (.int sel), .val (.int pos), .val (.int ch), .val (.long aq), .second, .val (.long bq), .second, .val (.int (sel &&& (3 : Int32))), .val (.ref sb), .val (.ref b1), .unset, .unset, .unset, .unset, .unset] [(.int v38), (.int 3), (.ref b1)]))
    obtain ⟨c40, a40, q40, S40, M40, H40, G40⟩ := id V31
    obtain ⟨T40, h40, X40, e40, W40, st40⟩ := stC X39 hx hZs e39 a40 (j := (3 : Int32)) (inb_of S40 ⟨by decide, by decide⟩) (g := (mkF m 98 #[.val (.int sel), .val (.int pos), .val (.int ch), .val (.long aq), .second, .val (.long bq), .second, .val (.int (sel &&& (3 : Int32))), .val (.ref sb), .val (.ref b1), .unset, .unset, .unset, .unset, .unset] [(.int v38), (.int 3), (.ref b1)])) rfl rfl (hb hby at_98)
    refine Gl.st st40 ?_
    have C41 : CHr Z consts_1 s.vm h0 vms h40 := C32.trans (CHr.wr W40 (Safe.arv hZs.alike V31 (by decide)) C32.1)
    have V40 : Arv Z h40 b1 k1 .char (12 : Int32) [(.int v9), (.int v20), (.int v29), (.int v38), (.int 0), (.int 0), (.int 0), (.int 0), (.int 0), (.int 0), (.int 0), (.int 0)] (.int 0) := by
      have q := Arv.set a40 q40 S40 M40 H40 G40 (fits_nar_char _) W40 3 rfl (Nat.le_of_ble_eq_true rfl)
      rw [nar_id y39_0.1 y39_0.2] at q
      exact q
    have N40 := Fr.snoc X40 M39 g2
    show Gl p.tables e below _ (T40.setTop (mkF m 99 #[.val (.int sel), .val (.int pos), .val (.int ch), .val (.long aq), .second, .val (.long bq), .second, .val (.int (sel &&& (3 : Int32))), .val (.ref sb), .val (.ref b1), .unset, .unset, .unset, .unset, .unset] []))
    refine Gl.st (fun _ kq => XS.aload X40.here hx rfl (hb hby at_99) rfl rfl kq) ?_
    refine Gl.st (fun _ kq => XS.iconst X40.here hx rfl (hb hby at_101) kq) ?_
    refine Gl.st (fun _ kq => XS.aload X40.here hx rfl (hb hby at_102) rfl rfl kq) ?_
    refine Gl.st (fun _ kq => XS.iconst X40.here hx rfl (hb hby at_104) kq) ?_
    refine Gl.st (fun _ kq => XS.lloadN X40.here hx rfl (hb hby at_105) rfl kq) ?_
    refine Gl.st (fun _ kq => XS.lload X40.here hx rfl (hb hby at_106) rfl kq) ?_
    show Gl p.tables e below _ (T40.setTop (mkF m 108 #[.val (.int sel), .val (.int pos), .val (.int ch), .val (.long aq), .second, .val (.long bq), .second, .val (.int (sel &&& (3 : Int32))), .val (.ref sb), .val (.ref b1), .unset, .unset, .unset, .unset, .unset] [(.long bq), (.long aq), (.int 4), (.ref sb), (.int 4), (.ref b1)]))
    have f42 : Exa Z h40 sb "java/lang/String" := (f33.wr W40)
    have f43 : Fld Z h40 sb "java/lang/String" "coder" "B" (.int 0) := (f34.other W40 (Or.inl ne14))
    have f44 : Fld Z h40 sb "java/lang/String" "value" "[B" (.ref sx) := (f35.other W40 (Or.inl ne14))
    have f45 : Arv Z h40 sx sk .byte (Int32.ofNat cs.length) ((cs.map (fun c => c.toInt8.toInt32)).map Value.int) (.int 0) := (f36.other W40 ne17)
    have f46 : Old Z n0 h40 := (f37.wr W40 g2)
    obtain ⟨_, _, ⟨T48, L48, k48, n48⟩, -, X48, ⟨Lc48, hQ48, l48, y48, z48⟩, st48⟩ := Jvm.LawKit.callS X40 hx (y := (⟨"com/example/groupwright/groupwright/app/KindNamedPinLaw", "at", "(Ljava/lang/String;IJJ)C"⟩ : MethodName)) hos (mvT hZs (tw hw 9 rfl)) (mvT hZs (tw hw 10 rfl)) (mvT hZs (tw hw 11 rfl)) (mvT hZs (tw hw 12 rfl)) (by decide) (backOf (W := 2) (rm_at l Z a0 hw [] (sb) (sx) (sk) (cs) (4) (aq) (bq) (Y1) (Y3) h40 n0 (Nat.le_trans (Nat.le_trans (Nat.le_trans (Nat.le_trans (Nat.le_trans zs E1.1) (Keep.of_wr W11).1) (Keep.of_wr W22).1) (Keep.of_wr W31).1) (Keep.of_wr W40).1) f42 f43 f44 f45 f46 ys_0 ys_1 (by decide) O2 P5 O4 rG3) hZs (tw hw 12 rfl) (tw hw 11 rfl) (by decide) (by decide)) (g := (mkF m 108 #[.val (.int sel), .val (.int pos), .val (.int ch), .val (.long aq), .second, .val (.long bq), .second, .val (.int (sel &&& (3 : Int32))), .val (.ref sb), .val (.ref b1), .unset, .unset, .unset, .unset, .unset] [(.long bq), (.long aq), (.int 4), (.ref sb), (.int 4), (.ref b1)])) rfl (by rw [hml]; rfl) (argsL := [(.ref sb), (.int 4), (.long aq), (.long bq)]) (rest := [(.int 4), (.ref b1)]) (lenOf pd__Ljava_lang_String_IJJ_C rfl) rfl (by show 2 * 0 + _ ≤ _; exact Nat.le_of_eq rfl) (hb hby at_108) (fun _ _ => ⟨rfl, e40, (by decide : 3 + 0 ≤ _), (by decide : 56 + 0 ≤ _)⟩)
    dsimp only [Pt.U, Pt.locs, Pt.cells, Pt.slots] at X48 l48 y48 z48 st48 hQ48
    subst l48 y48 z48
    obtain ⟨v47, rfl, N48, e48, y48_0⟩ := hQ48
    have M48 := Fr.app N40 N48
    refine Gl.st st48 ?_
    show Gl p.tables e below _ (T48.setTop (mkF m 111 #[.val (.int sel), .val (.int pos), .val (.int ch), .val (.long aq), .second, .val (.long bq), .second, .val (.int (sel &&& (3 : Int32))), .val (.ref sb), .val (.ref b1), .unset, .unset, .unset, .unset, .unset] [(.int v47), (.int 4), (.ref b1)]))
    show Gl p.tables e below _ (T48.setTop (mkF m 111 #[.val (.int sel), .val (.int pos), .val (.int ch), .val (.long aq), .second, .val (.long bq), .second, .val (.int (sel &&& (3 : Int32))), .val (.ref sb), .val (.ref b1), .unset, .unset, .unset, .unset, .unset] [(.int v47), (.int 4), (.ref b1)]))
    obtain ⟨c49, a49, q49, S49, M49, H49, G49⟩ := id V40
    obtain ⟨T49, h49, X49, e49, W49, st49⟩ := stC X48 hx hZs e48 a49 (j := (4 : Int32)) (inb_of S49 ⟨by decide, by decide⟩) (g := (mkF m 111 #[.val (.int sel), .val (.int pos), .val (.int ch), .val (.long aq), .second, .val (.long bq), .second, .val (.int (sel &&& (3 : Int32))), .val (.ref sb), .val (.ref b1), .unset, .unset, .unset, .unset, .unset] [(.int v47), (.int 4), (.ref b1)])) rfl rfl (hb hby at_111)
    refine Gl.st st49 ?_
    have C50 : CHr Z consts_1 s.vm h0 vms h49 := C41.trans (CHr.wr W49 (Safe.arv hZs.alike V40 (by decide)) C41.1)
    have V49 : Arv Z h49 b1 k1 .char (12 : Int32) [(.int v9), (.int v20), (.int v29), (.int v38), (.int v47), (.int 0), (.int 0), (.int 0), (.int 0), (.int 0), (.int 0), (.int 0)] (.int 0) := by
      have q := Arv.set a49 q49 S49 M49 H49 G49 (fits_nar_char _) W49 4 rfl (Nat.le_of_ble_eq_true rfl)
      rw [nar_id y48_0.1 y48_0.2] at q
      exact q
    have N49 := Fr.snoc X49 M48 g2
    show Gl p.tables e below _ (T49.setTop (mkF m 112 #[.val (.int sel), .val (.int pos), .val (.int ch), .val (.long aq), .second, .val (.long bq), .second, .val (.int (sel &&& (3 : Int32))), .val (.ref sb), .val (.ref b1), .unset, .unset, .unset, .unset, .unset] []))
    refine Gl.st (fun _ kq => XS.aload X49.here hx rfl (hb hby at_112) rfl rfl kq) ?_
    refine Gl.st (fun _ kq => XS.iconst X49.here hx rfl (hb hby at_114) kq) ?_
    refine Gl.st (fun _ kq => XS.aload X49.here hx rfl (hb hby at_115) rfl rfl kq) ?_
    refine Gl.st (fun _ kq => XS.iconst X49.here hx rfl (hb hby at_117) kq) ?_
    refine Gl.st (fun _ kq => XS.lloadN X49.here hx rfl (hb hby at_118) rfl kq) ?_
    refine Gl.st (fun _ kq => XS.lload X49.here hx rfl (hb hby at_119) rfl kq) ?_
    show Gl p.tables e below _ (T49.setTop (mkF m 121 #[.val (.int sel), .val (.int pos), .val (.int ch), .val (.long aq), .second, .val (.long bq), .second, .val (.int (sel &&& (3 : Int32))), .val (.ref sb), .val (.ref b1), .unset, .unset, .unset, .unset, .unset] [(.long bq), (.long aq), (.int 5), (.ref sb), (.int 5), (.ref b1)]))
    have f51 : Exa Z h49 sb "java/lang/String" := (f42.wr W49)
    have f52 : Fld Z h49 sb "java/lang/String" "coder" "B" (.int 0) := (f43.other W49 (Or.inl ne14))
    have f53 : Fld Z h49 sb "java/lang/String" "value" "[B" (.ref sx) := (f44.other W49 (Or.inl ne14))
    have f54 : Arv Z h49 sx sk .byte (Int32.ofNat cs.length) ((cs.map (fun c => c.toInt8.toInt32)).map Value.int) (.int 0) := (f45.other W49 ne17)
    have f55 : Old Z n0 h49 := (f46.wr W49 g2)
    obtain ⟨_, _, ⟨T57, L57, k57, n57⟩, -, X57, ⟨Lc57, hQ57, l57, y57, z57⟩, st57⟩ := Jvm.LawKit.callS X49 hx (y := (⟨"com/example/groupwright/groupwright/app/KindNamedPinLaw", "at", "(Ljava/lang/String;IJJ)C"⟩ : MethodName)) hos (mvT hZs (tw hw 9 rfl)) (mvT hZs (tw hw 10 rfl)) (mvT hZs (tw hw 11 rfl)) (mvT hZs (tw hw 12 rfl)) (by decide) (backOf (W := 2) (rm_at l Z a0 hw [] (sb) (sx) (sk) (cs) (5) (aq) (bq) (Y1) (Y3) h49 n0 (Nat.le_trans (Nat.le_trans (Nat.le_trans (Nat.le_trans (Nat.le_trans (Nat.le_trans zs E1.1) (Keep.of_wr W11).1) (Keep.of_wr W22).1) (Keep.of_wr W31).1) (Keep.of_wr W40).1) (Keep.of_wr W49).1) f51 f52 f53 f54 f55 ys_0 ys_1 (by decide) O2 P5 O4 rG3) hZs (tw hw 12 rfl) (tw hw 11 rfl) (by decide) (by decide)) (g := (mkF m 121 #[.val (.int sel), .val (.int pos), .val (.int ch), .val (.long aq), .second, .val (.long bq), .second, .val (.int (sel &&& (3 : Int32))), .val (.ref sb), .val (.ref b1), .unset, .unset, .unset, .unset, .unset] [(.long bq), (.long aq), (.int 5), (.ref sb), (.int 5), (.ref b1)])) rfl (by rw [hml]; rfl) (argsL := [(.ref sb), (.int 5), (.long aq), (.long bq)]) (rest := [(.int 5), (.ref b1)]) (lenOf pd__Ljava_lang_String_IJJ_C rfl) rfl (by show 2 * 0 + _ ≤ _; exact Nat.le_of_eq rfl) (hb hby at_121) (fun _ _ => ⟨rfl, e49, (by decide : 3 + 0 ≤ _), (by decide : 56 + 0 ≤ _)⟩)
    dsimp only [Pt.U, Pt.locs, Pt.cells, Pt.slots] at X57 l57 y57 z57 st57 hQ57
    subst l57 y57 z57
    obtain ⟨v56, rfl, N57, e57, y57_0⟩ := hQ57
    have M57 := Fr.app N49 N57
    refine Gl.st st57 ?_
    show Gl p.tables e below _ (T57.setTop (mkF m 124 #[.val (.int sel), .val (.int pos), .val (.int ch), .val (.long aq), .second, .val (.long bq), .second, .val (.int (sel &&& (3 : Int32))), .val (.ref sb), .val (.ref b1), .unset, .unset, .unset, .unset, .unset] [(.int v56), (.int 5), (.ref b1)]))
    show Gl p.tables e below _ (T57.setTop (mkF m 124 #[.val (.int sel), .val (.int pos), .val (.int ch), .val (.long aq), .second, .val (.long bq), .second, .val (.int (sel &&& (3 : Int32))), .val (.ref sb), .val (.ref b1), .unset, .unset, .unset, .unset, .unset] [(.int v56), (.int 5), (.ref b1)]))
    obtain ⟨c58, a58, q58, S58, M58, H58, G58⟩ := id V49
    obtain ⟨T58, h58, X58, e58, W58, st58⟩ := stC X57 hx hZs e57 a58 (j := (5 : Int32)) (inb_of S58 ⟨by decide, by decide⟩) (g := (mkF m 124 #[.val (.int sel), .val (.int pos), .val (.int ch), .val (.long aq), .second, .val (.long bq), .second, .val (.int (sel &&& (3 : Int32))), .val (.ref sb), .val (.ref b1), .unset, .unset, .unset, .unset, .unset] [(.int v56), (.int 5), (.ref b1)])) rfl rfl (hb hby at_124)
    refine Gl.st st58 ?_
    have C59 : CHr Z consts_1 s.vm h0 vms h58 := C50.trans (CHr.wr W58 (Safe.arv hZs.alike V49 (by decide)) C50.1)
    have V58 : Arv Z h58 b1 k1 .char (12 : Int32) [(.int v9), (.int v20), (.int v29), (.int v38), (.int v47), (.int v56), (.int 0), (.int 0), (.int 0), (.int 0), (.int 0), (.int 0)] (.int 0) := by
      have q := Arv.set a58 q58 S58 M58 H58 G58 (fits_nar_char _) W58 5 rfl (Nat.le_of_ble_eq_true rfl)
      rw [nar_id y57_0.1 y57_0.2] at q
      exact q
    have N58 := Fr.snoc X58 M57 g2
    show Gl p.tables e below _ (T58.setTop (mkF m 125 #[.val (.int sel), .val (.int pos), .val (.int ch), .val (.long aq), .second, .val (.long bq), .second, .val (.int (sel &&& (3 : Int32))), .val (.ref sb), .val (.ref b1), .unset, .unset, .unset, .unset, .unset] []))
    refine Gl.st (fun _ kq => XS.aload X58.here hx rfl (hb hby at_125) rfl rfl kq) ?_
    refine Gl.st (fun _ kq => XS.bipush X58.here hx rfl (hb hby at_127) kq) ?_
    refine Gl.st (fun _ kq => XS.aload X58.here hx rfl (hb hby at_129) rfl rfl kq) ?_
    refine Gl.st (fun _ kq => XS.bipush X58.here hx rfl (hb hby at_131) kq) ?_
    refine Gl.st (fun _ kq => XS.lloadN X58.here hx rfl (hb hby at_133) rfl kq) ?_
    refine Gl.st (fun _ kq => XS.lload X58.here hx rfl (hb hby at_134) rfl kq) ?_
    show Gl p.tables e below _ (T58.setTop (mkF m 136 #[.val (.int sel), .val (.int pos), .val (.int ch), .val (.long aq), .second, .val (.long bq), .second, .val (.int (sel &&& (3 : Int32))), .val (.ref sb), .val (.ref b1), .unset, .unset, .unset, .unset, .unset] [(.long bq), (.long aq), (.int 6), (.ref sb), (.int 6), (.ref b1)]))
    have f60 : Exa Z h58 sb "java/lang/String" := (f51.wr W58)
    have f61 : Fld Z h58 sb "java/lang/String" "coder" "B" (.int 0) := (f52.other W58 (Or.inl ne14))
    have f62 : Fld Z h58 sb "java/lang/String" "value" "[B" (.ref sx) := (f53.other W58 (Or.inl ne14))
    have f63 : Arv Z h58 sx sk .byte (Int32.ofNat cs.length) ((cs.map (fun c => c.toInt8.toInt32)).map Value.int) (.int 0) := (f54.other W58 ne17)
    have f64 : Old Z n0 h58 := (f55.wr W58 g2)
    obtain ⟨_, _, ⟨T66, L66, k66, n66⟩, -, X66, ⟨Lc66, hQ66, l66, y66, z66⟩, st66⟩ := Jvm.LawKit.callS X58 hx (y := (⟨"com/example/groupwright/groupwright/app/KindNamedPinLaw", "at", "(Ljava/lang/String;IJJ)C"⟩ : MethodName)) hos (mvT hZs (tw hw 9 rfl)) (mvT hZs (tw hw 10 rfl)) (mvT hZs (tw hw 11 rfl)) (mvT hZs (tw hw 12 rfl)) (by decide) (backOf (W := 2) (rm_at l Z a0 hw [] (sb) (sx) (sk) (cs) (6) (aq) (bq) (Y1) (Y3) h58 n0 (Nat.le_trans (Nat.le_trans (Nat.le_trans (Nat.le_trans (Nat.le_trans (Nat.le_trans (Nat.le_trans zs E1.1) (Keep.of_wr W11).1) (Keep.of_wr W22).1) (Keep.of_wr W31).1) (Keep.of_wr W40).1) (Keep.of_wr W49).1) (Keep.of_wr W58).1) f60 f61 f62 f63 f64 ys_0 ys_1 (by decide) O2 P5 O4 rG3) hZs (tw hw 12 rfl) (tw hw 11 rfl) (by decide) (by decide)) (g := (mkF m 136 #[.val (.int sel), .val (.int pos), .val (.int ch), .val (.long aq), .second, .val (.long bq), .second, .val (.int (sel &&& (3 : Int32))), .val (.ref sb), .val (.ref b1), .unset, .unset, .unset, .unset, .unset] [(.long bq), (.long aq), (.int 6), (.ref sb), (.int 6), (.ref b1)])) rfl (by rw [hml]; rfl) (argsL := [(.ref sb), (.int 6), (.long aq), (.long bq)]) (rest := [(.int 6), (.ref b1)]) (lenOf pd__Ljava_lang_String_IJJ_C rfl) rfl (by show 2 * 0 + _ ≤ _; exact Nat.le_of_eq rfl) (hb hby at_136) (fun _ _ => ⟨rfl, e58, (by decide : 3 + 0 ≤ _), (by decide : 56 + 0 ≤ _)⟩)
    dsimp only [Pt.U, Pt.locs, Pt.cells, Pt.slots] at X66 l66 y66 z66 st66 hQ66
    subst l66 y66 z66
    obtain ⟨v65, rfl, N66, e66, y66_0⟩ := hQ66
    have M66 := Fr.app N58 N66
    refine Gl.st st66 ?_
    show Gl p.tables e below _ (T66.setTop (mkF m 139 #[.val (.int sel), .val (.int pos), .val (.int ch), .val (.long aq), .second, .val (.long bq), .second, .val (.int (sel &&& (3 : Int32))), .val (.ref sb), .val (.ref b1), .unset, .unset, .unset, .unset, .unset] [(.int v65), (.int 6), (.ref b1)]))
    show Gl p.tables e below _ (T66.setTop (mkF m 139 #[.val (.int sel), .val (.int pos), .val (.int ch), .val (.long aq), .second, .val (.long bq), .second, .val (.int (sel &&& (3 : Int32))), .val (.ref sb), .val (.ref b1), .unset, .unset, .unset, .unset, .unset] [(.int v65), (.int 6), (.ref b1)]))
    obtain ⟨c67, a67, q67, S67, M67, H67, G67⟩ := id V58
    obtain ⟨T67, h67, X67, e67, W67, st67⟩ := stC X66 hx hZs e66 a67 (j := (6 : Int32)) (inb_of S67 ⟨by decide, by decide⟩) (g := (mkF m 139 #[.val (.int sel), .val (.int pos), .val (.int ch), .val (.long aq), .second, .val (.long bq), .second, .val (.int (sel &&& (3 : Int32))), .val (.ref sb), .val (.ref b1), .unset, .unset, .unset, .unset, .unset] [(.int v65), (.int 6), (.ref b1)])) rfl rfl (hb hby at_139)
    refine Gl.st st67 ?_
    have C68 : CHr Z consts_1 s.vm h0 vms h67 := C59.trans (CHr.wr W67 (Safe.arv hZs.alike V58 (by decide)) C59.1)
    have V67 : Arv Z h67 b1 k1 .char (12 : Int32) [(.int v9), (.int v20), (.int v29), (.int v38), (.int v47), (.int v56), (.int v65), (.int 0), (.int 0), (.int 0), (.int 0), (.int 0)] (.int 0) := by
      have q := Arv.set a67 q67 S67 M67 H67 G67 (fits_nar_char _) W67 6 rfl (Nat.le_of_ble_eq_true rfl)
      rw [nar_id y66_0.1 y66_0.2] at q
      exact q
    have N67 := Fr.snoc X67 M66 g2
    show Gl p.tables e below _ (T67.setTop (mkF m 140 #[.val (.int sel), .val (.int pos), .val (.int ch), .val (.long aq), .second, .val (.long bq), .second, .val (.int (sel &&& (3 : Int32))), .val (.ref sb), .val (.ref b1), .unset, .unset, .unset, .unset, .unset] []))
    refine Gl.st (fun _ kq => XS.aload X67.here hx rfl (hb hby at_140) rfl rfl kq) ?_
    refine Gl.st (fun _ kq => XS.bipush X67.here hx rfl (hb hby at_142) kq) ?_
    refine Gl.st (fun _ kq => XS.aload X67.here hx rfl (hb hby at_144) rfl rfl kq) ?_
    refine Gl.st (fun _ kq => XS.bipush X67.here hx rfl (hb hby at_146) kq) ?_
    refine Gl.st (fun _ kq => XS.lloadN X67.here hx rfl (hb hby at_148) rfl kq) ?_
    refine Gl.st (fun _ kq => XS.lload X67.here hx rfl (hb hby at_149) rfl kq) ?_
    show Gl p.tables e below _ (T67.setTop (mkF m 151 #[.val (.int sel), .val (.int pos), .val (.int ch), .val (.long aq), .second, .val (.long bq), .second, .val (.int (sel &&& (3 : Int32))), .val (.ref sb), .val (.ref b1), .unset, .unset, .unset, .unset, .unset] [(.long bq), (.long aq), (.int 7), (.ref sb), (.int 7), (.ref b1)]))
    have f69 : Exa Z h67 sb "java/lang/String" := (f60.wr W67)
    have f70 : Fld Z h67 sb "java/lang/String" "coder" "B" (.int 0) := (f61.other W67 (Or.inl ne14))
    have f71 : Fld Z h67 sb "java/lang/String" "value" "[B" (.ref sx) := (f62.other W67 (Or.inl ne14))
    have f72 : Arv Z h67 sx sk .byte (Int32.ofNat cs.length) ((cs.map (fun c => c.toInt8.toInt32)).map Value.int) (.int 0) := (f63.other W67 ne17)
    have f73 : Old Z n0 h67 := (f64.wr W67 g2)
    obtain ⟨_, _, ⟨T75, L75, k75, n75⟩, -, X75, ⟨Lc75, hQ75, l75, y75, z75⟩, st75⟩ := Jvm.LawKit.callS X67 hx (y := (⟨"com/example/groupwright/groupwright/app/KindNamedPinLaw", "at", "(Ljava/lang/String;IJJ)C"⟩ : MethodName)) hos (mvT hZs (tw hw 9 rfl)) (mvT hZs (tw hw 10 rfl)) (mvT hZs (tw hw 11 rfl)) (mvT hZs (tw hw 12 rfl)) (by decide) (backOf (W := 2) (rm_at l Z a0 hw [] (sb) (sx) (sk) (cs) (7) (aq) (bq) (Y1) (Y3) h67 n0 (Nat.le_trans (Nat.le_trans (Nat.le_trans (Nat.le_trans (Nat.le_trans (Nat.le_trans (Nat.le_trans (Nat.le_trans zs E1.1) (Keep.of_wr W11).1) (Keep.of_wr W22).1) (Keep.of_wr W31).1) (Keep.of_wr W40).1) (Keep.of_wr W49).1) (Keep.of_wr W58).1) (Keep.of_wr W67).1) f69 f70 f71 f72 f73 ys_0 ys_1 (by decide) O2 P5 O4 rG3) hZs (tw hw 12 rfl) (tw hw 11 rfl) (by decide) (by decide)) (g := (mkF m 151 #[.val (.int sel), .val (.int pos), .val (.int ch), .val (.long aq), .second, .val (.long bq), .second, .val (.int (sel &&& (3 : Int32))), .val (.ref sb), .val (.ref b1), .unset, .unset, .unset, .unset, .unset] [(.long bq), (.long aq), (.int 7), (.ref sb), (.int 7), (.ref b1)])) rfl (by rw [hml]; rfl) (argsL := [(.ref sb), (.int 7), (.long aq), (.long bq)]) (rest := [(.int 7), (.ref b1)]) (lenOf pd__Ljava_lang_String_IJJ_C rfl) rfl (by show 2 * 0 + _ ≤ _; exact Nat.le_of_eq rfl) (hb hby at_151) (fun _ _ => ⟨rfl, e67, (by decide : 3 + 0 ≤ _), (by decide : 56 + 0 ≤ _)⟩)
    dsimp only [Pt.U, Pt.locs, Pt.cells, Pt.slots] at X75 l75 y75 z75 st75 hQ75
    subst l75 y75 z75
    obtain ⟨v74, rfl, N75, e75, y75_0⟩ := hQ75
    have M75 := Fr.app N67 N75
    refine Gl.st st75 ?_
    show Gl p.tables e below _ (T75.setTop (mkF m 154 #[.val (.int sel), .val (.int pos), .val (.int ch), .val (.long aq), .second, .val (.long bq), .second, .val (.int (sel &&& (3 : Int32))), .val (.ref sb), .val (.ref b1), .unset, .unset, .unset, .unset, .unset] [(.int v74), (.int 7), (.ref b1)]))
    show Gl p.tables e below _ (T75.setTop (mkF m 154 #[.val (.int sel), .val (.int pos), .val (.int ch), .val (.long aq), .second, .val (.long bq), .second, .val (.int (sel &&& (3 : Int32))), .val (.ref sb), .val (.ref b1), .unset, .unset, .unset, .unset, .unset] [(.int v74), (.int 7), (.ref b1)]))
    obtain ⟨c76, a76, q76, S76, M76, H76, G76⟩ := id V67
    obtain ⟨T76, h76, X76, e76, W76, st76⟩ := stC X75 hx hZs e75 a76 (j := (7 : Int32)) (inb_of S76 ⟨by decide, by decide⟩) (g := (mkF m 154 #[.val (.int sel), .val (.int pos), .val (.int ch), .val (.long aq), .second, .val (.long bq), .second, .val (.int (sel &&& (3 : Int32))), .val (.ref sb), .val (.ref b1), .unset, .unset, .unset, .unset, .unset] [(.int v74), (.int 7), (.ref b1)])) rfl rfl (hb hby at_154)
    refine Gl.st st76 ?_
    have C77 : CHr Z consts_1 s.vm h0 vms h76 := C68.trans (CHr.wr W76 (Safe.arv hZs.alike V67 (by decide)) C68.1)
    have V76 : Arv Z h76 b1 k1 .char (12 : Int32) [(.int v9), (.int v20), (.int v29), (.int v38), (.int v47), (.int v56), (.int v65), (.int v74), (.int 0), (.int 0), (.int 0), (.int 0)] (.int 0) := by
      have q := Arv.set a76 q76 S76 M76 H76 G76 (fits_nar_char _) W76 7 rfl (Nat.le_of_ble_eq_true rfl)
      rw [nar_id y75_0.1 y75_0.2] at q
      exact q
    have N76 := Fr.snoc X76 M75 g2
    show Gl p.tables e below _ (T76.setTop (mkF m 155 #[.val (.int sel), .val (.int pos), .val (.int ch), .val (.long aq), .second, .val (.long bq), .second, .val (.int (sel &&& (3 : Int32))), .val (.ref sb), .val (.ref b1), .unset, .unset, .unset, .unset, .unset] []))
    refine Gl.st (fun _ kq => XS.aload X76.here hx rfl (hb hby at_155) rfl rfl kq) ?_
    refine Gl.st (fun _ kq => XS.bipush X76.here hx rfl (hb hby at_157) kq) ?_
    refine Gl.st (fun _ kq => XS.aload X76.here hx rfl (hb hby at_159) rfl rfl kq) ?_
    refine Gl.st (fun _ kq => XS.bipush X76.here hx rfl (hb hby at_161) kq) ?_
    refine Gl.st (fun _ kq => XS.lloadN X76.here hx rfl (hb hby at_163) rfl kq) ?_
    refine Gl.st (fun _ kq => XS.lload X76.here hx rfl (hb hby at_164) rfl kq) ?_
    show Gl p.tables e below _ (T76.setTop (mkF m 166 #[.val (.int sel), .val (.int pos), .val (.int ch), .val (.long aq), .second, .val (.long bq), .second, .val (.int (sel &&& (3 : Int32))), .val (.ref sb), .val (.ref b1), .unset, .unset, .unset, .unset, .unset] [(.long bq), (.long aq), (.int 8), (.ref sb), (.int 8), (.ref b1)]))
    have f78 : Exa Z h76 sb "java/lang/String" := (f69.wr W76)
    have f79 : Fld Z h76 sb "java/lang/String" "coder" "B" (.int 0) := (f70.other W76 (Or.inl ne14))
    have f80 : Fld Z h76 sb "java/lang/String" "value" "[B" (.ref sx) := (f71.other W76 (Or.inl ne14))
    have f81 : Arv Z h76 sx sk .byte (Int32.ofNat cs.length) ((cs.map (fun c => c.toInt8.toInt32)).map Value.int) (.int 0) := (f72.other W76 ne17)
    have f82 : Old Z n0 h76 := (f73.wr W76 g2)
    obtain ⟨_, _, ⟨T84, L84, k84, n84⟩, -, X84, ⟨Lc84, hQ84, l84, y84, z84⟩, st84⟩ := Jvm.LawKit.callS X76 hx (y := (⟨"com/example/groupwright/groupwright/app/KindNamedPinLaw", "at", "(Ljava/lang/String;IJJ)C"⟩ : MethodName)) hos (mvT hZs (tw hw 9 rfl)) (mvT hZs (tw hw 10 rfl)) (mvT hZs (tw hw 11 rfl)) (mvT hZs (tw hw 12 rfl)) (by decide) (backOf (W := 2) (rm_at l Z a0 hw [] (sb) (sx) (sk) (cs) (8) (aq) (bq) (Y1) (Y3) h76 n0 (Nat.le_trans (Nat.le_trans (Nat.le_trans (Nat.le_trans (Nat.le_trans (Nat.le_trans (Nat.le_trans (Nat.le_trans (Nat.le_trans zs E1.1) (Keep.of_wr W11).1) (Keep.of_wr W22).1) (Keep.of_wr W31).1) (Keep.of_wr W40).1) (Keep.of_wr W49).1) (Keep.of_wr W58).1) (Keep.of_wr W67).1) (Keep.of_wr W76).1) f78 f79 f80 f81 f82 ys_0 ys_1 (by decide) O2 P5 O4 rG3) hZs (tw hw 12 rfl) (tw hw 11 rfl) (by decide) (by decide)) (g := (mkF m 166 #[.val (.int sel), .val (.int pos), .val (.int ch), .val (.long aq), .second, .val (.long bq), .second, .val (.int (sel &&& (3 : Int32))), .val (.ref sb), .val (.ref b1), .unset, .unset, .unset, .unset, .unset] [(.long bq), (.long aq), (.int 8), (.ref sb), (.int 8), (.ref b1)])) rfl (by rw [hml]; rfl) (argsL := [(.ref sb), (.int 8), (.long aq), (.long bq)]) (rest := [(.int 8), (.ref b1)]) (lenOf pd__Ljava_lang_String_IJJ_C rfl) rfl (by show 2 * 0 + _ ≤ _; exact Nat.le_of_eq rfl) (hb hby at_166) (fun _ _ => ⟨rfl, e76, (by decide : 3 + 0 ≤ _), (by decide : 56 + 0 ≤ _)⟩)
    dsimp only [Pt.U, Pt.locs, Pt.cells, Pt.slots] at X84 l84 y84 z84 st84 hQ84
    subst l84 y84 z84
    obtain ⟨v83, rfl, N84, e84, y84_0⟩ := hQ84
    have M84 := Fr.app N76 N84
    refine Gl.st st84 ?_
    show Gl p.tables e below _ (T84.setTop (mkF m 169 #[.val (.int sel), .val (.int pos), .val (.int ch), .val (.long aq), .second, .val (.long bq), .second, .val (.int (sel &&& (3 : Int32))), .val (.ref sb), .val (.ref b1), .unset, .unset, .unset, .unset, .unset] [(.int v83), (.int 8), (.ref b1)]))
    show Gl p.tables e below _ (T84.setTop (mkF m 169 #[.val (.int sel), .val (.int pos), .val (.int ch), .val (.long aq), .second, .val (.long bq), .second, .val (.int (sel &&& (3 : Int32))), .val (.ref sb), .val (.ref b1), .unset, .unset, .unset, .unset, .unset] [(.int v83), (.int 8), (.ref b1)]))
    obtain ⟨c85, a85, q85, S85, M85, H85, G85⟩ := id V76
    obtain ⟨T85, h85, X85, e85, W85, st85⟩ := stC X84 hx hZs e84 a85 (j := (8 : Int32)) (inb_of S85 ⟨by decide, by decide⟩) (g := (mkF m 169 #[.val (.int sel), .val (.int pos), .val (.int ch), .val (.long aq), .second, .val (.long bq), .second, .val (.int (sel &&& (3 : Int32))), .val (.ref sb), .val (.ref b1), .unset, .unset, .unset, .unset, .unset] [(.int v83), (.int 8), (.ref b1)])) rfl rfl (hb hby at_169)
    refine Gl.st st85 ?_
    have C86 : CHr Z consts_1 s.vm h0 vms h85 := C77.trans (CHr.wr W85 (Safe.arv hZs.alike V76 (by decide)) C77.1)
    have V85 : Arv Z h85 b1 k1 .char (12 : Int32) [(.int v9), (.int v20), (.int v29), (.int v38), (.int v47), (.int v56), (.int v65), (.int v74), (.int v83), (.int 0), (.int 0), (.int 0)] (.int 0) := by
      have q := Arv.set a85 q85 S85 M85 H85 G85 (fits_nar_char _) W85 8 rfl (Nat.le_of_ble_eq_true rfl)
      rw [nar_id y84_0.1 y84_0.2] at q
      exact q
    have N85 := Fr.snoc X85 M84 g2
    show Gl p.tables e below _ (T85.setTop (mkF m 170 #[.val (.int sel), .val (.int pos), .val (.int ch), .val (.long aq), .second, .val (.long bq), .second, .val (.int (sel &&& (3 : Int32))), .val (.ref sb), .val (.ref b1), .unset, .unset, .unset, .unset, .unset] []))
    refine Gl.st (fun _ kq => XS.aload X85.here hx rfl (hb hby at_170) rfl rfl kq) ?_
    refine Gl.st (fun _ kq => XS.bipush X85.here hx rfl (hb hby at_172) kq) ?_
    refine Gl.st (fun _ kq => XS.aload X85.here hx rfl (hb hby at_174) rfl rfl kq) ?_
    refine Gl.st (fun _ kq => XS.bipush X85.here hx rfl (hb hby at_176) kq) ?_
    refine Gl.st (fun _ kq => XS.lloadN X85.here hx rfl (hb hby at_178) rfl kq) ?_
    refine Gl.st (fun _ kq => XS.lload X85.here hx rfl (hb hby at_179) rfl kq) ?_
    show Gl p.tables e below _ (T85.setTop (mkF m 181 #[.val (.int sel), .val (.int pos), .val (.int ch), .val (.long aq), .second, .val (.long bq), .second, .val (.int (sel &&& (3 : Int32))), .val (.ref sb), .val (.ref b1), .unset, .unset, .unset, .unset, .unset] [(.long bq), (.long aq), (.int 9), (.ref sb), (.int 9), (.ref b1)]))
    have f87 : Exa Z h85 sb "java/lang/String" := (f78.wr W85)
    have f88 : Fld Z h85 sb "java/lang/String" "coder" "B" (.int 0) := (f79.other W85 (Or.inl ne14))
    have f89 : Fld Z h85 sb "java/lang/String" "value" "[B" (.ref sx) := (f80.other W85 (Or.inl ne14))
    have f90 : Arv Z h85 sx sk .byte (Int32.ofNat cs.length) ((cs.map (fun c => c.toInt8.toInt32)).map Value.int) (.int 0) := (f81.other W85 ne17)
    have f91 : Old Z n0 h85 := (f82.wr W85 g2)
    obtain ⟨_, _, ⟨T93, L93, k93, n93⟩, -, X93, ⟨Lc93, hQ93, l93, y93, z93⟩, st93⟩ := Jvm.LawKit.callS X85 hx (y := (⟨"com/example/groupwright/groupwright/app/KindNamedPinLaw", "at", "(Ljava/lang/String;IJJ)C"⟩ : MethodName)) hos (mvT hZs (tw hw 9 rfl)) (mvT hZs (tw hw 10 rfl)) (mvT hZs (tw hw 11 rfl)) (mvT hZs (tw hw 12 rfl)) (by decide) (backOf (W := 2) (rm_at l Z a0 hw [] (sb) (sx) (sk) (cs) (9) (aq) (bq) (Y1) (Y3) h85 n0 (Nat.le_trans (Nat.le_trans (Nat.le_trans (Nat.le_trans (Nat.le_trans (Nat.le_trans (Nat.le_trans (Nat.le_trans (Nat.le_trans (Nat.le_trans zs E1.1) (Keep.of_wr W11).1) (Keep.of_wr W22).1) (Keep.of_wr W31).1) (Keep.of_wr W40).1) (Keep.of_wr W49).1) (Keep.of_wr W58).1) (Keep.of_wr W67).1) (Keep.of_wr W76).1) (Keep.of_wr W85).1) f87 f88 f89 f90 f91 ys_0 ys_1 (by decide) O2 P5 O4 rG3) hZs (tw hw 12 rfl) (tw hw 11 rfl) (by decide) (by decide)) (g := (mkF m 181 #[.val (.int sel), .val (.int pos), .val (.int ch), .val (.long aq), .second, .val (.long bq), .second, .val (.int (sel &&& (3 : Int32))), .val (.ref sb), .val (.ref b1), .unset, .unset, .unset, .unset, .unset] [(.long bq), (.long aq), (.int 9), (.ref sb), (.int 9), (.ref b1)])) rfl (by rw [hml]; rfl) (argsL := [(.ref sb), (.int 9), (.long aq), (.long bq)]) (rest := [(.int 9), (.ref b1)]) (lenOf pd__Ljava_lang_String_IJJ_C rfl) rfl (by show 2 * 0 + _ ≤ _; exact Nat.le_of_eq rfl) (hb hby at_181) (fun _ _ => ⟨rfl, e85, (by decide : 3 + 0 ≤ _), (by decide : 56 + 0 ≤ _)⟩)
    dsimp only [Pt.U, Pt.locs, Pt.cells, Pt.slots] at X93 l93 y93 z93 st93 hQ93
    subst l93 y93 z93
    obtain ⟨v92, rfl, N93, e93, y93_0⟩ := hQ93
    have M93 := Fr.app N85 N93
    refine Gl.st st93 ?_
    show Gl p.tables e below _ (T93.setTop (mkF m 184 #[.val (.int sel), .val (.int pos), .val (.int ch), .val (.long aq), .second, .val (.long bq), .second, .val (.int (sel &&& (3 : Int32))), .val (.ref sb), .val (.ref b1), .unset, .unset, .unset, .unset, .unset] [(.int v92), (.int 9), (.ref b1)]))
    show Gl p.tables e below _ (T93.setTop (mkF m 184 #[.val (.int sel), .val (.int pos), .val (.int ch), .val (.long aq), .second, .val (.long bq), .second, .val (.int (sel &&& (3 : Int32))), .val (.ref sb), .val (.ref b1), .unset, .unset, .unset, .unset, .unset] [(.int v92), (.int 9), (.ref b1)]))
    obtain ⟨c94, a94, q94, S94, M94, H94, G94⟩ := id V85
    obtain ⟨T94, h94, X94, e94, W94, st94⟩ := stC X93 hx hZs e93 a94 (j := (9 : Int32)) (inb_of S94 ⟨by decide, by decide⟩) (g := (mkF m 184 #[.val (.int sel), .val (.int pos), .val (.int ch), .val (.long aq), .second, .val (.long bq), .second, .val (.int (sel &&& (3 : Int32))), .val (.ref sb), .val (.ref b1), .unset, .unset, .unset, .unset, .unset] [(.int v92), (.int 9), (.ref b1)])) rfl rfl (hb hby at_184)
    refine Gl.st st94 ?_
    have C95 : CHr Z consts_1 s.vm h0 vms h94 := C86.trans (CHr.wr W94 (Safe.arv hZs.alike V85 (by decide)) C86.1)
    have V94 : Arv Z h94 b1 k1 .char (12 : Int32) [(.int v9), (.int v20), (.int v29), (.int v38), (.int v47), (.int v56), (.int v65), (.int v74), (.int v83), (.int v92), (.int 0), (.int 0)] (.int 0) := by
      have q := Arv.set a94 q94 S94 M94 H94 G94 (fits_nar_char _) W94 9 rfl (Nat.le_of_ble_eq_true rfl)
      rw [nar_id y93_0.1 y93_0.2] at q
      exact q
    have N94 := Fr.snoc X94 M93 g2
    show Gl p.tables e below _ (T94.setTop (mkF m 185 #[.val (.int sel), .val (.int pos), .val (.int ch), .val (.long aq), .second, .val (.long bq), .second, .val (.int (sel &&& (3 : Int32))), .val (.ref sb), .val (.ref b1), .unset, .unset, .unset, .unset, .unset] []))
    refine Gl.st (fun _ kq => XS.aload X94.here hx rfl (hb hby at_185) rfl rfl kq) ?_
    refine Gl.st (fun _ kq => XS.bipush X94.here hx rfl (hb hby at_187) kq) ?_
    refine Gl.st (fun _ kq => XS.aload X94.here hx rfl (hb hby at_189) rfl rfl kq) ?_
    refine Gl.st (fun _ kq => XS.bipush X94.here hx rfl (hb hby at_191) kq) ?_
    refine Gl.st (fun _ kq => XS.lloadN X94.here hx rfl (hb hby at_193) rfl kq) ?_
    refine Gl.st (fun _ kq => XS.lload X94.here hx rfl (hb hby at_194) rfl kq) ?_
    show Gl p.tables e below _ (T94.setTop (mkF m 196 #[.val (.int sel), .val (.int pos), .val (.int ch), .val (.long aq), .second, .val (.long bq), .second, .val (.int (sel &&& (3 : Int32))), .val (.ref sb), .val (.ref b1), .unset, .unset, .unset, .unset, .unset] [(.long bq), (.long aq), (.int 10), (.ref sb), (.int 10), (.ref b1)]))
    have f96 : Exa Z h94 sb "java/lang/String" := (f87.wr W94)
    have f97 : Fld Z h94 sb "java/lang/String" "coder" "B" (.int 0) := (f88.other W94 (Or.inl ne14))
    have f98 : Fld Z h94 sb "java/lang/String" "value" "[B" (.ref sx) := (f89.other W94 (Or.inl ne14))
    have f99 : Arv Z h94 sx sk .byte (Int32.ofNat cs.length) ((cs.map (fun c => c.toInt8.toInt32)).map Value.int) (.int 0) := (f90.other W94 ne17)
    have f100 : Old Z n0 h94 := (f91.wr W94 g2)
    obtain ⟨_, _, ⟨T102, L102, k102, n102⟩, -, X102, ⟨Lc102, hQ102, l102, y102, z102⟩, st102⟩ := Jvm.LawKit.callS X94 hx (y := (⟨"com/example/groupwright/groupwright/app/KindNamedPinLaw", "at", "(Ljava/lang/String;IJJ)C"⟩ : MethodName)) hos (mvT hZs (tw hw 9 rfl)) (mvT hZs (tw hw 10 rfl)) (mvT hZs (tw hw 11 rfl)) (mvT hZs (tw hw 12 rfl)) (by decide) (backOf (W := 2) (rm_at l Z a0 hw [] (sb) (sx) (sk) (cs) (10) (aq) (bq) (Y1) (Y3) h94 n0 (Nat.le_trans (Nat.le_trans (Nat.le_trans (Nat.le_trans (Nat.le_trans (Nat.le_trans (Nat.le_trans (Nat.le_trans (Nat.le_trans (Nat.le_trans (Nat.le_trans zs E1.1) (Keep.of_wr W11).1) (Keep.of_wr W22).1) (Keep.of_wr W31).1) (Keep.of_wr W40).1) (Keep.of_wr W49).1) (Keep.of_wr W58).1) (Keep.of_wr W67).1) (Keep.of_wr W76).1) (Keep.of_wr W85).1) (Keep.of_wr W94).1) f96 f97 f98 f99 f100 ys_0 ys_1 (by decide) O2 P5 O4 rG3) hZs (tw hw 12 rfl) (tw hw 11 rfl) (by decide) (by decide)) (g := (mkF m 196 #[.val (.int sel), .val (.int pos), .val (.int ch), .val (.long aq), .second, .val (.long bq), .second, .val (.int (sel &&& (3 : Int32))), .val (.ref sb), .val (.ref b1), .unset, .unset, .unset, .unset, .unset] [(.long bq), (.long aq), (.int 10), (.ref sb), (.int 10), (.ref b1)])) rfl (by rw [hml]; rfl) (argsL := [(.ref sb), (.int 10), (.long aq), (.long bq)]) (rest := [(.int 10), (.ref b1)]) (lenOf pd__Ljava_lang_String_IJJ_C rfl) rfl (by show 2 * 0 + _ ≤ _; exact Nat.le_of_eq rfl) (hb hby at_196) (fun _ _ => ⟨rfl, e94, (by decide : 3 + 0 ≤ _), (by decide : 56 + 0 ≤ _)⟩)
    dsimp only [Pt.U, Pt.locs, Pt.cells, Pt.slots] at X102 l102 y102 z102 st102 hQ102
    subst l102 y102 z102
    obtain ⟨v101, rfl, N102, e102, y102_0⟩ := hQ102
    have M102 := Fr.app N94 N102
    refine Gl.st st102 ?_
    show Gl p.tables e below _ (T102.setTop (mkF m 199 #[.val (.int sel), .val (.int pos), .val (.int ch), .val (.long aq), .second, .val (.long bq), .second, .val (.int (sel &&& (3 : Int32))), .val (.ref sb), .val (.ref b1), .unset, .unset, .unset, .unset, .unset] [(.int v101), (.int 10), (.ref b1)]))
    show Gl p.tables e below _ (T102.setTop (mkF m 199 #[.val (.int sel), .val (.int pos), .val (.int ch), .val (.long aq), .second, .val (.long bq), .second, .val (.int (sel &&& (3 : Int32))), .val (.ref sb), .val (.ref b1), .unset, .unset, .unset, .unset, .unset] [(.int v101), (.int 10), (.ref b1)]))
    obtain ⟨c103, a103, q103, S103, M103, H103, G103⟩ := id V94
    obtain ⟨T103, h103, X103, e103, W103, st103⟩ := stC X102 hx hZs e102 a103 (j := (10 : Int32)) (inb_of S103 ⟨by decide, by decide⟩) (g := (mkF m 199 #[.val (.int sel), .val (.int pos), .val (.int ch), .val (.long aq), .second, .val (.long bq), .second, .val (.int (sel &&& (3 : Int32))), .val (.ref sb), .val (.ref b1), .unset, .unset, .unset, .unset, .unset] [(.int v101), (.int 10), (.ref b1)])) rfl rfl (hb hby at_199)
    refine Gl.st st103 ?_
    have C104 : CHr Z consts_1 s.vm h0 vms h103 := C95.trans (CHr.wr W103 (Safe.arv hZs.alike V94 (by decide)) C95.1)
    have V103 : Arv Z h103 b1 k1 .char (12 : Int32) [(.int v9), (.int v20), (.int v29), (.int v38), (.int v47), (.int v56), (.int v65), (.int v74), (.int v83), (.int v92), (.int v101), (.int 0)] (.int 0) := by
      have q := Arv.set a103 q103 S103 M103 H103 G103 (fits_nar_char _) W103 10 rfl (Nat.le_of_ble_eq_true rfl)
      rw [nar_id y102_0.1 y102_0.2] at q
      exact q
    have N103 := Fr.snoc X103 M102 g2
    show Gl p.tables e below _ (T103.setTop (mkF m 200 #[.val (.int sel), .val (.int pos), .val (.int ch), .val (.long aq), .second, .val (.long bq), .second, .val (.int (sel &&& (3 : Int32))), .val (.ref sb), .val (.ref b1), .unset, .unset, .unset, .unset, .unset] []))
    refine Gl.st (fun _ kq => XS.aload X103.here hx rfl (hb hby at_200) rfl rfl kq) ?_
    refine Gl.st (fun _ kq => XS.bipush X103.here hx rfl (hb hby at_202) kq) ?_
    refine Gl.st (fun _ kq => XS.aload X103.here hx rfl (hb hby at_204) rfl rfl kq) ?_
    refine Gl.st (fun _ kq => XS.bipush X103.here hx rfl (hb hby at_206) kq) ?_
    refine Gl.st (fun _ kq => XS.lloadN X103.here hx rfl (hb hby at_208) rfl kq) ?_
    refine Gl.st (fun _ kq => XS.lload X103.here hx rfl (hb hby at_209) rfl kq) ?_
    show Gl p.tables e below _ (T103.setTop (mkF m 211 #[.val (.int sel), .val (.int pos), .val (.int ch), .val (.long aq), .second, .val (.long bq), .second, .val (.int (sel &&& (3 : Int32))), .val (.ref sb), .val (.ref b1), .unset, .unset, .unset, .unset, .unset] [(.long bq), (.long aq), (.int 11), (.ref sb), (.int 11), (.ref b1)]))
    have f105 : Exa Z h103 sb "java/lang/String" := (f96.wr W103)
    have f106 : Fld Z h103 sb "java/lang/String" "coder" "B" (.int 0) := (f97.other W103 (Or.inl ne14))
    have f107 : Fld Z h103 sb "java/lang/String" "value" "[B" (.ref sx) := (f98.other W103 (Or.inl ne14))
    have f108 : Arv Z h103 sx sk .byte (Int32.ofNat cs.length) ((cs.map (fun c => c.toInt8.toInt32)).map Value.int) (.int 0) := (f99.other W103 ne17)
    have f109 : Old Z n0 h103 := (f100.wr W103 g2)
    obtain ⟨_, _, ⟨T111, L111, k111, n111⟩, -, X111, ⟨Lc111, hQ111, l111, y111, z111⟩, st111⟩ := Jvm.LawKit.callS X103 hx (y := (⟨"com/example/groupwright/groupwright/app/KindNamedPinLaw", "at", "(Ljava/lang/String;IJJ)C"⟩ : MethodName)) hos (mvT hZs (tw hw 9 rfl)) (mvT hZs (tw hw 10 rfl)) (mvT hZs (tw hw 11 rfl)) (mvT hZs (tw hw 12 rfl)) (by decide) (backOf (W := 2) (rm_at l Z a0 hw [] (sb) (sx) (sk) (cs) (11) (aq) (bq) (Y1) (Y3) h103 n0 (Nat.le_trans (Nat.le_trans (Nat.le_trans (Nat.le_trans (Nat.le_trans (Nat.le_trans (Nat.le_trans (Nat.le_trans (Nat.le_trans (Nat.le_trans (Nat.le_trans (Nat.le_trans zs E1.1) (Keep.of_wr W11).1) (Keep.of_wr W22).1) (Keep.of_wr W31).1) (Keep.of_wr W40).1) (Keep.of_wr W49).1) (Keep.of_wr W58).1) (Keep.of_wr W67).1) (Keep.of_wr W76).1) (Keep.of_wr W85).1) (Keep.of_wr W94).1) (Keep.of_wr W103).1) f105 f106 f107 f108 f109 ys_0 ys_1 (by decide) O2 P5 O4 rG3) hZs (tw hw 12 rfl) (tw hw 11 rfl) (by decide) (by decide)) (g := (mkF m 211 #[.val (.int sel), .val (.int pos), .val (.int ch), .val (.long aq), .second, .val (.long bq), .second, .val (.int (sel &&& (3 : Int32))), .val (.ref sb), .val (.ref b1), .unset, .unset, .unset, .unset, .unset] [(.long bq), (.long aq), (.int 11), (.ref sb), (.int 11), (.ref b1)])) rfl (by rw [hml]; rfl) (argsL := [(.ref sb), (.int 11), (.long aq), (.long bq)]) (rest := [(.int 11), (.ref b1)]) (lenOf pd__Ljava_lang_String_IJJ_C rfl) rfl (by show 2 * 0 + _ ≤ _; exact Nat.le_of_eq rfl) (hb hby at_211) (fun _ _ => ⟨rfl, e103, (by decide : 3 + 0 ≤ _), (by decide : 56 + 0 ≤ _)⟩)
    dsimp only [Pt.U, Pt.locs, Pt.cells, Pt.slots] at X111 l111 y111 z111 st111 hQ111
    subst l111 y111 z111
    obtain ⟨v110, rfl, N111, e111, y111_0⟩ := hQ111
    have M111 := Fr.app N103 N111
    refine Gl.st st111 ?_
    show Gl p.tables e below _ (T111.setTop (mkF m 214 #[.val (.int sel), .val (.int pos), .val (.int ch), .val (.long aq), .second, .val (.long bq), .second, .val (.int (sel &&& (3 : Int32))), .val (.ref sb), .val (.ref b1), .unset, .unset, .unset, .unset, .unset] [(.int v110), (.int 11), (.ref b1)]))
    show Gl p.tables e below _ (T111.setTop (mkF m 214 #[.val (.int sel), .val (.int pos), .val (.int ch), .val (.long aq), .second, .val (.long bq), .second, .val (.int (sel &&& (3 : Int32))), .val (.ref sb), .val (.ref b1), .unset, .unset, .unset, .unset, .unset] [(.int v110), (.int 11), (.ref b1)]))
    obtain ⟨c112, a112, q112, S112, M112, H112, G112⟩ := id V103
    obtain ⟨T112, h112, X112, e112, W112, st112⟩ := stC X111 hx hZs e111 a112 (j := (11 : Int32)) (inb_of S112 ⟨by decide, by decide⟩) (g := (mkF m 214 #[.val (.int sel), .val (.int pos), .val (.int ch), .val (.long aq), .second, .val (.long bq), .second, .val (.int (sel &&& (3 : Int32))), .val (.ref sb), .val (.ref b1), .unset, .unset, .unset, .unset, .unset] [(.int v110), (.int 11), (.ref b1)])) rfl rfl (hb hby at_214)
    refine Gl.st st112 ?_
    have C113 : CHr Z consts_1 s.vm h0 vms h112 := C104.trans (CHr.wr W112 (Safe.arv hZs.alike V103 (by decide)) C104.1)
    have V112 : Arv Z h112 b1 k1 .char (12 : Int32) [(.int v9), (.int v20), (.int v29), (.int v38), (.int v47), (.int v56), (.int v65), (.int v74), (.int v83), (.int v92), (.int v101), (.int v110)] (.int 0) := by
      have q := Arv.set a112 q112 S112 M112 H112 G112 (fits_nar_char _) W112 11 rfl (Nat.le_of_ble_eq_true rfl)
      rw [nar_id y111_0.1 y111_0.2] at q
      exact q
    have N112 := Fr.snoc X112 M111 g2
    show Gl p.tables e below _ (T112.setTop (mkF m 215 #[.val (.int sel), .val (.int pos), .val (.int ch), .val (.long aq), .second, .val (.long bq), .second, .val (.int (sel &&& (3 : Int32))), .val (.ref sb), .val (.ref b1), .unset, .unset, .unset, .unset, .unset] []))
    have Jk : ∀ (Tk : State) (hk : Heap) (Lk : List Loc) (vmk : Vm) (kk : Nat) (hSk : s.Since vmk kk) (hZk : Z.Warmed39 vmk) (hok : vmk.findClass "com/example/groupwright/groupwright/app/KindNamedPinLaw" = some m.cls) (hkk : kk ≤ hk.size) (Ck : CHr Z consts_1 s.vm h0 vmk hk) (Xk : Stand p l e room_1 (s.setVm vmk) m #[(.int sel), (.int pos), (.int ch), (.long aq), (.long bq)] below meth c Tk Lk 3 56) (ek : Tk.heap = hk) (Nk : Fr n0 Lk) (zk : n0 ≤ hk.size) (v0 : Int32) (v1 : Int32) (v2 : Int32) (v3 : Int32) (v4 : Int32) (v5 : Int32) (v6 : Int32) (v7 : Int32) (v8 : Int32) (v9 : Int32) (v10 : Int32) (v11 : Int32) (fk_0 : Arv Z hk va kva (.object "com/example/groupwright/groupwright/app/Registration$Kind") (3 : Int32) [(.ref uk1), (.ref uk2), (.ref uk3)] .null) (fk_1 : Exa Z hk va "[Lcom/example/groupwright/groupwright/app/Registration$Kind;") (fk_2 : Fld Z hk uk1 "com/example/groupwright/groupwright/app/Registration$Kind" "word" "Ljava/lang/String;" (.ref uw1)) (fk_3 : Exa Z hk uw1 "java/lang/String") (fk_4 : Fld Z hk uw1 "java/lang/String" "coder" "B" (.int 0)) (fk_5 : Fld Z hk uw1 "java/lang/String" "value" "[B" (.ref ut1)) (fk_6 : Arv Z hk ut1 uj1 .byte (Int32.ofNat ([99, 111, 108, 108, 101, 99, 116, 105, 111, 110] : List Int32).length) ((([99, 111, 108, 108, 101, 99, 116, 105, 111, 110] : List Int32).map (fun c => c.toInt8.toInt32)).map Value.int) (.int 0)) (fk_7 : Fld Z hk uk2 "com/example/groupwright/groupwright/app/Registration$Kind" "word" "Ljava/lang/String;" (.ref uw2)) (fk_8 : Exa Z hk uw2 "java/lang/String") (fk_9 : Fld Z hk uw2 "java/lang/String" "coder" "B" (.int 0)) (fk_10 : Fld Z hk uw2 "java/lang/String" "value" "[B" (.ref ut2)) (fk_11 : Arv Z hk ut2 uj2 .byte (Int32.ofNat ([111, 98, 106, 101, 99, 116] : List Int32).length) ((([111, 98, 106, 101, 99, 116] : List Int32).map (fun c => c.toInt8.toInt32)).map Value.int) (.int 0)) (fk_12 : Fld Z hk uk3 "com/example/groupwright/groupwright/app/Registration$Kind" "word" "Ljava/lang/String;" (.ref uw3)) (fk_13 : Exa Z hk uw3 "java/lang/String") (fk_14 : Fld Z hk uw3 "java/lang/String" "coder" "B" (.int 0)) (fk_15 : Fld Z hk uw3 "java/lang/String" "value" "[B" (.ref ut3)) (fk_16 : Arv Z hk ut3 uj3 .byte (Int32.ofNat ([100, 97, 116, 97, 115, 101, 116] : List Int32).length) ((([100, 97, 116, 97, 115, 101, 116] : List Int32).map (fun c => c.toInt8.toInt32)).map Value.int) (.int 0)) (fk_17 : Old Z n0 hk) (fk_18 : Exa Z hk sb "java/lang/String") (fk_19 : Fld Z hk sb "java/lang/String" "coder" "B" (.int 0)) (fk_20 : Fld Z hk sb "java/lang/String" "value" "[B" (.ref sx)) (fk_21 : Arv Z hk sx sk .byte (Int32.ofNat cs.length) ((cs.map (fun c => c.toInt8.toInt32)).map Value.int) (.int 0)) (fk_22 : Arv Z hk b1 k1 .char (12 : Int32) [(.int v0), (.int v1), (.int v2), (.int v3), (.int v4), (.int v5), (.int v6), (.int v7), (.int v8), (.int v9), (.int v10), (.int v11)] (.int 0)) (yk_0 : Chr v0) (yk_1 : Chr v1) (yk_2 : Chr v2) (yk_3 : Chr v3) (yk_4 : Chr v4) (yk_5 : Chr v5) (yk_6 : Chr v6) (yk_7 : Chr v7) (yk_8 : Chr v8) (yk_9 : Chr v9) (yk_10 : Chr v10) (yk_11 : Chr v11), Gl p.tables e below (EndH s Z consts_1 (Q_law Z sel pos ch aq bq Y1 Y3 va kva uk1 uk2 uk3 uw1 ut1 uj1 uw2 ut2 uj2 uw3 ut3 uj3 h0 n0) room_1.cells room_1.slots) (Tk.setTop (mkF m 240 #[.val (.int sel), .val (.int pos), .val (.int ch), .val (.long aq), .second, .val (.long bq), .second, .val (.int (sel &&& (3 : Int32))), .val (.ref sb), .val (.ref b1), .unset, .unset, .unset, .unset, .unset] [])) := by
      intro Tk hk Lk vmk kk hSk hZk hok hkk Ck Xk ek Nk zk v0 v1 v2 v3 v4 v5 v6 v7 v8 v9 v10 v11 fk_0 fk_1 fk_2 fk_3 fk_4 fk_5 fk_6 fk_7 fk_8 fk_9 fk_10 fk_11 fk_12 fk_13 fk_14 fk_15 fk_16 fk_17 fk_18 fk_19 fk_20 fk_21 fk_22 yk_0 yk_1 yk_2 yk_3 yk_4 yk_5 yk_6 yk_7 yk_8 yk_9 yk_10 yk_11
      show Gl p.tables e below _ (Tk.setTop (mkF m 240 #[.val (.int sel), .val (.int pos), .val (.int ch), .val (.long aq), .second, .val (.long bq), .second, .val (.int (sel &&& (3 : Int32))), .val (.ref sb), .val (.ref b1), .unset, .unset, .unset, .unset, .unset] []))
      refine Gl.st (fun _ kq => XS.iloadN Xk.here hx rfl (hb hby at_240) rfl kq) ?_
      refine Gl.st (fun _ kq => XS.iconst Xk.here hx rfl (hb hby at_241) kq) ?_
      refine Gl.st (fun _ kq => XS.iushr Xk.here hx rfl (hb hby at_242) rfl kq) ?_
      refine Gl.st (fun _ kq => XS.iconst Xk.here hx rfl (hb hby at_243) kq) ?_
      refine Gl.st (fun _ kq => XS.iand Xk.here hx rfl (hb hby at_244) rfl kq) ?_
      refine Gl.st (fun _ kq => XS.istore Xk.here hx rfl (hb hby at_245) rfl (l' := #[.val (.int sel), .val (.int pos), .val (.int ch), .val (.long aq), .second, .val (.long bq), .second, .val (.int (sel &&& (3 : Int32))), .val (.ref sb), .val (.ref b1), .val (.int (((sel.toUInt32 >>> ((2 : Int32) &&& 31).toUInt32).toInt32) &&& (3 : Int32))), .unset, .unset, .unset, .unset]) rfl kq) ?_
      show Gl p.tables e below _ (Tk.setTop (mkF m 247 #[.val (.int sel), .val (.int pos), .val (.int ch), .val (.long aq), .second, .val (.long bq), .second, .val (.int (sel &&& (3 : Int32))), .val (.ref sb), .val (.ref b1), .val (.int (((sel.toUInt32 >>> ((2 : Int32) &&& 31).toUInt32).toInt32) &&& (3 : Int32))), .unset, .unset, .unset, .unset] []))
      have Jn : ∀ (Tn : State) (Ln : List Loc) (vmn : Vm) (kn : Nat) (hSn : s.Since vmn kn) (hZn : Z.Warmed39 vmn) (hon : vmn.findClass "com/example/groupwright/groupwright/app/KindNamedPinLaw" = some m.cls) (hkn : kn ≤ hk.size) (Cn : CHr Z consts_1 s.vm h0 vmn hk) (Xn : Stand p l e room_1 (s.setVm vmn) m #[(.int sel), (.int pos), (.int ch), (.long aq), (.long bq)] below meth c Tn Ln 3 56) (en : Tn.heap = hk) (Nn : Fr n0 Ln) (nn : Int32), Gl p.tables e below (EndH s Z consts_1 (Q_law Z sel pos ch aq bq Y1 Y3 va kva uk1 uk2 uk3 uw1 ut1 uj1 uw2 ut2 uj2 uw3 ut3 uj3 h0 n0) room_1.cells room_1.slots) (Tn.setTop (mkF m 312 #[.val (.int sel), .val (.int pos), .val (.int ch), .val (.long aq), .second, .val (.long bq), .second, .val (.int (sel &&& (3 : Int32))), .val (.ref sb), .val (.ref b1), .val (.int (((sel.toUInt32 >>> ((2 : Int32) &&& 31).toUInt32).toInt32) &&& (3 : Int32))), .val (.int nn), .unset, .unset, .unset] [])) := by
        intro Tn Ln vmn kn hSn hZn hon hkn Cn Xn en Nn nn
        show Gl p.tables e below _ (Tn.setTop (mkF m 312 #[.val (.int sel), .val (.int pos), .val (.int ch), .val (.long aq), .second, .val (.long bq), .second, .val (.int (sel &&& (3 : Int32))), .val (.ref sb), .val (.ref b1), .val (.int (((sel.toUInt32 >>> ((2 : Int32) &&& 31).toUInt32).toInt32) &&& (3 : Int32))), .val (.int nn), .unset, .unset, .unset] []))
        refine Gl.st (fun _ kq => XS.iloadN Xn.here hx rfl (hb hby at_312) rfl kq) ?_
        refine Gl.st (fun _ kq => XS.iconst Xn.here hx rfl (hb hby at_313) kq) ?_
        refine Gl.st (fun _ kq => XS.iushr Xn.here hx rfl (hb hby at_314) rfl kq) ?_
        refine Gl.st (fun _ kq => XS.bipush Xn.here hx rfl (hb hby at_315) kq) ?_
        refine Gl.st (fun _ kq => XS.iand Xn.here hx rfl (hb hby at_317) rfl kq) ?_
        refine Gl.st (fun _ kq => XS.bipush Xn.here hx rfl (hb hby at_318) kq) ?_
        show Gl p.tables e below _ (Tn.setTop (mkF m 320 #[.val (.int sel), .val (.int pos), .val (.int ch), .val (.long aq), .second, .val (.long bq), .second, .val (.int (sel &&& (3 : Int32))), .val (.ref sb), .val (.ref b1), .val (.int (((sel.toUInt32 >>> ((2 : Int32) &&& 31).toUInt32).toInt32) &&& (3 : Int32))), .val (.int nn), .unset, .unset, .unset] [(.int 7), (.int (((sel.toUInt32 >>> ((5 : Int32) &&& 31).toUInt32).toInt32) &&& (7 : Int32)))]))
        by_cases hc114 : (((sel.toUInt32 >>> ((5 : Int32) &&& 31).toUInt32).toInt32) &&& (7 : Int32)) = (7 : Int32)
        · refine Gl.st (fun _ kq => XS.icmpNo Xn.here hx rfl (hb hby at_320) rfl (teq (hc114 : (((sel.toUInt32 >>> ((5 : Int32) &&& 31).toUInt32).toInt32) &&& (7 : Int32)) = (7 : Int32))).2 kq) ?_
          show Gl p.tables e below _ (Tn.setTop (mkF m 323 #[.val (.int sel), .val (.int pos), .val (.int ch), .val (.long aq), .second, .val (.long bq), .second, .val (.int (sel &&& (3 : Int32))), .val (.ref sb), .val (.ref b1), .val (.int (((sel.toUInt32 >>> ((2 : Int32) &&& 31).toUInt32).toInt32) &&& (3 : Int32))), .val (.int nn), .unset, .unset, .unset] []))
          refine Gl.st (fun _ kq => XS.aconstNull Xn.here hx rfl (hb hby at_323) kq) ?_
          refine Gl.st (fun _ kq => XS.goto Xn.here hx rfl (pc0 := 324) (pc' := 334) rfl (hb hby at_324) (by decide) (by decide) kq) ?_
          refine Gl.st (fun _ kq => XS.astore Xn.here hx rfl (hb hby at_334) rfl rfl (l' := #[.val (.int sel), .val (.int pos), .val (.int ch), .val (.long aq), .second, .val (.long bq), .second, .val (.int (sel &&& (3 : Int32))), .val (.ref sb), .val (.ref b1), .val (.int (((sel.toUInt32 >>> ((2 : Int32) &&& 31).toUInt32).toInt32) &&& (3 : Int32))), .val (.int nn), .val .null, .unset, .unset]) rfl kq) ?_
          refine Gl.st (fun _ kq => XS.aload Xn.here hx rfl (hb hby at_336) rfl rfl kq) ?_
          show Gl p.tables e below _ (Tn.setTop (mkF m 338 #[.val (.int sel), .val (.int pos), .val (.int ch), .val (.long aq), .second, .val (.long bq), .second, .val (.int (sel &&& (3 : Int32))), .val (.ref sb), .val (.ref b1), .val (.int (((sel.toUInt32 >>> ((2 : Int32) &&& 31).toUInt32).toInt32) &&& (3 : Int32))), .val (.int nn), .val .null, .unset, .unset] [.null]))
          obtain ⟨_, _, ⟨T115, L115, k115, n115⟩, -, X115, ⟨Lc115, hQ115, l115, y115, z115⟩, st115⟩ := Jvm.LawKit.callS Xn hx (y := (⟨"com/example/groupwright/groupwright/app/Registration$Kind", "named", "(Ljava/lang/String;)Lcom/example/groupwright/groupwright/app/Registration$Kind;"⟩ : MethodName)) hon (mvT hZn (tw hw 73 rfl)) (mvT hZn (tw hw 74 rfl)) (mvT hZn (tw hw 75 rfl)) (mvT hZn (tw hw 76 rfl)) (by decide) (backOf (W := 0) (rm_nmN l Z a0 hw [] (va) (kva) (uk1) (uk2) (uk3) (uw1) (ut1) (uj1) (uw2) (ut2) (uj2) (uw3) (ut3) (uj3) hk n0 zk fk_0 fk_1 fk_2 fk_3 fk_4 fk_5 fk_6 fk_7 fk_8 fk_9 fk_10 fk_11 fk_12 fk_13 fk_14 fk_15 fk_16 fk_17 OV) hZn (tw hw 76 rfl) (tw hw 75 rfl) (by decide) (by decide)) (g := (mkF m 338 #[.val (.int sel), .val (.int pos), .val (.int ch), .val (.long aq), .second, .val (.long bq), .second, .val (.int (sel &&& (3 : Int32))), .val (.ref sb), .val (.ref b1), .val (.int (((sel.toUInt32 >>> ((2 : Int32) &&& 31).toUInt32).toInt32) &&& (3 : Int32))), .val (.int nn), .val .null, .unset, .unset] [.null])) rfl (by rw [hml]; rfl) (argsL := [.null]) (rest := []) (lenOf pd__Ljava_lang_String__Lcom_example_groupwright_groupwright_app_Registration_Kind_ rfl) rfl (by show 2 * 0 + _ ≤ _; exact Nat.le_of_eq rfl) (hb hby at_338) (fun _ _ => ⟨rfl, en, (by decide : 3 + 1 ≤ _), (by decide : 56 + 3 ≤ _)⟩)
          dsimp only [Pt.U, Pt.locs, Pt.cells, Pt.slots] at X115 l115 y115 z115 st115 hQ115
          subst l115 y115 z115
          obtain ⟨rfl, N115, K115⟩ := hQ115
          have C116 : CHr Z consts_1 s.vm h0 vmn T115.heap := Cn.trans (CHr.keep K115 sf0 Cn.1)
          have M115 := Fr.app Nn N115
          refine Gl.st st115 ?_
          show Gl p.tables e below _ (T115.setTop (mkF m 341 #[.val (.int sel), .val (.int pos), .val (.int ch), .val (.long aq), .second, .val (.long bq), .second, .val (.int (sel &&& (3 : Int32))), .val (.ref sb), .val (.ref b1), .val (.int (((sel.toUInt32 >>> ((2 : Int32) &&& 31).toUInt32).toInt32) &&& (3 : Int32))), .val (.int nn), .val .null, .unset, .unset] [.null]))
          show Gl p.tables e below _ (T115.setTop (mkF m 341 #[.val (.int sel), .val (.int pos), .val (.int ch), .val (.long aq), .second, .val (.long bq), .second, .val (.int (sel &&& (3 : Int32))), .val (.ref sb), .val (.ref b1), .val (.int (((sel.toUInt32 >>> ((2 : Int32) &&& 31).toUInt32).toInt32) &&& (3 : Int32))), .val (.int nn), .val .null, .unset, .unset] [.null]))
          refine Gl.st (fun _ kq => XS.astore X115.here hx rfl (hb hby at_341) rfl rfl (l' := #[.val (.int sel), .val (.int pos), .val (.int ch), .val (.long aq), .second, .val (.long bq), .second, .val (.int (sel &&& (3 : Int32))), .val (.ref sb), .val (.ref b1), .val (.int (((sel.toUInt32 >>> ((2 : Int32) &&& 31).toUInt32).toInt32) &&& (3 : Int32))), .val (.int nn), .val .null, .val .null, .unset]) rfl kq) ?_
          refine Gl.st (fun _ kq => XS.aload X115.here hx rfl (hb hby at_343) rfl rfl kq) ?_
          show Gl p.tables e below _ (T115.setTop (mkF m 345 #[.val (.int sel), .val (.int pos), .val (.int ch), .val (.long aq), .second, .val (.long bq), .second, .val (.int (sel &&& (3 : Int32))), .val (.ref sb), .val (.ref b1), .val (.int (((sel.toUInt32 >>> ((2 : Int32) &&& 31).toUInt32).toInt32) &&& (3 : Int32))), .val (.int nn), .val .null, .val .null, .unset] [.null]))
          refine Gl.st (fun _ kq => XS.ifnonnullNo X115.here hx rfl (hb hby at_345) rfl kq) ?_
          show Gl p.tables e below _ (T115.setTop (mkF m 348 #[.val (.int sel), .val (.int pos), .val (.int ch), .val (.long aq), .second, .val (.long bq), .second, .val (.int (sel &&& (3 : Int32))), .val (.ref sb), .val (.ref b1), .val (.int (((sel.toUInt32 >>> ((2 : Int32) &&& 31).toUInt32).toInt32) &&& (3 : Int32))), .val (.int nn), .val .null, .val .null, .unset] []))
          refine Gl.st (fun _ kq => XS.aconstNull X115.here hx rfl (hb hby at_348) kq) ?_
          refine Gl.st (fun _ kq => XS.astore X115.here hx rfl (hb hby at_349) rfl rfl (l' := #[.val (.int sel), .val (.int pos), .val (.int ch), .val (.long aq), .second, .val (.long bq), .second, .val (.int (sel &&& (3 : Int32))), .val (.ref sb), .val (.ref b1), .val (.int (((sel.toUInt32 >>> ((2 : Int32) &&& 31).toUInt32).toInt32) &&& (3 : Int32))), .val (.int nn), .val .null, .val .null, .val .null]) rfl kq) ?_
          refine Gl.st (fun _ kq => XS.goto X115.here hx rfl (pc0 := 351) (pc' := 411) rfl (hb hby at_351) (by decide) (by decide) kq) ?_
          refine Gl.st (fun _ kq => XS.aload X115.here hx rfl (hb hby at_411) rfl rfl kq) ?_
          refine Gl.st (fun _ kq => XS.aload X115.here hx rfl (hb hby at_413) rfl rfl kq) ?_
          show Gl p.tables e below _ (T115.setTop (mkF m 415 #[.val (.int sel), .val (.int pos), .val (.int ch), .val (.long aq), .second, .val (.long bq), .second, .val (.int (sel &&& (3 : Int32))), .val (.ref sb), .val (.ref b1), .val (.int (((sel.toUInt32 >>> ((2 : Int32) &&& 31).toUInt32).toInt32) &&& (3 : Int32))), .val (.int nn), .val .null, .val .null, .val .null] [.null, .null]))
          refine Gl.st (fun _ kq => Jvm.RoadKit.acmp (g := (mkF m 415 #[.val (.int sel), .val (.int pos), .val (.int ch), .val (.long aq), .second, .val (.long bq), .second, .val (.int (sel &&& (3 : Int32))), .val (.ref sb), .val (.ref b1), .val (.int (((sel.toUInt32 >>> ((2 : Int32) &&& 31).toUInt32).toInt32) &&& (3 : Int32))), .val (.int nn), .val .null, .val .null, .val .null] [.null, .null])) X115 hx rfl rfl rfl (pc0 := 415) (pc' := 418) (same := true) rfl (hb hby at_415) rfl (decide_eq_true rfl) (by decide) (by decide) kq) ?_
          show Gl p.tables e below _ (T115.setTop (mkF m 418 #[.val (.int sel), .val (.int pos), .val (.int ch), .val (.long aq), .second, .val (.long bq), .second, .val (.int (sel &&& (3 : Int32))), .val (.ref sb), .val (.ref b1), .val (.int (((sel.toUInt32 >>> ((2 : Int32) &&& 31).toUInt32).toInt32) &&& (3 : Int32))), .val (.int nn), .val .null, .val .null, .val .null] []))
          refine Gl.st (fun _ kq => XS.iconst X115.here hx rfl (hb hby at_418) kq) ?_
          refine Gl.st (fun _ kq => XS.goto X115.here hx rfl (pc0 := 419) (pc' := 423) rfl (hb hby at_419) (by decide) (by decide) kq) ?_
          exact Gl.retNH X115 hx hSn (Nat.le_trans hkn K115.1) (by rw [hh]; exact C116.trans (CHv.at X115 hZn (elW hw) C116.1)) (t := .boolean) Bd.returns (by simp) (hb hby at_423) hlk (by decide) (by decide) ⟨rfl, M115⟩
        · refine Gl.st (fun _ kq => XS.icmpYes Xn.here hx rfl (pc0 := 320) (pc' := 327) rfl (hb hby at_320) rfl (feq (hc114 : ¬ ((((sel.toUInt32 >>> ((5 : Int32) &&& 31).toUInt32).toInt32) &&& (7 : Int32)) = (7 : Int32)))).2 (by decide) (by decide) kq) ?_
          show Gl p.tables e below _ (Tn.setTop (mkF m 327 #[.val (.int sel), .val (.int pos), .val (.int ch), .val (.long aq), .second, .val (.long bq), .second, .val (.int (sel &&& (3 : Int32))), .val (.ref sb), .val (.ref b1), .val (.int (((sel.toUInt32 >>> ((2 : Int32) &&& 31).toUInt32).toInt32) &&& (3 : Int32))), .val (.int nn), .unset, .unset, .unset] []))
          refine Gl.st (fun _ kq => XS.aload Xn.here hx rfl (hb hby at_327) rfl rfl kq) ?_
          refine Gl.st (fun _ kq => XS.iload Xn.here hx rfl (hb hby at_329) rfl kq) ?_
          show Gl p.tables e below _ (Tn.setTop (mkF m 331 #[.val (.int sel), .val (.int pos), .val (.int ch), .val (.long aq), .second, .val (.long bq), .second, .val (.int (sel &&& (3 : Int32))), .val (.ref sb), .val (.ref b1), .val (.int (((sel.toUInt32 >>> ((2 : Int32) &&& 31).toUInt32).toInt32) &&& (3 : Int32))), .val (.int nn), .unset, .unset, .unset] [(.int nn), (.ref b1)]))
          obtain ⟨_, _, ⟨T121, L121, k121, n121⟩, -, X121, S121, g121, ⟨Lc121, hQ121, l121, y121, z121, R121⟩, st121⟩ := callSS Xn hx (y := (⟨"com/example/groupwright/groupwright/app/KindNamedPinLaw", "str", "([CI)Ljava/lang/String;"⟩ : MethodName)) hon (mvT hZn (tw hw 49 rfl)) (mvT hZn (tw hw 50 rfl)) (mvT hZn (tw hw 11 rfl)) (mvT hZn (tw hw 51 rfl)) (by decide) (backOfSH (W := 0) (rm_sr l Z a0 hw [] (b1) (k1) (v0) (v1) (v2) (v3) (v4) (v5) (v6) (v7) (v8) (v9) (v10) (v11) (nn) (Y1) hk n0 zk fk_22 fk_17 yk_0 yk_1 yk_2 yk_3 yk_4 yk_5 yk_6 yk_7 yk_8 yk_9 yk_10 yk_11 O2 P5) hZn (tw hw 51 rfl) (tw hw 11 rfl) (by decide) (by decide) (elW hw) Cn.1) (g := (mkF m 331 #[.val (.int sel), .val (.int pos), .val (.int ch), .val (.long aq), .second, .val (.long bq), .second, .val (.int (sel &&& (3 : Int32))), .val (.ref sb), .val (.ref b1), .val (.int (((sel.toUInt32 >>> ((2 : Int32) &&& 31).toUInt32).toInt32) &&& (3 : Int32))), .val (.int nn), .unset, .unset, .unset] [(.int nn), (.ref b1)])) rfl (by rw [hml]; rfl) (argsL := [(.ref b1), (.int nn)]) (rest := []) (lenOf pd___CI_Ljava_lang_String_ rfl) rfl (by show 2 * 0 + _ ≤ _; exact Nat.le_of_eq rfl) (hb hby at_331) (fun _ _ => ⟨rfl, en, (by decide : 3 + 6 ≤ _), (by decide : 56 + 28 ≤ _)⟩)
          dsimp only [Pt.U, Pt.locs, Pt.cells, Pt.slots] at X121 l121 y121 z121 st121 hQ121 R121
          subst l121 y121 z121
          obtain ⟨X121, S121, hZ121, ho121⟩ := rebS hSn (Nat.le_trans hkn (Nat.le_of_eq (congrArg Array.size en).symm)) X121 S121 g121 hZn hon
          obtain ⟨v117, v118, v119, v120, rfl, N121, K121, q121_0, q121_1, q121_2, q121_3, y121_0, y121_1⟩ := hQ121
          have C122 : CHr Z consts_1 s.vm h0 T121.vm T121.heap := Cn.trans R121
          have M121 := Fr.app Nn N121
          refine Gl.to st121 ?_
          show Gl p.tables e below _ (T121.setTop (mkF m 334 #[.val (.int sel), .val (.int pos), .val (.int ch), .val (.long aq), .second, .val (.long bq), .second, .val (.int (sel &&& (3 : Int32))), .val (.ref sb), .val (.ref b1), .val (.int (((sel.toUInt32 >>> ((2 : Int32) &&& 31).toUInt32).toInt32) &&& (3 : Int32))), .val (.int nn), .unset, .unset, .unset] [(.ref v117)]))
          show Gl p.tables e below _ (T121.setTop (mkF m 334 #[.val (.int sel), .val (.int pos), .val (.int ch), .val (.long aq), .second, .val (.long bq), .second, .val (.int (sel &&& (3 : Int32))), .val (.ref sb), .val (.ref b1), .val (.int (((sel.toUInt32 >>> ((2 : Int32) &&& 31).toUInt32).toInt32) &&& (3 : Int32))), .val (.int nn), .unset, .unset, .unset] [(.ref v117)]))
          refine Gl.st (fun _ kq => XS.astore X121.here hx rfl (hb hby at_334) rfl rfl (l' := #[.val (.int sel), .val (.int pos), .val (.int ch), .val (.long aq), .second, .val (.long bq), .second, .val (.int (sel &&& (3 : Int32))), .val (.ref sb), .val (.ref b1), .val (.int (((sel.toUInt32 >>> ((2 : Int32) &&& 31).toUInt32).toInt32) &&& (3 : Int32))), .val (.int nn), .val (.ref v117), .unset, .unset]) rfl kq) ?_
          refine Gl.st (fun _ kq => XS.aload X121.here hx rfl (hb hby at_336) rfl rfl kq) ?_
          show Gl p.tables e below _ (T121.setTop (mkF m 338 #[.val (.int sel), .val (.int pos), .val (.int ch), .val (.long aq), .second, .val (.long bq), .second, .val (.int (sel &&& (3 : Int32))), .val (.ref sb), .val (.ref b1), .val (.int (((sel.toUInt32 >>> ((2 : Int32) &&& 31).toUInt32).toInt32) &&& (3 : Int32))), .val (.int nn), .val (.ref v117), .unset, .unset] [(.ref v117)]))
          have f123 : Arv Z T121.heap va kva (.object "com/example/groupwright/groupwright/app/Registration$Kind") (3 : Int32) [(.ref uk1), (.ref uk2), (.ref uk3)] .null := (fk_0.keep K121 nin0)
          have f124 : Exa Z T121.heap va "[Lcom/example/groupwright/groupwright/app/Registration$Kind;" := (fk_1.keep K121)
          have f125 : Fld Z T121.heap uk1 "com/example/groupwright/groupwright/app/Registration$Kind" "word" "Ljava/lang/String;" (.ref uw1) := (fk_2.keep K121 nin0)
          have f126 : Exa Z T121.heap uw1 "java/lang/String" := (fk_3.keep K121)
          have f127 : Fld Z T121.heap uw1 "java/lang/String" "coder" "B" (.int 0) := (fk_4.keep K121 nin0)
          have f128 : Fld Z T121.heap uw1 "java/lang/String" "value" "[B" (.ref ut1) := (fk_5.keep K121 nin0)
          have f129 : Arv Z T121.heap ut1 uj1 .byte (Int32.ofNat ([99, 111, 108, 108, 101, 99, 116, 105, 111, 110] : List Int32).length) ((([99, 111, 108, 108, 101, 99, 116, 105, 111, 110] : List Int32).map (fun c => c.toInt8.toInt32)).map Value.int) (.int 0) := (fk_6.keep K121 nin0)
          have f130 : Fld Z T121.heap uk2 "com/example/groupwright/groupwright/app/Registration$Kind" "word" "Ljava/lang/String;" (.ref uw2) := (fk_7.keep K121 nin0)
          have f131 : Exa Z T121.heap uw2 "java/lang/String" := (fk_8.keep K121)
          have f132 : Fld Z T121.heap uw2 "java/lang/String" "coder" "B" (.int 0) := (fk_9.keep K121 nin0)
          have f133 : Fld Z T121.heap uw2 "java/lang/String" "value" "[B" (.ref ut2) := (fk_10.keep K121 nin0)
          have f134 : Arv Z T121.heap ut2 uj2 .byte (Int32.ofNat ([111, 98, 106, 101, 99, 116] : List Int32).length) ((([111, 98, 106, 101, 99, 116] : List Int32).map (fun c => c.toInt8.toInt32)).map Value.int) (.int 0) := (fk_11.keep K121 nin0)
          have f135 : Fld Z T121.heap uk3 "com/example/groupwright/groupwright/app/Registration$Kind" "word" "Ljava/lang/String;" (.ref uw3) := (fk_12.keep K121 nin0)
          have f136 : Exa Z T121.heap uw3 "java/lang/String" := (fk_13.keep K121)
          have f137 : Fld Z T121.heap uw3 "java/lang/String" "coder" "B" (.int 0) := (fk_14.keep K121 nin0)
          have f138 : Fld Z T121.heap uw3 "java/lang/String" "value" "[B" (.ref ut3) := (fk_15.keep K121 nin0)
          have f139 : Arv Z T121.heap ut3 uj3 .byte (Int32.ofNat ([100, 97, 116, 97, 115, 101, 116] : List Int32).length) ((([100, 97, 116, 97, 115, 101, 116] : List Int32).map (fun c => c.toInt8.toInt32)).map Value.int) (.int 0) := (fk_16.keep K121 nin0)
          have f140 : Old Z n0 T121.heap := (fk_17.keep K121 all0)
          obtain ⟨_, _, ⟨T141, L141, k141, n141⟩, -, X141, ⟨Lc141, hQ141, l141, y141, z141⟩, st141⟩ := Jvm.LawKit.callS X121 hx (y := (⟨"com/example/groupwright/groupwright/app/Registration$Kind", "named", "(Ljava/lang/String;)Lcom/example/groupwright/groupwright/app/Registration$Kind;"⟩ : MethodName)) ho121 (mvT hZ121 (tw hw 73 rfl)) (mvT hZ121 (tw hw 74 rfl)) (mvT hZ121 (tw hw 75 rfl)) (mvT hZ121 (tw hw 76 rfl)) (by decide) (backOf (W := 0) (rm_nm l Z a0 hw [] (v117) (v118) (v119) (v120) (va) (kva) (uk1) (uk2) (uk3) (uw1) (ut1) (uj1) (uw2) (ut2) (uj2) (uw3) (ut3) (uj3) (Y1) T121.heap n0 (Nat.le_trans zk K121.1) q121_0 q121_1 q121_2 q121_3 f123 f124 f125 f126 f127 f128 f129 f130 f131 f132 f133 f134 f135 f136 f137 f138 f139 f140 y121_0 y121_1 OV O2 P5) hZ121 (tw hw 76 rfl) (tw hw 75 rfl) (by decide) (by decide)) (g := (mkF m 338 #[.val (.int sel), .val (.int pos), .val (.int ch), .val (.long aq), .second, .val (.long bq), .second, .val (.int (sel &&& (3 : Int32))), .val (.ref sb), .val (.ref b1), .val (.int (((sel.toUInt32 >>> ((2 : Int32) &&& 31).toUInt32).toInt32) &&& (3 : Int32))), .val (.int nn), .val (.ref v117), .unset, .unset] [(.ref v117)])) rfl (by rw [hml]; rfl) (argsL := [(.ref v117)]) (rest := []) (lenOf pd__Ljava_lang_String__Lcom_example_groupwright_groupwright_app_Registration_Kind_ rfl) rfl (by show 2 * 0 + _ ≤ _; exact Nat.le_of_eq rfl) (hb hby at_338) (fun _ _ => ⟨rfl, rfl, (by decide : 9 + 1 ≤ _), (by decide : 84 + 3 ≤ _)⟩)
          dsimp only [Pt.U, Pt.locs, Pt.cells, Pt.slots] at X141 l141 y141 z141 st141 hQ141
          subst l141 y141 z141
          rcases hQ141 with ⟨rfl, N141, K141, y141_0⟩ | ⟨rfl, N141, K141, y141_0⟩ | ⟨rfl, N141, K141, y141_0⟩ | ⟨rfl, N141, K141, y141_0, y141_1, y141_2⟩
          · have C142 : CHr Z consts_1 s.vm h0 T121.vm T141.heap := C122.trans (CHr.keep K141 sf0 C122.1)
            have M141 := Fr.app M121 N141
            refine Gl.st st141 ?_
            show Gl p.tables e below _ (T141.setTop (mkF m 341 #[.val (.int sel), .val (.int pos), .val (.int ch), .val (.long aq), .second, .val (.long bq), .second, .val (.int (sel &&& (3 : Int32))), .val (.ref sb), .val (.ref b1), .val (.int (((sel.toUInt32 >>> ((2 : Int32) &&& 31).toUInt32).toInt32) &&& (3 : Int32))), .val (.int nn), .val (.ref v117), .unset, .unset] [(.ref uk1)]))
            refine Gl.st (fun _ kq => XS.astore X141.here hx rfl (hb hby at_341) rfl rfl (l' := #[.val (.int sel), .val (.int pos), .val (.int ch), .val (.long aq), .second, .val (.long bq), .second, .val (.int (sel &&& (3 : Int32))), .val (.ref sb), .val (.ref b1), .val (.int (((sel.toUInt32 >>> ((2 : Int32) &&& 31).toUInt32).toInt32) &&& (3 : Int32))), .val (.int nn), .val (.ref v117), .val (.ref uk1), .unset]) rfl kq) ?_
            refine Gl.st (fun _ kq => XS.aload X141.here hx rfl (hb hby at_343) rfl rfl kq) ?_
            show Gl p.tables e below _ (T141.setTop (mkF m 345 #[.val (.int sel), .val (.int pos), .val (.int ch), .val (.long aq), .second, .val (.long bq), .second, .val (.int (sel &&& (3 : Int32))), .val (.ref sb), .val (.ref b1), .val (.int (((sel.toUInt32 >>> ((2 : Int32) &&& 31).toUInt32).toInt32) &&& (3 : Int32))), .val (.int nn), .val (.ref v117), .val (.ref uk1), .unset] [(.ref v117)]))
            refine Gl.st (fun _ kq => XS.ifnonnullYes X141.here hx rfl (pc0 := 345) (pc' := 354) rfl (hb hby at_345) rfl (by decide) (by decide) kq) ?_
            show Gl p.tables e below _ (T141.setTop (mkF m 354 #[.val (.int sel), .val (.int pos), .val (.int ch), .val (.long aq), .second, .val (.long bq), .second, .val (.int (sel &&& (3 : Int32))), .val (.ref sb), .val (.ref b1), .val (.int (((sel.toUInt32 >>> ((2 : Int32) &&& 31).toUInt32).toInt32) &&& (3 : Int32))), .val (.int nn), .val (.ref v117), .val (.ref uk1), .unset] []))
            refine Gl.st (fun _ kq => XS.aload X141.here hx rfl (hb hby at_354) rfl rfl kq) ?_
            show Gl p.tables e below _ (T141.setTop (mkF m 356 #[.val (.int sel), .val (.int pos), .val (.int ch), .val (.long aq), .second, .val (.long bq), .second, .val (.int (sel &&& (3 : Int32))), .val (.ref sb), .val (.ref b1), .val (.int (((sel.toUInt32 >>> ((2 : Int32) &&& 31).toUInt32).toInt32) &&& (3 : Int32))), .val (.int nn), .val (.ref v117), .val (.ref uk1), .unset] [(.ref v117)]))
            obtain ⟨b143, T143, h143, k143, t143, kc143, X143, e143, E143, S143, q143, hZ143, ho143, A143, F143, G143, V143, la143, lb143, R143, L143, sa143, st143⟩ := ldcCH X141 hx hZ121 ho121 (tw hw 0 rfl) (strW hw) rfl S121 (Nat.le_trans (Nat.le_refl _) K141.1) (elW hw) (by decide) C142.1 (vs := [(.int 99), (.int 111), (.int 108), (.int 108), (.int 101), (.int 99), (.int 116), (.int 105), (.int 111), (.int 110)]) (z := (10 : Int32)) (litc_0) (by decide) (by decide) (g := (mkF m 356 #[.val (.int sel), .val (.int pos), .val (.int ch), .val (.long aq), .second, .val (.long bq), .second, .val (.int (sel &&& (3 : Int32))), .val (.ref sb), .val (.ref b1), .val (.int (((sel.toUInt32 >>> ((2 : Int32) &&& 31).toUInt32).toInt32) &&& (3 : Int32))), .val (.int nn), .val (.ref v117), .val (.ref uk1), .unset] [(.ref v117)])) rfl (hb hby at_356) (n := 40) (by decide) (by decide) (by decide) (by decide)
            refine Gl.st st143 ?_
            have C144 : CHr Z consts_1 s.vm h0 T143.vm h143 := C142.trans R143
            have V143 : Arv Z h143 t143 kc143 .byte (Int32.ofNat ([99, 111, 108, 108, 101, 99, 116, 105, 111, 110] : List Int32).length) ((([99, 111, 108, 108, 101, 99, 116, 105, 111, 110] : List Int32).map (fun c => c.toInt8.toInt32)).map Value.int) (.int 0) := V143
            show Gl p.tables e below _ (T143.setTop (mkF m 358 #[.val (.int sel), .val (.int pos), .val (.int ch), .val (.long aq), .second, .val (.long bq), .second, .val (.int (sel &&& (3 : Int32))), .val (.ref sb), .val (.ref b1), .val (.int (((sel.toUInt32 >>> ((2 : Int32) &&& 31).toUInt32).toInt32) &&& (3 : Int32))), .val (.int nn), .val (.ref v117), .val (.ref uk1), .unset] [(.ref b143), (.ref v117)]))
            have f145 : Exa Z h143 v117 "java/lang/String" := ((q121_0.keep K141).ext E143)
            have f146 : Fld Z h143 v117 "java/lang/String" "value" "[B" (.ref v118) := ((q121_2.keep K141 nin0).ext E143)
            have f147 : Fld Z h143 v117 "java/lang/String" "coder" "B" (.int 0) := ((q121_1.keep K141 nin0).ext E143)
            have f148 : Arv Z h143 v118 v119 .byte (Int32.ofNat v120.length) ((v120.map (fun c => c.toInt8.toInt32)).map Value.int) (.int 0) := ((q121_3.keep K141 nin0).ext E143)
            have f149 : Old Z n0 h143 := ((f140.keep K141 all0).ext E143)
            obtain ⟨cq150, kq150, q150a, q150b, q150c⟩ := isOf hZ143 e143 f145
            obtain ⟨_, _, ⟨T150, L150, k150, n150⟩, -, X150, ⟨Lc150, hQ150, l150, y150, z150⟩, st150⟩ := X143.virtualBack hx (y := (⟨"java/lang/String", "equals", "(Ljava/lang/Object;)Z"⟩ : MethodName)) (z := (⟨"java/lang/String", "equals", "(Ljava/lang/Object;)Z"⟩ : MethodName)) ho143 (mvT hZ143 (tw hw 106 rfl)) (mvT hZ143 (tw hw 98 rfl)) (notFace_of_selects (args := #[]) (mvT hZ143 (tw hw 100 rfl))) (mvT hZ143 (tw hw 100 rfl)) (mvT hZ143 (tw hw 99 rfl)) (by decide) (StrChars.Road.eqW (W := 0) hZ143 (wdEq hw) (kI := 4) (tw hw 2 rfl) f145 f146 f147 f148 (StrChars.Road.codOf (cs := v120) rfl (fun x hx => (y121_0 x hx).2)) (up255 _ y121_0) (Nat.le_trans y121_1 (by decide)) A143 G143 F143 V143 (StrChars.Road.codOf (cs := ([99, 111, 108, 108, 101, 99, 116, 105, 111, 110] : List Int32)) rfl (fun x hx => ((by decide : ∀ c ∈ ([99, 111, 108, 108, 101, 99, 116, 105, 111, 110] : List Int32), ¬ c < 0 ∧ ¬ (255 : Int32) < c) x hx).2)) (up255 _ (by decide : ∀ c ∈ ([99, 111, 108, 108, 101, 99, 116, 105, 111, 110] : List Int32), ¬ c < 0 ∧ ¬ (255 : Int32) < c)) (Nat.le_of_ble_eq_true rfl) (O2.ext f149.2) P5 (by decide) (by decide)) q150a q150c (g := (mkF m 358 #[.val (.int sel), .val (.int pos), .val (.int ch), .val (.long aq), .second, .val (.long bq), .second, .val (.int (sel &&& (3 : Int32))), .val (.ref sb), .val (.ref b1), .val (.int (((sel.toUInt32 >>> ((2 : Int32) &&& 31).toUInt32).toInt32) &&& (3 : Int32))), .val (.int nn), .val (.ref v117), .val (.ref uk1), .unset] [(.ref b143), (.ref v117)])) rfl (by rw [hml]; rfl) (Steps.refl _) (argsL := [(.ref b143)]) (rest := []) (lenOf pd__Ljava_lang_Object__Z rfl) rfl (by show 2 * 0 + _ ≤ _; exact Nat.le_of_eq rfl) (hb hby at_358) (fun _ _ => ⟨rfl, e143, (by decide : 12 + 0 ≤ _), (by decide : 131 + 0 ≤ _)⟩)
            dsimp only [Pt.U, Pt.locs, Pt.cells, Pt.slots] at X150 l150 y150 z150 st150 hQ150
            subst l150 y150 z150
            obtain ⟨⟨rfl, y150_0⟩ | ⟨rfl, y150_0⟩, rfl, e150⟩ := hQ150
            · have N150 : Fr n0 ([] : List Loc) := Fr.nil n0
              have M150 := Fr.app M141 N150
              refine Gl.to st150 ?_
              show Gl p.tables e below _ (T150.setTop (mkF m 361 #[.val (.int sel), .val (.int pos), .val (.int ch), .val (.long aq), .second, .val (.long bq), .second, .val (.int (sel &&& (3 : Int32))), .val (.ref sb), .val (.ref b1), .val (.int (((sel.toUInt32 >>> ((2 : Int32) &&& 31).toUInt32).toInt32) &&& (3 : Int32))), .val (.int nn), .val (.ref v117), .val (.ref uk1), .unset] [(.int 1)]))
              refine Gl.st (fun _ kq => XS.ifNo X150.here hx rfl (hb hby at_361) rfl ((if0 _ _).trans (feq ((by decide) : ¬ ((1 : Int32) = (0 : Int32)))).1) kq) ?_
              show Gl p.tables e below _ (T150.setTop (mkF m 364 #[.val (.int sel), .val (.int pos), .val (.int ch), .val (.long aq), .second, .val (.long bq), .second, .val (.int (sel &&& (3 : Int32))), .val (.ref sb), .val (.ref b1), .val (.int (((sel.toUInt32 >>> ((2 : Int32) &&& 31).toUInt32).toInt32) &&& (3 : Int32))), .val (.int nn), .val (.ref v117), .val (.ref uk1), .unset] []))
              obtain ⟨T151, X151, e151, st151⟩ := getS2 X150 hx hZ143 ho143 (host := "") (Or.inl (tw hw 107 rfl)) Via.refl e150 (OK1.ext f149.2) (g := (mkF m 364 #[.val (.int sel), .val (.int pos), .val (.int ch), .val (.long aq), .second, .val (.long bq), .second, .val (.int (sel &&& (3 : Int32))), .val (.ref sb), .val (.ref b1), .val (.int (((sel.toUInt32 >>> ((2 : Int32) &&& 31).toUInt32).toInt32) &&& (3 : Int32))), .val (.int nn), .val (.ref v117), .val (.ref uk1), .unset] [])) rfl (hb hby at_364)
              refine Gl.st st151 ?_
              show Gl p.tables e below _ (T151.setTop (mkF m 367 #[.val (.int sel), .val (.int pos), .val (.int ch), .val (.long aq), .second, .val (.long bq), .second, .val (.int (sel &&& (3 : Int32))), .val (.ref sb), .val (.ref b1), .val (.int (((sel.toUInt32 >>> ((2 : Int32) &&& 31).toUInt32).toInt32) &&& (3 : Int32))), .val (.int nn), .val (.ref v117), .val (.ref uk1), .unset] [(.ref uk1)]))
              refine Gl.st (fun _ kq => XS.astore X151.here hx rfl (hb hby at_367) rfl rfl (l' := #[.val (.int sel), .val (.int pos), .val (.int ch), .val (.long aq), .second, .val (.long bq), .second, .val (.int (sel &&& (3 : Int32))), .val (.ref sb), .val (.ref b1), .val (.int (((sel.toUInt32 >>> ((2 : Int32) &&& 31).toUInt32).toInt32) &&& (3 : Int32))), .val (.int nn), .val (.ref v117), .val (.ref uk1), .val (.ref uk1)]) rfl kq) ?_
              refine Gl.st (fun _ kq => XS.goto X151.here hx rfl (pc0 := 369) (pc' := 411) rfl (hb hby at_369) (by decide) (by decide) kq) ?_
              refine Gl.st (fun _ kq => XS.aload X151.here hx rfl (hb hby at_411) rfl rfl kq) ?_
              refine Gl.st (fun _ kq => XS.aload X151.here hx rfl (hb hby at_413) rfl rfl kq) ?_
              show Gl p.tables e below _ (T151.setTop (mkF m 415 #[.val (.int sel), .val (.int pos), .val (.int ch), .val (.long aq), .second, .val (.long bq), .second, .val (.int (sel &&& (3 : Int32))), .val (.ref sb), .val (.ref b1), .val (.int (((sel.toUInt32 >>> ((2 : Int32) &&& 31).toUInt32).toInt32) &&& (3 : Int32))), .val (.int nn), .val (.ref v117), .val (.ref uk1), .val (.ref uk1)] [(.ref uk1), (.ref uk1)]))
              refine Gl.st (fun _ kq => Jvm.RoadKit.acmp (g := (mkF m 415 #[.val (.int sel), .val (.int pos), .val (.int ch), .val (.long aq), .second, .val (.long bq), .second, .val (.int (sel &&& (3 : Int32))), .val (.ref sb), .val (.ref b1), .val (.int (((sel.toUInt32 >>> ((2 : Int32) &&& 31).toUInt32).toInt32) &&& (3 : Int32))), .val (.int nn), .val (.ref v117), .val (.ref uk1), .val (.ref uk1)] [(.ref uk1), (.ref uk1)])) X151 hx rfl rfl rfl (pc0 := 415) (pc' := 418) (same := true) rfl (hb hby at_415) rfl (decide_eq_true rfl) (by decide) (by decide) kq) ?_
              show Gl p.tables e below _ (T151.setTop (mkF m 418 #[.val (.int sel), .val (.int pos), .val (.int ch), .val (.long aq), .second, .val (.long bq), .second, .val (.int (sel &&& (3 : Int32))), .val (.ref sb), .val (.ref b1), .val (.int (((sel.toUInt32 >>> ((2 : Int32) &&& 31).toUInt32).toInt32) &&& (3 : Int32))), .val (.int nn), .val (.ref v117), .val (.ref uk1), .val (.ref uk1)] []))
              refine Gl.st (fun _ kq => XS.iconst X151.here hx rfl (hb hby at_418) kq) ?_
              refine Gl.st (fun _ kq => XS.goto X151.here hx rfl (pc0 := 419) (pc' := 423) rfl (hb hby at_419) (by decide) (by decide) kq) ?_
              exact Gl.retNH X151 hx S143 (Nat.le_trans q143 (Nat.le_of_eq (congrArg Array.size e151).symm)) (by rw [hh, e151]; exact C144.trans (CHv.at X151 hZ143 (elW hw) C144.1)) (t := .boolean) Bd.returns (by simp) (hb hby at_423) hlk (by decide) (by decide) (by rw [e151]; exact ⟨rfl, M150⟩)
            · exact absurd y141_0.symm y150_0
          · have C152 : CHr Z consts_1 s.vm h0 T121.vm T141.heap := C122.trans (CHr.keep K141 sf0 C122.1)
            have M141 := Fr.app M121 N141
            refine Gl.st st141 ?_
            show Gl p.tables e below _ (T141.setTop (mkF m 341 #[.val (.int sel), .val (.int pos), .val (.int ch), .val (.long aq), .second, .val (.long bq), .second, .val (.int (sel &&& (3 : Int32))), .val (.ref sb), .val (.ref b1), .val (.int (((sel.toUInt32 >>> ((2 : Int32) &&& 31).toUInt32).toInt32) &&& (3 : Int32))), .val (.int nn), .val (.ref v117), .unset, .unset] [(.ref uk2)]))
            refine Gl.st (fun _ kq => XS.astore X141.here hx rfl (hb hby at_341) rfl rfl (l' := #[.val (.int sel), .val (.int pos), .val (.int ch), .val (.long aq), .second, .val (.long bq), .second, .val (.int (sel &&& (3 : Int32))), .val (.ref sb), .val (.ref b1), .val (.int (((sel.toUInt32 >>> ((2 : Int32) &&& 31).toUInt32).toInt32) &&& (3 : Int32))), .val (.int nn), .val (.ref v117), .val (.ref uk2), .unset]) rfl kq) ?_
            refine Gl.st (fun _ kq => XS.aload X141.here hx rfl (hb hby at_343) rfl rfl kq) ?_
            show Gl p.tables e below _ (T141.setTop (mkF m 345 #[.val (.int sel), .val (.int pos), .val (.int ch), .val (.long aq), .second, .val (.long bq), .second, .val (.int (sel &&& (3 : Int32))), .val (.ref sb), .val (.ref b1), .val (.int (((sel.toUInt32 >>> ((2 : Int32) &&& 31).toUInt32).toInt32) &&& (3 : Int32))), .val (.int nn), .val (.ref v117), .val (.ref uk2), .unset] [(.ref v117)]))
            refine Gl.st (fun _ kq => XS.ifnonnullYes X141.here hx rfl (pc0 := 345) (pc' := 354) rfl (hb hby at_345) rfl (by decide) (by decide) kq) ?_
            show Gl p.tables e below _ (T141.setTop (mkF m 354 #[.val (.int sel), .val (.int pos), .val (.int ch), .val (.long aq), .second, .val (.long bq), .second, .val (.int (sel &&& (3 : Int32))), .val (.ref sb), .val (.ref b1), .val (.int (((sel.toUInt32 >>> ((2 : Int32) &&& 31).toUInt32).toInt32) &&& (3 : Int32))), .val (.int nn), .val (.ref v117), .val (.ref uk2), .unset] []))
            refine Gl.st (fun _ kq => XS.aload X141.here hx rfl (hb hby at_354) rfl rfl kq) ?_
            show Gl p.tables e below _ (T141.setTop (mkF m 356 #[.val (.int sel), .val (.int pos), .val (.int ch), .val (.long aq), .second, .val (.long bq), .second, .val (.int (sel &&& (3 : Int32))), .val (.ref sb), .val (.ref b1), .val (.int (((sel.toUInt32 >>> ((2 : Int32) &&& 31).toUInt32).toInt32) &&& (3 : Int32))), .val (.int nn), .val (.ref v117), .val (.ref uk2), .unset] [(.ref v117)]))
            obtain ⟨b153, T153, h153, k153, t153, kc153, X153, e153, E153, S153, q153, hZ153, ho153, A153, F153, G153, V153, la153, lb153, R153, L153, sa153, st153⟩ := ldcCH X141 hx hZ121 ho121 (tw hw 0 rfl) (strW hw) rfl S121 (Nat.le_trans (Nat.le_refl _) K141.1) (elW hw) (by decide) C152.1 (vs := [(.int 99), (.int 111), (.int 108), (.int 108), (.int 101), (.int 99), (.int 116), (.int 105), (.int 111), (.int 110)]) (z := (10 : Int32)) (litc_0) (by decide) (by decide) (g := (mkF m 356 #[.val (.int sel), .val (.int pos), .val (.int ch), .val (.long aq), .second, .val (.long bq), .second, .val (.int (sel &&& (3 : Int32))), .val (.ref sb), .val (.ref b1), .val (.int (((sel.toUInt32 >>> ((2 : Int32) &&& 31).toUInt32).toInt32) &&& (3 : Int32))), .val (.int nn), .val (.ref v117), .val (.ref uk2), .unset] [(.ref v117)])) rfl (hb hby at_356) (n := 40) (by decide) (by decide) (by decide) (by decide)
            refine Gl.st st153 ?_
            have C154 : CHr Z consts_1 s.vm h0 T153.vm h153 := C152.trans R153
            have V153 : Arv Z h153 t153 kc153 .byte (Int32.ofNat ([99, 111, 108, 108, 101, 99, 116, 105, 111, 110] : List Int32).length) ((([99, 111, 108, 108, 101, 99, 116, 105, 111, 110] : List Int32).map (fun c => c.toInt8.toInt32)).map Value.int) (.int 0) := V153
            show Gl p.tables e below _ (T153.setTop (mkF m 358 #[.val (.int sel), .val (.int pos), .val (.int ch), .val (.long aq), .second, .val (.long bq), .second, .val (.int (sel &&& (3 : Int32))), .val (.ref sb), .val (.ref b1), .val (.int (((sel.toUInt32 >>> ((2 : Int32) &&& 31).toUInt32).toInt32) &&& (3 : Int32))), .val (.int nn), .val (.ref v117), .val (.ref uk2), .unset] [(.ref b153), (.ref v117)]))
            have f155 : Exa Z h153 v117 "java/lang/String" := ((q121_0.keep K141).ext E153)
            have f156 : Fld Z h153 v117 "java/lang/String" "value" "[B" (.ref v118) := ((q121_2.keep K141 nin0).ext E153)
            have f157 : Fld Z h153 v117 "java/lang/String" "coder" "B" (.int 0) := ((q121_1.keep K141 nin0).ext E153)
            have f158 : Arv Z h153 v118 v119 .byte (Int32.ofNat v120.length) ((v120.map (fun c => c.toInt8.toInt32)).map Value.int) (.int 0) := ((q121_3.keep K141 nin0).ext E153)
            have f159 : Old Z n0 h153 := ((f140.keep K141 all0).ext E153)
            obtain ⟨cq160, kq160, q160a, q160b, q160c⟩ := isOf hZ153 e153 f155
            obtain ⟨_, _, ⟨T160, L160, k160, n160⟩, -, X160, ⟨Lc160, hQ160, l160, y160, z160⟩, st160⟩ := X153.virtualBack hx (y := (⟨"java/lang/String", "equals", "(Ljava/lang/Object;)Z"⟩ : MethodName)) (z := (⟨"java/lang/String", "equals", "(Ljava/lang/Object;)Z"⟩ : MethodName)) ho153 (mvT hZ153 (tw hw 106 rfl)) (mvT hZ153 (tw hw 98 rfl)) (notFace_of_selects (args := #[]) (mvT hZ153 (tw hw 100 rfl))) (mvT hZ153 (tw hw 100 rfl)) (mvT hZ153 (tw hw 99 rfl)) (by decide) (StrChars.Road.eqW (W := 0) hZ153 (wdEq hw) (kI := 4) (tw hw 2 rfl) f155 f156 f157 f158 (StrChars.Road.codOf (cs := v120) rfl (fun x hx => (y121_0 x hx).2)) (up255 _ y121_0) (Nat.le_trans y121_1 (by decide)) A153 G153 F153 V153 (StrChars.Road.codOf (cs := ([99, 111, 108, 108, 101, 99, 116, 105, 111, 110] : List Int32)) rfl (fun x hx => ((by decide : ∀ c ∈ ([99, 111, 108, 108, 101, 99, 116, 105, 111, 110] : List Int32), ¬ c < 0 ∧ ¬ (255 : Int32) < c) x hx).2)) (up255 _ (by decide : ∀ c ∈ ([99, 111, 108, 108, 101, 99, 116, 105, 111, 110] : List Int32), ¬ c < 0 ∧ ¬ (255 : Int32) < c)) (Nat.le_of_ble_eq_true rfl) (O2.ext f159.2) P5 (by decide) (by decide)) q160a q160c (g := (mkF m 358 #[.val (.int sel), .val (.int pos), .val (.int ch), .val (.long aq), .second, .val (.long bq), .second, .val (.int (sel &&& (3 : Int32))), .val (.ref sb), .val (.ref b1), .val (.int (((sel.toUInt32 >>> ((2 : Int32) &&& 31).toUInt32).toInt32) &&& (3 : Int32))), .val (.int nn), .val (.ref v117), .val (.ref uk2), .unset] [(.ref b153), (.ref v117)])) rfl (by rw [hml]; rfl) (Steps.refl _) (argsL := [(.ref b153)]) (rest := []) (lenOf pd__Ljava_lang_Object__Z rfl) rfl (by show 2 * 0 + _ ≤ _; exact Nat.le_of_eq rfl) (hb hby at_358) (fun _ _ => ⟨rfl, e153, (by decide : 12 + 0 ≤ _), (by decide : 131 + 0 ≤ _)⟩)
            dsimp only [Pt.U, Pt.locs, Pt.cells, Pt.slots] at X160 l160 y160 z160 st160 hQ160
            subst l160 y160 z160
            obtain ⟨⟨rfl, y160_0⟩ | ⟨rfl, y160_0⟩, rfl, e160⟩ := hQ160
            · exact absurd (y141_0.trans y160_0.symm.symm) (by decide)
            · have N160 : Fr n0 ([] : List Loc) := Fr.nil n0
              have M160 := Fr.app M141 N160
              refine Gl.to st160 ?_
              show Gl p.tables e below _ (T160.setTop (mkF m 361 #[.val (.int sel), .val (.int pos), .val (.int ch), .val (.long aq), .second, .val (.long bq), .second, .val (.int (sel &&& (3 : Int32))), .val (.ref sb), .val (.ref b1), .val (.int (((sel.toUInt32 >>> ((2 : Int32) &&& 31).toUInt32).toInt32) &&& (3 : Int32))), .val (.int nn), .val (.ref v117), .val (.ref uk2), .unset] [(.int 0)]))
              refine Gl.st (fun _ kq => XS.ifYes X160.here hx rfl (pc0 := 361) (pc' := 372) rfl (hb hby at_361) rfl ((if0 _ _).trans (teq ((by decide) : (0 : Int32) = (0 : Int32))).1) (by decide) (by decide) kq) ?_
              show Gl p.tables e below _ (T160.setTop (mkF m 372 #[.val (.int sel), .val (.int pos), .val (.int ch), .val (.long aq), .second, .val (.long bq), .second, .val (.int (sel &&& (3 : Int32))), .val (.ref sb), .val (.ref b1), .val (.int (((sel.toUInt32 >>> ((2 : Int32) &&& 31).toUInt32).toInt32) &&& (3 : Int32))), .val (.int nn), .val (.ref v117), .val (.ref uk2), .unset] []))
              refine Gl.st (fun _ kq => XS.aload X160.here hx rfl (hb hby at_372) rfl rfl kq) ?_
              show Gl p.tables e below _ (T160.setTop (mkF m 374 #[.val (.int sel), .val (.int pos), .val (.int ch), .val (.long aq), .second, .val (.long bq), .second, .val (.int (sel &&& (3 : Int32))), .val (.ref sb), .val (.ref b1), .val (.int (((sel.toUInt32 >>> ((2 : Int32) &&& 31).toUInt32).toInt32) &&& (3 : Int32))), .val (.int nn), .val (.ref v117), .val (.ref uk2), .unset] [(.ref v117)]))
              obtain ⟨b161, T161, h161, k161, t161, kc161, X161, e161, E161, S161, q161, hZ161, ho161, A161, F161, G161, V161, la161, lb161, R161, L161, sa161, st161⟩ := ldcCH X160 hx hZ153 ho153 (tw hw 110 rfl) (strW hw) e160 S153 q153 (elW hw) (by decide) C154.1 (vs := [(.int 111), (.int 98), (.int 106), (.int 101), (.int 99), (.int 116)]) (z := (6 : Int32)) (litc_110) (by decide) (by decide) (g := (mkF m 374 #[.val (.int sel), .val (.int pos), .val (.int ch), .val (.long aq), .second, .val (.long bq), .second, .val (.int (sel &&& (3 : Int32))), .val (.ref sb), .val (.ref b1), .val (.int (((sel.toUInt32 >>> ((2 : Int32) &&& 31).toUInt32).toInt32) &&& (3 : Int32))), .val (.int nn), .val (.ref v117), .val (.ref uk2), .unset] [(.ref v117)])) rfl (hb hby at_374) (n := 24) (by decide) (by decide) (by decide) (by decide)
              refine Gl.st st161 ?_
              have C162 : CHr Z consts_1 s.vm h0 T161.vm h161 := C154.trans R161
              have V161 : Arv Z h161 t161 kc161 .byte (Int32.ofNat ([111, 98, 106, 101, 99, 116] : List Int32).length) ((([111, 98, 106, 101, 99, 116] : List Int32).map (fun c => c.toInt8.toInt32)).map Value.int) (.int 0) := V161
              show Gl p.tables e below _ (T161.setTop (mkF m 376 #[.val (.int sel), .val (.int pos), .val (.int ch), .val (.long aq), .second, .val (.long bq), .second, .val (.int (sel &&& (3 : Int32))), .val (.ref sb), .val (.ref b1), .val (.int (((sel.toUInt32 >>> ((2 : Int32) &&& 31).toUInt32).toInt32) &&& (3 : Int32))), .val (.int nn), .val (.ref v117), .val (.ref uk2), .unset] [(.ref b161), (.ref v117)]))
              have f163 : Exa Z h161 v117 "java/lang/String" := (f155.ext E161)
              have f164 : Fld Z h161 v117 "java/lang/String" "value" "[B" (.ref v118) := (f156.ext E161)
              have f165 : Fld Z h161 v117 "java/lang/String" "coder" "B" (.int 0) := (f157.ext E161)
              have f166 : Arv Z h161 v118 v119 .byte (Int32.ofNat v120.length) ((v120.map (fun c => c.toInt8.toInt32)).map Value.int) (.int 0) := (f158.ext E161)
              have f167 : Old Z n0 h161 := (f159.ext E161)
              obtain ⟨cq168, kq168, q168a, q168b, q168c⟩ := isOf hZ161 e161 f163
              obtain ⟨_, _, ⟨T168, L168, k168, n168⟩, -, X168, ⟨Lc168, hQ168, l168, y168, z168⟩, st168⟩ := X161.virtualBack hx (y := (⟨"java/lang/String", "equals", "(Ljava/lang/Object;)Z"⟩ : MethodName)) (z := (⟨"java/lang/String", "equals", "(Ljava/lang/Object;)Z"⟩ : MethodName)) ho161 (mvT hZ161 (tw hw 106 rfl)) (mvT hZ161 (tw hw 98 rfl)) (notFace_of_selects (args := #[]) (mvT hZ161 (tw hw 100 rfl))) (mvT hZ161 (tw hw 100 rfl)) (mvT hZ161 (tw hw 99 rfl)) (by decide) (StrChars.Road.eqW (W := 0) hZ161 (wdEq hw) (kI := 4) (tw hw 2 rfl) f163 f164 f165 f166 (StrChars.Road.codOf (cs := v120) rfl (fun x hx => (y121_0 x hx).2)) (up255 _ y121_0) (Nat.le_trans y121_1 (by decide)) A161 G161 F161 V161 (StrChars.Road.codOf (cs := ([111, 98, 106, 101, 99, 116] : List Int32)) rfl (fun x hx => ((by decide : ∀ c ∈ ([111, 98, 106, 101, 99, 116] : List Int32), ¬ c < 0 ∧ ¬ (255 : Int32) < c) x hx).2)) (up255 _ (by decide : ∀ c ∈ ([111, 98, 106, 101, 99, 116] : List Int32), ¬ c < 0 ∧ ¬ (255 : Int32) < c)) (Nat.le_of_ble_eq_true rfl) (O2.ext f167.2) P5 (by decide) (by decide)) q168a q168c (g := (mkF m 376 #[.val (.int sel), .val (.int pos), .val (.int ch), .val (.long aq), .second, .val (.long bq), .second, .val (.int (sel &&& (3 : Int32))), .val (.ref sb), .val (.ref b1), .val (.int (((sel.toUInt32 >>> ((2 : Int32) &&& 31).toUInt32).toInt32) &&& (3 : Int32))), .val (.int nn), .val (.ref v117), .val (.ref uk2), .unset] [(.ref b161), (.ref v117)])) rfl (by rw [hml]; rfl) (Steps.refl _) (argsL := [(.ref b161)]) (rest := []) (lenOf pd__Ljava_lang_Object__Z rfl) rfl (by show 2 * 0 + _ ≤ _; exact Nat.le_of_eq rfl) (hb hby at_376) (fun _ _ => ⟨rfl, e161, (by decide : 14 + 0 ≤ _), (by decide : 159 + 0 ≤ _)⟩)
              dsimp only [Pt.U, Pt.locs, Pt.cells, Pt.slots] at X168 l168 y168 z168 st168 hQ168
              subst l168 y168 z168
              obtain ⟨⟨rfl, y168_0⟩ | ⟨rfl, y168_0⟩, rfl, e168⟩ := hQ168
              · have N168 : Fr n0 ([] : List Loc) := Fr.nil n0
                have M168 := Fr.app M160 N168
                refine Gl.to st168 ?_
                show Gl p.tables e below _ (T168.setTop (mkF m 379 #[.val (.int sel), .val (.int pos), .val (.int ch), .val (.long aq), .second, .val (.long bq), .second, .val (.int (sel &&& (3 : Int32))), .val (.ref sb), .val (.ref b1), .val (.int (((sel.toUInt32 >>> ((2 : Int32) &&& 31).toUInt32).toInt32) &&& (3 : Int32))), .val (.int nn), .val (.ref v117), .val (.ref uk2), .unset] [(.int 1)]))
                refine Gl.st (fun _ kq => XS.ifNo X168.here hx rfl (hb hby at_379) rfl ((if0 _ _).trans (feq ((by decide) : ¬ ((1 : Int32) = (0 : Int32)))).1) kq) ?_
                show Gl p.tables e below _ (T168.setTop (mkF m 382 #[.val (.int sel), .val (.int pos), .val (.int ch), .val (.long aq), .second, .val (.long bq), .second, .val (.int (sel &&& (3 : Int32))), .val (.ref sb), .val (.ref b1), .val (.int (((sel.toUInt32 >>> ((2 : Int32) &&& 31).toUInt32).toInt32) &&& (3 : Int32))), .val (.int nn), .val (.ref v117), .val (.ref uk2), .unset] []))
                obtain ⟨T169, X169, e169, st169⟩ := getS2 X168 hx hZ161 ho161 (host := "") (Or.inl (tw hw 112 rfl)) Via.refl e168 (OK2.ext f167.2) (g := (mkF m 382 #[.val (.int sel), .val (.int pos), .val (.int ch), .val (.long aq), .second, .val (.long bq), .second, .val (.int (sel &&& (3 : Int32))), .val (.ref sb), .val (.ref b1), .val (.int (((sel.toUInt32 >>> ((2 : Int32) &&& 31).toUInt32).toInt32) &&& (3 : Int32))), .val (.int nn), .val (.ref v117), .val (.ref uk2), .unset] [])) rfl (hb hby at_382)
                refine Gl.st st169 ?_
                show Gl p.tables e below _ (T169.setTop (mkF m 385 #[.val (.int sel), .val (.int pos), .val (.int ch), .val (.long aq), .second, .val (.long bq), .second, .val (.int (sel &&& (3 : Int32))), .val (.ref sb), .val (.ref b1), .val (.int (((sel.toUInt32 >>> ((2 : Int32) &&& 31).toUInt32).toInt32) &&& (3 : Int32))), .val (.int nn), .val (.ref v117), .val (.ref uk2), .unset] [(.ref uk2)]))
                refine Gl.st (fun _ kq => XS.astore X169.here hx rfl (hb hby at_385) rfl rfl (l' := #[.val (.int sel), .val (.int pos), .val (.int ch), .val (.long aq), .second, .val (.long bq), .second, .val (.int (sel &&& (3 : Int32))), .val (.ref sb), .val (.ref b1), .val (.int (((sel.toUInt32 >>> ((2 : Int32) &&& 31).toUInt32).toInt32) &&& (3 : Int32))), .val (.int nn), .val (.ref v117), .val (.ref uk2), .val (.ref uk2)]) rfl kq) ?_
                refine Gl.st (fun _ kq => XS.goto X169.here hx rfl (pc0 := 387) (pc' := 411) rfl (hb hby at_387) (by decide) (by decide) kq) ?_
                refine Gl.st (fun _ kq => XS.aload X169.here hx rfl (hb hby at_411) rfl rfl kq) ?_
                refine Gl.st (fun _ kq => XS.aload X169.here hx rfl (hb hby at_413) rfl rfl kq) ?_
                show Gl p.tables e below _ (T169.setTop (mkF m 415 #[.val (.int sel), .val (.int pos), .val (.int ch), .val (.long aq), .second, .val (.long bq), .second, .val (.int (sel &&& (3 : Int32))), .val (.ref sb), .val (.ref b1), .val (.int (((sel.toUInt32 >>> ((2 : Int32) &&& 31).toUInt32).toInt32) &&& (3 : Int32))), .val (.int nn), .val (.ref v117), .val (.ref uk2), .val (.ref uk2)] [(.ref uk2), (.ref uk2)]))
                refine Gl.st (fun _ kq => Jvm.RoadKit.acmp (g := (mkF m 415 #[.val (.int sel), .val (.int pos), .val (.int ch), .val (.long aq), .second, .val (.long bq), .second, .val (.int (sel &&& (3 : Int32))), .val (.ref sb), .val (.ref b1), .val (.int (((sel.toUInt32 >>> ((2 : Int32) &&& 31).toUInt32).toInt32) &&& (3 : Int32))), .val (.int nn), .val (.ref v117), .val (.ref uk2), .val (.ref uk2)] [(.ref uk2), (.ref uk2)])) X169 hx rfl rfl rfl (pc0 := 415) (pc' := 418) (same := true) rfl (hb hby at_415) rfl (decide_eq_true rfl) (by decide) (by decide) kq) ?_
                show Gl p.tables e below _ (T169.setTop (mkF m 418 #[.val (.int sel), .val (.int pos), .val (.int ch), .val (.long aq), .second, .val (.long bq), .second, .val (.int (sel &&& (3 : Int32))), .val (.ref sb), .val (.ref b1), .val (.int (((sel.toUInt32 >>> ((2 : Int32) &&& 31).toUInt32).toInt32) &&& (3 : Int32))), .val (.int nn), .val (.ref v117), .val (.ref uk2), .val (.ref uk2)] []))
                refine Gl.st (fun _ kq => XS.iconst X169.here hx rfl (hb hby at_418) kq) ?_
                refine Gl.st (fun _ kq => XS.goto X169.here hx rfl (pc0 := 419) (pc' := 423) rfl (hb hby at_419) (by decide) (by decide) kq) ?_
                exact Gl.retNH X169 hx S161 (Nat.le_trans q161 (Nat.le_of_eq (congrArg Array.size e169).symm)) (by rw [hh, e169]; exact C162.trans (CHv.at X169 hZ161 (elW hw) C162.1)) (t := .boolean) Bd.returns (by simp) (hb hby at_423) hlk (by decide) (by decide) (by rw [e169]; exact ⟨rfl, M168⟩)
              · exact absurd y141_0.symm y168_0
          · have C170 : CHr Z consts_1 s.vm h0 T121.vm T141.heap := C122.trans (CHr.keep K141 sf0 C122.1)
            have M141 := Fr.app M121 N141
            refine Gl.st st141 ?_
            show Gl p.tables e below _ (T141.setTop (mkF m 341 #[.val (.int sel), .val (.int pos), .val (.int ch), .val (.long aq), .second, .val (.long bq), .second, .val (.int (sel &&& (3 : Int32))), .val (.ref sb), .val (.ref b1), .val (.int (((sel.toUInt32 >>> ((2 : Int32) &&& 31).toUInt32).toInt32) &&& (3 : Int32))), .val (.int nn), .val (.ref v117), .unset, .unset] [(.ref uk3)]))
            refine Gl.st (fun _ kq => XS.astore X141.here hx rfl (hb hby at_341) rfl rfl (l' := #[.val (.int sel), .val (.int pos), .val (.int ch), .val (.long aq), .second, .val (.long bq), .second, .val (.int (sel &&& (3 : Int32))), .val (.ref sb), .val (.ref b1), .val (.int (((sel.toUInt32 >>> ((2 : Int32) &&& 31).toUInt32).toInt32) &&& (3 : Int32))), .val (.int nn), .val (.ref v117), .val (.ref uk3), .unset]) rfl kq) ?_
            refine Gl.st (fun _ kq => XS.aload X141.here hx rfl (hb hby at_343) rfl rfl kq) ?_
            show Gl p.tables e below _ (T141.setTop (mkF m 345 #[.val (.int sel), .val (.int pos), .val (.int ch), .val (.long aq), .second, .val (.long bq), .second, .val (.int (sel &&& (3 : Int32))), .val (.ref sb), .val (.ref b1), .val (.int (((sel.toUInt32 >>> ((2 : Int32) &&& 31).toUInt32).toInt32) &&& (3 : Int32))), .val (.int nn), .val (.ref v117), .val (.ref uk3), .unset] [(.ref v117)]))
            refine Gl.st (fun _ kq => XS.ifnonnullYes X141.here hx rfl (pc0 := 345) (pc' := 354) rfl (hb hby at_345) rfl (by decide) (by decide) kq) ?_
            show Gl p.tables e below _ (T141.setTop (mkF m 354 #[.val (.int sel), .val (.int pos), .val (.int ch), .val (.long aq), .second, .val (.long bq), .second, .val (.int (sel &&& (3 : Int32))), .val (.ref sb), .val (.ref b1), .val (.int (((sel.toUInt32 >>> ((2 : Int32) &&& 31).toUInt32).toInt32) &&& (3 : Int32))), .val (.int nn), .val (.ref v117), .val (.ref uk3), .unset] []))
            refine Gl.st (fun _ kq => XS.aload X141.here hx rfl (hb hby at_354) rfl rfl kq) ?_
            show Gl p.tables e below _ (T141.setTop (mkF m 356 #[.val (.int sel), .val (.int pos), .val (.int ch), .val (.long aq), .second, .val (.long bq), .second, .val (.int (sel &&& (3 : Int32))), .val (.ref sb), .val (.ref b1), .val (.int (((sel.toUInt32 >>> ((2 : Int32) &&& 31).toUInt32).toInt32) &&& (3 : Int32))), .val (.int nn), .val (.ref v117), .val (.ref uk3), .unset] [(.ref v117)]))
            obtain ⟨b171, T171, h171, k171, t171, kc171, X171, e171, E171, S171, q171, hZ171, ho171, A171, F171, G171, V171, la171, lb171, R171, L171, sa171, st171⟩ := ldcCH X141 hx hZ121 ho121 (tw hw 0 rfl) (strW hw) rfl S121 (Nat.le_trans (Nat.le_refl _) K141.1) (elW hw) (by decide) C170.1 (vs := [(.int 99), (.int 111), (.int 108), (.int 108), (.int 101), (.int 99), (.int 116), (.int 105), (.int 111), (.int 110)]) (z := (10 : Int32)) (litc_0) (by decide) (by decide) (g := (mkF m 356 #[.val (.int sel), .val (.int pos), .val (.int ch), .val (.long aq), .second, .val (.long bq), .second, .val (.int (sel &&& (3 : Int32))), .val (.ref sb), .val (.ref b1), .val (.int (((sel.toUInt32 >>> ((2 : Int32) &&& 31).toUInt32).toInt32) &&& (3 : Int32))), .val (.int nn), .val (.ref v117), .val (.ref uk3), .unset] [(.ref v117)])) rfl (hb hby at_356) (n := 40) (by decide) (by decide) (by decide) (by decide)
            refine Gl.st st171 ?_
            have C172 : CHr Z consts_1 s.vm h0 T171.vm h171 := C170.trans R171
            have V171 : Arv Z h171 t171 kc171 .byte (Int32.ofNat ([99, 111, 108, 108, 101, 99, 116, 105, 111, 110] : List Int32).length) ((([99, 111, 108, 108, 101, 99, 116, 105, 111, 110] : List Int32).map (fun c => c.toInt8.toInt32)).map Value.int) (.int 0) := V171
            show Gl p.tables e below _ (T171.setTop (mkF m 358 #[.val (.int sel), .val (.int pos), .val (.int ch), .val (.long aq), .second, .val (.long bq), .second, .val (.int (sel &&& (3 : Int32))), .val (.ref sb), .val (.ref b1), .val (.int (((sel.toUInt32 >>> ((2 : Int32) &&& 31).toUInt32).toInt32) &&& (3 : Int32))), .val (.int nn), .val (.ref v117), .val (.ref uk3), .unset] [(.ref b171), (.ref v117)]))
            have f173 : Exa Z h171 v117 "java/lang/String" := ((q121_0.keep K141).ext E171)
            have f174 : Fld Z h171 v117 "java/lang/String" "value" "[B" (.ref v118) := ((q121_2.keep K141 nin0).ext E171)
            have f175 : Fld Z h171 v117 "java/lang/String" "coder" "B" (.int 0) := ((q121_1.keep K141 nin0).ext E171)
            have f176 : Arv Z h171 v118 v119 .byte (Int32.ofNat v120.length) ((v120.map (fun c => c.toInt8.toInt32)).map Value.int) (.int 0) := ((q121_3.keep K141 nin0).ext E171)
            have f177 : Old Z n0 h171 := ((f140.keep K141 all0).ext E171)
            obtain ⟨cq178, kq178, q178a, q178b, q178c⟩ := isOf hZ171 e171 f173
            obtain ⟨_, _, ⟨T178, L178, k178, n178⟩, -, X178, ⟨Lc178, hQ178, l178, y178, z178⟩, st178⟩ := X171.virtualBack hx (y := (⟨"java/lang/String", "equals", "(Ljava/lang/Object;)Z"⟩ : MethodName)) (z := (⟨"java/lang/String", "equals", "(Ljava/lang/Object;)Z"⟩ : MethodName)) ho171 (mvT hZ171 (tw hw 106 rfl)) (mvT hZ171 (tw hw 98 rfl)) (notFace_of_selects (args := #[]) (mvT hZ171 (tw hw 100 rfl))) (mvT hZ171 (tw hw 100 rfl)) (mvT hZ171 (tw hw 99 rfl)) (by decide) (StrChars.Road.eqW (W := 0) hZ171 (wdEq hw) (kI := 4) (tw hw 2 rfl) f173 f174 f175 f176 (StrChars.Road.codOf (cs := v120) rfl (fun x hx => (y121_0 x hx).2)) (up255 _ y121_0) (Nat.le_trans y121_1 (by decide)) A171 G171 F171 V171 (StrChars.Road.codOf (cs := ([99, 111, 108, 108, 101, 99, 116, 105, 111, 110] : List Int32)) rfl (fun x hx => ((by decide : ∀ c ∈ ([99, 111, 108, 108, 101, 99, 116, 105, 111, 110] : List Int32), ¬ c < 0 ∧ ¬ (255 : Int32) < c) x hx).2)) (up255 _ (by decide : ∀ c ∈ ([99, 111, 108, 108, 101, 99, 116, 105, 111, 110] : List Int32), ¬ c < 0 ∧ ¬ (255 : Int32) < c)) (Nat.le_of_ble_eq_true rfl) (O2.ext f177.2) P5 (by decide) (by decide)) q178a q178c (g := (mkF m 358 #[.val (.int sel), .val (.int pos), .val (.int ch), .val (.long aq), .second, .val (.long bq), .second, .val (.int (sel &&& (3 : Int32))), .val (.ref sb), .val (.ref b1), .val (.int (((sel.toUInt32 >>> ((2 : Int32) &&& 31).toUInt32).toInt32) &&& (3 : Int32))), .val (.int nn), .val (.ref v117), .val (.ref uk3), .unset] [(.ref b171), (.ref v117)])) rfl (by rw [hml]; rfl) (Steps.refl _) (argsL := [(.ref b171)]) (rest := []) (lenOf pd__Ljava_lang_Object__Z rfl) rfl (by show 2 * 0 + _ ≤ _; exact Nat.le_of_eq rfl) (hb hby at_358) (fun _ _ => ⟨rfl, e171, (by decide : 12 + 0 ≤ _), (by decide : 131 + 0 ≤ _)⟩)
            dsimp only [Pt.U, Pt.locs, Pt.cells, Pt.slots] at X178 l178 y178 z178 st178 hQ178
            subst l178 y178 z178
            obtain ⟨⟨rfl, y178_0⟩ | ⟨rfl, y178_0⟩, rfl, e178⟩ := hQ178
            · exact absurd (y141_0.trans y178_0.symm.symm) (by decide)
            · have N178 : Fr n0 ([] : List Loc) := Fr.nil n0
              have M178 := Fr.app M141 N178
              refine Gl.to st178 ?_
              show Gl p.tables e below _ (T178.setTop (mkF m 361 #[.val (.int sel), .val (.int pos), .val (.int ch), .val (.long aq), .second, .val (.long bq), .second, .val (.int (sel &&& (3 : Int32))), .val (.ref sb), .val (.ref b1), .val (.int (((sel.toUInt32 >>> ((2 : Int32) &&& 31).toUInt32).toInt32) &&& (3 : Int32))), .val (.int nn), .val (.ref v117), .val (.ref uk3), .unset] [(.int 0)]))
              refine Gl.st (fun _ kq => XS.ifYes X178.here hx rfl (pc0 := 361) (pc' := 372) rfl (hb hby at_361) rfl ((if0 _ _).trans (teq ((by decide) : (0 : Int32) = (0 : Int32))).1) (by decide) (by decide) kq) ?_
              show Gl p.tables e below _ (T178.setTop (mkF m 372 #[.val (.int sel), .val (.int pos), .val (.int ch), .val (.long aq), .second, .val (.long bq), .second, .val (.int (sel &&& (3 : Int32))), .val (.ref sb), .val (.ref b1), .val (.int (((sel.toUInt32 >>> ((2 : Int32) &&& 31).toUInt32).toInt32) &&& (3 : Int32))), .val (.int nn), .val (.ref v117), .val (.ref uk3), .unset] []))
              refine Gl.st (fun _ kq => XS.aload X178.here hx rfl (hb hby at_372) rfl rfl kq) ?_
              show Gl p.tables e below _ (T178.setTop (mkF m 374 #[.val (.int sel), .val (.int pos), .val (.int ch), .val (.long aq), .second, .val (.long bq), .second, .val (.int (sel &&& (3 : Int32))), .val (.ref sb), .val (.ref b1), .val (.int (((sel.toUInt32 >>> ((2 : Int32) &&& 31).toUInt32).toInt32) &&& (3 : Int32))), .val (.int nn), .val (.ref v117), .val (.ref uk3), .unset] [(.ref v117)]))
              obtain ⟨b179, T179, h179, k179, t179, kc179, X179, e179, E179, S179, q179, hZ179, ho179, A179, F179, G179, V179, la179, lb179, R179, L179, sa179, st179⟩ := ldcCH X178 hx hZ171 ho171 (tw hw 110 rfl) (strW hw) e178 S171 q171 (elW hw) (by decide) C172.1 (vs := [(.int 111), (.int 98), (.int 106), (.int 101), (.int 99), (.int 116)]) (z := (6 : Int32)) (litc_110) (by decide) (by decide) (g := (mkF m 374 #[.val (.int sel), .val (.int pos), .val (.int ch), .val (.long aq), .second, .val (.long bq), .second, .val (.int (sel &&& (3 : Int32))), .val (.ref sb), .val (.ref b1), .val (.int (((sel.toUInt32 >>> ((2 : Int32) &&& 31).toUInt32).toInt32) &&& (3 : Int32))), .val (.int nn), .val (.ref v117), .val (.ref uk3), .unset] [(.ref v117)])) rfl (hb hby at_374) (n := 24) (by decide) (by decide) (by decide) (by decide)
              refine Gl.st st179 ?_
              have C180 : CHr Z consts_1 s.vm h0 T179.vm h179 := C172.trans R179
              have V179 : Arv Z h179 t179 kc179 .byte (Int32.ofNat ([111, 98, 106, 101, 99, 116] : List Int32).length) ((([111, 98, 106, 101, 99, 116] : List Int32).map (fun c => c.toInt8.toInt32)).map Value.int) (.int 0) := V179
              show Gl p.tables e below _ (T179.setTop (mkF m 376 #[.val (.int sel), .val (.int pos), .val (.int ch), .val (.long aq), .second, .val (.long bq), .second, .val (.int (sel &&& (3 : Int32))), .val (.ref sb), .val (.ref b1), .val (.int (((sel.toUInt32 >>> ((2 : Int32) &&& 31).toUInt32).toInt32) &&& (3 : Int32))), .val (.int nn), .val (.ref v117), .val (.ref uk3), .unset] [(.ref b179), (.ref v117)]))
              have f181 : Exa Z h179 v117 "java/lang/String" := (f173.ext E179)
              have f182 : Fld Z h179 v117 "java/lang/String" "value" "[B" (.ref v118) := (f174.ext E179)
              have f183 : Fld Z h179 v117 "java/lang/String" "coder" "B" (.int 0) := (f175.ext E179)
              have f184 : Arv Z h179 v118 v119 .byte (Int32.ofNat v120.length) ((v120.map (fun c => c.toInt8.toInt32)).map Value.int) (.int 0) := (f176.ext E179)
              have f185 : Old Z n0 h179 := (f177.ext E179)
              obtain ⟨cq186, kq186, q186a, q186b, q186c⟩ := isOf hZ179 e179 f181
              obtain ⟨_, _, ⟨T186, L186, k186, n186⟩, -, X186, ⟨Lc186, hQ186, l186, y186, z186⟩, st186⟩ := X179.virtualBack hx (y := (⟨"java/lang/String", "equals", "(Ljava/lang/Object;)Z"⟩ : MethodName)) (z := (⟨"java/lang/String", "equals", "(Ljava/lang/Object;)Z"⟩ : MethodName)) ho179 (mvT hZ179 (tw hw 106 rfl)) (mvT hZ179 (tw hw 98 rfl)) (notFace_of_selects (args := #[]) (mvT hZ179 (tw hw 100 rfl))) (mvT hZ179 (tw hw 100 rfl)) (mvT hZ179 (tw hw 99 rfl)) (by decide) (StrChars.Road.eqW (W := 0) hZ179 (wdEq hw) (kI := 4) (tw hw 2 rfl) f181 f182 f183 f184 (StrChars.Road.codOf (cs := v120) rfl (fun x hx => (y121_0 x hx).2)) (up255 _ y121_0) (Nat.le_trans y121_1 (by decide)) A179 G179 F179 V179 (StrChars.Road.codOf (cs := ([111, 98, 106, 101, 99, 116] : List Int32)) rfl (fun x hx => ((by decide : ∀ c ∈ ([111, 98, 106, 101, 99, 116] : List Int32), ¬ c < 0 ∧ ¬ (255 : Int32) < c) x hx).2)) (up255 _ (by decide : ∀ c ∈ ([111, 98, 106, 101, 99, 116] : List Int32), ¬ c < 0 ∧ ¬ (255 : Int32) < c)) (Nat.le_of_ble_eq_true rfl) (O2.ext f185.2) P5 (by decide) (by decide)) q186a q186c (g := (mkF m 376 #[.val (.int sel), .val (.int pos), .val (.int ch), .val (.long aq), .second, .val (.long bq), .second, .val (.int (sel &&& (3 : Int32))), .val (.ref sb), .val (.ref b1), .val (.int (((sel.toUInt32 >>> ((2 : Int32) &&& 31).toUInt32).toInt32) &&& (3 : Int32))), .val (.int nn), .val (.ref v117), .val (.ref uk3), .unset] [(.ref b179), (.ref v117)])) rfl (by rw [hml]; rfl) (Steps.refl _) (argsL := [(.ref b179)]) (rest := []) (lenOf pd__Ljava_lang_Object__Z rfl) rfl (by show 2 * 0 + _ ≤ _; exact Nat.le_of_eq rfl) (hb hby at_376) (fun _ _ => ⟨rfl, e179, (by decide : 14 + 0 ≤ _), (by decide : 159 + 0 ≤ _)⟩)
              dsimp only [Pt.U, Pt.locs, Pt.cells, Pt.slots] at X186 l186 y186 z186 st186 hQ186
              subst l186 y186 z186
              obtain ⟨⟨rfl, y186_0⟩ | ⟨rfl, y186_0⟩, rfl, e186⟩ := hQ186
              · exact absurd (y141_0.trans y186_0.symm.symm) (by decide)
              · have N186 : Fr n0 ([] : List Loc) := Fr.nil n0
                have M186 := Fr.app M178 N186
                refine Gl.to st186 ?_
                show Gl p.tables e below _ (T186.setTop (mkF m 379 #[.val (.int sel), .val (.int pos), .val (.int ch), .val (.long aq), .second, .val (.long bq), .second, .val (.int (sel &&& (3 : Int32))), .val (.ref sb), .val (.ref b1), .val (.int (((sel.toUInt32 >>> ((2 : Int32) &&& 31).toUInt32).toInt32) &&& (3 : Int32))), .val (.int nn), .val (.ref v117), .val (.ref uk3), .unset] [(.int 0)]))
                refine Gl.st (fun _ kq => XS.ifYes X186.here hx rfl (pc0 := 379) (pc' := 390) rfl (hb hby at_379) rfl ((if0 _ _).trans (teq ((by decide) : (0 : Int32) = (0 : Int32))).1) (by decide) (by decide) kq) ?_
                show Gl p.tables e below _ (T186.setTop (mkF m 390 #[.val (.int sel), .val (.int pos), .val (.int ch), .val (.long aq), .second, .val (.long bq), .second, .val (.int (sel &&& (3 : Int32))), .val (.ref sb), .val (.ref b1), .val (.int (((sel.toUInt32 >>> ((2 : Int32) &&& 31).toUInt32).toInt32) &&& (3 : Int32))), .val (.int nn), .val (.ref v117), .val (.ref uk3), .unset] []))
                refine Gl.st (fun _ kq => XS.aload X186.here hx rfl (hb hby at_390) rfl rfl kq) ?_
                show Gl p.tables e below _ (T186.setTop (mkF m 392 #[.val (.int sel), .val (.int pos), .val (.int ch), .val (.long aq), .second, .val (.long bq), .second, .val (.int (sel &&& (3 : Int32))), .val (.ref sb), .val (.ref b1), .val (.int (((sel.toUInt32 >>> ((2 : Int32) &&& 31).toUInt32).toInt32) &&& (3 : Int32))), .val (.int nn), .val (.ref v117), .val (.ref uk3), .unset] [(.ref v117)]))
                obtain ⟨b187, T187, h187, k187, t187, kc187, X187, e187, E187, S187, q187, hZ187, ho187, A187, F187, G187, V187, la187, lb187, R187, L187, sa187, st187⟩ := ldcCH X186 hx hZ179 ho179 (tw hw 111 rfl) (strW hw) e186 S179 q179 (elW hw) (by decide) C180.1 (vs := [(.int 100), (.int 97), (.int 116), (.int 97), (.int 115), (.int 101), (.int 116)]) (z := (7 : Int32)) (litc_111) (by decide) (by decide) (g := (mkF m 392 #[.val (.int sel), .val (.int pos), .val (.int ch), .val (.long aq), .second, .val (.long bq), .second, .val (.int (sel &&& (3 : Int32))), .val (.ref sb), .val (.ref b1), .val (.int (((sel.toUInt32 >>> ((2 : Int32) &&& 31).toUInt32).toInt32) &&& (3 : Int32))), .val (.int nn), .val (.ref v117), .val (.ref uk3), .unset] [(.ref v117)])) rfl (hb hby at_392) (n := 28) (by decide) (by decide) (by decide) (by decide)
                refine Gl.st st187 ?_
                have C188 : CHr Z consts_1 s.vm h0 T187.vm h187 := C180.trans R187
                have V187 : Arv Z h187 t187 kc187 .byte (Int32.ofNat ([100, 97, 116, 97, 115, 101, 116] : List Int32).length) ((([100, 97, 116, 97, 115, 101, 116] : List Int32).map (fun c => c.toInt8.toInt32)).map Value.int) (.int 0) := V187
                show Gl p.tables e below _ (T187.setTop (mkF m 394 #[.val (.int sel), .val (.int pos), .val (.int ch), .val (.long aq), .second, .val (.long bq), .second, .val (.int (sel &&& (3 : Int32))), .val (.ref sb), .val (.ref b1), .val (.int (((sel.toUInt32 >>> ((2 : Int32) &&& 31).toUInt32).toInt32) &&& (3 : Int32))), .val (.int nn), .val (.ref v117), .val (.ref uk3), .unset] [(.ref b187), (.ref v117)]))
                have f189 : Exa Z h187 v117 "java/lang/String" := (f181.ext E187)
                have f190 : Fld Z h187 v117 "java/lang/String" "value" "[B" (.ref v118) := (f182.ext E187)
                have f191 : Fld Z h187 v117 "java/lang/String" "coder" "B" (.int 0) := (f183.ext E187)
                have f192 : Arv Z h187 v118 v119 .byte (Int32.ofNat v120.length) ((v120.map (fun c => c.toInt8.toInt32)).map Value.int) (.int 0) := (f184.ext E187)
                have f193 : Old Z n0 h187 := (f185.ext E187)
                obtain ⟨cq194, kq194, q194a, q194b, q194c⟩ := isOf hZ187 e187 f189
                obtain ⟨_, _, ⟨T194, L194, k194, n194⟩, -, X194, ⟨Lc194, hQ194, l194, y194, z194⟩, st194⟩ := X187.virtualBack hx (y := (⟨"java/lang/String", "equals", "(Ljava/lang/Object;)Z"⟩ : MethodName)) (z := (⟨"java/lang/String", "equals", "(Ljava/lang/Object;)Z"⟩ : MethodName)) ho187 (mvT hZ187 (tw hw 106 rfl)) (mvT hZ187 (tw hw 98 rfl)) (notFace_of_selects (args := #[]) (mvT hZ187 (tw hw 100 rfl))) (mvT hZ187 (tw hw 100 rfl)) (mvT hZ187 (tw hw 99 rfl)) (by decide) (StrChars.Road.eqW (W := 0) hZ187 (wdEq hw) (kI := 4) (tw hw 2 rfl) f189 f190 f191 f192 (StrChars.Road.codOf (cs := v120) rfl (fun x hx => (y121_0 x hx).2)) (up255 _ y121_0) (Nat.le_trans y121_1 (by decide)) A187 G187 F187 V187 (StrChars.Road.codOf (cs := ([100, 97, 116, 97, 115, 101, 116] : List Int32)) rfl (fun x hx => ((by decide : ∀ c ∈ ([100, 97, 116, 97, 115, 101, 116] : List Int32), ¬ c < 0 ∧ ¬ (255 : Int32) < c) x hx).2)) (up255 _ (by decide : ∀ c ∈ ([100, 97, 116, 97, 115, 101, 116] : List Int32), ¬ c < 0 ∧ ¬ (255 : Int32) < c)) (Nat.le_of_ble_eq_true rfl) (O2.ext f193.2) P5 (by decide) (by decide)) q194a q194c (g := (mkF m 394 #[.val (.int sel), .val (.int pos), .val (.int ch), .val (.long aq), .second, .val (.long bq), .second, .val (.int (sel &&& (3 : Int32))), .val (.ref sb), .val (.ref b1), .val (.int (((sel.toUInt32 >>> ((2 : Int32) &&& 31).toUInt32).toInt32) &&& (3 : Int32))), .val (.int nn), .val (.ref v117), .val (.ref uk3), .unset] [(.ref b187), (.ref v117)])) rfl (by rw [hml]; rfl) (Steps.refl _) (argsL := [(.ref b187)]) (rest := []) (lenOf pd__Ljava_lang_Object__Z rfl) rfl (by show 2 * 0 + _ ≤ _; exact Nat.le_of_eq rfl) (hb hby at_394) (fun _ _ => ⟨rfl, e187, (by decide : 16 + 0 ≤ _), (by decide : 191 + 0 ≤ _)⟩)
                dsimp only [Pt.U, Pt.locs, Pt.cells, Pt.slots] at X194 l194 y194 z194 st194 hQ194
                subst l194 y194 z194
                obtain ⟨⟨rfl, y194_0⟩ | ⟨rfl, y194_0⟩, rfl, e194⟩ := hQ194
                · have N194 : Fr n0 ([] : List Loc) := Fr.nil n0
                  have M194 := Fr.app M186 N194
                  refine Gl.to st194 ?_
                  show Gl p.tables e below _ (T194.setTop (mkF m 397 #[.val (.int sel), .val (.int pos), .val (.int ch), .val (.long aq), .second, .val (.long bq), .second, .val (.int (sel &&& (3 : Int32))), .val (.ref sb), .val (.ref b1), .val (.int (((sel.toUInt32 >>> ((2 : Int32) &&& 31).toUInt32).toInt32) &&& (3 : Int32))), .val (.int nn), .val (.ref v117), .val (.ref uk3), .unset] [(.int 1)]))
                  refine Gl.st (fun _ kq => XS.ifNo X194.here hx rfl (hb hby at_397) rfl ((if0 _ _).trans (feq ((by decide) : ¬ ((1 : Int32) = (0 : Int32)))).1) kq) ?_
                  show Gl p.tables e below _ (T194.setTop (mkF m 400 #[.val (.int sel), .val (.int pos), .val (.int ch), .val (.long aq), .second, .val (.long bq), .second, .val (.int (sel &&& (3 : Int32))), .val (.ref sb), .val (.ref b1), .val (.int (((sel.toUInt32 >>> ((2 : Int32) &&& 31).toUInt32).toInt32) &&& (3 : Int32))), .val (.int nn), .val (.ref v117), .val (.ref uk3), .unset] []))
                  obtain ⟨T195, X195, e195, st195⟩ := getS2 X194 hx hZ187 ho187 (host := "") (Or.inl (tw hw 113 rfl)) Via.refl e194 (OK3.ext f193.2) (g := (mkF m 400 #[.val (.int sel), .val (.int pos), .val (.int ch), .val (.long aq), .second, .val (.long bq), .second, .val (.int (sel &&& (3 : Int32))), .val (.ref sb), .val (.ref b1), .val (.int (((sel.toUInt32 >>> ((2 : Int32) &&& 31).toUInt32).toInt32) &&& (3 : Int32))), .val (.int nn), .val (.ref v117), .val (.ref uk3), .unset] [])) rfl (hb hby at_400)
                  refine Gl.st st195 ?_
                  show Gl p.tables e below _ (T195.setTop (mkF m 403 #[.val (.int sel), .val (.int pos), .val (.int ch), .val (.long aq), .second, .val (.long bq), .second, .val (.int (sel &&& (3 : Int32))), .val (.ref sb), .val (.ref b1), .val (.int (((sel.toUInt32 >>> ((2 : Int32) &&& 31).toUInt32).toInt32) &&& (3 : Int32))), .val (.int nn), .val (.ref v117), .val (.ref uk3), .unset] [(.ref uk3)]))
                  refine Gl.st (fun _ kq => XS.astore X195.here hx rfl (hb hby at_403) rfl rfl (l' := #[.val (.int sel), .val (.int pos), .val (.int ch), .val (.long aq), .second, .val (.long bq), .second, .val (.int (sel &&& (3 : Int32))), .val (.ref sb), .val (.ref b1), .val (.int (((sel.toUInt32 >>> ((2 : Int32) &&& 31).toUInt32).toInt32) &&& (3 : Int32))), .val (.int nn), .val (.ref v117), .val (.ref uk3), .val (.ref uk3)]) rfl kq) ?_
                  refine Gl.st (fun _ kq => XS.goto X195.here hx rfl (pc0 := 405) (pc' := 411) rfl (hb hby at_405) (by decide) (by decide) kq) ?_
                  refine Gl.st (fun _ kq => XS.aload X195.here hx rfl (hb hby at_411) rfl rfl kq) ?_
                  refine Gl.st (fun _ kq => XS.aload X195.here hx rfl (hb hby at_413) rfl rfl kq) ?_
                  show Gl p.tables e below _ (T195.setTop (mkF m 415 #[.val (.int sel), .val (.int pos), .val (.int ch), .val (.long aq), .second, .val (.long bq), .second, .val (.int (sel &&& (3 : Int32))), .val (.ref sb), .val (.ref b1), .val (.int (((sel.toUInt32 >>> ((2 : Int32) &&& 31).toUInt32).toInt32) &&& (3 : Int32))), .val (.int nn), .val (.ref v117), .val (.ref uk3), .val (.ref uk3)] [(.ref uk3), (.ref uk3)]))
                  refine Gl.st (fun _ kq => Jvm.RoadKit.acmp (g := (mkF m 415 #[.val (.int sel), .val (.int pos), .val (.int ch), .val (.long aq), .second, .val (.long bq), .second, .val (.int (sel &&& (3 : Int32))), .val (.ref sb), .val (.ref b1), .val (.int (((sel.toUInt32 >>> ((2 : Int32) &&& 31).toUInt32).toInt32) &&& (3 : Int32))), .val (.int nn), .val (.ref v117), .val (.ref uk3), .val (.ref uk3)] [(.ref uk3), (.ref uk3)])) X195 hx rfl rfl rfl (pc0 := 415) (pc' := 418) (same := true) rfl (hb hby at_415) rfl (decide_eq_true rfl) (by decide) (by decide) kq) ?_
                  show Gl p.tables e below _ (T195.setTop (mkF m 418 #[.val (.int sel), .val (.int pos), .val (.int ch), .val (.long aq), .second, .val (.long bq), .second, .val (.int (sel &&& (3 : Int32))), .val (.ref sb), .val (.ref b1), .val (.int (((sel.toUInt32 >>> ((2 : Int32) &&& 31).toUInt32).toInt32) &&& (3 : Int32))), .val (.int nn), .val (.ref v117), .val (.ref uk3), .val (.ref uk3)] []))
                  refine Gl.st (fun _ kq => XS.iconst X195.here hx rfl (hb hby at_418) kq) ?_
                  refine Gl.st (fun _ kq => XS.goto X195.here hx rfl (pc0 := 419) (pc' := 423) rfl (hb hby at_419) (by decide) (by decide) kq) ?_
                  exact Gl.retNH X195 hx S187 (Nat.le_trans q187 (Nat.le_of_eq (congrArg Array.size e195).symm)) (by rw [hh, e195]; exact C188.trans (CHv.at X195 hZ187 (elW hw) C188.1)) (t := .boolean) Bd.returns (by simp) (hb hby at_423) hlk (by decide) (by decide) (by rw [e195]; exact ⟨rfl, M194⟩)
                · exact absurd y141_0.symm y194_0
          · have C196 : CHr Z consts_1 s.vm h0 T121.vm T141.heap := C122.trans (CHr.keep K141 sf0 C122.1)
            have M141 := Fr.app M121 N141
            refine Gl.st st141 ?_
            show Gl p.tables e below _ (T141.setTop (mkF m 341 #[.val (.int sel), .val (.int pos), .val (.int ch), .val (.long aq), .second, .val (.long bq), .second, .val (.int (sel &&& (3 : Int32))), .val (.ref sb), .val (.ref b1), .val (.int (((sel.toUInt32 >>> ((2 : Int32) &&& 31).toUInt32).toInt32) &&& (3 : Int32))), .val (.int nn), .val (.ref v117), .unset, .unset] [.null]))
            refine Gl.st (fun _ kq => XS.astore X141.here hx rfl (hb hby at_341) rfl rfl (l' := #[.val (.int sel), .val (.int pos), .val (.int ch), .val (.long aq), .second, .val (.long bq), .second, .val (.int (sel &&& (3 : Int32))), .val (.ref sb), .val (.ref b1), .val (.int (((sel.toUInt32 >>> ((2 : Int32) &&& 31).toUInt32).toInt32) &&& (3 : Int32))), .val (.int nn), .val (.ref v117), .val .null, .unset]) rfl kq) ?_
            refine Gl.st (fun _ kq => XS.aload X141.here hx rfl (hb hby at_343) rfl rfl kq) ?_
            show Gl p.tables e below _ (T141.setTop (mkF m 345 #[.val (.int sel), .val (.int pos), .val (.int ch), .val (.long aq), .second, .val (.long bq), .second, .val (.int (sel &&& (3 : Int32))), .val (.ref sb), .val (.ref b1), .val (.int (((sel.toUInt32 >>> ((2 : Int32) &&& 31).toUInt32).toInt32) &&& (3 : Int32))), .val (.int nn), .val (.ref v117), .val .null, .unset] [(.ref v117)]))
            refine Gl.st (fun _ kq => XS.ifnonnullYes X141.here hx rfl (pc0 := 345) (pc' := 354) rfl (hb hby at_345) rfl (by decide) (by decide) kq) ?_
            show Gl p.tables e below _ (T141.setTop (mkF m 354 #[.val (.int sel), .val (.int pos), .val (.int ch), .val (.long aq), .second, .val (.long bq), .second, .val (.int (sel &&& (3 : Int32))), .val (.ref sb), .val (.ref b1), .val (.int (((sel.toUInt32 >>> ((2 : Int32) &&& 31).toUInt32).toInt32) &&& (3 : Int32))), .val (.int nn), .val (.ref v117), .val .null, .unset] []))
            refine Gl.st (fun _ kq => XS.aload X141.here hx rfl (hb hby at_354) rfl rfl kq) ?_
            show Gl p.tables e below _ (T141.setTop (mkF m 356 #[.val (.int sel), .val (.int pos), .val (.int ch), .val (.long aq), .second, .val (.long bq), .second, .val (.int (sel &&& (3 : Int32))), .val (.ref sb), .val (.ref b1), .val (.int (((sel.toUInt32 >>> ((2 : Int32) &&& 31).toUInt32).toInt32) &&& (3 : Int32))), .val (.int nn), .val (.ref v117), .val .null, .unset] [(.ref v117)]))
            obtain ⟨b197, T197, h197, k197, t197, kc197, X197, e197, E197, S197, q197, hZ197, ho197, A197, F197, G197, V197, la197, lb197, R197, L197, sa197, st197⟩ := ldcCH X141 hx hZ121 ho121 (tw hw 0 rfl) (strW hw) rfl S121 (Nat.le_trans (Nat.le_refl _) K141.1) (elW hw) (by decide) C196.1 (vs := [(.int 99), (.int 111), (.int 108), (.int 108), (.int 101), (.int 99), (.int 116), (.int 105), (.int 111), (.int 110)]) (z := (10 : Int32)) (litc_0) (by decide) (by decide) (g := (mkF m 356 #[.val (.int sel), .val (.int pos), .val (.int ch), .val (.long aq), .second, .val (.long bq), .second, .val (.int (sel &&& (3 : Int32))), .val (.ref sb), .val (.ref b1), .val (.int (((sel.toUInt32 >>> ((2 : Int32) &&& 31).toUInt32).toInt32) &&& (3 : Int32))), .val (.int nn), .val (.ref v117), .val .null, .unset] [(.ref v117)])) rfl (hb hby at_356) (n := 40) (by decide) (by decide) (by decide) (by decide)
            refine Gl.st st197 ?_
            have C198 : CHr Z consts_1 s.vm h0 T197.vm h197 := C196.trans R197
            have V197 : Arv Z h197 t197 kc197 .byte (Int32.ofNat ([99, 111, 108, 108, 101, 99, 116, 105, 111, 110] : List Int32).length) ((([99, 111, 108, 108, 101, 99, 116, 105, 111, 110] : List Int32).map (fun c => c.toInt8.toInt32)).map Value.int) (.int 0) := V197
            show Gl p.tables e below _ (T197.setTop (mkF m 358 #[.val (.int sel), .val (.int pos), .val (.int ch), .val (.long aq), .second, .val (.long bq), .second, .val (.int (sel &&& (3 : Int32))), .val (.ref sb), .val (.ref b1), .val (.int (((sel.toUInt32 >>> ((2 : Int32) &&& 31).toUInt32).toInt32) &&& (3 : Int32))), .val (.int nn), .val (.ref v117), .val .null, .unset] [(.ref b197), (.ref v117)]))
            have f199 : Exa Z h197 v117 "java/lang/String" := ((q121_0.keep K141).ext E197)
            have f200 : Fld Z h197 v117 "java/lang/String" "value" "[B" (.ref v118) := ((q121_2.keep K141 nin0).ext E197)
            have f201 : Fld Z h197 v117 "java/lang/String" "coder" "B" (.int 0) := ((q121_1.keep K141 nin0).ext E197)
            have f202 : Arv Z h197 v118 v119 .byte (Int32.ofNat v120.length) ((v120.map (fun c => c.toInt8.toInt32)).map Value.int) (.int 0) := ((q121_3.keep K141 nin0).ext E197)
            have f203 : Old Z n0 h197 := ((f140.keep K141 all0).ext E197)
            obtain ⟨cq204, kq204, q204a, q204b, q204c⟩ := isOf hZ197 e197 f199
            obtain ⟨_, _, ⟨T204, L204, k204, n204⟩, -, X204, ⟨Lc204, hQ204, l204, y204, z204⟩, st204⟩ := X197.virtualBack hx (y := (⟨"java/lang/String", "equals", "(Ljava/lang/Object;)Z"⟩ : MethodName)) (z := (⟨"java/lang/String", "equals", "(Ljava/lang/Object;)Z"⟩ : MethodName)) ho197 (mvT hZ197 (tw hw 106 rfl)) (mvT hZ197 (tw hw 98 rfl)) (notFace_of_selects (args := #[]) (mvT hZ197 (tw hw 100 rfl))) (mvT hZ197 (tw hw 100 rfl)) (mvT hZ197 (tw hw 99 rfl)) (by decide) (StrChars.Road.eqW (W := 0) hZ197 (wdEq hw) (kI := 4) (tw hw 2 rfl) f199 f200 f201 f202 (StrChars.Road.codOf (cs := v120) rfl (fun x hx => (y121_0 x hx).2)) (up255 _ y121_0) (Nat.le_trans y121_1 (by decide)) A197 G197 F197 V197 (StrChars.Road.codOf (cs := ([99, 111, 108, 108, 101, 99, 116, 105, 111, 110] : List Int32)) rfl (fun x hx => ((by decide : ∀ c ∈ ([99, 111, 108, 108, 101, 99, 116, 105, 111, 110] : List Int32), ¬ c < 0 ∧ ¬ (255 : Int32) < c) x hx).2)) (up255 _ (by decide : ∀ c ∈ ([99, 111, 108, 108, 101, 99, 116, 105, 111, 110] : List Int32), ¬ c < 0 ∧ ¬ (255 : Int32) < c)) (Nat.le_of_ble_eq_true rfl) (O2.ext f203.2) P5 (by decide) (by decide)) q204a q204c (g := (mkF m 358 #[.val (.int sel), .val (.int pos), .val (.int ch), .val (.long aq), .second, .val (.long bq), .second, .val (.int (sel &&& (3 : Int32))), .val (.ref sb), .val (.ref b1), .val (.int (((sel.toUInt32 >>> ((2 : Int32) &&& 31).toUInt32).toInt32) &&& (3 : Int32))), .val (.int nn), .val (.ref v117), .val .null, .unset] [(.ref b197), (.ref v117)])) rfl (by rw [hml]; rfl) (Steps.refl _) (argsL := [(.ref b197)]) (rest := []) (lenOf pd__Ljava_lang_Object__Z rfl) rfl (by show 2 * 0 + _ ≤ _; exact Nat.le_of_eq rfl) (hb hby at_358) (fun _ _ => ⟨rfl, e197, (by decide : 12 + 0 ≤ _), (by decide : 131 + 0 ≤ _)⟩)
            dsimp only [Pt.U, Pt.locs, Pt.cells, Pt.slots] at X204 l204 y204 z204 st204 hQ204
            subst l204 y204 z204
            obtain ⟨⟨rfl, y204_0⟩ | ⟨rfl, y204_0⟩, rfl, e204⟩ := hQ204
            · exact absurd y204_0.symm y141_0
            · have N204 : Fr n0 ([] : List Loc) := Fr.nil n0
              have M204 := Fr.app M141 N204
              refine Gl.to st204 ?_
              show Gl p.tables e below _ (T204.setTop (mkF m 361 #[.val (.int sel), .val (.int pos), .val (.int ch), .val (.long aq), .second, .val (.long bq), .second, .val (.int (sel &&& (3 : Int32))), .val (.ref sb), .val (.ref b1), .val (.int (((sel.toUInt32 >>> ((2 : Int32) &&& 31).toUInt32).toInt32) &&& (3 : Int32))), .val (.int nn), .val (.ref v117), .val .null, .unset] [(.int 0)]))
              refine Gl.st (fun _ kq => XS.ifYes X204.here hx rfl (pc0 := 361) (pc' := 372) rfl (hb hby at_361) rfl ((if0 _ _).trans (teq ((by decide) : (0 : Int32) = (0 : Int32))).1) (by decide) (by decide) kq) ?_
              show Gl p.tables e below _ (T204.setTop (mkF m 372 #[.val (.int sel), .val (.int pos), .val (.int ch), .val (.long aq), .second, .val (.long bq), .second, .val (.int (sel &&& (3 : Int32))), .val (.ref sb), .val (.ref b1), .val (.int (((sel.toUInt32 >>> ((2 : Int32) &&& 31).toUInt32).toInt32) &&& (3 : Int32))), .val (.int nn), .val (.ref v117), .val .null, .unset] []))
              refine Gl.st (fun _ kq => XS.aload X204.here hx rfl (hb hby at_372) rfl rfl kq) ?_
              show Gl p.tables e below _ (T204.setTop (mkF m 374 #[.val (.int sel), .val (.int pos), .val (.int ch), .val (.long aq), .second, .val (.long bq), .second, .val (.int (sel &&& (3 : Int32))), .val (.ref sb), .val (.ref b1), .val (.int (((sel.toUInt32 >>> ((2 : Int32) &&& 31).toUInt32).toInt32) &&& (3 : Int32))), .val (.int nn), .val (.ref v117), .val .null, .unset] [(.ref v117)]))
              obtain ⟨b205, T205, h205, k205, t205, kc205, X205, e205, E205, S205, q205, hZ205, ho205, A205, F205, G205, V205, la205, lb205, R205, L205, sa205, st205⟩ := ldcCH X204 hx hZ197 ho197 (tw hw 110 rfl) (strW hw) e204 S197 q197 (elW hw) (by decide) C198.1 (vs := [(.int 111), (.int 98), (.int 106), (.int 101), (.int 99), (.int 116)]) (z := (6 : Int32)) (litc_110) (by decide) (by decide) (g := (mkF m 374 #[.val (.int sel), .val (.int pos), .val (.int ch), .val (.long aq), .second, .val (.long bq), .second, .val (.int (sel &&& (3 : Int32))), .val (.ref sb), .val (.ref b1), .val (.int (((sel.toUInt32 >>> ((2 : Int32) &&& 31).toUInt32).toInt32) &&& (3 : Int32))), .val (.int nn), .val (.ref v117), .val .null, .unset] [(.ref v117)])) rfl (hb hby at_374) (n := 24) (by decide) (by decide) (by decide) (by decide)
              refine Gl.st st205 ?_
              have C206 : CHr Z consts_1 s.vm h0 T205.vm h205 := C198.trans R205
              have V205 : Arv Z h205 t205 kc205 .byte (Int32.ofNat ([111, 98, 106, 101, 99, 116] : List Int32).length) ((([111, 98, 106, 101, 99, 116] : List Int32).map (fun c => c.toInt8.toInt32)).map Value.int) (.int 0) := V205
              show Gl p.tables e below _ (T205.setTop (mkF m 376 #[.val (.int sel), .val (.int pos), .val (.int ch), .val (.long aq), .second, .val (.long bq), .second, .val (.int (sel &&& (3 : Int32))), .val (.ref sb), .val (.ref b1), .val (.int (((sel.toUInt32 >>> ((2 : Int32) &&& 31).toUInt32).toInt32) &&& (3 : Int32))), .val (.int nn), .val (.ref v117), .val .null, .unset] [(.ref b205), (.ref v117)]))
              have f207 : Exa Z h205 v117 "java/lang/String" := (f199.ext E205)
              have f208 : Fld Z h205 v117 "java/lang/String" "value" "[B" (.ref v118) := (f200.ext E205)
              have f209 : Fld Z h205 v117 "java/lang/String" "coder" "B" (.int 0) := (f201.ext E205)
              have f210 : Arv Z h205 v118 v119 .byte (Int32.ofNat v120.length) ((v120.map (fun c => c.toInt8.toInt32)).map Value.int) (.int 0) := (f202.ext E205)
              have f211 : Old Z n0 h205 := (f203.ext E205)
              obtain ⟨cq212, kq212, q212a, q212b, q212c⟩ := isOf hZ205 e205 f207
              obtain ⟨_, _, ⟨T212, L212, k212, n212⟩, -, X212, ⟨Lc212, hQ212, l212, y212, z212⟩, st212⟩ := X205.virtualBack hx (y := (⟨"java/lang/String", "equals", "(Ljava/lang/Object;)Z"⟩ : MethodName)) (z := (⟨"java/lang/String", "equals", "(Ljava/lang/Object;)Z"⟩ : MethodName)) ho205 (mvT hZ205 (tw hw 106 rfl)) (mvT hZ205 (tw hw 98 rfl)) (notFace_of_selects (args := #[]) (mvT hZ205 (tw hw 100 rfl))) (mvT hZ205 (tw hw 100 rfl)) (mvT hZ205 (tw hw 99 rfl)) (by decide) (StrChars.Road.eqW (W := 0) hZ205 (wdEq hw) (kI := 4) (tw hw 2 rfl) f207 f208 f209 f210 (StrChars.Road.codOf (cs := v120) rfl (fun x hx => (y121_0 x hx).2)) (up255 _ y121_0) (Nat.le_trans y121_1 (by decide)) A205 G205 F205 V205 (StrChars.Road.codOf (cs := ([111, 98, 106, 101, 99, 116] : List Int32)) rfl (fun x hx => ((by decide : ∀ c ∈ ([111, 98, 106, 101, 99, 116] : List Int32), ¬ c < 0 ∧ ¬ (255 : Int32) < c) x hx).2)) (up255 _ (by decide : ∀ c ∈ ([111, 98, 106, 101, 99, 116] : List Int32), ¬ c < 0 ∧ ¬ (255 : Int32) < c)) (Nat.le_of_ble_eq_true rfl) (O2.ext f211.2) P5 (by decide) (by decide)) q212a q212c (g := (mkF m 376 #[.val (.int sel), .val (.int pos), .val (.int ch), .val (.long aq), .second, .val (.long bq), .second, .val (.int (sel &&& (3 : Int32))), .val (.ref sb), .val (.ref b1), .val (.int (((sel.toUInt32 >>> ((2 : Int32) &&& 31).toUInt32).toInt32) &&& (3 : Int32))), .val (.int nn), .val (.ref v117), .val .null, .unset] [(.ref b205), (.ref v117)])) rfl (by rw [hml]; rfl) (Steps.refl _) (argsL := [(.ref b205)]) (rest := []) (lenOf pd__Ljava_lang_Object__Z rfl) rfl (by show 2 * 0 + _ ≤ _; exact Nat.le_of_eq rfl) (hb hby at_376) (fun _ _ => ⟨rfl, e205, (by decide : 14 + 0 ≤ _), (by decide : 159 + 0 ≤ _)⟩)
              dsimp only [Pt.U, Pt.locs, Pt.cells, Pt.slots] at X212 l212 y212 z212 st212 hQ212
              subst l212 y212 z212
              obtain ⟨⟨rfl, y212_0⟩ | ⟨rfl, y212_0⟩, rfl, e212⟩ := hQ212
              · exact absurd y212_0.symm y141_1
              · have N212 : Fr n0 ([] : List Loc) := Fr.nil n0
                have M212 := Fr.app M204 N212
                refine Gl.to st212 ?_
                show Gl p.tables e below _ (T212.setTop (mkF m 379 #[.val (.int sel), .val (.int pos), .val (.int ch), .val (.long aq), .second, .val (.long bq), .second, .val (.int (sel &&& (3 : Int32))), .val (.ref sb), .val (.ref b1), .val (.int (((sel.toUInt32 >>> ((2 : Int32) &&& 31).toUInt32).toInt32) &&& (3 : Int32))), .val (.int nn), .val (.ref v117), .val .null, .unset] [(.int 0)]))
                refine Gl.st (fun _ kq => XS.ifYes X212.here hx rfl (pc0 := 379) (pc' := 390) rfl (hb hby at_379) rfl ((if0 _ _).trans (teq ((by decide) : (0 : Int32) = (0 : Int32))).1) (by decide) (by decide) kq) ?_
                show Gl p.tables e below _ (T212.setTop (mkF m 390 #[.val (.int sel), .val (.int pos), .val (.int ch), .val (.long aq), .second, .val (.long bq), .second, .val (.int (sel &&& (3 : Int32))), .val (.ref sb), .val (.ref b1), .val (.int (((sel.toUInt32 >>> ((2 : Int32) &&& 31).toUInt32).toInt32) &&& (3 : Int32))), .val (.int nn), .val (.ref v117), .val .null, .unset] []))
                refine Gl.st (fun _ kq => XS.aload X212.here hx rfl (hb hby at_390) rfl rfl kq) ?_
                show Gl p.tables e below _ (T212.setTop (mkF m 392 #[.val (.int sel), .val (.int pos), .val (.int ch), .val (.long aq), .second, .val (.long bq), .second, .val (.int (sel &&& (3 : Int32))), .val (.ref sb), .val (.ref b1), .val (.int (((sel.toUInt32 >>> ((2 : Int32) &&& 31).toUInt32).toInt32) &&& (3 : Int32))), .val (.int nn), .val (.ref v117), .val .null, .unset] [(.ref v117)]))
                obtain ⟨b213, T213, h213, k213, t213, kc213, X213, e213, E213, S213, q213, hZ213, ho213, A213, F213, G213, V213, la213, lb213, R213, L213, sa213, st213⟩ := ldcCH X212 hx hZ205 ho205 (tw hw 111 rfl) (strW hw) e212 S205 q205 (elW hw) (by decide) C206.1 (vs := [(.int 100), (.int 97), (.int 116), (.int 97), (.int 115), (.int 101), (.int 116)]) (z := (7 : Int32)) (litc_111) (by decide) (by decide) (g := (mkF m 392 #[.val (.int sel), .val (.int pos), .val (.int ch), .val (.long aq), .second, .val (.long bq), .second, .val (.int (sel &&& (3 : Int32))), .val (.ref sb), .val (.ref b1), .val (.int (((sel.toUInt32 >>> ((2 : Int32) &&& 31).toUInt32).toInt32) &&& (3 : Int32))), .val (.int nn), .val (.ref v117), .val .null, .unset] [(.ref v117)])) rfl (hb hby at_392) (n := 28) (by decide) (by decide) (by decide) (by decide)
                refine Gl.st st213 ?_
                have C214 : CHr Z consts_1 s.vm h0 T213.vm h213 := C206.trans R213
                have V213 : Arv Z h213 t213 kc213 .byte (Int32.ofNat ([100, 97, 116, 97, 115, 101, 116] : List Int32).length) ((([100, 97, 116, 97, 115, 101, 116] : List Int32).map (fun c => c.toInt8.toInt32)).map Value.int) (.int 0) := V213
                show Gl p.tables e below _ (T213.setTop (mkF m 394 #[.val (.int sel), .val (.int pos), .val (.int ch), .val (.long aq), .second, .val (.long bq), .second, .val (.int (sel &&& (3 : Int32))), .val (.ref sb), .val (.ref b1), .val (.int (((sel.toUInt32 >>> ((2 : Int32) &&& 31).toUInt32).toInt32) &&& (3 : Int32))), .val (.int nn), .val (.ref v117), .val .null, .unset] [(.ref b213), (.ref v117)]))
                have f215 : Exa Z h213 v117 "java/lang/String" := (f207.ext E213)
                have f216 : Fld Z h213 v117 "java/lang/String" "value" "[B" (.ref v118) := (f208.ext E213)
                have f217 : Fld Z h213 v117 "java/lang/String" "coder" "B" (.int 0) := (f209.ext E213)
                have f218 : Arv Z h213 v118 v119 .byte (Int32.ofNat v120.length) ((v120.map (fun c => c.toInt8.toInt32)).map Value.int) (.int 0) := (f210.ext E213)
                have f219 : Old Z n0 h213 := (f211.ext E213)
                obtain ⟨cq220, kq220, q220a, q220b, q220c⟩ := isOf hZ213 e213 f215
                obtain ⟨_, _, ⟨T220, L220, k220, n220⟩, -, X220, ⟨Lc220, hQ220, l220, y220, z220⟩, st220⟩ := X213.virtualBack hx (y := (⟨"java/lang/String", "equals", "(Ljava/lang/Object;)Z"⟩ : MethodName)) (z := (⟨"java/lang/String", "equals", "(Ljava/lang/Object;)Z"⟩ : MethodName)) ho213 (mvT hZ213 (tw hw 106 rfl)) (mvT hZ213 (tw hw 98 rfl)) (notFace_of_selects (args := #[]) (mvT hZ213 (tw hw 100 rfl))) (mvT hZ213 (tw hw 100 rfl)) (mvT hZ213 (tw hw 99 rfl)) (by decide) (StrChars.Road.eqW (W := 0) hZ213 (wdEq hw) (kI := 4) (tw hw 2 rfl) f215 f216 f217 f218 (StrChars.Road.codOf (cs := v120) rfl (fun x hx => (y121_0 x hx).2)) (up255 _ y121_0) (Nat.le_trans y121_1 (by decide)) A213 G213 F213 V213 (StrChars.Road.codOf (cs := ([100, 97, 116, 97, 115, 101, 116] : List Int32)) rfl (fun x hx => ((by decide : ∀ c ∈ ([100, 97, 116, 97, 115, 101, 116] : List Int32), ¬ c < 0 ∧ ¬ (255 : Int32) < c) x hx).2)) (up255 _ (by decide : ∀ c ∈ ([100, 97, 116, 97, 115, 101, 116] : List Int32), ¬ c < 0 ∧ ¬ (255 : Int32) < c)) (Nat.le_of_ble_eq_true rfl) (O2.ext f219.2) P5 (by decide) (by decide)) q220a q220c (g := (mkF m 394 #[.val (.int sel), .val (.int pos), .val (.int ch), .val (.long aq), .second, .val (.long bq), .second, .val (.int (sel &&& (3 : Int32))), .val (.ref sb), .val (.ref b1), .val (.int (((sel.toUInt32 >>> ((2 : Int32) &&& 31).toUInt32).toInt32) &&& (3 : Int32))), .val (.int nn), .val (.ref v117), .val .null, .unset] [(.ref b213), (.ref v117)])) rfl (by rw [hml]; rfl) (Steps.refl _) (argsL := [(.ref b213)]) (rest := []) (lenOf pd__Ljava_lang_Object__Z rfl) rfl (by show 2 * 0 + _ ≤ _; exact Nat.le_of_eq rfl) (hb hby at_394) (fun _ _ => ⟨rfl, e213, (by decide : 16 + 0 ≤ _), (by decide : 191 + 0 ≤ _)⟩)
                dsimp only [Pt.U, Pt.locs, Pt.cells, Pt.slots] at X220 l220 y220 z220 st220 hQ220
                subst l220 y220 z220
                obtain ⟨⟨rfl, y220_0⟩ | ⟨rfl, y220_0⟩, rfl, e220⟩ := hQ220
                · exact absurd y220_0.symm y141_2
                · have N220 : Fr n0 ([] : List Loc) := Fr.nil n0
                  have M220 := Fr.app M212 N220
                  refine Gl.to st220 ?_
                  show Gl p.tables e below _ (T220.setTop (mkF m 397 #[.val (.int sel), .val (.int pos), .val (.int ch), .val (.long aq), .second, .val (.long bq), .second, .val (.int (sel &&& (3 : Int32))), .val (.ref sb), .val (.ref b1), .val (.int (((sel.toUInt32 >>> ((2 : Int32) &&& 31).toUInt32).toInt32) &&& (3 : Int32))), .val (.int nn), .val (.ref v117), .val .null, .unset] [(.int 0)]))
                  refine Gl.st (fun _ kq => XS.ifYes X220.here hx rfl (pc0 := 397) (pc' := 408) rfl (hb hby at_397) rfl ((if0 _ _).trans (teq ((by decide) : (0 : Int32) = (0 : Int32))).1) (by decide) (by decide) kq) ?_
                  show Gl p.tables e below _ (T220.setTop (mkF m 408 #[.val (.int sel), .val (.int pos), .val (.int ch), .val (.long aq), .second, .val (.long bq), .second, .val (.int (sel &&& (3 : Int32))), .val (.ref sb), .val (.ref b1), .val (.int (((sel.toUInt32 >>> ((2 : Int32) &&& 31).toUInt32).toInt32) &&& (3 : Int32))), .val (.int nn), .val (.ref v117), .val .null, .unset] []))
                  refine Gl.st (fun _ kq => XS.aconstNull X220.here hx rfl (hb hby at_408) kq) ?_
                  refine Gl.st (fun _ kq => XS.astore X220.here hx rfl (hb hby at_409) rfl rfl (l' := #[.val (.int sel), .val (.int pos), .val (.int ch), .val (.long aq), .second, .val (.long bq), .second, .val (.int (sel &&& (3 : Int32))), .val (.ref sb), .val (.ref b1), .val (.int (((sel.toUInt32 >>> ((2 : Int32) &&& 31).toUInt32).toInt32) &&& (3 : Int32))), .val (.int nn), .val (.ref v117), .val .null, .val .null]) rfl kq) ?_
                  refine Gl.st (fun _ kq => XS.aload X220.here hx rfl (hb hby at_411) rfl rfl kq) ?_
                  refine Gl.st (fun _ kq => XS.aload X220.here hx rfl (hb hby at_413) rfl rfl kq) ?_
                  show Gl p.tables e below _ (T220.setTop (mkF m 415 #[.val (.int sel), .val (.int pos), .val (.int ch), .val (.long aq), .second, .val (.long bq), .second, .val (.int (sel &&& (3 : Int32))), .val (.ref sb), .val (.ref b1), .val (.int (((sel.toUInt32 >>> ((2 : Int32) &&& 31).toUInt32).toInt32) &&& (3 : Int32))), .val (.int nn), .val (.ref v117), .val .null, .val .null] [.null, .null]))
                  refine Gl.st (fun _ kq => Jvm.RoadKit.acmp (g := (mkF m 415 #[.val (.int sel), .val (.int pos), .val (.int ch), .val (.long aq), .second, .val (.long bq), .second, .val (.int (sel &&& (3 : Int32))), .val (.ref sb), .val (.ref b1), .val (.int (((sel.toUInt32 >>> ((2 : Int32) &&& 31).toUInt32).toInt32) &&& (3 : Int32))), .val (.int nn), .val (.ref v117), .val .null, .val .null] [.null, .null])) X220 hx rfl rfl rfl (pc0 := 415) (pc' := 418) (same := true) rfl (hb hby at_415) rfl (decide_eq_true rfl) (by decide) (by decide) kq) ?_
                  show Gl p.tables e below _ (T220.setTop (mkF m 418 #[.val (.int sel), .val (.int pos), .val (.int ch), .val (.long aq), .second, .val (.long bq), .second, .val (.int (sel &&& (3 : Int32))), .val (.ref sb), .val (.ref b1), .val (.int (((sel.toUInt32 >>> ((2 : Int32) &&& 31).toUInt32).toInt32) &&& (3 : Int32))), .val (.int nn), .val (.ref v117), .val .null, .val .null] []))
                  refine Gl.st (fun _ kq => XS.iconst X220.here hx rfl (hb hby at_418) kq) ?_
                  refine Gl.st (fun _ kq => XS.goto X220.here hx rfl (pc0 := 419) (pc' := 423) rfl (hb hby at_419) (by decide) (by decide) kq) ?_
                  exact Gl.retNH X220 hx S213 (Nat.le_trans q213 (Nat.le_of_eq (congrArg Array.size e220).symm)) (by rw [hh, e220]; exact C214.trans (CHv.at X220 hZ213 (elW hw) C214.1)) (t := .boolean) Bd.returns (by simp) (hb hby at_423) hlk (by decide) (by decide) (by rw [e220]; exact ⟨rfl, M220⟩)
      refine Gl.st (fun _ kq => XS.iload Xk.here hx rfl (hb hby at_247) rfl kq) ?_
      refine Gl.st (fun _ kq => XS.iconst Xk.here hx rfl (hb hby at_249) kq) ?_
      show Gl p.tables e below _ (Tk.setTop (mkF m 250 #[.val (.int sel), .val (.int pos), .val (.int ch), .val (.long aq), .second, .val (.long bq), .second, .val (.int (sel &&& (3 : Int32))), .val (.ref sb), .val (.ref b1), .val (.int (((sel.toUInt32 >>> ((2 : Int32) &&& 31).toUInt32).toInt32) &&& (3 : Int32))), .unset, .unset, .unset, .unset] [(.int 3), (.int (sel &&& (3 : Int32)))]))
      by_cases hc221 : (sel &&& (3 : Int32)) = (3 : Int32)
      · refine Gl.st (fun _ kq => XS.icmpNo Xk.here hx rfl (hb hby at_250) rfl (teq (hc221 : (sel &&& (3 : Int32)) = (3 : Int32))).2 kq) ?_
        show Gl p.tables e below _ (Tk.setTop (mkF m 253 #[.val (.int sel), .val (.int pos), .val (.int ch), .val (.long aq), .second, .val (.long bq), .second, .val (.int (sel &&& (3 : Int32))), .val (.ref sb), .val (.ref b1), .val (.int (((sel.toUInt32 >>> ((2 : Int32) &&& 31).toUInt32).toInt32) &&& (3 : Int32))), .unset, .unset, .unset, .unset] []))
        refine Gl.st (fun _ kq => XS.iloadN Xk.here hx rfl (hb hby at_253) rfl kq) ?_
        refine Gl.st (fun _ kq => XS.bipush Xk.here hx rfl (hb hby at_254) kq) ?_
        refine Gl.st (fun _ kq => XS.iushr Xk.here hx rfl (hb hby at_256) rfl kq) ?_
        refine Gl.st (fun _ kq => XS.sipush Xk.here hx rfl (hb hby at_257) kq) ?_
        refine Gl.st (fun _ kq => XS.iand Xk.here hx rfl (hb hby at_260) rfl kq) ?_
        refine Gl.st (fun _ kq => XS.bipush Xk.here hx rfl (hb hby at_261) kq) ?_
        show Gl p.tables e below _ (Tk.setTop (mkF m 263 #[.val (.int sel), .val (.int pos), .val (.int ch), .val (.long aq), .second, .val (.long bq), .second, .val (.int (sel &&& (3 : Int32))), .val (.ref sb), .val (.ref b1), .val (.int (((sel.toUInt32 >>> ((2 : Int32) &&& 31).toUInt32).toInt32) &&& (3 : Int32))), .unset, .unset, .unset, .unset] [(.int 13), (.int (((pos.toUInt32 >>> ((8 : Int32) &&& 31).toUInt32).toInt32) &&& (255 : Int32)))]))
        refine Gl.st (fun _ kq => iremM (g := (mkF m 263 #[.val (.int sel), .val (.int pos), .val (.int ch), .val (.long aq), .second, .val (.long bq), .second, .val (.int (sel &&& (3 : Int32))), .val (.ref sb), .val (.ref b1), .val (.int (((sel.toUInt32 >>> ((2 : Int32) &&& 31).toUInt32).toInt32) &&& (3 : Int32))), .unset, .unset, .unset, .unset] [(.int 13), (.int (((pos.toUInt32 >>> ((8 : Int32) &&& 31).toUInt32).toInt32) &&& (255 : Int32)))])) Xk hx rfl (hb hby at_263) rfl (by decide) kq) ?_
        show Gl p.tables e below _ (Tk.setTop (mkF m 264 #[.val (.int sel), .val (.int pos), .val (.int ch), .val (.long aq), .second, .val (.long bq), .second, .val (.int (sel &&& (3 : Int32))), .val (.ref sb), .val (.ref b1), .val (.int (((sel.toUInt32 >>> ((2 : Int32) &&& 31).toUInt32).toInt32) &&& (3 : Int32))), .unset, .unset, .unset, .unset] [(.int ((((pos.toUInt32 >>> ((8 : Int32) &&& 31).toUInt32).toInt32) &&& (255 : Int32)) % (13 : Int32)))]))
        refine Gl.st (fun _ kq => XS.istore Xk.here hx rfl (hb hby at_264) rfl (l' := #[.val (.int sel), .val (.int pos), .val (.int ch), .val (.long aq), .second, .val (.long bq), .second, .val (.int (sel &&& (3 : Int32))), .val (.ref sb), .val (.ref b1), .val (.int (((sel.toUInt32 >>> ((2 : Int32) &&& 31).toUInt32).toInt32) &&& (3 : Int32))), .val (.int ((((pos.toUInt32 >>> ((8 : Int32) &&& 31).toUInt32).toInt32) &&& (255 : Int32)) % (13 : Int32))), .unset, .unset, .unset]) rfl kq) ?_
        refine Gl.st (fun _ kq => XS.goto Xk.here hx rfl (pc0 := 266) (pc' := 312) rfl (hb hby at_266) (by decide) (by decide) kq) ?_
        show Gl p.tables e below _ (Tk.setTop (mkF m 312 #[.val (.int sel), .val (.int pos), .val (.int ch), .val (.long aq), .second, .val (.long bq), .second, .val (.int (sel &&& (3 : Int32))), .val (.ref sb), .val (.ref b1), .val (.int (((sel.toUInt32 >>> ((2 : Int32) &&& 31).toUInt32).toInt32) &&& (3 : Int32))), .val (.int ((((pos.toUInt32 >>> ((8 : Int32) &&& 31).toUInt32).toInt32) &&& (255 : Int32)) % (13 : Int32))), .unset, .unset, .unset] []))
        exact Jn _ _ _ _ hSk hZk hok hkk Ck (Xk.more (by decide) (by decide)) ek Nk  (((((pos.toUInt32 >>> ((8 : Int32) &&& 31).toUInt32).toInt32) &&& (255 : Int32)) % (13 : Int32))) 
      · refine Gl.st (fun _ kq => XS.icmpYes Xk.here hx rfl (pc0 := 250) (pc' := 269) rfl (hb hby at_250) rfl (feq (hc221 : ¬ ((sel &&& (3 : Int32)) = (3 : Int32)))).2 (by decide) (by decide) kq) ?_
        show Gl p.tables e below _ (Tk.setTop (mkF m 269 #[.val (.int sel), .val (.int pos), .val (.int ch), .val (.long aq), .second, .val (.long bq), .second, .val (.int (sel &&& (3 : Int32))), .val (.ref sb), .val (.ref b1), .val (.int (((sel.toUInt32 >>> ((2 : Int32) &&& 31).toUInt32).toInt32) &&& (3 : Int32))), .unset, .unset, .unset, .unset] []))
        refine Gl.st (fun _ kq => XS.iload Xk.here hx rfl (hb hby at_269) rfl kq) ?_
        refine Gl.st (fun _ kq => XS.iconst Xk.here hx rfl (hb hby at_271) kq) ?_
        show Gl p.tables e below _ (Tk.setTop (mkF m 272 #[.val (.int sel), .val (.int pos), .val (.int ch), .val (.long aq), .second, .val (.long bq), .second, .val (.int (sel &&& (3 : Int32))), .val (.ref sb), .val (.ref b1), .val (.int (((sel.toUInt32 >>> ((2 : Int32) &&& 31).toUInt32).toInt32) &&& (3 : Int32))), .unset, .unset, .unset, .unset] [(.int 1), (.int (((sel.toUInt32 >>> ((2 : Int32) &&& 31).toUInt32).toInt32) &&& (3 : Int32)))]))
        by_cases hc222 : (((sel.toUInt32 >>> ((2 : Int32) &&& 31).toUInt32).toInt32) &&& (3 : Int32)) = (1 : Int32)
        · refine Gl.st (fun _ kq => XS.icmpNo Xk.here hx rfl (hb hby at_272) rfl (teq (hc222 : (((sel.toUInt32 >>> ((2 : Int32) &&& 31).toUInt32).toInt32) &&& (3 : Int32)) = (1 : Int32))).2 kq) ?_
          show Gl p.tables e below _ (Tk.setTop (mkF m 275 #[.val (.int sel), .val (.int pos), .val (.int ch), .val (.long aq), .second, .val (.long bq), .second, .val (.int (sel &&& (3 : Int32))), .val (.ref sb), .val (.ref b1), .val (.int (((sel.toUInt32 >>> ((2 : Int32) &&& 31).toUInt32).toInt32) &&& (3 : Int32))), .unset, .unset, .unset, .unset] []))
          refine Gl.st (fun _ kq => XS.aload Xk.here hx rfl (hb hby at_275) rfl rfl kq) ?_
          show Gl p.tables e below _ (Tk.setTop (mkF m 277 #[.val (.int sel), .val (.int pos), .val (.int ch), .val (.long aq), .second, .val (.long bq), .second, .val (.int (sel &&& (3 : Int32))), .val (.ref sb), .val (.ref b1), .val (.int (((sel.toUInt32 >>> ((2 : Int32) &&& 31).toUInt32).toInt32) &&& (3 : Int32))), .unset, .unset, .unset, .unset] [(.ref sb)]))
          obtain ⟨cq223, kq223, q223a, q223b, q223c⟩ := isOf (s := s.setVm vmk) hZk ek fk_18
          obtain ⟨_, _, ⟨T223, L223, k223, n223⟩, -, X223, ⟨Lc223, hQ223, l223, y223, z223⟩, st223⟩ := Xk.virtualBack hx (y := (⟨"java/lang/String", "length", "()I"⟩ : MethodName)) (z := (⟨"java/lang/String", "length", "()I"⟩ : MethodName)) hok (mvT hZk (tw hw 13 rfl)) (mvT hZk (tw hw 14 rfl)) (notFace_of_selects (args := #[]) (mvT hZk (tw hw 16 rfl))) (mvT hZk (tw hw 16 rfl)) (mvT hZk (tw hw 15 rfl)) (by decide) (StrChars.Road.lenW (W := 0) hZk (wdLen hw) (kI := 4) (tw hw 2 rfl) fk_18 fk_20 fk_19 fk_21 (StrChars.Road.codOf (cs := cs) rfl (fun x hx => (ys_0 x hx).2)) (up255 _ ys_0) (O2.ext fk_17.2) P5 (Nat.le_trans ys_1 (by decide)) (by decide) (by decide)) q223a q223c (g := (mkF m 277 #[.val (.int sel), .val (.int pos), .val (.int ch), .val (.long aq), .second, .val (.long bq), .second, .val (.int (sel &&& (3 : Int32))), .val (.ref sb), .val (.ref b1), .val (.int (((sel.toUInt32 >>> ((2 : Int32) &&& 31).toUInt32).toInt32) &&& (3 : Int32))), .unset, .unset, .unset, .unset] [(.ref sb)])) rfl (by rw [hml]; rfl) (Steps.refl _) (argsL := []) (rest := []) (lenOf pd___I rfl) rfl (by show 2 * 0 + _ ≤ _; exact Nat.le_of_eq rfl) (hb hby at_277) (fun _ _ => ⟨rfl, ek, (by decide : 3 + 0 ≤ _), (by decide : 56 + 0 ≤ _)⟩)
          dsimp only [Pt.U, Pt.locs, Pt.cells, Pt.slots] at X223 l223 y223 z223 st223 hQ223
          subst l223 y223 z223
          obtain ⟨rfl, rfl, e223⟩ := hQ223
          have N223 : Fr n0 ([] : List Loc) := Fr.nil n0
          have M223 := Fr.app Nk N223
          refine Gl.to st223 ?_
          show Gl p.tables e below _ (T223.setTop (mkF m 280 #[.val (.int sel), .val (.int pos), .val (.int ch), .val (.long aq), .second, .val (.long bq), .second, .val (.int (sel &&& (3 : Int32))), .val (.ref sb), .val (.ref b1), .val (.int (((sel.toUInt32 >>> ((2 : Int32) &&& 31).toUInt32).toInt32) &&& (3 : Int32))), .unset, .unset, .unset, .unset] [(.int (Int32.ofNat cs.length))]))
          show Gl p.tables e below _ (T223.setTop (mkF m 280 #[.val (.int sel), .val (.int pos), .val (.int ch), .val (.long aq), .second, .val (.long bq), .second, .val (.int (sel &&& (3 : Int32))), .val (.ref sb), .val (.ref b1), .val (.int (((sel.toUInt32 >>> ((2 : Int32) &&& 31).toUInt32).toInt32) &&& (3 : Int32))), .unset, .unset, .unset, .unset] [(.int (Int32.ofNat cs.length))]))
          refine Gl.st (fun _ kq => XS.iconst X223.here hx rfl (hb hby at_280) kq) ?_
          refine Gl.st (fun _ kq => XS.isub X223.here hx rfl (hb hby at_281) rfl kq) ?_
          refine Gl.st (fun _ kq => XS.istore X223.here hx rfl (hb hby at_282) rfl (l' := #[.val (.int sel), .val (.int pos), .val (.int ch), .val (.long aq), .second, .val (.long bq), .second, .val (.int (sel &&& (3 : Int32))), .val (.ref sb), .val (.ref b1), .val (.int (((sel.toUInt32 >>> ((2 : Int32) &&& 31).toUInt32).toInt32) &&& (3 : Int32))), .val (.int ((Int32.ofNat cs.length) - (1 : Int32))), .unset, .unset, .unset]) rfl kq) ?_
          refine Gl.st (fun _ kq => XS.goto X223.here hx rfl (pc0 := 284) (pc' := 312) rfl (hb hby at_284) (by decide) (by decide) kq) ?_
          show Gl p.tables e below _ (T223.setTop (mkF m 312 #[.val (.int sel), .val (.int pos), .val (.int ch), .val (.long aq), .second, .val (.long bq), .second, .val (.int (sel &&& (3 : Int32))), .val (.ref sb), .val (.ref b1), .val (.int (((sel.toUInt32 >>> ((2 : Int32) &&& 31).toUInt32).toInt32) &&& (3 : Int32))), .val (.int ((Int32.ofNat cs.length) - (1 : Int32))), .unset, .unset, .unset] []))
          exact Jn _ _ _ _ hSk hZk hok hkk Ck (X223.more (by decide) (by decide)) e223 M223  (((Int32.ofNat cs.length) - (1 : Int32))) 
        · refine Gl.st (fun _ kq => XS.icmpYes Xk.here hx rfl (pc0 := 272) (pc' := 287) rfl (hb hby at_272) rfl (feq (hc222 : ¬ ((((sel.toUInt32 >>> ((2 : Int32) &&& 31).toUInt32).toInt32) &&& (3 : Int32)) = (1 : Int32)))).2 (by decide) (by decide) kq) ?_
          show Gl p.tables e below _ (Tk.setTop (mkF m 287 #[.val (.int sel), .val (.int pos), .val (.int ch), .val (.long aq), .second, .val (.long bq), .second, .val (.int (sel &&& (3 : Int32))), .val (.ref sb), .val (.ref b1), .val (.int (((sel.toUInt32 >>> ((2 : Int32) &&& 31).toUInt32).toInt32) &&& (3 : Int32))), .unset, .unset, .unset, .unset] []))
          refine Gl.st (fun _ kq => XS.iload Xk.here hx rfl (hb hby at_287) rfl kq) ?_
          refine Gl.st (fun _ kq => XS.iconst Xk.here hx rfl (hb hby at_289) kq) ?_
          show Gl p.tables e below _ (Tk.setTop (mkF m 290 #[.val (.int sel), .val (.int pos), .val (.int ch), .val (.long aq), .second, .val (.long bq), .second, .val (.int (sel &&& (3 : Int32))), .val (.ref sb), .val (.ref b1), .val (.int (((sel.toUInt32 >>> ((2 : Int32) &&& 31).toUInt32).toInt32) &&& (3 : Int32))), .unset, .unset, .unset, .unset] [(.int 2), (.int (((sel.toUInt32 >>> ((2 : Int32) &&& 31).toUInt32).toInt32) &&& (3 : Int32)))]))
          by_cases hc224 : (((sel.toUInt32 >>> ((2 : Int32) &&& 31).toUInt32).toInt32) &&& (3 : Int32)) = (2 : Int32)
          · refine Gl.st (fun _ kq => XS.icmpNo Xk.here hx rfl (hb hby at_290) rfl (teq (hc224 : (((sel.toUInt32 >>> ((2 : Int32) &&& 31).toUInt32).toInt32) &&& (3 : Int32)) = (2 : Int32))).2 kq) ?_
            show Gl p.tables e below _ (Tk.setTop (mkF m 293 #[.val (.int sel), .val (.int pos), .val (.int ch), .val (.long aq), .second, .val (.long bq), .second, .val (.int (sel &&& (3 : Int32))), .val (.ref sb), .val (.ref b1), .val (.int (((sel.toUInt32 >>> ((2 : Int32) &&& 31).toUInt32).toInt32) &&& (3 : Int32))), .unset, .unset, .unset, .unset] []))
            refine Gl.st (fun _ kq => XS.aload Xk.here hx rfl (hb hby at_293) rfl rfl kq) ?_
            show Gl p.tables e below _ (Tk.setTop (mkF m 295 #[.val (.int sel), .val (.int pos), .val (.int ch), .val (.long aq), .second, .val (.long bq), .second, .val (.int (sel &&& (3 : Int32))), .val (.ref sb), .val (.ref b1), .val (.int (((sel.toUInt32 >>> ((2 : Int32) &&& 31).toUInt32).toInt32) &&& (3 : Int32))), .unset, .unset, .unset, .unset] [(.ref sb)]))
            obtain ⟨cq225, kq225, q225a, q225b, q225c⟩ := isOf (s := s.setVm vmk) hZk ek fk_18
            obtain ⟨_, _, ⟨T225, L225, k225, n225⟩, -, X225, ⟨Lc225, hQ225, l225, y225, z225⟩, st225⟩ := Xk.virtualBack hx (y := (⟨"java/lang/String", "length", "()I"⟩ : MethodName)) (z := (⟨"java/lang/String", "length", "()I"⟩ : MethodName)) hok (mvT hZk (tw hw 13 rfl)) (mvT hZk (tw hw 14 rfl)) (notFace_of_selects (args := #[]) (mvT hZk (tw hw 16 rfl))) (mvT hZk (tw hw 16 rfl)) (mvT hZk (tw hw 15 rfl)) (by decide) (StrChars.Road.lenW (W := 0) hZk (wdLen hw) (kI := 4) (tw hw 2 rfl) fk_18 fk_20 fk_19 fk_21 (StrChars.Road.codOf (cs := cs) rfl (fun x hx => (ys_0 x hx).2)) (up255 _ ys_0) (O2.ext fk_17.2) P5 (Nat.le_trans ys_1 (by decide)) (by decide) (by decide)) q225a q225c (g := (mkF m 295 #[.val (.int sel), .val (.int pos), .val (.int ch), .val (.long aq), .second, .val (.long bq), .second, .val (.int (sel &&& (3 : Int32))), .val (.ref sb), .val (.ref b1), .val (.int (((sel.toUInt32 >>> ((2 : Int32) &&& 31).toUInt32).toInt32) &&& (3 : Int32))), .unset, .unset, .unset, .unset] [(.ref sb)])) rfl (by rw [hml]; rfl) (Steps.refl _) (argsL := []) (rest := []) (lenOf pd___I rfl) rfl (by show 2 * 0 + _ ≤ _; exact Nat.le_of_eq rfl) (hb hby at_295) (fun _ _ => ⟨rfl, ek, (by decide : 3 + 0 ≤ _), (by decide : 56 + 0 ≤ _)⟩)
            dsimp only [Pt.U, Pt.locs, Pt.cells, Pt.slots] at X225 l225 y225 z225 st225 hQ225
            subst l225 y225 z225
            obtain ⟨rfl, rfl, e225⟩ := hQ225
            have N225 : Fr n0 ([] : List Loc) := Fr.nil n0
            have M225 := Fr.app Nk N225
            refine Gl.to st225 ?_
            show Gl p.tables e below _ (T225.setTop (mkF m 298 #[.val (.int sel), .val (.int pos), .val (.int ch), .val (.long aq), .second, .val (.long bq), .second, .val (.int (sel &&& (3 : Int32))), .val (.ref sb), .val (.ref b1), .val (.int (((sel.toUInt32 >>> ((2 : Int32) &&& 31).toUInt32).toInt32) &&& (3 : Int32))), .unset, .unset, .unset, .unset] [(.int (Int32.ofNat cs.length))]))
            show Gl p.tables e below _ (T225.setTop (mkF m 298 #[.val (.int sel), .val (.int pos), .val (.int ch), .val (.long aq), .second, .val (.long bq), .second, .val (.int (sel &&& (3 : Int32))), .val (.ref sb), .val (.ref b1), .val (.int (((sel.toUInt32 >>> ((2 : Int32) &&& 31).toUInt32).toInt32) &&& (3 : Int32))), .unset, .unset, .unset, .unset] [(.int (Int32.ofNat cs.length))]))
            refine Gl.st (fun _ kq => XS.iconst X225.here hx rfl (hb hby at_298) kq) ?_
            refine Gl.st (fun _ kq => XS.iadd X225.here hx rfl (hb hby at_299) rfl kq) ?_
            refine Gl.st (fun _ kq => XS.istore X225.here hx rfl (hb hby at_300) rfl (l' := #[.val (.int sel), .val (.int pos), .val (.int ch), .val (.long aq), .second, .val (.long bq), .second, .val (.int (sel &&& (3 : Int32))), .val (.ref sb), .val (.ref b1), .val (.int (((sel.toUInt32 >>> ((2 : Int32) &&& 31).toUInt32).toInt32) &&& (3 : Int32))), .val (.int ((Int32.ofNat cs.length) + (1 : Int32))), .unset, .unset, .unset]) rfl kq) ?_
            refine Gl.st (fun _ kq => XS.goto X225.here hx rfl (pc0 := 302) (pc' := 312) rfl (hb hby at_302) (by decide) (by decide) kq) ?_
            show Gl p.tables e below _ (T225.setTop (mkF m 312 #[.val (.int sel), .val (.int pos), .val (.int ch), .val (.long aq), .second, .val (.long bq), .second, .val (.int (sel &&& (3 : Int32))), .val (.ref sb), .val (.ref b1), .val (.int (((sel.toUInt32 >>> ((2 : Int32) &&& 31).toUInt32).toInt32) &&& (3 : Int32))), .val (.int ((Int32.ofNat cs.length) + (1 : Int32))), .unset, .unset, .unset] []))
            exact Jn _ _ _ _ hSk hZk hok hkk Ck (X225.more (by decide) (by decide)) e225 M225  (((Int32.ofNat cs.length) + (1 : Int32))) 
          · refine Gl.st (fun _ kq => XS.icmpYes Xk.here hx rfl (pc0 := 290) (pc' := 305) rfl (hb hby at_290) rfl (feq (hc224 : ¬ ((((sel.toUInt32 >>> ((2 : Int32) &&& 31).toUInt32).toInt32) &&& (3 : Int32)) = (2 : Int32)))).2 (by decide) (by decide) kq) ?_
            show Gl p.tables e below _ (Tk.setTop (mkF m 305 #[.val (.int sel), .val (.int pos), .val (.int ch), .val (.long aq), .second, .val (.long bq), .second, .val (.int (sel &&& (3 : Int32))), .val (.ref sb), .val (.ref b1), .val (.int (((sel.toUInt32 >>> ((2 : Int32) &&& 31).toUInt32).toInt32) &&& (3 : Int32))), .unset, .unset, .unset, .unset] []))
            refine Gl.st (fun _ kq => XS.aload Xk.here hx rfl (hb hby at_305) rfl rfl kq) ?_
            show Gl p.tables e below _ (Tk.setTop (mkF m 307 #[.val (.int sel), .val (.int pos), .val (.int ch), .val (.long aq), .second, .val (.long bq), .second, .val (.int (sel &&& (3 : Int32))), .val (.ref sb), .val (.ref b1), .val (.int (((sel.toUInt32 >>> ((2 : Int32) &&& 31).toUInt32).toInt32) &&& (3 : Int32))), .unset, .unset, .unset, .unset] [(.ref sb)]))
            obtain ⟨cq226, kq226, q226a, q226b, q226c⟩ := isOf (s := s.setVm vmk) hZk ek fk_18
            obtain ⟨_, _, ⟨T226, L226, k226, n226⟩, -, X226, ⟨Lc226, hQ226, l226, y226, z226⟩, st226⟩ := Xk.virtualBack hx (y := (⟨"java/lang/String", "length", "()I"⟩ : MethodName)) (z := (⟨"java/lang/String", "length", "()I"⟩ : MethodName)) hok (mvT hZk (tw hw 13 rfl)) (mvT hZk (tw hw 14 rfl)) (notFace_of_selects (args := #[]) (mvT hZk (tw hw 16 rfl))) (mvT hZk (tw hw 16 rfl)) (mvT hZk (tw hw 15 rfl)) (by decide) (StrChars.Road.lenW (W := 0) hZk (wdLen hw) (kI := 4) (tw hw 2 rfl) fk_18 fk_20 fk_19 fk_21 (StrChars.Road.codOf (cs := cs) rfl (fun x hx => (ys_0 x hx).2)) (up255 _ ys_0) (O2.ext fk_17.2) P5 (Nat.le_trans ys_1 (by decide)) (by decide) (by decide)) q226a q226c (g := (mkF m 307 #[.val (.int sel), .val (.int pos), .val (.int ch), .val (.long aq), .second, .val (.long bq), .second, .val (.int (sel &&& (3 : Int32))), .val (.ref sb), .val (.ref b1), .val (.int (((sel.toUInt32 >>> ((2 : Int32) &&& 31).toUInt32).toInt32) &&& (3 : Int32))), .unset, .unset, .unset, .unset] [(.ref sb)])) rfl (by rw [hml]; rfl) (Steps.refl _) (argsL := []) (rest := []) (lenOf pd___I rfl) rfl (by show 2 * 0 + _ ≤ _; exact Nat.le_of_eq rfl) (hb hby at_307) (fun _ _ => ⟨rfl, ek, (by decide : 3 + 0 ≤ _), (by decide : 56 + 0 ≤ _)⟩)
            dsimp only [Pt.U, Pt.locs, Pt.cells, Pt.slots] at X226 l226 y226 z226 st226 hQ226
            subst l226 y226 z226
            obtain ⟨rfl, rfl, e226⟩ := hQ226
            have N226 : Fr n0 ([] : List Loc) := Fr.nil n0
            have M226 := Fr.app Nk N226
            refine Gl.to st226 ?_
            show Gl p.tables e below _ (T226.setTop (mkF m 310 #[.val (.int sel), .val (.int pos), .val (.int ch), .val (.long aq), .second, .val (.long bq), .second, .val (.int (sel &&& (3 : Int32))), .val (.ref sb), .val (.ref b1), .val (.int (((sel.toUInt32 >>> ((2 : Int32) &&& 31).toUInt32).toInt32) &&& (3 : Int32))), .unset, .unset, .unset, .unset] [(.int (Int32.ofNat cs.length))]))
            show Gl p.tables e below _ (T226.setTop (mkF m 310 #[.val (.int sel), .val (.int pos), .val (.int ch), .val (.long aq), .second, .val (.long bq), .second, .val (.int (sel &&& (3 : Int32))), .val (.ref sb), .val (.ref b1), .val (.int (((sel.toUInt32 >>> ((2 : Int32) &&& 31).toUInt32).toInt32) &&& (3 : Int32))), .unset, .unset, .unset, .unset] [(.int (Int32.ofNat cs.length))]))
            refine Gl.st (fun _ kq => XS.istore X226.here hx rfl (hb hby at_310) rfl (l' := #[.val (.int sel), .val (.int pos), .val (.int ch), .val (.long aq), .second, .val (.long bq), .second, .val (.int (sel &&& (3 : Int32))), .val (.ref sb), .val (.ref b1), .val (.int (((sel.toUInt32 >>> ((2 : Int32) &&& 31).toUInt32).toInt32) &&& (3 : Int32))), .val (.int (Int32.ofNat cs.length)), .unset, .unset, .unset]) rfl kq) ?_
            show Gl p.tables e below _ (T226.setTop (mkF m 312 #[.val (.int sel), .val (.int pos), .val (.int ch), .val (.long aq), .second, .val (.long bq), .second, .val (.int (sel &&& (3 : Int32))), .val (.ref sb), .val (.ref b1), .val (.int (((sel.toUInt32 >>> ((2 : Int32) &&& 31).toUInt32).toInt32) &&& (3 : Int32))), .val (.int (Int32.ofNat cs.length)), .unset, .unset, .unset] []))
            exact Jn _ _ _ _ hSk hZk hok hkk Ck (X226.more (by decide) (by decide)) e226 M226  ((Int32.ofNat cs.length)) 
    refine Gl.st (fun _ kq => XS.iloadN X112.here hx rfl (hb hby at_215) rfl kq) ?_
    refine Gl.st (fun _ kq => XS.iconst X112.here hx rfl (hb hby at_216) kq) ?_
    refine Gl.st (fun _ kq => XS.iushr X112.here hx rfl (hb hby at_217) rfl kq) ?_
    refine Gl.st (fun _ kq => XS.iconst X112.here hx rfl (hb hby at_218) kq) ?_
    refine Gl.st (fun _ kq => XS.iand X112.here hx rfl (hb hby at_219) rfl kq) ?_
    show Gl p.tables e below _ (T112.setTop (mkF m 220 #[.val (.int sel), .val (.int pos), .val (.int ch), .val (.long aq), .second, .val (.long bq), .second, .val (.int (sel &&& (3 : Int32))), .val (.ref sb), .val (.ref b1), .unset, .unset, .unset, .unset, .unset] [(.int (((sel.toUInt32 >>> ((4 : Int32) &&& 31).toUInt32).toInt32) &&& (1 : Int32)))]))
    by_cases hc227 : (((sel.toUInt32 >>> ((4 : Int32) &&& 31).toUInt32).toInt32) &&& (1 : Int32)) = (0 : Int32)
    · refine Gl.st (fun _ kq => XS.ifYes X112.here hx rfl (pc0 := 220) (pc' := 240) rfl (hb hby at_220) rfl ((if0 _ _).trans (teq (hc227 : (((sel.toUInt32 >>> ((4 : Int32) &&& 31).toUInt32).toInt32) &&& (1 : Int32)) = (0 : Int32))).1) (by decide) (by decide) kq) ?_
      show Gl p.tables e below _ (T112.setTop (mkF m 240 #[.val (.int sel), .val (.int pos), .val (.int ch), .val (.long aq), .second, .val (.long bq), .second, .val (.int (sel &&& (3 : Int32))), .val (.ref sb), .val (.ref b1), .unset, .unset, .unset, .unset, .unset] []))
      have ne228 : va ≠ b1 := Nat.ne_of_lt (Nat.lt_of_lt_of_le fs_0.lt (Nat.le_of_eq g1.symm))
      have f229 : Arv Z h112 va kva (.object "com/example/groupwright/groupwright/app/Registration$Kind") (3 : Int32) [(.ref uk1), (.ref uk2), (.ref uk3)] .null := (((((((((((((fs_0.ext E1).other W11 ne228).other W22 ne228).other W31 ne228).other W40 ne228).other W49 ne228).other W58 ne228).other W67 ne228).other W76 ne228).other W85 ne228).other W94 ne228).other W103 ne228).other W112 ne228)
      have f230 : Exa Z h112 va "[Lcom/example/groupwright/groupwright/app/Registration$Kind;" := (((((((((((((fs_1.ext E1).wr W11).wr W22).wr W31).wr W40).wr W49).wr W58).wr W67).wr W76).wr W85).wr W94).wr W103).wr W112)
      have ne231 : uk1 ≠ b1 := Nat.ne_of_lt (Nat.lt_of_lt_of_le fs_2.lt (Nat.le_of_eq g1.symm))
      have f232 : Fld Z h112 uk1 "com/example/groupwright/groupwright/app/Registration$Kind" "word" "Ljava/lang/String;" (.ref uw1) := (((((((((((((fs_2.ext E1).other W11 (Or.inl ne231)).other W22 (Or.inl ne231)).other W31 (Or.inl ne231)).other W40 (Or.inl ne231)).other W49 (Or.inl ne231)).other W58 (Or.inl ne231)).other W67 (Or.inl ne231)).other W76 (Or.inl ne231)).other W85 (Or.inl ne231)).other W94 (Or.inl ne231)).other W103 (Or.inl ne231)).other W112 (Or.inl ne231))
      have f233 : Exa Z h112 uw1 "java/lang/String" := (((((((((((((fs_3.ext E1).wr W11).wr W22).wr W31).wr W40).wr W49).wr W58).wr W67).wr W76).wr W85).wr W94).wr W103).wr W112)
      have ne234 : uw1 ≠ b1 := Nat.ne_of_lt (Nat.lt_of_lt_of_le fs_3.lt (Nat.le_of_eq g1.symm))
      have f235 : Fld Z h112 uw1 "java/lang/String" "coder" "B" (.int 0) := (((((((((((((fs_4.ext E1).other W11 (Or.inl ne234)).other W22 (Or.inl ne234)).other W31 (Or.inl ne234)).other W40 (Or.inl ne234)).other W49 (Or.inl ne234)).other W58 (Or.inl ne234)).other W67 (Or.inl ne234)).other W76 (Or.inl ne234)).other W85 (Or.inl ne234)).other W94 (Or.inl ne234)).other W103 (Or.inl ne234)).other W112 (Or.inl ne234))
      have f236 : Fld Z h112 uw1 "java/lang/String" "value" "[B" (.ref ut1) := (((((((((((((fs_5.ext E1).other W11 (Or.inl ne234)).other W22 (Or.inl ne234)).other W31 (Or.inl ne234)).other W40 (Or.inl ne234)).other W49 (Or.inl ne234)).other W58 (Or.inl ne234)).other W67 (Or.inl ne234)).other W76 (Or.inl ne234)).other W85 (Or.inl ne234)).other W94 (Or.inl ne234)).other W103 (Or.inl ne234)).other W112 (Or.inl ne234))
      have ne237 : ut1 ≠ b1 := Nat.ne_of_lt (Nat.lt_of_lt_of_le fs_6.lt (Nat.le_of_eq g1.symm))
      have f238 : Arv Z h112 ut1 uj1 .byte (Int32.ofNat ([99, 111, 108, 108, 101, 99, 116, 105, 111, 110] : List Int32).length) ((([99, 111, 108, 108, 101, 99, 116, 105, 111, 110] : List Int32).map (fun c => c.toInt8.toInt32)).map Value.int) (.int 0) := (((((((((((((fs_6.ext E1).other W11 ne237).other W22 ne237).other W31 ne237).other W40 ne237).other W49 ne237).other W58 ne237).other W67 ne237).other W76 ne237).other W85 ne237).other W94 ne237).other W103 ne237).other W112 ne237)
      have ne239 : uk2 ≠ b1 := Nat.ne_of_lt (Nat.lt_of_lt_of_le fs_7.lt (Nat.le_of_eq g1.symm))
      have f240 : Fld Z h112 uk2 "com/example/groupwright/groupwright/app/Registration$Kind" "word" "Ljava/lang/String;" (.ref uw2) := (((((((((((((fs_7.ext E1).other W11 (Or.inl ne239)).other W22 (Or.inl ne239)).other W31 (Or.inl ne239)).other W40 (Or.inl ne239)).other W49 (Or.inl ne239)).other W58 (Or.inl ne239)).other W67 (Or.inl ne239)).other W76 (Or.inl ne239)).other W85 (Or.inl ne239)).other W94 (Or.inl ne239)).other W103 (Or.inl ne239)).other W112 (Or.inl ne239))
      have f241 : Exa Z h112 uw2 "java/lang/String" := (((((((((((((fs_8.ext E1).wr W11).wr W22).wr W31).wr W40).wr W49).wr W58).wr W67).wr W76).wr W85).wr W94).wr W103).wr W112)
      have ne242 : uw2 ≠ b1 := Nat.ne_of_lt (Nat.lt_of_lt_of_le fs_8.lt (Nat.le_of_eq g1.symm))
      have f243 : Fld Z h112 uw2 "java/lang/String" "coder" "B" (.int 0) := (((((((((((((fs_9.ext E1).other W11 (Or.inl ne242)).other W22 (Or.inl ne242)).other W31 (Or.inl ne242)).other W40 (Or.inl ne242)).other W49 (Or.inl ne242)).other W58 (Or.inl ne242)).other W67 (Or.inl ne242)).other W76 (Or.inl ne242)).other W85 (Or.inl ne242)).other W94 (Or.inl ne242)).other W103 (Or.inl ne242)).other W112 (Or.inl ne242))
      have f244 : Fld Z h112 uw2 "java/lang/String" "value" "[B" (.ref ut2) := (((((((((((((fs_10.ext E1).other W11 (Or.inl ne242)).other W22 (Or.inl ne242)).other W31 (Or.inl ne242)).other W40 (Or.inl ne242)).other W49 (Or.inl ne242)).other W58 (Or.inl ne242)).other W67 (Or.inl ne242)).other W76 (Or.inl ne242)).other W85 (Or.inl ne242)).other W94 (Or.inl ne242)).other W103 (Or.inl ne242)).other W112 (Or.inl ne242))
      have ne245 : ut2 ≠ b1 := Nat.ne_of_lt (Nat.lt_of_lt_of_le fs_11.lt (Nat.le_of_eq g1.symm))
      have f246 : Arv Z h112 ut2 uj2 .byte (Int32.ofNat ([111, 98, 106, 101, 99, 116] : List Int32).length) ((([111, 98, 106, 101, 99, 116] : List Int32).map (fun c => c.toInt8.toInt32)).map Value.int) (.int 0) := (((((((((((((fs_11.ext E1).other W11 ne245).other W22 ne245).other W31 ne245).other W40 ne245).other W49 ne245).other W58 ne245).other W67 ne245).other W76 ne245).other W85 ne245).other W94 ne245).other W103 ne245).other W112 ne245)
      have ne247 : uk3 ≠ b1 := Nat.ne_of_lt (Nat.lt_of_lt_of_le fs_12.lt (Nat.le_of_eq g1.symm))
      have f248 : Fld Z h112 uk3 "com/example/groupwright/groupwright/app/Registration$Kind" "word" "Ljava/lang/String;" (.ref uw3) := (((((((((((((fs_12.ext E1).other W11 (Or.inl ne247)).other W22 (Or.inl ne247)).other W31 (Or.inl ne247)).other W40 (Or.inl ne247)).other W49 (Or.inl ne247)).other W58 (Or.inl ne247)).other W67 (Or.inl ne247)).other W76 (Or.inl ne247)).other W85 (Or.inl ne247)).other W94 (Or.inl ne247)).other W103 (Or.inl ne247)).other W112 (Or.inl ne247))
      have f249 : Exa Z h112 uw3 "java/lang/String" := (((((((((((((fs_13.ext E1).wr W11).wr W22).wr W31).wr W40).wr W49).wr W58).wr W67).wr W76).wr W85).wr W94).wr W103).wr W112)
      have ne250 : uw3 ≠ b1 := Nat.ne_of_lt (Nat.lt_of_lt_of_le fs_13.lt (Nat.le_of_eq g1.symm))
      have f251 : Fld Z h112 uw3 "java/lang/String" "coder" "B" (.int 0) := (((((((((((((fs_14.ext E1).other W11 (Or.inl ne250)).other W22 (Or.inl ne250)).other W31 (Or.inl ne250)).other W40 (Or.inl ne250)).other W49 (Or.inl ne250)).other W58 (Or.inl ne250)).other W67 (Or.inl ne250)).other W76 (Or.inl ne250)).other W85 (Or.inl ne250)).other W94 (Or.inl ne250)).other W103 (Or.inl ne250)).other W112 (Or.inl ne250))
      have f252 : Fld Z h112 uw3 "java/lang/String" "value" "[B" (.ref ut3) := (((((((((((((fs_15.ext E1).other W11 (Or.inl ne250)).other W22 (Or.inl ne250)).other W31 (Or.inl ne250)).other W40 (Or.inl ne250)).other W49 (Or.inl ne250)).other W58 (Or.inl ne250)).other W67 (Or.inl ne250)).other W76 (Or.inl ne250)).other W85 (Or.inl ne250)).other W94 (Or.inl ne250)).other W103 (Or.inl ne250)).other W112 (Or.inl ne250))
      have ne253 : ut3 ≠ b1 := Nat.ne_of_lt (Nat.lt_of_lt_of_le fs_16.lt (Nat.le_of_eq g1.symm))
      have f254 : Arv Z h112 ut3 uj3 .byte (Int32.ofNat ([100, 97, 116, 97, 115, 101, 116] : List Int32).length) ((([100, 97, 116, 97, 115, 101, 116] : List Int32).map (fun c => c.toInt8.toInt32)).map Value.int) (.int 0) := (((((((((((((fs_16.ext E1).other W11 ne253).other W22 ne253).other W31 ne253).other W40 ne253).other W49 ne253).other W58 ne253).other W67 ne253).other W76 ne253).other W85 ne253).other W94 ne253).other W103 ne253).other W112 ne253)
      have f255 : Old Z n0 h112 := (f109.wr W112 g2)
      have f256 : Exa Z h112 sb "java/lang/String" := (f105.wr W112)
      have f257 : Fld Z h112 sb "java/lang/String" "coder" "B" (.int 0) := (f106.other W112 (Or.inl ne14))
      have f258 : Fld Z h112 sb "java/lang/String" "value" "[B" (.ref sx) := (f107.other W112 (Or.inl ne14))
      have f259 : Arv Z h112 sx sk .byte (Int32.ofNat cs.length) ((cs.map (fun c => c.toInt8.toInt32)).map Value.int) (.int 0) := (f108.other W112 ne17)
      exact Jk _ _ _ _ _ hSs hZs hos (Nat.le_trans (Nat.le_trans (Nat.le_trans (Nat.le_trans (Nat.le_trans (Nat.le_trans (Nat.le_trans (Nat.le_trans (Nat.le_trans (Nat.le_trans (Nat.le_trans (Nat.le_trans (Nat.le_trans hks E1.1) (Keep.of_wr W11).1) (Keep.of_wr W22).1) (Keep.of_wr W31).1) (Keep.of_wr W40).1) (Keep.of_wr W49).1) (Keep.of_wr W58).1) (Keep.of_wr W67).1) (Keep.of_wr W76).1) (Keep.of_wr W85).1) (Keep.of_wr W94).1) (Keep.of_wr W103).1) (Keep.of_wr W112).1) C113 (X112.more (by decide) (by decide)) e112 N112 (Nat.le_trans (Nat.le_trans (Nat.le_trans (Nat.le_trans (Nat.le_trans (Nat.le_trans (Nat.le_trans (Nat.le_trans (Nat.le_trans (Nat.le_trans (Nat.le_trans (Nat.le_trans (Nat.le_trans zs E1.1) (Keep.of_wr W11).1) (Keep.of_wr W22).1) (Keep.of_wr W31).1) (Keep.of_wr W40).1) (Keep.of_wr W49).1) (Keep.of_wr W58).1) (Keep.of_wr W67).1) (Keep.of_wr W76).1) (Keep.of_wr W85).1) (Keep.of_wr W94).1) (Keep.of_wr W103).1) (Keep.of_wr W112).1) (v9) (v20) (v29) (v38) (v47) (v56) (v65) (v74) (v83) (v92) (v101) (v110) f229 f230 f232 f233 f235 f236 f238 f240 f241 f243 f244 f246 f248 f249 f251 f252 f254 f255 f256 f257 f258 f259 V112 y10_0 y21_0 y30_0 y39_0 y48_0 y57_0 y66_0 y75_0 y84_0 y93_0 y102_0 y111_0
    · refine Gl.st (fun _ kq => XS.ifNo X112.here hx rfl (hb hby at_220) rfl ((if0 _ _).trans (feq (hc227 : ¬ ((((sel.toUInt32 >>> ((4 : Int32) &&& 31).toUInt32).toInt32) &&& (1 : Int32)) = (0 : Int32)))).1) kq) ?_
      show Gl p.tables e below _ (T112.setTop (mkF m 223 #[.val (.int sel), .val (.int pos), .val (.int ch), .val (.long aq), .second, .val (.long bq), .second, .val (.int (sel &&& (3 : Int32))), .val (.ref sb), .val (.ref b1), .unset, .unset, .unset, .unset, .unset] []))
      refine Gl.st (fun _ kq => XS.aload X112.here hx rfl (hb hby at_223) rfl rfl kq) ?_
      refine Gl.st (fun _ kq => XS.iloadN X112.here hx rfl (hb hby at_225) rfl kq) ?_
      refine Gl.st (fun _ kq => XS.sipush X112.here hx rfl (hb hby at_226) kq) ?_
      refine Gl.st (fun _ kq => XS.iand X112.here hx rfl (hb hby at_229) rfl kq) ?_
      refine Gl.st (fun _ kq => XS.bipush X112.here hx rfl (hb hby at_230) kq) ?_
      show Gl p.tables e below _ (T112.setTop (mkF m 232 #[.val (.int sel), .val (.int pos), .val (.int ch), .val (.long aq), .second, .val (.long bq), .second, .val (.int (sel &&& (3 : Int32))), .val (.ref sb), .val (.ref b1), .unset, .unset, .unset, .unset, .unset] [(.int 12), (.int (pos &&& (255 : Int32))), (.ref b1)]))
      refine Gl.st (fun _ kq => iremM (g := (mkF m 232 #[.val (.int sel), .val (.int pos), .val (.int ch), .val (.long aq), .second, .val (.long bq), .second, .val (.int (sel &&& (3 : Int32))), .val (.ref sb), .val (.ref b1), .unset, .unset, .unset, .unset, .unset] [(.int 12), (.int (pos &&& (255 : Int32))), (.ref b1)])) X112 hx rfl (hb hby at_232) rfl (by decide) kq) ?_
      show Gl p.tables e below _ (T112.setTop (mkF m 233 #[.val (.int sel), .val (.int pos), .val (.int ch), .val (.long aq), .second, .val (.long bq), .second, .val (.int (sel &&& (3 : Int32))), .val (.ref sb), .val (.ref b1), .unset, .unset, .unset, .unset, .unset] [(.int ((pos &&& (255 : Int32)) % (12 : Int32))), (.ref b1)]))
      have ne260 : va ≠ b1 := Nat.ne_of_lt (Nat.lt_of_lt_of_le fs_0.lt (Nat.le_of_eq g1.symm))
      have f261 : Arv Z h112 va kva (.object "com/example/groupwright/groupwright/app/Registration$Kind") (3 : Int32) [(.ref uk1), (.ref uk2), (.ref uk3)] .null := (((((((((((((fs_0.ext E1).other W11 ne260).other W22 ne260).other W31 ne260).other W40 ne260).other W49 ne260).other W58 ne260).other W67 ne260).other W76 ne260).other W85 ne260).other W94 ne260).other W103 ne260).other W112 ne260)
      have f262 : Exa Z h112 va "[Lcom/example/groupwright/groupwright/app/Registration$Kind;" := (((((((((((((fs_1.ext E1).wr W11).wr W22).wr W31).wr W40).wr W49).wr W58).wr W67).wr W76).wr W85).wr W94).wr W103).wr W112)
      have ne263 : uk1 ≠ b1 := Nat.ne_of_lt (Nat.lt_of_lt_of_le fs_2.lt (Nat.le_of_eq g1.symm))
      have f264 : Fld Z h112 uk1 "com/example/groupwright/groupwright/app/Registration$Kind" "word" "Ljava/lang/String;" (.ref uw1) := (((((((((((((fs_2.ext E1).other W11 (Or.inl ne263)).other W22 (Or.inl ne263)).other W31 (Or.inl ne263)).other W40 (Or.inl ne263)).other W49 (Or.inl ne263)).other W58 (Or.inl ne263)).other W67 (Or.inl ne263)).other W76 (Or.inl ne263)).other W85 (Or.inl ne263)).other W94 (Or.inl ne263)).other W103 (Or.inl ne263)).other W112 (Or.inl ne263))
      have f265 : Exa Z h112 uw1 "java/lang/String" := (((((((((((((fs_3.ext E1).wr W11).wr W22).wr W31).wr W40).wr W49).wr W58).wr W67).wr W76).wr W85).wr W94).wr W103).wr W112)
      have ne266 : uw1 ≠ b1 := Nat.ne_of_lt (Nat.lt_of_lt_of_le fs_3.lt (Nat.le_of_eq g1.symm))
      have f267 : Fld Z h112 uw1 "java/lang/String" "coder" "B" (.int 0) := (((((((((((((fs_4.ext E1).other W11 (Or.inl ne266)).other W22 (Or.inl ne266)).other W31 (Or.inl ne266)).other W40 (Or.inl ne266)).other W49 (Or.inl ne266)).other W58 (Or.inl ne266)).other W67 (Or.inl ne266)).other W76 (Or.inl ne266)).other W85 (Or.inl ne266)).other W94 (Or.inl ne266)).other W103 (Or.inl ne266)).other W112 (Or.inl ne266))
      have f268 : Fld Z h112 uw1 "java/lang/String" "value" "[B" (.ref ut1) := (((((((((((((fs_5.ext E1).other W11 (Or.inl ne266)).other W22 (Or.inl ne266)).other W31 (Or.inl ne266)).other W40 (Or.inl ne266)).other W49 (Or.inl ne266)).other W58 (Or.inl ne266)).other W67 (Or.inl ne266)).other W76 (Or.inl ne266)).other W85 (Or.inl ne266)).other W94 (Or.inl ne266)).other W103 (Or.inl ne266)).other W112 (Or.inl ne266))
      have ne269 : ut1 ≠ b1 := Nat.ne_of_lt (Nat.lt_of_lt_of_le fs_6.lt (Nat.le_of_eq g1.symm))
      have f270 : Arv Z h112 ut1 uj1 .byte (Int32.ofNat ([99, 111, 108, 108, 101, 99, 116, 105, 111, 110] : List Int32).length) ((([99, 111, 108, 108, 101, 99, 116, 105, 111, 110] : List Int32).map (fun c => c.toInt8.toInt32)).map Value.int) (.int 0) := (((((((((((((fs_6.ext E1).other W11 ne269).other W22 ne269).other W31 ne269).other W40 ne269).other W49 ne269).other W58 ne269).other W67 ne269).other W76 ne269).other W85 ne269).other W94 ne269).other W103 ne269).other W112 ne269)
      have ne271 : uk2 ≠ b1 := Nat.ne_of_lt (Nat.lt_of_lt_of_le fs_7.lt (Nat.le_of_eq g1.symm))
      have f272 : Fld Z h112 uk2 "com/example/groupwright/groupwright/app/Registration$Kind" "word" "Ljava/lang/String;" (.ref uw2) := (((((((((((((fs_7.ext E1).other W11 (Or.inl ne271)).other W22 (Or.inl ne271)).other W31 (Or.inl ne271)).other W40 (Or.inl ne271)).other W49 (Or.inl ne271)).other W58 (Or.inl ne271)).other W67 (Or.inl ne271)).other W76 (Or.inl ne271)).other W85 (Or.inl ne271)).other W94 (Or.inl ne271)).other W103 (Or.inl ne271)).other W112 (Or.inl ne271))
      have f273 : Exa Z h112 uw2 "java/lang/String" := (((((((((((((fs_8.ext E1).wr W11).wr W22).wr W31).wr W40).wr W49).wr W58).wr W67).wr W76).wr W85).wr W94).wr W103).wr W112)
      have ne274 : uw2 ≠ b1 := Nat.ne_of_lt (Nat.lt_of_lt_of_le fs_8.lt (Nat.le_of_eq g1.symm))
      have f275 : Fld Z h112 uw2 "java/lang/String" "coder" "B" (.int 0) := (((((((((((((fs_9.ext E1).other W11 (Or.inl ne274)).other W22 (Or.inl ne274)).other W31 (Or.inl ne274)).other W40 (Or.inl ne274)).other W49 (Or.inl ne274)).other W58 (Or.inl ne274)).other W67 (Or.inl ne274)).other W76 (Or.inl ne274)).other W85 (Or.inl ne274)).other W94 (Or.inl ne274)).other W103 (Or.inl ne274)).other W112 (Or.inl ne274))
      have f276 : Fld Z h112 uw2 "java/lang/String" "value" "[B" (.ref ut2) := (((((((((((((fs_10.ext E1).other W11 (Or.inl ne274)).other W22 (Or.inl ne274)).other W31 (Or.inl ne274)).other W40 (Or.inl ne274)).other W49 (Or.inl ne274)).other W58 (Or.inl ne274)).other W67 (Or.inl ne274)).other W76 (Or.inl ne274)).other W85 (Or.inl ne274)).other W94 (Or.inl ne274)).other W103 (Or.inl ne274)).other W112 (Or.inl ne274))
      have ne277 : ut2 ≠ b1 := Nat.ne_of_lt (Nat.lt_of_lt_of_le fs_11.lt (Nat.le_of_eq g1.symm))
      have f278 : Arv Z h112 ut2 uj2 .byte (Int32.ofNat ([111, 98, 106, 101, 99, 116] : List Int32).length) ((([111, 98, 106, 101, 99, 116] : List Int32).map (fun c => c.toInt8.toInt32)).map Value.int) (.int 0) := (((((((((((((fs_11.ext E1).other W11 ne277).other W22 ne277).other W31 ne277).other W40 ne277).other W49 ne277).other W58 ne277).other W67 ne277).other W76 ne277).other W85 ne277).other W94 ne277).other W103 ne277).other W112 ne277)
      have ne279 : uk3 ≠ b1 := Nat.ne_of_lt (Nat.lt_of_lt_of_le fs_12.lt (Nat.le_of_eq g1.symm))
      have f280 : Fld Z h112 uk3 "com/example/groupwright/groupwright/app/Registration$Kind" "word" "Ljava/lang/String;" (.ref uw3) := (((((((((((((fs_12.ext E1).other W11 (Or.inl ne279)).other W22 (Or.inl ne279)).other W31 (Or.inl ne279)).other W40 (Or.inl ne279)).other W49 (Or.inl ne279)).other W58 (Or.inl ne279)).other W67 (Or.inl ne279)).other W76 (Or.inl ne279)).other W85 (Or.inl ne279)).other W94 (Or.inl ne279)).other W103 (Or.inl ne279)).other W112 (Or.inl ne279))
      have f281 : Exa Z h112 uw3 "java/lang/String" := (((((((((((((fs_13.ext E1).wr W11).wr W22).wr W31).wr W40).wr W49).wr W58).wr W67).wr W76).wr W85).wr W94).wr W103).wr W112)
      have ne282 : uw3 ≠ b1 := Nat.ne_of_lt (Nat.lt_of_lt_of_le fs_13.lt (Nat.le_of_eq g1.symm))
      have f283 : Fld Z h112 uw3 "java/lang/String" "coder" "B" (.int 0) := (((((((((((((fs_14.ext E1).other W11 (Or.inl ne282)).other W22 (Or.inl ne282)).other W31 (Or.inl ne282)).other W40 (Or.inl ne282)).other W49 (Or.inl ne282)).other W58 (Or.inl ne282)).other W67 (Or.inl ne282)).other W76 (Or.inl ne282)).other W85 (Or.inl ne282)).other W94 (Or.inl ne282)).other W103 (Or.inl ne282)).other W112 (Or.inl ne282))
      have f284 : Fld Z h112 uw3 "java/lang/String" "value" "[B" (.ref ut3) := (((((((((((((fs_15.ext E1).other W11 (Or.inl ne282)).other W22 (Or.inl ne282)).other W31 (Or.inl ne282)).other W40 (Or.inl ne282)).other W49 (Or.inl ne282)).other W58 (Or.inl ne282)).other W67 (Or.inl ne282)).other W76 (Or.inl ne282)).other W85 (Or.inl ne282)).other W94 (Or.inl ne282)).other W103 (Or.inl ne282)).other W112 (Or.inl ne282))
      have ne285 : ut3 ≠ b1 := Nat.ne_of_lt (Nat.lt_of_lt_of_le fs_16.lt (Nat.le_of_eq g1.symm))
      have f286 : Arv Z h112 ut3 uj3 .byte (Int32.ofNat ([100, 97, 116, 97, 115, 101, 116] : List Int32).length) ((([100, 97, 116, 97, 115, 101, 116] : List Int32).map (fun c => c.toInt8.toInt32)).map Value.int) (.int 0) := (((((((((((((fs_16.ext E1).other W11 ne285).other W22 ne285).other W31 ne285).other W40 ne285).other W49 ne285).other W58 ne285).other W67 ne285).other W76 ne285).other W85 ne285).other W94 ne285).other W103 ne285).other W112 ne285)
      have f287 : Old Z n0 h112 := (f109.wr W112 g2)
      have f288 : Exa Z h112 sb "java/lang/String" := (f105.wr W112)
      have f289 : Fld Z h112 sb "java/lang/String" "coder" "B" (.int 0) := (f106.other W112 (Or.inl ne14))
      have f290 : Fld Z h112 sb "java/lang/String" "value" "[B" (.ref sx) := (f107.other W112 (Or.inl ne14))
      have f291 : Arv Z h112 sx sk .byte (Int32.ofNat cs.length) ((cs.map (fun c => c.toInt8.toInt32)).map Value.int) (.int 0) := (f108.other W112 ne17)
      obtain ⟨jj, ejj⟩ := own_k12 pos
      rw [ejj]
      rcases own_o12 jj with ejk | ejk | ejk | ejk | ejk | ejk | ejk | ejk | ejk | ejk | ejk | ejk
      · rw [ejk]
        show Gl p.tables e below _ (T112.setTop (mkF m 233 #[.val (.int sel), .val (.int pos), .val (.int ch), .val (.long aq), .second, .val (.long bq), .second, .val (.int (sel &&& (3 : Int32))), .val (.ref sb), .val (.ref b1), .unset, .unset, .unset, .unset, .unset] [(.int 0), (.ref b1)]))
        refine Gl.st (fun _ kq => XS.iloadN X112.here hx rfl (hb hby at_233) rfl kq) ?_
        refine Gl.st (fun _ kq => XS.sipush X112.here hx rfl (hb hby at_234) kq) ?_
        refine Gl.st (fun _ kq => XS.iand X112.here hx rfl (hb hby at_237) rfl kq) ?_
        refine Gl.st (fun _ kq => XS.i2c X112.here hx rfl (hb hby at_238) rfl kq) ?_
        show Gl p.tables e below _ (T112.setTop (mkF m 239 #[.val (.int sel), .val (.int pos), .val (.int ch), .val (.long aq), .second, .val (.long bq), .second, .val (.int (sel &&& (3 : Int32))), .val (.ref sb), .val (.ref b1), .unset, .unset, .unset, .unset, .unset] [(.int ((ch &&& (255 : Int32)).toUInt32.toUInt16.toUInt32.toInt32)), (.int 0), (.ref b1)]))
        obtain ⟨c292, a292, q292, S292, M292, H292, G292⟩ := id V112
        obtain ⟨T292, h292, X292, e292, W292, st292⟩ := stC X112 hx hZs e112 a292 (j := (0 : Int32)) (inb_of S292 ⟨by decide, by decide⟩) (g := (mkF m 239 #[.val (.int sel), .val (.int pos), .val (.int ch), .val (.long aq), .second, .val (.long bq), .second, .val (.int (sel &&& (3 : Int32))), .val (.ref sb), .val (.ref b1), .unset, .unset, .unset, .unset, .unset] [(.int ((ch &&& (255 : Int32)).toUInt32.toUInt16.toUInt32.toInt32)), (.int 0), (.ref b1)])) rfl rfl (hb hby at_239)
        refine Gl.st st292 ?_
        have C293 : CHr Z consts_1 s.vm h0 vms h292 := C113.trans (CHr.wr W292 (Safe.arv hZs.alike V112 (by decide)) C113.1)
        have V292 : Arv Z h292 b1 k1 .char (12 : Int32) [(.int ((ch &&& (255 : Int32)).toUInt32.toUInt16.toUInt32.toInt32)), (.int v20), (.int v29), (.int v38), (.int v47), (.int v56), (.int v65), (.int v74), (.int v83), (.int v92), (.int v101), (.int v110)] (.int 0) := by
          have q := Arv.set a292 q292 S292 M292 H292 G292 (fits_nar_char _) W292 0 rfl (Nat.le_of_ble_eq_true rfl)
          rw [nar_id (ci_and _).1 (ci_and _).2] at q
          exact q
        have N292 := Fr.snoc X292 N112 g2
        show Gl p.tables e below _ (T292.setTop (mkF m 240 #[.val (.int sel), .val (.int pos), .val (.int ch), .val (.long aq), .second, .val (.long bq), .second, .val (.int (sel &&& (3 : Int32))), .val (.ref sb), .val (.ref b1), .unset, .unset, .unset, .unset, .unset] []))
        have f294 : Arv Z h292 va kva (.object "com/example/groupwright/groupwright/app/Registration$Kind") (3 : Int32) [(.ref uk1), (.ref uk2), (.ref uk3)] .null := (f261.other W292 ne260)
        have f295 : Exa Z h292 va "[Lcom/example/groupwright/groupwright/app/Registration$Kind;" := (f262.wr W292)
        have f296 : Fld Z h292 uk1 "com/example/groupwright/groupwright/app/Registration$Kind" "word" "Ljava/lang/String;" (.ref uw1) := (f264.other W292 (Or.inl ne263))
        have f297 : Exa Z h292 uw1 "java/lang/String" := (f265.wr W292)
        have f298 : Fld Z h292 uw1 "java/lang/String" "coder" "B" (.int 0) := (f267.other W292 (Or.inl ne266))
        have f299 : Fld Z h292 uw1 "java/lang/String" "value" "[B" (.ref ut1) := (f268.other W292 (Or.inl ne266))
        have f300 : Arv Z h292 ut1 uj1 .byte (Int32.ofNat ([99, 111, 108, 108, 101, 99, 116, 105, 111, 110] : List Int32).length) ((([99, 111, 108, 108, 101, 99, 116, 105, 111, 110] : List Int32).map (fun c => c.toInt8.toInt32)).map Value.int) (.int 0) := (f270.other W292 ne269)
        have f301 : Fld Z h292 uk2 "com/example/groupwright/groupwright/app/Registration$Kind" "word" "Ljava/lang/String;" (.ref uw2) := (f272.other W292 (Or.inl ne271))
        have f302 : Exa Z h292 uw2 "java/lang/String" := (f273.wr W292)
        have f303 : Fld Z h292 uw2 "java/lang/String" "coder" "B" (.int 0) := (f275.other W292 (Or.inl ne274))
        have f304 : Fld Z h292 uw2 "java/lang/String" "value" "[B" (.ref ut2) := (f276.other W292 (Or.inl ne274))
        have f305 : Arv Z h292 ut2 uj2 .byte (Int32.ofNat ([111, 98, 106, 101, 99, 116] : List Int32).length) ((([111, 98, 106, 101, 99, 116] : List Int32).map (fun c => c.toInt8.toInt32)).map Value.int) (.int 0) := (f278.other W292 ne277)
        have f306 : Fld Z h292 uk3 "com/example/groupwright/groupwright/app/Registration$Kind" "word" "Ljava/lang/String;" (.ref uw3) := (f280.other W292 (Or.inl ne279))
        have f307 : Exa Z h292 uw3 "java/lang/String" := (f281.wr W292)
        have f308 : Fld Z h292 uw3 "java/lang/String" "coder" "B" (.int 0) := (f283.other W292 (Or.inl ne282))
        have f309 : Fld Z h292 uw3 "java/lang/String" "value" "[B" (.ref ut3) := (f284.other W292 (Or.inl ne282))
        have f310 : Arv Z h292 ut3 uj3 .byte (Int32.ofNat ([100, 97, 116, 97, 115, 101, 116] : List Int32).length) ((([100, 97, 116, 97, 115, 101, 116] : List Int32).map (fun c => c.toInt8.toInt32)).map Value.int) (.int 0) := (f286.other W292 ne285)
        have f311 : Old Z n0 h292 := (f287.wr W292 g2)
        have f312 : Exa Z h292 sb "java/lang/String" := (f288.wr W292)
        have f313 : Fld Z h292 sb "java/lang/String" "coder" "B" (.int 0) := (f289.other W292 (Or.inl ne14))
        have f314 : Fld Z h292 sb "java/lang/String" "value" "[B" (.ref sx) := (f290.other W292 (Or.inl ne14))
        have f315 : Arv Z h292 sx sk .byte (Int32.ofNat cs.length) ((cs.map (fun c => c.toInt8.toInt32)).map Value.int) (.int 0) := (f291.other W292 ne17)
        exact Jk _ _ _ _ _ hSs hZs hos (Nat.le_trans (Nat.le_trans (Nat.le_trans (Nat.le_trans (Nat.le_trans (Nat.le_trans (Nat.le_trans (Nat.le_trans (Nat.le_trans (Nat.le_trans (Nat.le_trans (Nat.le_trans (Nat.le_trans (Nat.le_trans hks E1.1) (Keep.of_wr W11).1) (Keep.of_wr W22).1) (Keep.of_wr W31).1) (Keep.of_wr W40).1) (Keep.of_wr W49).1) (Keep.of_wr W58).1) (Keep.of_wr W67).1) (Keep.of_wr W76).1) (Keep.of_wr W85).1) (Keep.of_wr W94).1) (Keep.of_wr W103).1) (Keep.of_wr W112).1) (Keep.of_wr W292).1) C293 (X292.more (by decide) (by decide)) e292 N292 (Nat.le_trans (Nat.le_trans (Nat.le_trans (Nat.le_trans (Nat.le_trans (Nat.le_trans (Nat.le_trans (Nat.le_trans (Nat.le_trans (Nat.le_trans (Nat.le_trans (Nat.le_trans (Nat.le_trans (Nat.le_trans zs E1.1) (Keep.of_wr W11).1) (Keep.of_wr W22).1) (Keep.of_wr W31).1) (Keep.of_wr W40).1) (Keep.of_wr W49).1) (Keep.of_wr W58).1) (Keep.of_wr W67).1) (Keep.of_wr W76).1) (Keep.of_wr W85).1) (Keep.of_wr W94).1) (Keep.of_wr W103).1) (Keep.of_wr W112).1) (Keep.of_wr W292).1) (((ch &&& (255 : Int32)).toUInt32.toUInt16.toUInt32.toInt32)) (v20) (v29) (v38) (v47) (v56) (v65) (v74) (v83) (v92) (v101) (v110) f294 f295 f296 f297 f298 f299 f300 f301 f302 f303 f304 f305 f306 f307 f308 f309 f310 f311 f312 f313 f314 f315 V292 (ci_and _) y21_0 y30_0 y39_0 y48_0 y57_0 y66_0 y75_0 y84_0 y93_0 y102_0 y111_0
      · rw [ejk]
        show Gl p.tables e below _ (T112.setTop (mkF m 233 #[.val (.int sel), .val (.int pos), .val (.int ch), .val (.long aq), .second, .val (.long bq), .second, .val (.int (sel &&& (3 : Int32))), .val (.ref sb), .val (.ref b1), .unset, .unset, .unset, .unset, .unset] [(.int 1), (.ref b1)]))
        refine Gl.st (fun _ kq => XS.iloadN X112.here hx rfl (hb hby at_233) rfl kq) ?_
        refine Gl.st (fun _ kq => XS.sipush X112.here hx rfl (hb hby at_234) kq) ?_
        refine Gl.st (fun _ kq => XS.iand X112.here hx rfl (hb hby at_237) rfl kq) ?_
        refine Gl.st (fun _ kq => XS.i2c X112.here hx rfl (hb hby at_238) rfl kq) ?_
        show Gl p.tables e below _ (T112.setTop (mkF m 239 #[.val (.int sel), .val (.int pos), .val (.int ch), .val (.long aq), .second, .val (.long bq), .second, .val (.int (sel &&& (3 : Int32))), .val (.ref sb), .val (.ref b1), .unset, .unset, .unset, .unset, .unset] [(.int ((ch &&& (255 : Int32)).toUInt32.toUInt16.toUInt32.toInt32)), (.int 1), (.ref b1)]))
        obtain ⟨c316, a316, q316, S316, M316, H316, G316⟩ := id V112
        obtain ⟨T316, h316, X316, e316, W316, st316⟩ := stC X112 hx hZs e112 a316 (j := (1 : Int32)) (inb_of S316 ⟨by decide, by decide⟩) (g := (mkF m 239 #[.val (.int sel), .val (.int pos), .val (.int ch), .val (.long aq), .second, .val (.long bq), .second, .val (.int (sel &&& (3 : Int32))), .val (.ref sb), .val (.ref b1), .unset, .unset, .unset, .unset, .unset] [(.int ((ch &&& (255 : Int32)).toUInt32.toUInt16.toUInt32.toInt32)), (.int 1), (.ref b1)])) rfl rfl (hb hby at_239)
        refine Gl.st st316 ?_
        have C317 : CHr Z consts_1 s.vm h0 vms h316 := C113.trans (CHr.wr W316 (Safe.arv hZs.alike V112 (by decide)) C113.1)
        have V316 : Arv Z h316 b1 k1 .char (12 : Int32) [(.int v9), (.int ((ch &&& (255 : Int32)).toUInt32.toUInt16.toUInt32.toInt32)), (.int v29), (.int v38), (.int v47), (.int v56), (.int v65), (.int v74), (.int v83), (.int v92), (.int v101), (.int v110)] (.int 0) := by
          have q := Arv.set a316 q316 S316 M316 H316 G316 (fits_nar_char _) W316 1 rfl (Nat.le_of_ble_eq_true rfl)
          rw [nar_id (ci_and _).1 (ci_and _).2] at q
          exact q
        have N316 := Fr.snoc X316 N112 g2
        show Gl p.tables e below _ (T316.setTop (mkF m 240 #[.val (.int sel), .val (.int pos), .val (.int ch), .val (.long aq), .second, .val (.long bq), .second, .val (.int (sel &&& (3 : Int32))), .val (.ref sb), .val (.ref b1), .unset, .unset, .unset, .unset, .unset] []))
        have f318 : Arv Z h316 va kva (.object "com/example/groupwright/groupwright/app/Registration$Kind") (3 : Int32) [(.ref uk1), (.ref uk2), (.ref uk3)] .null := (f261.other W316 ne260)
        have f319 : Exa Z h316 va "[Lcom/example/groupwright/groupwright/app/Registration$Kind;" := (f262.wr W316)
        have f320 : Fld Z h316 uk1 "com/example/groupwright/groupwright/app/Registration$Kind" "word" "Ljava/lang/String;" (.ref uw1) := (f264.other W316 (Or.inl ne263))
        have f321 : Exa Z h316 uw1 "java/lang/String" := (f265.wr W316)
        have f322 : Fld Z h316 uw1 "java/lang/String" "coder" "B" (.int 0) := (f267.other W316 (Or.inl ne266))
        have f323 : Fld Z h316 uw1 "java/lang/String" "value" "[B" (.ref ut1) := (f268.other W316 (Or.inl ne266))
        have f324 : Arv Z h316 ut1 uj1 .byte (Int32.ofNat ([99, 111, 108, 108, 101, 99, 116, 105, 111, 110] : List Int32).length) ((([99, 111, 108, 108, 101, 99, 116, 105, 111, 110] : List Int32).map (fun c => c.toInt8.toInt32)).map Value.int) (.int 0) := (f270.other W316 ne269)
        have f325 : Fld Z h316 uk2 "com/example/groupwright/groupwright/app/Registration$Kind" "word" "Ljava/lang/String;" (.ref uw2) := (f272.other W316 (Or.inl ne271))
        have f326 : Exa Z h316 uw2 "java/lang/String" := (f273.wr W316)
        have f327 : Fld Z h316 uw2 "java/lang/String" "coder" "B" (.int 0) := (f275.other W316 (Or.inl ne274))
        have f328 : Fld Z h316 uw2 "java/lang/String" "value" "[B" (.ref ut2) := (f276.other W316 (Or.inl ne274))
        have f329 : Arv Z h316 ut2 uj2 .byte (Int32.ofNat ([111, 98, 106, 101, 99, 116] : List Int32).length) ((([111, 98, 106, 101, 99, 116] : List Int32).map (fun c => c.toInt8.toInt32)).map Value.int) (.int 0) := (f278.other W316 ne277)
        have f330 : Fld Z h316 uk3 "com/example/groupwright/groupwright/app/Registration$Kind" "word" "Ljava/lang/String;" (.ref uw3) := (f280.other W316 (Or.inl ne279))
        have f331 : Exa Z h316 uw3 "java/lang/String" := (f281.wr W316)
        have f332 : Fld Z h316 uw3 "java/lang/String" "coder" "B" (.int 0) := (f283.other W316 (Or.inl ne282))
        have f333 : Fld Z h316 uw3 "java/lang/String" "value" "[B" (.ref ut3) := (f284.other W316 (Or.inl ne282))
        have f334 : Arv Z h316 ut3 uj3 .byte (Int32.ofNat ([100, 97, 116, 97, 115, 101, 116] : List Int32).length) ((([100, 97, 116, 97, 115, 101, 116] : List Int32).map (fun c => c.toInt8.toInt32)).map Value.int) (.int 0) := (f286.other W316 ne285)
        have f335 : Old Z n0 h316 := (f287.wr W316 g2)
        have f336 : Exa Z h316 sb "java/lang/String" := (f288.wr W316)
        have f337 : Fld Z h316 sb "java/lang/String" "coder" "B" (.int 0) := (f289.other W316 (Or.inl ne14))
        have f338 : Fld Z h316 sb "java/lang/String" "value" "[B" (.ref sx) := (f290.other W316 (Or.inl ne14))
        have f339 : Arv Z h316 sx sk .byte (Int32.ofNat cs.length) ((cs.map (fun c => c.toInt8.toInt32)).map Value.int) (.int 0) := (f291.other W316 ne17)
        exact Jk _ _ _ _ _ hSs hZs hos (Nat.le_trans (Nat.le_trans (Nat.le_trans (Nat.le_trans (Nat.le_trans (Nat.le_trans (Nat.le_trans (Nat.le_trans (Nat.le_trans (Nat.le_trans (Nat.le_trans (Nat.le_trans (Nat.le_trans (Nat.le_trans hks E1.1) (Keep.of_wr W11).1) (Keep.of_wr W22).1) (Keep.of_wr W31).1) (Keep.of_wr W40).1) (Keep.of_wr W49).1) (Keep.of_wr W58).1) (Keep.of_wr W67).1) (Keep.of_wr W76).1) (Keep.of_wr W85).1) (Keep.of_wr W94).1) (Keep.of_wr W103).1) (Keep.of_wr W112).1) (Keep.of_wr W316).1) C317 (X316.more (by decide) (by decide)) e316 N316 (Nat.le_trans (Nat.le_trans (Nat.le_trans (Nat.le_trans (Nat.le_trans (Nat.le_trans (Nat.le_trans (Nat.le_trans (Nat.le_trans (Nat.le_trans (Nat.le_trans (Nat.le_trans (Nat.le_trans (Nat.le_trans zs E1.1) (Keep.of_wr W11).1) (Keep.of_wr W22).1) (Keep.of_wr W31).1) (Keep.of_wr W40).1) (Keep.of_wr W49).1) (Keep.of_wr W58).1) (Keep.of_wr W67).1) (Keep.of_wr W76).1) (Keep.of_wr W85).1) (Keep.of_wr W94).1) (Keep.of_wr W103).1) (Keep.of_wr W112).1) (Keep.of_wr W316).1) (v9) (((ch &&& (255 : Int32)).toUInt32.toUInt16.toUInt32.toInt32)) (v29) (v38) (v47) (v56) (v65) (v74) (v83) (v92) (v101) (v110) f318 f319 f320 f321 f322 f323 f324 f325 f326 f327 f328 f329 f330 f331 f332 f333 f334 f335 f336 f337 f338 f339 V316 y10_0 (ci_and _) y30_0 y39_0 y48_0 y57_0 y66_0 y75_0 y84_0 y93_0 y102_0 y111_0
      · rw [ejk]
        show Gl p.tables e below _ (T112.setTop (mkF m 233 #[.val (.int sel), .val (.int pos), .val (.int ch), .val (.long aq), .second, .val (.long bq), .second, .val (.int (sel &&& (3 : Int32))), .val (.ref sb), .val (.ref b1), .unset, .unset, .unset, .unset, .unset] [(.int 2), (.ref b1)]))
        refine Gl.st (fun _ kq => XS.iloadN X112.here hx rfl (hb hby at_233) rfl kq) ?_
        refine Gl.st (fun _ kq => XS.sipush X112.here hx rfl (hb hby at_234) kq) ?_
        refine Gl.st (fun _ kq => XS.iand X112.here hx rfl (hb hby at_237) rfl kq) ?_
        refine Gl.st (fun _ kq => XS.i2c X112.here hx rfl (hb hby at_238) rfl kq) ?_
        show Gl p.tables e below _ (T112.setTop (mkF m 239 #[.val (.int sel), .val (.int pos), .val (.int ch), .val (.long aq), .second, .val (.long bq), .second, .val (.int (sel &&& (3 : Int32))), .val (.ref sb), .val (.ref b1), .unset, .unset, .unset, .unset, .unset] [(.int ((ch &&& (255 : Int32)).toUInt32.toUInt16.toUInt32.toInt32)), (.int 2), (.ref b1)]))
        obtain ⟨c340, a340, q340, S340, M340, H340, G340⟩ := id V112
        obtain ⟨T340, h340, X340, e340, W340, st340⟩ := stC X112 hx hZs e112 a340 (j := (2 : Int32)) (inb_of S340 ⟨by decide, by decide⟩) (g := (mkF m 239 #[.val (.int sel), .val (.int pos), .val (.int ch), .val (.long aq), .second, .val (.long bq), .second, .val (.int (sel &&& (3 : Int32))), .val (.ref sb), .val (.ref b1), .unset, .unset, .unset, .unset, .unset] [(.int ((ch &&& (255 : Int32)).toUInt32.toUInt16.toUInt32.toInt32)), (.int 2), (.ref b1)])) rfl rfl (hb hby at_239)
        refine Gl.st st340 ?_
        have C341 : CHr Z consts_1 s.vm h0 vms h340 := C113.trans (CHr.wr W340 (Safe.arv hZs.alike V112 (by decide)) C113.1)
        have V340 : Arv Z h340 b1 k1 .char (12 : Int32) [(.int v9), (.int v20), (.int ((ch &&& (255 : Int32)).toUInt32.toUInt16.toUInt32.toInt32)), (.int v38), (.int v47), (.int v56), (.int v65), (.int v74), (.int v83), (.int v92), (.int v101), (.int v110)] (.int 0) := by
          have q := Arv.set a340 q340 S340 M340 H340 G340 (fits_nar_char _) W340 2 rfl (Nat.le_of_ble_eq_true rfl)
          rw [nar_id (ci_and _).1 (ci_and _).2] at q
          exact q
        have N340 := Fr.snoc X340 N112 g2
        show Gl p.tables e below _ (T340.setTop (mkF m 240 #[.val (.int sel), .val (.int pos), .val (.int ch), .val (.long aq), .second, .val (.long bq), .second, .val (.int (sel &&& (3 : Int32))), .val (.ref sb), .val (.ref b1), .unset, .unset, .unset, .unset, .unset] []))
        have f342 : Arv Z h340 va kva (.object "com/example/groupwright/groupwright/app/Registration$Kind") (3 : Int32) [(.ref uk1), (.ref uk2), (.ref uk3)] .null := (f261.other W340 ne260)
        have f343 : Exa Z h340 va "[Lcom/example/groupwright/groupwright/app/Registration$Kind;" := (f262.wr W340)
        have f344 : Fld Z h340 uk1 "com/example/groupwright/groupwright/app/Registration$Kind" "word" "Ljava/lang/String;" (.ref uw1) := (f264.other W340 (Or.inl ne263))
        have f345 : Exa Z h340 uw1 "java/lang/String" := (f265.wr W340)
        have f346 : Fld Z h340 uw1 "java/lang/String" "coder" "B" (.int 0) := (f267.other W340 (Or.inl ne266))
        have f347 : Fld Z h340 uw1 "java/lang/String" "value" "[B" (.ref ut1) := (f268.other W340 (Or.inl ne266))
        have f348 : Arv Z h340 ut1 uj1 .byte (Int32.ofNat ([99, 111, 108, 108, 101, 99, 116, 105, 111, 110] : List Int32).length) ((([99, 111, 108, 108, 101, 99, 116, 105, 111, 110] : List Int32).map (fun c => c.toInt8.toInt32)).map Value.int) (.int 0) := (f270.other W340 ne269)
        have f349 : Fld Z h340 uk2 "com/example/groupwright/groupwright/app/Registration$Kind" "word" "Ljava/lang/String;" (.ref uw2) := (f272.other W340 (Or.inl ne271))
        have f350 : Exa Z h340 uw2 "java/lang/String" := (f273.wr W340)
        have f351 : Fld Z h340 uw2 "java/lang/String" "coder" "B" (.int 0) := (f275.other W340 (Or.inl ne274))
        have f352 : Fld Z h340 uw2 "java/lang/String" "value" "[B" (.ref ut2) := (f276.other W340 (Or.inl ne274))
        have f353 : Arv Z h340 ut2 uj2 .byte (Int32.ofNat ([111, 98, 106, 101, 99, 116] : List Int32).length) ((([111, 98, 106, 101, 99, 116] : List Int32).map (fun c => c.toInt8.toInt32)).map Value.int) (.int 0) := (f278.other W340 ne277)
        have f354 : Fld Z h340 uk3 "com/example/groupwright/groupwright/app/Registration$Kind" "word" "Ljava/lang/String;" (.ref uw3) := (f280.other W340 (Or.inl ne279))
        have f355 : Exa Z h340 uw3 "java/lang/String" := (f281.wr W340)
        have f356 : Fld Z h340 uw3 "java/lang/String" "coder" "B" (.int 0) := (f283.other W340 (Or.inl ne282))
        have f357 : Fld Z h340 uw3 "java/lang/String" "value" "[B" (.ref ut3) := (f284.other W340 (Or.inl ne282))
        have f358 : Arv Z h340 ut3 uj3 .byte (Int32.ofNat ([100, 97, 116, 97, 115, 101, 116] : List Int32).length) ((([100, 97, 116, 97, 115, 101, 116] : List Int32).map (fun c => c.toInt8.toInt32)).map Value.int) (.int 0) := (f286.other W340 ne285)
        have f359 : Old Z n0 h340 := (f287.wr W340 g2)
        have f360 : Exa Z h340 sb "java/lang/String" := (f288.wr W340)
        have f361 : Fld Z h340 sb "java/lang/String" "coder" "B" (.int 0) := (f289.other W340 (Or.inl ne14))
        have f362 : Fld Z h340 sb "java/lang/String" "value" "[B" (.ref sx) := (f290.other W340 (Or.inl ne14))
        have f363 : Arv Z h340 sx sk .byte (Int32.ofNat cs.length) ((cs.map (fun c => c.toInt8.toInt32)).map Value.int) (.int 0) := (f291.other W340 ne17)
        exact Jk _ _ _ _ _ hSs hZs hos (Nat.le_trans (Nat.le_trans (Nat.le_trans (Nat.le_trans (Nat.le_trans (Nat.le_trans (Nat.le_trans (Nat.le_trans (Nat.le_trans (Nat.le_trans (Nat.le_trans (Nat.le_trans (Nat.le_trans (Nat.le_trans hks E1.1) (Keep.of_wr W11).1) (Keep.of_wr W22).1) (Keep.of_wr W31).1) (Keep.of_wr W40).1) (Keep.of_wr W49).1) (Keep.of_wr W58).1) (Keep.of_wr W67).1) (Keep.of_wr W76).1) (Keep.of_wr W85).1) (Keep.of_wr W94).1) (Keep.of_wr W103).1) (Keep.of_wr W112).1) (Keep.of_wr W340).1) C341 (X340.more (by decide) (by decide)) e340 N340 (Nat.le_trans (Nat.le_trans (Nat.le_trans (Nat.le_trans (Nat.le_trans (Nat.le_trans (Nat.le_trans (Nat.le_trans (Nat.le_trans (Nat.le_trans (Nat.le_trans (Nat.le_trans (Nat.le_trans (Nat.le_trans zs E1.1) (Keep.of_wr W11).1) (Keep.of_wr W22).1) (Keep.of_wr W31).1) (Keep.of_wr W40).1) (Keep.of_wr W49).1) (Keep.of_wr W58).1) (Keep.of_wr W67).1) (Keep.of_wr W76).1) (Keep.of_wr W85).1) (Keep.of_wr W94).1) (Keep.of_wr W103).1) (Keep.of_wr W112).1) (Keep.of_wr W340).1) (v9) (v20) (((ch &&& (255 : Int32)).toUInt32.toUInt16.toUInt32.toInt32)) (v38) (v47) (v56) (v65) (v74) (v83) (v92) (v101) (v110) f342 f343 f344 f345 f346 f347 f348 f349 f350 f351 f352 f353 f354 f355 f356 f357 f358 f359 f360 f361 f362 f363 V340 y10_0 y21_0 (ci_and _) y39_0 y48_0 y57_0 y66_0 y75_0 y84_0 y93_0 y102_0 y111_0
      · rw [ejk]
        show Gl p.tables e below _ (T112.setTop (mkF m 233 #[.val (.int sel), .val (.int pos), .val (.int ch), .val (.long aq), .second, .val (.long bq), .second, .val (.int (sel &&& (3 : Int32))), .val (.ref sb), .val (.ref b1), .unset, .unset, .unset, .unset, .unset] [(.int 3), (.ref b1)]))
        refine Gl.st (fun _ kq => XS.iloadN X112.here hx rfl (hb hby at_233) rfl kq) ?_
        refine Gl.st (fun _ kq => XS.sipush X112.here hx rfl (hb hby at_234) kq) ?_
        refine Gl.st (fun _ kq => XS.iand X112.here hx rfl (hb hby at_237) rfl kq) ?_
        refine Gl.st (fun _ kq => XS.i2c X112.here hx rfl (hb hby at_238) rfl kq) ?_
        show Gl p.tables e below _ (T112.setTop (mkF m 239 #[.val (.int sel), .val (.int pos), .val (.int ch), .val (.long aq), .second, .val (.long bq), .second, .val (.int (sel &&& (3 : Int32))), .val (.ref sb), .val (.ref b1), .unset, .unset, .unset, .unset, .unset] [(.int ((ch &&& (255 : Int32)).toUInt32.toUInt16.toUInt32.toInt32)), (.int 3), (.ref b1)]))
        obtain ⟨c364, a364, q364, S364, M364, H364, G364⟩ := id V112
        obtain ⟨T364, h364, X364, e364, W364, st364⟩ := stC X112 hx hZs e112 a364 (j := (3 : Int32)) (inb_of S364 ⟨by decide, by decide⟩) (g := (mkF m 239 #[.val (.int sel), .val (.int pos), .val (.int ch), .val (.long aq), .second, .val (.long bq), .second, .val (.int (sel &&& (3 : Int32))), .val (.ref sb), .val (.ref b1), .unset, .unset, .unset, .unset, .unset] [(.int ((ch &&& (255 : Int32)).toUInt32.toUInt16.toUInt32.toInt32)), (.int 3), (.ref b1)])) rfl rfl (hb hby at_239)
        refine Gl.st st364 ?_
        have C365 : CHr Z consts_1 s.vm h0 vms h364 := C113.trans (CHr.wr W364 (Safe.arv hZs.alike V112 (by decide)) C113.1)
        have V364 : Arv Z h364 b1 k1 .char (12 : Int32) [(.int v9), (.int v20), (.int v29), (.int ((ch &&& (255 : Int32)).toUInt32.toUInt16.toUInt32.toInt32)), (.int v47), (.int v56), (.int v65), (.int v74), (.int v83), (.int v92), (.int v101), (.int v110)] (.int 0) := by
          have q := Arv.set a364 q364 S364 M364 H364 G364 (fits_nar_char _) W364 3 rfl (Nat.le_of_ble_eq_true rfl)
          rw [nar_id (ci_and _).1 (ci_and _).2] at q
          exact q
        have N364 := Fr.snoc X364 N112 g2
        show Gl p.tables e below _ (T364.setTop (mkF m 240 #[.val (.int sel), .val (.int pos), .val (.int ch), .val (.long aq), .second, .val (.long bq), .second, .val (.int (sel &&& (3 : Int32))), .val (.ref sb), .val (.ref b1), .unset, .unset, .unset, .unset, .unset] []))
        have f366 : Arv Z h364 va kva (.object "com/example/groupwright/groupwright/app/Registration$Kind") (3 : Int32) [(.ref uk1), (.ref uk2), (.ref uk3)] .null := (f261.other W364 ne260)
        have f367 : Exa Z h364 va "[Lcom/example/groupwright/groupwright/app/Registration$Kind;" := (f262.wr W364)
        have f368 : Fld Z h364 uk1 "com/example/groupwright/groupwright/app/Registration$Kind" "word" "Ljava/lang/String;" (.ref uw1) := (f264.other W364 (Or.inl ne263))
        have f369 : Exa Z h364 uw1 "java/lang/String" := (f265.wr W364)
        have f370 : Fld Z h364 uw1 "java/lang/String" "coder" "B" (.int 0) := (f267.other W364 (Or.inl ne266))
        have f371 : Fld Z h364 uw1 "java/lang/String" "value" "[B" (.ref ut1) := (f268.other W364 (Or.inl ne266))
        have f372 : Arv Z h364 ut1 uj1 .byte (Int32.ofNat ([99, 111, 108, 108, 101, 99, 116, 105, 111, 110] : List Int32).length) ((([99, 111, 108, 108, 101, 99, 116, 105, 111, 110] : List Int32).map (fun c => c.toInt8.toInt32)).map Value.int) (.int 0) := (f270.other W364 ne269)
        have f373 : Fld Z h364 uk2 "com/example/groupwright/groupwright/app/Registration$Kind" "word" "Ljava/lang/String;" (.ref uw2) := (f272.other W364 (Or.inl ne271))
        have f374 : Exa Z h364 uw2 "java/lang/String" := (f273.wr W364)
        have f375 : Fld Z h364 uw2 "java/lang/String" "coder" "B" (.int 0) := (f275.other W364 (Or.inl ne274))
        have f376 : Fld Z h364 uw2 "java/lang/String" "value" "[B" (.ref ut2) := (f276.other W364 (Or.inl ne274))
        have f377 : Arv Z h364 ut2 uj2 .byte (Int32.ofNat ([111, 98, 106, 101, 99, 116] : List Int32).length) ((([111, 98, 106, 101, 99, 116] : List Int32).map (fun c => c.toInt8.toInt32)).map Value.int) (.int 0) := (f278.other W364 ne277)
        have f378 : Fld Z h364 uk3 "com/example/groupwright/groupwright/app/Registration$Kind" "word" "Ljava/lang/String;" (.ref uw3) := (f280.other W364 (Or.inl ne279))
        have f379 : Exa Z h364 uw3 "java/lang/String" := (f281.wr W364)
        have f380 : Fld Z h364 uw3 "java/lang/String" "coder" "B" (.int 0) := (f283.other W364 (Or.inl ne282))
        have f381 : Fld Z h364 uw3 "java/lang/String" "value" "[B" (.ref ut3) := (f284.other W364 (Or.inl ne282))
        have f382 : Arv Z h364 ut3 uj3 .byte (Int32.ofNat ([100, 97, 116, 97, 115, 101, 116] : List Int32).length) ((([100, 97, 116, 97, 115, 101, 116] : List Int32).map (fun c => c.toInt8.toInt32)).map Value.int) (.int 0) := (f286.other W364 ne285)
        have f383 : Old Z n0 h364 := (f287.wr W364 g2)
        have f384 : Exa Z h364 sb "java/lang/String" := (f288.wr W364)
        have f385 : Fld Z h364 sb "java/lang/String" "coder" "B" (.int 0) := (f289.other W364 (Or.inl ne14))
        have f386 : Fld Z h364 sb "java/lang/String" "value" "[B" (.ref sx) := (f290.other W364 (Or.inl ne14))
        have f387 : Arv Z h364 sx sk .byte (Int32.ofNat cs.length) ((cs.map (fun c => c.toInt8.toInt32)).map Value.int) (.int 0) := (f291.other W364 ne17)
        exact Jk _ _ _ _ _ hSs hZs hos (Nat.le_trans (Nat.le_trans (Nat.le_trans (Nat.le_trans (Nat.le_trans (Nat.le_trans (Nat.le_trans (Nat.le_trans (Nat.le_trans (Nat.le_trans (Nat.le_trans (Nat.le_trans (Nat.le_trans (Nat.le_trans hks E1.1) (Keep.of_wr W11).1) (Keep.of_wr W22).1) (Keep.of_wr W31).1) (Keep.of_wr W40).1) (Keep.of_wr W49).1) (Keep.of_wr W58).1) (Keep.of_wr W67).1) (Keep.of_wr W76).1) (Keep.of_wr W85).1) (Keep.of_wr W94).1) (Keep.of_wr W103).1) (Keep.of_wr W112).1) (Keep.of_wr W364).1) C365 (X364.more (by decide) (by decide)) e364 N364 (Nat.le_trans (Nat.le_trans (Nat.le_trans (Nat.le_trans (Nat.le_trans (Nat.le_trans (Nat.le_trans (Nat.le_trans (Nat.le_trans (Nat.le_trans (Nat.le_trans (Nat.le_trans (Nat.le_trans (Nat.le_trans zs E1.1) (Keep.of_wr W11).1) (Keep.of_wr W22).1) (Keep.of_wr W31).1) (Keep.of_wr W40).1) (Keep.of_wr W49).1) (Keep.of_wr W58).1) (Keep.of_wr W67).1) (Keep.of_wr W76).1) (Keep.of_wr W85).1) (Keep.of_wr W94).1) (Keep.of_wr W103).1) (Keep.of_wr W112).1) (Keep.of_wr W364).1) (v9) (v20) (v29) (((ch &&& (255 : Int32)).toUInt32.toUInt16.toUInt32.toInt32)) (v47) (v56) (v65) (v74) (v83) (v92) (v101) (v110) f366 f367 f368 f369 f370 f371 f372 f373 f374 f375 f376 f377 f378 f379 f380 f381 f382 f383 f384 f385 f386 f387 V364 y10_0 y21_0 y30_0 (ci_and _) y48_0 y57_0 y66_0 y75_0 y84_0 y93_0 y102_0 y111_0
      · rw [ejk]
        show Gl p.tables e below _ (T112.setTop (mkF m 233 #[.val (.int sel), .val (.int pos), .val (.int ch), .val (.long aq), .second, .val (.long bq), .second, .val (.int (sel &&& (3 : Int32))), .val (.ref sb), .val (.ref b1), .unset, .unset, .unset, .unset, .unset] [(.int 4), (.ref b1)]))
        refine Gl.st (fun _ kq => XS.iloadN X112.here hx rfl (hb hby at_233) rfl kq) ?_
        refine Gl.st (fun _ kq => XS.sipush X112.here hx rfl (hb hby at_234) kq) ?_
        refine Gl.st (fun _ kq => XS.iand X112.here hx rfl (hb hby at_237) rfl kq) ?_
        refine Gl.st (fun _ kq => XS.i2c X112.here hx rfl (hb hby at_238) rfl kq) ?_
        show Gl p.tables e below _ (T112.setTop (mkF m 239 #[.val (.int sel), .val (.int pos), .val (.int ch), .val (.long aq), .second, .val (.long bq), .second, .val (.int (sel &&& (3 : Int32))), .val (.ref sb), .val (.ref b1), .unset, .unset, .unset, .unset, .unset] [(.int ((ch &&& (255 : Int32)).toUInt32.toUInt16.toUInt32.toInt32)), (.int 4), (.ref b1)]))
        obtain ⟨c388, a388, q388, S388, M388, H388, G388⟩ := id V112
        obtain ⟨T388, h388, X388, e388, W388, st388⟩ := stC X112 hx hZs e112 a388 (j := (4 : Int32)) (inb_of S388 ⟨by decide, by decide⟩) (g := (mkF m 239 #[.val (.int sel), .val (.int pos), .val (.int ch), .val (.long aq), .second, .val (.long bq), .second, .val (.int (sel &&& (3 : Int32))), .val (.ref sb), .val (.ref b1), .unset, .unset, .unset, .unset, .unset] [(.int ((ch &&& (255 : Int32)).toUInt32.toUInt16.toUInt32.toInt32)), (.int 4), (.ref b1)])) rfl rfl (hb hby at_239)
        refine Gl.st st388 ?_
        have C389 : CHr Z consts_1 s.vm h0 vms h388 := C113.trans (CHr.wr W388 (Safe.arv hZs.alike V112 (by decide)) C113.1)
        have V388 : Arv Z h388 b1 k1 .char (12 : Int32) [(.int v9), (.int v20), (.int v29), (.int v38), (.int ((ch &&& (255 : Int32)).toUInt32.toUInt16.toUInt32.toInt32)), (.int v56), (.int v65), (.int v74), (.int v83), (.int v92), (.int v101), (.int v110)] (.int 0) := by
          have q := Arv.set a388 q388 S388 M388 H388 G388 (fits_nar_char _) W388 4 rfl (Nat.le_of_ble_eq_true rfl)
          rw [nar_id (ci_and _).1 (ci_and _).2] at q
          exact q
        have N388 := Fr.snoc X388 N112 g2
        show Gl p.tables e below _ (T388.setTop (mkF m 240 #[.val (.int sel), .val (.int pos), .val (.int ch), .val (.long aq), .second, .val (.long bq), .second, .val (.int (sel &&& (3 : Int32))), .val (.ref sb), .val (.ref b1), .unset, .unset, .unset, .unset, .unset] []))
        have f390 : Arv Z h388 va kva (.object "com/example/groupwright/groupwright/app/Registration$Kind") (3 : Int32) [(.ref uk1), (.ref uk2), (.ref uk3)] .null := (f261.other W388 ne260)
        have f391 : Exa Z h388 va "[Lcom/example/groupwright/groupwright/app/Registration$Kind;" := (f262.wr W388)
        have f392 : Fld Z h388 uk1 "com/example/groupwright/groupwright/app/Registration$Kind" "word" "Ljava/lang/String;" (.ref uw1) := (f264.other W388 (Or.inl ne263))
        have f393 : Exa Z h388 uw1 "java/lang/String" := (f265.wr W388)
        have f394 : Fld Z h388 uw1 "java/lang/String" "coder" "B" (.int 0) := (f267.other W388 (Or.inl ne266))
        have f395 : Fld Z h388 uw1 "java/lang/String" "value" "[B" (.ref ut1) := (f268.other W388 (Or.inl ne266))
        have f396 : Arv Z h388 ut1 uj1 .byte (Int32.ofNat ([99, 111, 108, 108, 101, 99, 116, 105, 111, 110] : List Int32).length) ((([99, 111, 108, 108, 101, 99, 116, 105, 111, 110] : List Int32).map (fun c => c.toInt8.toInt32)).map Value.int) (.int 0) := (f270.other W388 ne269)
        have f397 : Fld Z h388 uk2 "com/example/groupwright/groupwright/app/Registration$Kind" "word" "Ljava/lang/String;" (.ref uw2) := (f272.other W388 (Or.inl ne271))
        have f398 : Exa Z h388 uw2 "java/lang/String" := (f273.wr W388)
        have f399 : Fld Z h388 uw2 "java/lang/String" "coder" "B" (.int 0) := (f275.other W388 (Or.inl ne274))
        have f400 : Fld Z h388 uw2 "java/lang/String" "value" "[B" (.ref ut2) := (f276.other W388 (Or.inl ne274))
        have f401 : Arv Z h388 ut2 uj2 .byte (Int32.ofNat ([111, 98, 106, 101, 99, 116] : List Int32).length) ((([111, 98, 106, 101, 99, 116] : List Int32).map (fun c => c.toInt8.toInt32)).map Value.int) (.int 0) := (f278.other W388 ne277)
        have f402 : Fld Z h388 uk3 "com/example/groupwright/groupwright/app/Registration$Kind" "word" "Ljava/lang/String;" (.ref uw3) := (f280.other W388 (Or.inl ne279))
        have f403 : Exa Z h388 uw3 "java/lang/String" := (f281.wr W388)
        have f404 : Fld Z h388 uw3 "java/lang/String" "coder" "B" (.int 0) := (f283.other W388 (Or.inl ne282))
        have f405 : Fld Z h388 uw3 "java/lang/String" "value" "[B" (.ref ut3) := (f284.other W388 (Or.inl ne282))
        have f406 : Arv Z h388 ut3 uj3 .byte (Int32.ofNat ([100, 97, 116, 97, 115, 101, 116] : List Int32).length) ((([100, 97, 116, 97, 115, 101, 116] : List Int32).map (fun c => c.toInt8.toInt32)).map Value.int) (.int 0) := (f286.other W388 ne285)
        have f407 : Old Z n0 h388 := (f287.wr W388 g2)
        have f408 : Exa Z h388 sb "java/lang/String" := (f288.wr W388)
        have f409 : Fld Z h388 sb "java/lang/String" "coder" "B" (.int 0) := (f289.other W388 (Or.inl ne14))
        have f410 : Fld Z h388 sb "java/lang/String" "value" "[B" (.ref sx) := (f290.other W388 (Or.inl ne14))
        have f411 : Arv Z h388 sx sk .byte (Int32.ofNat cs.length) ((cs.map (fun c => c.toInt8.toInt32)).map Value.int) (.int 0) := (f291.other W388 ne17)
        exact Jk _ _ _ _ _ hSs hZs hos (Nat.le_trans (Nat.le_trans (Nat.le_trans (Nat.le_trans (Nat.le_trans (Nat.le_trans (Nat.le_trans (Nat.le_trans (Nat.le_trans (Nat.le_trans (Nat.le_trans (Nat.le_trans (Nat.le_trans (Nat.le_trans hks E1.1) (Keep.of_wr W11).1) (Keep.of_wr W22).1) (Keep.of_wr W31).1) (Keep.of_wr W40).1) (Keep.of_wr W49).1) (Keep.of_wr W58).1) (Keep.of_wr W67).1) (Keep.of_wr W76).1) (Keep.of_wr W85).1) (Keep.of_wr W94).1) (Keep.of_wr W103).1) (Keep.of_wr W112).1) (Keep.of_wr W388).1) C389 (X388.more (by decide) (by decide)) e388 N388 (Nat.le_trans (Nat.le_trans (Nat.le_trans (Nat.le_trans (Nat.le_trans (Nat.le_trans (Nat.le_trans (Nat.le_trans (Nat.le_trans (Nat.le_trans (Nat.le_trans (Nat.le_trans (Nat.le_trans (Nat.le_trans zs E1.1) (Keep.of_wr W11).1) (Keep.of_wr W22).1) (Keep.of_wr W31).1) (Keep.of_wr W40).1) (Keep.of_wr W49).1) (Keep.of_wr W58).1) (Keep.of_wr W67).1) (Keep.of_wr W76).1) (Keep.of_wr W85).1) (Keep.of_wr W94).1) (Keep.of_wr W103).1) (Keep.of_wr W112).1) (Keep.of_wr W388).1) (v9) (v20) (v29) (v38) (((ch &&& (255 : Int32)).toUInt32.toUInt16.toUInt32.toInt32)) (v56) (v65) (v74) (v83) (v92) (v101) (v110) f390 f391 f392 f393 f394 f395 f396 f397 f398 f399 f400 f401 f402 f403 f404 f405 f406 f407 f408 f409 f410 f411 V388 y10_0 y21_0 y30_0 y39_0 (ci_and _) y57_0 y66_0 y75_0 y84_0 y93_0 y102_0 y111_0
      · rw [ejk]
        show Gl p.tables e below _ (T112.setTop (mkF m 233 #[.val (.int sel), .val (.int pos), .val (.int ch), .val (.long aq), .second, .val (.long bq), .second, .val (.int (sel &&& (3 : Int32))), .val (.ref sb), .val (.ref b1), .unset, .unset, .unset, .unset, .unset] [(.int 5), (.ref b1)]))
        refine Gl.st (fun _ kq => XS.iloadN X112.here hx rfl (hb hby at_233) rfl kq) ?_
        refine Gl.st (fun _ kq => XS.sipush X112.here hx rfl (hb hby at_234) kq) ?_
        refine Gl.st (fun _ kq => XS.iand X112.here hx rfl (hb hby at_237) rfl kq) ?_
        refine Gl.st (fun _ kq => XS.i2c X112.here hx rfl (hb hby at_238) rfl kq) ?_
        show Gl p.tables e below _ (T112.setTop (mkF m 239 #[.val (.int sel), .val (.int pos), .val (.int ch), .val (.long aq), .second, .val (.long bq), .second, .val (.int (sel &&& (3 : Int32))), .val (.ref sb), .val (.ref b1), .unset, .unset, .unset, .unset, .unset] [(.int ((ch &&& (255 : Int32)).toUInt32.toUInt16.toUInt32.toInt32)), (.int 5), (.ref b1)]))
        obtain ⟨c412, a412, q412, S412, M412, H412, G412⟩ := id V112
        obtain ⟨T412, h412, X412, e412, W412, st412⟩ := stC X112 hx hZs e112 a412 (j := (5 : Int32)) (inb_of S412 ⟨by decide, by decide⟩) (g := (mkF m 239 #[.val (.int sel), .val (.int pos), .val (.int ch), .val (.long aq), .second, .val (.long bq), .second, .val (.int (sel &&& (3 : Int32))), .val (.ref sb), .val (.ref b1), .unset, .unset, .unset, .unset, .unset] [(.int ((ch &&& (255 : Int32)).toUInt32.toUInt16.toUInt32.toInt32)), (.int 5), (.ref b1)])) rfl rfl (hb hby at_239)
        refine Gl.st st412 ?_
        have C413 : CHr Z consts_1 s.vm h0 vms h412 := C113.trans (CHr.wr W412 (Safe.arv hZs.alike V112 (by decide)) C113.1)
        have V412 : Arv Z h412 b1 k1 .char (12 : Int32) [(.int v9), (.int v20), (.int v29), (.int v38), (.int v47), (.int ((ch &&& (255 : Int32)).toUInt32.toUInt16.toUInt32.toInt32)), (.int v65), (.int v74), (.int v83), (.int v92), (.int v101), (.int v110)] (.int 0) := by
          have q := Arv.set a412 q412 S412 M412 H412 G412 (fits_nar_char _) W412 5 rfl (Nat.le_of_ble_eq_true rfl)
          rw [nar_id (ci_and _).1 (ci_and _).2] at q
          exact q
        have N412 := Fr.snoc X412 N112 g2
        show Gl p.tables e below _ (T412.setTop (mkF m 240 #[.val (.int sel), .val (.int pos), .val (.int ch), .val (.long aq), .second, .val (.long bq), .second, .val (.int (sel &&& (3 : Int32))), .val (.ref sb), .val (.ref b1), .unset, .unset, .unset, .unset, .unset] []))
        have f414 : Arv Z h412 va kva (.object "com/example/groupwright/groupwright/app/Registration$Kind") (3 : Int32) [(.ref uk1), (.ref uk2), (.ref uk3)] .null := (f261.other W412 ne260)
        have f415 : Exa Z h412 va "[Lcom/example/groupwright/groupwright/app/Registration$Kind;" := (f262.wr W412)
        have f416 : Fld Z h412 uk1 "com/example/groupwright/groupwright/app/Registration$Kind" "word" "Ljava/lang/String;" (.ref uw1) := (f264.other W412 (Or.inl ne263))
        have f417 : Exa Z h412 uw1 "java/lang/String" := (f265.wr W412)
        have f418 : Fld Z h412 uw1 "java/lang/String" "coder" "B" (.int 0) := (f267.other W412 (Or.inl ne266))
        have f419 : Fld Z h412 uw1 "java/lang/String" "value" "[B" (.ref ut1) := (f268.other W412 (Or.inl ne266))
        have f420 : Arv Z h412 ut1 uj1 .byte (Int32.ofNat ([99, 111, 108, 108, 101, 99, 116, 105, 111, 110] : List Int32).length) ((([99, 111, 108, 108, 101, 99, 116, 105, 111, 110] : List Int32).map (fun c => c.toInt8.toInt32)).map Value.int) (.int 0) := (f270.other W412 ne269)
        have f421 : Fld Z h412 uk2 "com/example/groupwright/groupwright/app/Registration$Kind" "word" "Ljava/lang/String;" (.ref uw2) := (f272.other W412 (Or.inl ne271))
        have f422 : Exa Z h412 uw2 "java/lang/String" := (f273.wr W412)
        have f423 : Fld Z h412 uw2 "java/lang/String" "coder" "B" (.int 0) := (f275.other W412 (Or.inl ne274))
        have f424 : Fld Z h412 uw2 "java/lang/String" "value" "[B" (.ref ut2) := (f276.other W412 (Or.inl ne274))
        have f425 : Arv Z h412 ut2 uj2 .byte (Int32.ofNat ([111, 98, 106, 101, 99, 116] : List Int32).length) ((([111, 98, 106, 101, 99, 116] : List Int32).map (fun c => c.toInt8.toInt32)).map Value.int) (.int 0) := (f278.other W412 ne277)
        have f426 : Fld Z h412 uk3 "com/example/groupwright/groupwright/app/Registration$Kind" "word" "Ljava/lang/String;" (.ref uw3) := (f280.other W412 (Or.inl ne279))
        have f427 : Exa Z h412 uw3 "java/lang/String" := (f281.wr W412)
        have f428 : Fld Z h412 uw3 "java/lang/String" "coder" "B" (.int 0) := (f283.other W412 (Or.inl ne282))
        have f429 : Fld Z h412 uw3 "java/lang/String" "value" "[B" (.ref ut3) := (f284.other W412 (Or.inl ne282))
        have f430 : Arv Z h412 ut3 uj3 .byte (Int32.ofNat ([100, 97, 116, 97, 115, 101, 116] : List Int32).length) ((([100, 97, 116, 97, 115, 101, 116] : List Int32).map (fun c => c.toInt8.toInt32)).map Value.int) (.int 0) := (f286.other W412 ne285)
        have f431 : Old Z n0 h412 := (f287.wr W412 g2)
        have f432 : Exa Z h412 sb "java/lang/String" := (f288.wr W412)
        have f433 : Fld Z h412 sb "java/lang/String" "coder" "B" (.int 0) := (f289.other W412 (Or.inl ne14))
        have f434 : Fld Z h412 sb "java/lang/String" "value" "[B" (.ref sx) := (f290.other W412 (Or.inl ne14))
        have f435 : Arv Z h412 sx sk .byte (Int32.ofNat cs.length) ((cs.map (fun c => c.toInt8.toInt32)).map Value.int) (.int 0) := (f291.other W412 ne17)
        exact Jk _ _ _ _ _ hSs hZs hos (Nat.le_trans (Nat.le_trans (Nat.le_trans (Nat.le_trans (Nat.le_trans (Nat.le_trans (Nat.le_trans (Nat.le_trans (Nat.le_trans (Nat.le_trans (Nat.le_trans (Nat.le_trans (Nat.le_trans (Nat.le_trans hks E1.1) (Keep.of_wr W11).1) (Keep.of_wr W22).1) (Keep.of_wr W31).1) (Keep.of_wr W40).1) (Keep.of_wr W49).1) (Keep.of_wr W58).1) (Keep.of_wr W67).1) (Keep.of_wr W76).1) (Keep.of_wr W85).1) (Keep.of_wr W94).1) (Keep.of_wr W103).1) (Keep.of_wr W112).1) (Keep.of_wr W412).1) C413 (X412.more (by decide) (by decide)) e412 N412 (Nat.le_trans (Nat.le_trans (Nat.le_trans (Nat.le_trans (Nat.le_trans (Nat.le_trans (Nat.le_trans (Nat.le_trans (Nat.le_trans (Nat.le_trans (Nat.le_trans (Nat.le_trans (Nat.le_trans (Nat.le_trans zs E1.1) (Keep.of_wr W11).1) (Keep.of_wr W22).1) (Keep.of_wr W31).1) (Keep.of_wr W40).1) (Keep.of_wr W49).1) (Keep.of_wr W58).1) (Keep.of_wr W67).1) (Keep.of_wr W76).1) (Keep.of_wr W85).1) (Keep.of_wr W94).1) (Keep.of_wr W103).1) (Keep.of_wr W112).1) (Keep.of_wr W412).1) (v9) (v20) (v29) (v38) (v47) (((ch &&& (255 : Int32)).toUInt32.toUInt16.toUInt32.toInt32)) (v65) (v74) (v83) (v92) (v101) (v110) f414 f415 f416 f417 f418 f419 f420 f421 f422 f423 f424 f425 f426 f427 f428 f429 f430 f431 f432 f433 f434 f435 V412 y10_0 y21_0 y30_0 y39_0 y48_0 (ci_and _) y66_0 y75_0 y84_0 y93_0 y102_0 y111_0
      · rw [ejk]
        show Gl p.tables e below _ (T112.setTop (mkF m 233 #[.val (.int sel), .val (.int pos), .val (.int ch), .val (.long aq), .second, .val (.long bq), .second, .val (.int (sel &&& (3 : Int32))), .val (.ref sb), .val (.ref b1), .unset, .unset, .unset, .unset, .unset] [(.int 6), (.ref b1)]))
        refine Gl.st (fun _ kq => XS.iloadN X112.here hx rfl (hb hby at_233) rfl kq) ?_
        refine Gl.st (fun _ kq => XS.sipush X112.here hx rfl (hb hby at_234) kq) ?_
        refine Gl.st (fun _ kq => XS.iand X112.here hx rfl (hb hby at_237) rfl kq) ?_
        refine Gl.st (fun _ kq => XS.i2c X112.here hx rfl (hb hby at_238) rfl kq) ?_
        show Gl p.tables e below _ (T112.setTop (mkF m 239 #[.val (.int sel), .val (.int pos), .val (.int ch), .val (.long aq), .second, .val (.long bq), .second, .val (.int (sel &&& (3 : Int32))), .val (.ref sb), .val (.ref b1), .unset, .unset, .unset, .unset, .unset] [(.int ((ch &&& (255 : Int32)).toUInt32.toUInt16.toUInt32.toInt32)), (.int 6), (.ref b1)]))
        obtain ⟨c436, a436, q436, S436, M436, H436, G436⟩ := id V112
        obtain ⟨T436, h436, X436, e436, W436, st436⟩ := stC X112 hx hZs e112 a436 (j := (6 : Int32)) (inb_of S436 ⟨by decide, by decide⟩) (g := (mkF m 239 #[.val (.int sel), .val (.int pos), .val (.int ch), .val (.long aq), .second, .val (.long bq), .second, .val (.int (sel &&& (3 : Int32))), .val (.ref sb), .val (.ref b1), .unset, .unset, .unset, .unset, .unset] [(.int ((ch &&& (255 : Int32)).toUInt32.toUInt16.toUInt32.toInt32)), (.int 6), (.ref b1)])) rfl rfl (hb hby at_239)
        refine Gl.st st436 ?_
        have C437 : CHr Z consts_1 s.vm h0 vms h436 := C113.trans (CHr.wr W436 (Safe.arv hZs.alike V112 (by decide)) C113.1)
        have V436 : Arv Z h436 b1 k1 .char (12 : Int32) [(.int v9), (.int v20), (.int v29), (.int v38), (.int v47), (.int v56), (.int ((ch &&& (255 : Int32)).toUInt32.toUInt16.toUInt32.toInt32)), (.int v74), (.int v83), (.int v92), (.int v101), (.int v110)] (.int 0) := by
          have q := Arv.set a436 q436 S436 M436 H436 G436 (fits_nar_char _) W436 6 rfl (Nat.le_of_ble_eq_true rfl)
          rw [nar_id (ci_and _).1 (ci_and _).2] at q
          exact q
        have N436 := Fr.snoc X436 N112 g2
        show Gl p.tables e below _ (T436.setTop (mkF m 240 #[.val (.int sel), .val (.int pos), .val (.int ch), .val (.long aq), .second, .val (.long bq), .second, .val (.int (sel &&& (3 : Int32))), .val (.ref sb), .val (.ref b1), .unset, .unset, .unset, .unset, .unset] []))
        have f438 : Arv Z h436 va kva (.object "com/example/groupwright/groupwright/app/Registration$Kind") (3 : Int32) [(.ref uk1), (.ref uk2), (.ref uk3)] .null := (f261.other W436 ne260)
        have f439 : Exa Z h436 va "[Lcom/example/groupwright/groupwright/app/Registration$Kind;" := (f262.wr W436)
        have f440 : Fld Z h436 uk1 "com/example/groupwright/groupwright/app/Registration$Kind" "word" "Ljava/lang/String;" (.ref uw1) := (f264.other W436 (Or.inl ne263))
        have f441 : Exa Z h436 uw1 "java/lang/String" := (f265.wr W436)
        have f442 : Fld Z h436 uw1 "java/lang/String" "coder" "B" (.int 0) := (f267.other W436 (Or.inl ne266))
        have f443 : Fld Z h436 uw1 "java/lang/String" "value" "[B" (.ref ut1) := (f268.other W436 (Or.inl ne266))
        have f444 : Arv Z h436 ut1 uj1 .byte (Int32.ofNat ([99, 111, 108, 108, 101, 99, 116, 105, 111, 110] : List Int32).length) ((([99, 111, 108, 108, 101, 99, 116, 105, 111, 110] : List Int32).map (fun c => c.toInt8.toInt32)).map Value.int) (.int 0) := (f270.other W436 ne269)
        have f445 : Fld Z h436 uk2 "com/example/groupwright/groupwright/app/Registration$Kind" "word" "Ljava/lang/String;" (.ref uw2) := (f272.other W436 (Or.inl ne271))
        have f446 : Exa Z h436 uw2 "java/lang/String" := (f273.wr W436)
        have f447 : Fld Z h436 uw2 "java/lang/String" "coder" "B" (.int 0) := (f275.other W436 (Or.inl ne274))
        have f448 : Fld Z h436 uw2 "java/lang/String" "value" "[B" (.ref ut2) := (f276.other W436 (Or.inl ne274))
        have f449 : Arv Z h436 ut2 uj2 .byte (Int32.ofNat ([111, 98, 106, 101, 99, 116] : List Int32).length) ((([111, 98, 106, 101, 99, 116] : List Int32).map (fun c => c.toInt8.toInt32)).map Value.int) (.int 0) := (f278.other W436 ne277)
        have f450 : Fld Z h436 uk3 "com/example/groupwright/groupwright/app/Registration$Kind" "word" "Ljava/lang/String;" (.ref uw3) := (f280.other W436 (Or.inl ne279))
        have f451 : Exa Z h436 uw3 "java/lang/String" := (f281.wr W436)
        have f452 : Fld Z h436 uw3 "java/lang/String" "coder" "B" (.int 0) := (f283.other W436 (Or.inl ne282))
        have f453 : Fld Z h436 uw3 "java/lang/String" "value" "[B" (.ref ut3) := (f284.other W436 (Or.inl ne282))
        have f454 : Arv Z h436 ut3 uj3 .byte (Int32.ofNat ([100, 97, 116, 97, 115, 101, 116] : List Int32).length) ((([100, 97, 116, 97, 115, 101, 116] : List Int32).map (fun c => c.toInt8.toInt32)).map Value.int) (.int 0) := (f286.other W436 ne285)
        have f455 : Old Z n0 h436 := (f287.wr W436 g2)
        have f456 : Exa Z h436 sb "java/lang/String" := (f288.wr W436)
        have f457 : Fld Z h436 sb "java/lang/String" "coder" "B" (.int 0) := (f289.other W436 (Or.inl ne14))
        have f458 : Fld Z h436 sb "java/lang/String" "value" "[B" (.ref sx) := (f290.other W436 (Or.inl ne14))
        have f459 : Arv Z h436 sx sk .byte (Int32.ofNat cs.length) ((cs.map (fun c => c.toInt8.toInt32)).map Value.int) (.int 0) := (f291.other W436 ne17)
        exact Jk _ _ _ _ _ hSs hZs hos (Nat.le_trans (Nat.le_trans (Nat.le_trans (Nat.le_trans (Nat.le_trans (Nat.le_trans (Nat.le_trans (Nat.le_trans (Nat.le_trans (Nat.le_trans (Nat.le_trans (Nat.le_trans (Nat.le_trans (Nat.le_trans hks E1.1) (Keep.of_wr W11).1) (Keep.of_wr W22).1) (Keep.of_wr W31).1) (Keep.of_wr W40).1) (Keep.of_wr W49).1) (Keep.of_wr W58).1) (Keep.of_wr W67).1) (Keep.of_wr W76).1) (Keep.of_wr W85).1) (Keep.of_wr W94).1) (Keep.of_wr W103).1) (Keep.of_wr W112).1) (Keep.of_wr W436).1) C437 (X436.more (by decide) (by decide)) e436 N436 (Nat.le_trans (Nat.le_trans (Nat.le_trans (Nat.le_trans (Nat.le_trans (Nat.le_trans (Nat.le_trans (Nat.le_trans (Nat.le_trans (Nat.le_trans (Nat.le_trans (Nat.le_trans (Nat.le_trans (Nat.le_trans zs E1.1) (Keep.of_wr W11).1) (Keep.of_wr W22).1) (Keep.of_wr W31).1) (Keep.of_wr W40).1) (Keep.of_wr W49).1) (Keep.of_wr W58).1) (Keep.of_wr W67).1) (Keep.of_wr W76).1) (Keep.of_wr W85).1) (Keep.of_wr W94).1) (Keep.of_wr W103).1) (Keep.of_wr W112).1) (Keep.of_wr W436).1) (v9) (v20) (v29) (v38) (v47) (v56) (((ch &&& (255 : Int32)).toUInt32.toUInt16.toUInt32.toInt32)) (v74) (v83) (v92) (v101) (v110) f438 f439 f440 f441 f442 f443 f444 f445 f446 f447 f448 f449 f450 f451 f452 f453 f454 f455 f456 f457 f458 f459 V436 y10_0 y21_0 y30_0 y39_0 y48_0 y57_0 (ci_and _) y75_0 y84_0 y93_0 y102_0 y111_0
      · rw [ejk]
        show Gl p.tables e below _ (T112.setTop (mkF m 233 #[.val (.int sel), .val (.int pos), .val (.int ch), .val (.long aq), .second, .val (.long bq), .second, .val (.int (sel &&& (3 : Int32))), .val (.ref sb), .val (.ref b1), .unset, .unset, .unset, .unset, .unset] [(.int 7), (.ref b1)]))
        refine Gl.st (fun _ kq => XS.iloadN X112.here hx rfl (hb hby at_233) rfl kq) ?_
        refine Gl.st (fun _ kq => XS.sipush X112.here hx rfl (hb hby at_234) kq) ?_
        refine Gl.st (fun _ kq => XS.iand X112.here hx rfl (hb hby at_237) rfl kq) ?_
        refine Gl.st (fun _ kq => XS.i2c X112.here hx rfl (hb hby at_238) rfl kq) ?_
        show Gl p.tables e below _ (T112.setTop (mkF m 239 #[.val (.int sel), .val (.int pos), .val (.int ch), .val (.long aq), .second, .val (.long bq), .second, .val (.int (sel &&& (3 : Int32))), .val (.ref sb), .val (.ref b1), .unset, .unset, .unset, .unset, .unset] [(.int ((ch &&& (255 : Int32)).toUInt32.toUInt16.toUInt32.toInt32)), (.int 7), (.ref b1)]))
        obtain ⟨c460, a460, q460, S460, M460, H460, G460⟩ := id V112
        obtain ⟨T460, h460, X460, e460, W460, st460⟩ := stC X112 hx hZs e112 a460 (j := (7 : Int32)) (inb_of S460 ⟨by decide, by decide⟩) (g := (mkF m 239 #[.val (.int sel), .val (.int pos), .val (.int ch), .val (.long aq), .second, .val (.long bq), .second, .val (.int (sel &&& (3 : Int32))), .val (.ref sb), .val (.ref b1), .unset, .unset, .unset, .unset, .unset] [(.int ((ch &&& (255 : Int32)).toUInt32.toUInt16.toUInt32.toInt32)), (.int 7), (.ref b1)])) rfl rfl (hb hby at_239)
        refine Gl.st st460 ?_
        have C461 : CHr Z consts_1 s.vm h0 vms h460 := C113.trans (CHr.wr W460 (Safe.arv hZs.alike V112 (by decide)) C113.1)
        have V460 : Arv Z h460 b1 k1 .char (12 : Int32) [(.int v9), (.int v20), (.int v29), (.int v38), (.int v47), (.int v56), (.int v65), (.int ((ch &&& (255 : Int32)).toUInt32.toUInt16.toUInt32.toInt32)), (.int v83), (.int v92), (.int v101), (.int v110)] (.int 0) := by
          have q := Arv.set a460 q460 S460 M460 H460 G460 (fits_nar_char _) W460 7 rfl (Nat.le_of_ble_eq_true rfl)
          rw [nar_id (ci_and _).1 (ci_and _).2] at q
          exact q
        have N460 := Fr.snoc X460 N112 g2
        show Gl p.tables e below _ (T460.setTop (mkF m 240 #[.val (.int sel), .val (.int pos), .val (.int ch), .val (.long aq), .second, .val (.long bq), .second, .val (.int (sel &&& (3 : Int32))), .val (.ref sb), .val (.ref b1), .unset, .unset, .unset, .unset, .unset] []))
        have f462 : Arv Z h460 va kva (.object "com/example/groupwright/groupwright/app/Registration$Kind") (3 : Int32) [(.ref uk1), (.ref uk2), (.ref uk3)] .null := (f261.other W460 ne260)
        have f463 : Exa Z h460 va "[Lcom/example/groupwright/groupwright/app/Registration$Kind;" := (f262.wr W460)
        have f464 : Fld Z h460 uk1 "com/example/groupwright/groupwright/app/Registration$Kind" "word" "Ljava/lang/String;" (.ref uw1) := (f264.other W460 (Or.inl ne263))
        have f465 : Exa Z h460 uw1 "java/lang/String" := (f265.wr W460)
        have f466 : Fld Z h460 uw1 "java/lang/String" "coder" "B" (.int 0) := (f267.other W460 (Or.inl ne266))
        have f467 : Fld Z h460 uw1 "java/lang/String" "value" "[B" (.ref ut1) := (f268.other W460 (Or.inl ne266))
        have f468 : Arv Z h460 ut1 uj1 .byte (Int32.ofNat ([99, 111, 108, 108, 101, 99, 116, 105, 111, 110] : List Int32).length) ((([99, 111, 108, 108, 101, 99, 116, 105, 111, 110] : List Int32).map (fun c => c.toInt8.toInt32)).map Value.int) (.int 0) := (f270.other W460 ne269)
        have f469 : Fld Z h460 uk2 "com/example/groupwright/groupwright/app/Registration$Kind" "word" "Ljava/lang/String;" (.ref uw2) := (f272.other W460 (Or.inl ne271))
        have f470 : Exa Z h460 uw2 "java/lang/String" := (f273.wr W460)
        have f471 : Fld Z h460 uw2 "java/lang/String" "coder" "B" (.int 0) := (f275.other W460 (Or.inl ne274))
        have f472 : Fld Z h460 uw2 "java/lang/String" "value" "[B" (.ref ut2) := (f276.other W460 (Or.inl ne274))
        have f473 : Arv Z h460 ut2 uj2 .byte (Int32.ofNat ([111, 98, 106, 101, 99, 116] : List Int32).length) ((([111, 98, 106, 101, 99, 116] : List Int32).map (fun c => c.toInt8.toInt32)).map Value.int) (.int 0) := (f278.other W460 ne277)
        have f474 : Fld Z h460 uk3 "com/example/groupwright/groupwright/app/Registration$Kind" "word" "Ljava/lang/String;" (.ref uw3) := (f280.other W460 (Or.inl ne279))
        have f475 : Exa Z h460 uw3 "java/lang/String" := (f281.wr W460)
        have f476 : Fld Z h460 uw3 "java/lang/String" "coder" "B" (.int 0) := (f283.other W460 (Or.inl ne282))
        have f477 : Fld Z h460 uw3 "java/lang/String" "value" "[B" (.ref ut3) := (f284.other W460 (Or.inl ne282))
        have f478 : Arv Z h460 ut3 uj3 .byte (Int32.ofNat ([100, 97, 116, 97, 115, 101, 116] : List Int32).length) ((([100, 97, 116, 97, 115, 101, 116] : List Int32).map (fun c => c.toInt8.toInt32)).map Value.int) (.int 0) := (f286.other W460 ne285)
        have f479 : Old Z n0 h460 := (f287.wr W460 g2)
        have f480 : Exa Z h460 sb "java/lang/String" := (f288.wr W460)
        have f481 : Fld Z h460 sb "java/lang/String" "coder" "B" (.int 0) := (f289.other W460 (Or.inl ne14))
        have f482 : Fld Z h460 sb "java/lang/String" "value" "[B" (.ref sx) := (f290.other W460 (Or.inl ne14))
        have f483 : Arv Z h460 sx sk .byte (Int32.ofNat cs.length) ((cs.map (fun c => c.toInt8.toInt32)).map Value.int) (.int 0) := (f291.other W460 ne17)
        exact Jk _ _ _ _ _ hSs hZs hos (Nat.le_trans (Nat.le_trans (Nat.le_trans (Nat.le_trans (Nat.le_trans (Nat.le_trans (Nat.le_trans (Nat.le_trans (Nat.le_trans (Nat.le_trans (Nat.le_trans (Nat.le_trans (Nat.le_trans (Nat.le_trans hks E1.1) (Keep.of_wr W11).1) (Keep.of_wr W22).1) (Keep.of_wr W31).1) (Keep.of_wr W40).1) (Keep.of_wr W49).1) (Keep.of_wr W58).1) (Keep.of_wr W67).1) (Keep.of_wr W76).1) (Keep.of_wr W85).1) (Keep.of_wr W94).1) (Keep.of_wr W103).1) (Keep.of_wr W112).1) (Keep.of_wr W460).1) C461 (X460.more (by decide) (by decide)) e460 N460 (Nat.le_trans (Nat.le_trans (Nat.le_trans (Nat.le_trans (Nat.le_trans (Nat.le_trans (Nat.le_trans (Nat.le_trans (Nat.le_trans (Nat.le_trans (Nat.le_trans (Nat.le_trans (Nat.le_trans (Nat.le_trans zs E1.1) (Keep.of_wr W11).1) (Keep.of_wr W22).1) (Keep.of_wr W31).1) (Keep.of_wr W40).1) (Keep.of_wr W49).1) (Keep.of_wr W58).1) (Keep.of_wr W67).1) (Keep.of_wr W76).1) (Keep.of_wr W85).1) (Keep.of_wr W94).1) (Keep.of_wr W103).1) (Keep.of_wr W112).1) (Keep.of_wr W460).1) (v9) (v20) (v29) (v38) (v47) (v56) (v65) (((ch &&& (255 : Int32)).toUInt32.toUInt16.toUInt32.toInt32)) (v83) (v92) (v101) (v110) f462 f463 f464 f465 f466 f467 f468 f469 f470 f471 f472 f473 f474 f475 f476 f477 f478 f479 f480 f481 f482 f483 V460 y10_0 y21_0 y30_0 y39_0 y48_0 y57_0 y66_0 (ci_and _) y84_0 y93_0 y102_0 y111_0
      · rw [ejk]
        show Gl p.tables e below _ (T112.setTop (mkF m 233 #[.val (.int sel), .val (.int pos), .val (.int ch), .val (.long aq), .second, .val (.long bq), .second, .val (.int (sel &&& (3 : Int32))), .val (.ref sb), .val (.ref b1), .unset, .unset, .unset, .unset, .unset] [(.int 8), (.ref b1)]))
        refine Gl.st (fun _ kq => XS.iloadN X112.here hx rfl (hb hby at_233) rfl kq) ?_
        refine Gl.st (fun _ kq => XS.sipush X112.here hx rfl (hb hby at_234) kq) ?_
        refine Gl.st (fun _ kq => XS.iand X112.here hx rfl (hb hby at_237) rfl kq) ?_
        refine Gl.st (fun _ kq => XS.i2c X112.here hx rfl (hb hby at_238) rfl kq) ?_
        show Gl p.tables e below _ (T112.setTop (mkF m 239 #[.val (.int sel), .val (.int pos), .val (.int ch), .val (.long aq), .second, .val (.long bq), .second, .val (.int (sel &&& (3 : Int32))), .val (.ref sb), .val (.ref b1), .unset, .unset, .unset, .unset, .unset] [(.int ((ch &&& (255 : Int32)).toUInt32.toUInt16.toUInt32.toInt32)), (.int 8), (.ref b1)]))
        obtain ⟨c484, a484, q484, S484, M484, H484, G484⟩ := id V112
        obtain ⟨T484, h484, X484, e484, W484, st484⟩ := stC X112 hx hZs e112 a484 (j := (8 : Int32)) (inb_of S484 ⟨by decide, by decide⟩) (g := (mkF m 239 #[.val (.int sel), .val (.int pos), .val (.int ch), .val (.long aq), .second, .val (.long bq), .second, .val (.int (sel &&& (3 : Int32))), .val (.ref sb), .val (.ref b1), .unset, .unset, .unset, .unset, .unset] [(.int ((ch &&& (255 : Int32)).toUInt32.toUInt16.toUInt32.toInt32)), (.int 8), (.ref b1)])) rfl rfl (hb hby at_239)
        refine Gl.st st484 ?_
        have C485 : CHr Z consts_1 s.vm h0 vms h484 := C113.trans (CHr.wr W484 (Safe.arv hZs.alike V112 (by decide)) C113.1)
        have V484 : Arv Z h484 b1 k1 .char (12 : Int32) [(.int v9), (.int v20), (.int v29), (.int v38), (.int v47), (.int v56), (.int v65), (.int v74), (.int ((ch &&& (255 : Int32)).toUInt32.toUInt16.toUInt32.toInt32)), (.int v92), (.int v101), (.int v110)] (.int 0) := by
          have q := Arv.set a484 q484 S484 M484 H484 G484 (fits_nar_char _) W484 8 rfl (Nat.le_of_ble_eq_true rfl)
          rw [nar_id (ci_and _).1 (ci_and _).2] at q
          exact q
        have N484 := Fr.snoc X484 N112 g2
        show Gl p.tables e below _ (T484.setTop (mkF m 240 #[.val (.int sel), .val (.int pos), .val (.int ch), .val (.long aq), .second, .val (.long bq), .second, .val (.int (sel &&& (3 : Int32))), .val (.ref sb), .val (.ref b1), .unset, .unset, .unset, .unset, .unset] []))
        have f486 : Arv Z h484 va kva (.object "com/example/groupwright/groupwright/app/Registration$Kind") (3 : Int32) [(.ref uk1), (.ref uk2), (.ref uk3)] .null := (f261.other W484 ne260)
        have f487 : Exa Z h484 va "[Lcom/example/groupwright/groupwright/app/Registration$Kind;" := (f262.wr W484)
        have f488 : Fld Z h484 uk1 "com/example/groupwright/groupwright/app/Registration$Kind" "word" "Ljava/lang/String;" (.ref uw1) := (f264.other W484 (Or.inl ne263))
        have f489 : Exa Z h484 uw1 "java/lang/String" := (f265.wr W484)
        have f490 : Fld Z h484 uw1 "java/lang/String" "coder" "B" (.int 0) := (f267.other W484 (Or.inl ne266))
        have f491 : Fld Z h484 uw1 "java/lang/String" "value" "[B" (.ref ut1) := (f268.other W484 (Or.inl ne266))
        have f492 : Arv Z h484 ut1 uj1 .byte (Int32.ofNat ([99, 111, 108, 108, 101, 99, 116, 105, 111, 110] : List Int32).length) ((([99, 111, 108, 108, 101, 99, 116, 105, 111, 110] : List Int32).map (fun c => c.toInt8.toInt32)).map Value.int) (.int 0) := (f270.other W484 ne269)
        have f493 : Fld Z h484 uk2 "com/example/groupwright/groupwright/app/Registration$Kind" "word" "Ljava/lang/String;" (.ref uw2) := (f272.other W484 (Or.inl ne271))
        have f494 : Exa Z h484 uw2 "java/lang/String" := (f273.wr W484)
        have f495 : Fld Z h484 uw2 "java/lang/String" "coder" "B" (.int 0) := (f275.other W484 (Or.inl ne274))
        have f496 : Fld Z h484 uw2 "java/lang/String" "value" "[B" (.ref ut2) := (f276.other W484 (Or.inl ne274))
        have f497 : Arv Z h484 ut2 uj2 .byte (Int32.ofNat ([111, 98, 106, 101, 99, 116] : List Int32).length) ((([111, 98, 106, 101, 99, 116] : List Int32).map (fun c => c.toInt8.toInt32)).map Value.int) (.int 0) := (f278.other W484 ne277)
        have f498 : Fld Z h484 uk3 "com/example/groupwright/groupwright/app/Registration$Kind" "word" "Ljava/lang/String;" (.ref uw3) := (f280.other W484 (Or.inl ne279))
        have f499 : Exa Z h484 uw3 "java/lang/String" := (f281.wr W484)
        have f500 : Fld Z h484 uw3 "java/lang/String" "coder" "B" (.int 0) := (f283.other W484 (Or.inl ne282))
        have f501 : Fld Z h484 uw3 "java/lang/String" "value" "[B" (.ref ut3) := (f284.other W484 (Or.inl ne282))
        have f502 : Arv Z h484 ut3 uj3 .byte (Int32.ofNat ([100, 97, 116, 97, 115, 101, 116] : List Int32).length) ((([100, 97, 116, 97, 115, 101, 116] : List Int32).map (fun c => c.toInt8.toInt32)).map Value.int) (.int 0) := (f286.other W484 ne285)
        have f503 : Old Z n0 h484 := (f287.wr W484 g2)
        have f504 : Exa Z h484 sb "java/lang/String" := (f288.wr W484)
        have f505 : Fld Z h484 sb "java/lang/String" "coder" "B" (.int 0) := (f289.other W484 (Or.inl ne14))
        have f506 : Fld Z h484 sb "java/lang/String" "value" "[B" (.ref sx) := (f290.other W484 (Or.inl ne14))
        have f507 : Arv Z h484 sx sk .byte (Int32.ofNat cs.length) ((cs.map (fun c => c.toInt8.toInt32)).map Value.int) (.int 0) := (f291.other W484 ne17)
        exact Jk _ _ _ _ _ hSs hZs hos (Nat.le_trans (Nat.le_trans (Nat.le_trans (Nat.le_trans (Nat.le_trans (Nat.le_trans (Nat.le_trans (Nat.le_trans (Nat.le_trans (Nat.le_trans (Nat.le_trans (Nat.le_trans (Nat.le_trans (Nat.le_trans hks E1.1) (Keep.of_wr W11).1) (Keep.of_wr W22).1) (Keep.of_wr W31).1) (Keep.of_wr W40).1) (Keep.of_wr W49).1) (Keep.of_wr W58).1) (Keep.of_wr W67).1) (Keep.of_wr W76).1) (Keep.of_wr W85).1) (Keep.of_wr W94).1) (Keep.of_wr W103).1) (Keep.of_wr W112).1) (Keep.of_wr W484).1) C485 (X484.more (by decide) (by decide)) e484 N484 (Nat.le_trans (Nat.le_trans (Nat.le_trans (Nat.le_trans (Nat.le_trans (Nat.le_trans (Nat.le_trans (Nat.le_trans (Nat.le_trans (Nat.le_trans (Nat.le_trans (Nat.le_trans (Nat.le_trans (Nat.le_trans zs E1.1) (Keep.of_wr W11).1) (Keep.of_wr W22).1) (Keep.of_wr W31).1) (Keep.of_wr W40).1) (Keep.of_wr W49).1) (Keep.of_wr W58).1) (Keep.of_wr W67).1) (Keep.of_wr W76).1) (Keep.of_wr W85).1) (Keep.of_wr W94).1) (Keep.of_wr W103).1) (Keep.of_wr W112).1) (Keep.of_wr W484).1) (v9) (v20) (v29) (v38) (v47) (v56) (v65) (v74) (((ch &&& (255 : Int32)).toUInt32.toUInt16.toUInt32.toInt32)) (v92) (v101) (v110) f486 f487 f488 f489 f490 f491 f492 f493 f494 f495 f496 f497 f498 f499 f500 f501 f502 f503 f504 f505 f506 f507 V484 y10_0 y21_0 y30_0 y39_0 y48_0 y57_0 y66_0 y75_0 (ci_and _) y93_0 y102_0 y111_0
      · rw [ejk]
        show Gl p.tables e below _ (T112.setTop (mkF m 233 #[.val (.int sel), .val (.int pos), .val (.int ch), .val (.long aq), .second, .val (.long bq), .second, .val (.int (sel &&& (3 : Int32))), .val (.ref sb), .val (.ref b1), .unset, .unset, .unset, .unset, .unset] [(.int 9), (.ref b1)]))
        refine Gl.st (fun _ kq => XS.iloadN X112.here hx rfl (hb hby at_233) rfl kq) ?_
        refine Gl.st (fun _ kq => XS.sipush X112.here hx rfl (hb hby at_234) kq) ?_
        refine Gl.st (fun _ kq => XS.iand X112.here hx rfl (hb hby at_237) rfl kq) ?_
        refine Gl.st (fun _ kq => XS.i2c X112.here hx rfl (hb hby at_238) rfl kq) ?_
        show Gl p.tables e below _ (T112.setTop (mkF m 239 #[.val (.int sel), .val (.int pos), .val (.int ch), .val (.long aq), .second, .val (.long bq), .second, .val (.int (sel &&& (3 : Int32))), .val (.ref sb), .val (.ref b1), .unset, .unset, .unset, .unset, .unset] [(.int ((ch &&& (255 : Int32)).toUInt32.toUInt16.toUInt32.toInt32)), (.int 9), (.ref b1)]))
        obtain ⟨c508, a508, q508, S508, M508, H508, G508⟩ := id V112
        obtain ⟨T508, h508, X508, e508, W508, st508⟩ := stC X112 hx hZs e112 a508 (j := (9 : Int32)) (inb_of S508 ⟨by decide, by decide⟩) (g := (mkF m 239 #[.val (.int sel), .val (.int pos), .val (.int ch), .val (.long aq), .second, .val (.long bq), .second, .val (.int (sel &&& (3 : Int32))), .val (.ref sb), .val (.ref b1), .unset, .unset, .unset, .unset, .unset] [(.int ((ch &&& (255 : Int32)).toUInt32.toUInt16.toUInt32.toInt32)), (.int 9), (.ref b1)])) rfl rfl (hb hby at_239)
        refine Gl.st st508 ?_
        have C509 : CHr Z consts_1 s.vm h0 vms h508 := C113.trans (CHr.wr W508 (Safe.arv hZs.alike V112 (by decide)) C113.1)
        have V508 : Arv Z h508 b1 k1 .char (12 : Int32) [(.int v9), (.int v20), (.int v29), (.int v38), (.int v47), (.int v56), (.int v65), (.int v74), (.int v83), (.int ((ch &&& (255 : Int32)).toUInt32.toUInt16.toUInt32.toInt32)), (.int v101), (.int v110)] (.int 0) := by
          have q := Arv.set a508 q508 S508 M508 H508 G508 (fits_nar_char _) W508 9 rfl (Nat.le_of_ble_eq_true rfl)
          rw [nar_id (ci_and _).1 (ci_and _).2] at q
          exact q
        have N508 := Fr.snoc X508 N112 g2
        show Gl p.tables e below _ (T508.setTop (mkF m 240 #[.val (.int sel), .val (.int pos), .val (.int ch), .val (.long aq), .second, .val (.long bq), .second, .val (.int (sel &&& (3 : Int32))), .val (.ref sb), .val (.ref b1), .unset, .unset, .unset, .unset, .unset] []))
        have f510 : Arv Z h508 va kva (.object "com/example/groupwright/groupwright/app/Registration$Kind") (3 : Int32) [(.ref uk1), (.ref uk2), (.ref uk3)] .null := (f261.other W508 ne260)
        have f511 : Exa Z h508 va "[Lcom/example/groupwright/groupwright/app/Registration$Kind;" := (f262.wr W508)
        have f512 : Fld Z h508 uk1 "com/example/groupwright/groupwright/app/Registration$Kind" "word" "Ljava/lang/String;" (.ref uw1) := (f264.other W508 (Or.inl ne263))
        have f513 : Exa Z h508 uw1 "java/lang/String" := (f265.wr W508)
        have f514 : Fld Z h508 uw1 "java/lang/String" "coder" "B" (.int 0) := (f267.other W508 (Or.inl ne266))
        have f515 : Fld Z h508 uw1 "java/lang/String" "value" "[B" (.ref ut1) := (f268.other W508 (Or.inl ne266))
        have f516 : Arv Z h508 ut1 uj1 .byte (Int32.ofNat ([99, 111, 108, 108, 101, 99, 116, 105, 111, 110] : List Int32).length) ((([99, 111, 108, 108, 101, 99, 116, 105, 111, 110] : List Int32).map (fun c => c.toInt8.toInt32)).map Value.int) (.int 0) := (f270.other W508 ne269)
        have f517 : Fld Z h508 uk2 "com/example/groupwright/groupwright/app/Registration$Kind" "word" "Ljava/lang/String;" (.ref uw2) := (f272.other W508 (Or.inl ne271))
        have f518 : Exa Z h508 uw2 "java/lang/String" := (f273.wr W508)
        have f519 : Fld Z h508 uw2 "java/lang/String" "coder" "B" (.int 0) := (f275.other W508 (Or.inl ne274))
        have f520 : Fld Z h508 uw2 "java/lang/String" "value" "[B" (.ref ut2) := (f276.other W508 (Or.inl ne274))
        have f521 : Arv Z h508 ut2 uj2 .byte (Int32.ofNat ([111, 98, 106, 101, 99, 116] : List Int32).length) ((([111, 98, 106, 101, 99, 116] : List Int32).map (fun c => c.toInt8.toInt32)).map Value.int) (.int 0) := (f278.other W508 ne277)
        have f522 : Fld Z h508 uk3 "com/example/groupwright/groupwright/app/Registration$Kind" "word" "Ljava/lang/String;" (.ref uw3) := (f280.other W508 (Or.inl ne279))
        have f523 : Exa Z h508 uw3 "java/lang/String" := (f281.wr W508)
        have f524 : Fld Z h508 uw3 "java/lang/String" "coder" "B" (.int 0) := (f283.other W508 (Or.inl ne282))
        have f525 : Fld Z h508 uw3 "java/lang/String" "value" "[B" (.ref ut3) := (f284.other W508 (Or.inl ne282))
        have f526 : Arv Z h508 ut3 uj3 .byte (Int32.ofNat ([100, 97, 116, 97, 115, 101, 116] : List Int32).length) ((([100, 97, 116, 97, 115, 101, 116] : List Int32).map (fun c => c.toInt8.toInt32)).map Value.int) (.int 0) := (f286.other W508 ne285)
        have f527 : Old Z n0 h508 := (f287.wr W508 g2)
        have f528 : Exa Z h508 sb "java/lang/String" := (f288.wr W508)
        have f529 : Fld Z h508 sb "java/lang/String" "coder" "B" (.int 0) := (f289.other W508 (Or.inl ne14))
        have f530 : Fld Z h508 sb "java/lang/String" "value" "[B" (.ref sx) := (f290.other W508 (Or.inl ne14))
        have f531 : Arv Z h508 sx sk .byte (Int32.ofNat cs.length) ((cs.map (fun c => c.toInt8.toInt32)).map Value.int) (.int 0) := (f291.other W508 ne17)
        exact Jk _ _ _ _ _ hSs hZs hos (Nat.le_trans (Nat.le_trans (Nat.le_trans (Nat.le_trans (Nat.le_trans (Nat.le_trans (Nat.le_trans (Nat.le_trans (Nat.le_trans (Nat.le_trans (Nat.le_trans (Nat.le_trans (Nat.le_trans (Nat.le_trans hks E1.1) (Keep.of_wr W11).1) (Keep.of_wr W22).1) (Keep.of_wr W31).1) (Keep.of_wr W40).1) (Keep.of_wr W49).1) (Keep.of_wr W58).1) (Keep.of_wr W67).1) (Keep.of_wr W76).1) (Keep.of_wr W85).1) (Keep.of_wr W94).1) (Keep.of_wr W103).1) (Keep.of_wr W112).1) (Keep.of_wr W508).1) C509 (X508.more (by decide) (by decide)) e508 N508 (Nat.le_trans (Nat.le_trans (Nat.le_trans (Nat.le_trans (Nat.le_trans (Nat.le_trans (Nat.le_trans (Nat.le_trans (Nat.le_trans (Nat.le_trans (Nat.le_trans (Nat.le_trans (Nat.le_trans (Nat.le_trans zs E1.1) (Keep.of_wr W11).1) (Keep.of_wr W22).1) (Keep.of_wr W31).1) (Keep.of_wr W40).1) (Keep.of_wr W49).1) (Keep.of_wr W58).1) (Keep.of_wr W67).1) (Keep.of_wr W76).1) (Keep.of_wr W85).1) (Keep.of_wr W94).1) (Keep.of_wr W103).1) (Keep.of_wr W112).1) (Keep.of_wr W508).1) (v9) (v20) (v29) (v38) (v47) (v56) (v65) (v74) (v83) (((ch &&& (255 : Int32)).toUInt32.toUInt16.toUInt32.toInt32)) (v101) (v110) f510 f511 f512 f513 f514 f515 f516 f517 f518 f519 f520 f521 f522 f523 f524 f525 f526 f527 f528 f529 f530 f531 V508 y10_0 y21_0 y30_0 y39_0 y48_0 y57_0 y66_0 y75_0 y84_0 (ci_and _) y102_0 y111_0
      · rw [ejk]
        show Gl p.tables e below _ (T112.setTop (mkF m 233 #[.val (.int sel), .val (.int pos), .val (.int ch), .val (.long aq), .second, .val (.long bq), .second, .val (.int (sel &&& (3 : Int32))), .val (.ref sb), .val (.ref b1), .unset, .unset, .unset, .unset, .unset] [(.int 10), (.ref b1)]))
        refine Gl.st (fun _ kq => XS.iloadN X112.here hx rfl (hb hby at_233) rfl kq) ?_
        refine Gl.st (fun _ kq => XS.sipush X112.here hx rfl (hb hby at_234) kq) ?_
        refine Gl.st (fun _ kq => XS.iand X112.here hx rfl (hb hby at_237) rfl kq) ?_
        refine Gl.st (fun _ kq => XS.i2c X112.here hx rfl (hb hby at_238) rfl kq) ?_
        show Gl p.tables e below _ (T112.setTop (mkF m 239 #[.val (.int sel), .val (.int pos), .val (.int ch), .val (.long aq), .second, .val (.long bq), .second, .val (.int (sel &&& (3 : Int32))), .val (.ref sb), .val (.ref b1), .unset, .unset, .unset, .unset, .unset] [(.int ((ch &&& (255 : Int32)).toUInt32.toUInt16.toUInt32.toInt32)), (.int 10), (.ref b1)]))
        obtain ⟨c532, a532, q532, S532, M532, H532, G532⟩ := id V112
        obtain ⟨T532, h532, X532, e532, W532, st532⟩ := stC X112 hx hZs e112 a532 (j := (10 : Int32)) (inb_of S532 ⟨by decide, by decide⟩) (g := (mkF m 239 #[.val (.int sel), .val (.int pos), .val (.int ch), .val (.long aq), .second, .val (.long bq), .second, .val (.int (sel &&& (3 : Int32))), .val (.ref sb), .val (.ref b1), .unset, .unset, .unset, .unset, .unset] [(.int ((ch &&& (255 : Int32)).toUInt32.toUInt16.toUInt32.toInt32)), (.int 10), (.ref b1)])) rfl rfl (hb hby at_239)
        refine Gl.st st532 ?_
        have C533 : CHr Z consts_1 s.vm h0 vms h532 := C113.trans (CHr.wr W532 (Safe.arv hZs.alike V112 (by decide)) C113.1)
        have V532 : Arv Z h532 b1 k1 .char (12 : Int32) [(.int v9), (.int v20), (.int v29), (.int v38), (.int v47), (.int v56), (.int v65), (.int v74), (.int v83), (.int v92), (.int ((ch &&& (255 : Int32)).toUInt32.toUInt16.toUInt32.toInt32)), (.int v110)] (.int 0) := by
          have q := Arv.set a532 q532 S532 M532 H532 G532 (fits_nar_char _) W532 10 rfl (Nat.le_of_ble_eq_true rfl)
          rw [nar_id (ci_and _).1 (ci_and _).2] at q
          exact q
        have N532 := Fr.snoc X532 N112 g2
        show Gl p.tables e below _ (T532.setTop (mkF m 240 #[.val (.int sel), .val (.int pos), .val (.int ch), .val (.long aq), .second, .val (.long bq), .second, .val (.int (sel &&& (3 : Int32))), .val (.ref sb), .val (.ref b1), .unset, .unset, .unset, .unset, .unset] []))
        have f534 : Arv Z h532 va kva (.object "com/example/groupwright/groupwright/app/Registration$Kind") (3 : Int32) [(.ref uk1), (.ref uk2), (.ref uk3)] .null := (f261.other W532 ne260)
        have f535 : Exa Z h532 va "[Lcom/example/groupwright/groupwright/app/Registration$Kind;" := (f262.wr W532)
        have f536 : Fld Z h532 uk1 "com/example/groupwright/groupwright/app/Registration$Kind" "word" "Ljava/lang/String;" (.ref uw1) := (f264.other W532 (Or.inl ne263))
        have f537 : Exa Z h532 uw1 "java/lang/String" := (f265.wr W532)
        have f538 : Fld Z h532 uw1 "java/lang/String" "coder" "B" (.int 0) := (f267.other W532 (Or.inl ne266))
        have f539 : Fld Z h532 uw1 "java/lang/String" "value" "[B" (.ref ut1) := (f268.other W532 (Or.inl ne266))
        have f540 : Arv Z h532 ut1 uj1 .byte (Int32.ofNat ([99, 111, 108, 108, 101, 99, 116, 105, 111, 110] : List Int32).length) ((([99, 111, 108, 108, 101, 99, 116, 105, 111, 110] : List Int32).map (fun c => c.toInt8.toInt32)).map Value.int) (.int 0) := (f270.other W532 ne269)
        have f541 : Fld Z h532 uk2 "com/example/groupwright/groupwright/app/Registration$Kind" "word" "Ljava/lang/String;" (.ref uw2) := (f272.other W532 (Or.inl ne271))
        have f542 : Exa Z h532 uw2 "java/lang/String" := (f273.wr W532)
        have f543 : Fld Z h532 uw2 "java/lang/String" "coder" "B" (.int 0) := (f275.other W532 (Or.inl ne274))
        have f544 : Fld Z h532 uw2 "java/lang/String" "value" "[B" (.ref ut2) := (f276.other W532 (Or.inl ne274))
        have f545 : Arv Z h532 ut2 uj2 .byte (Int32.ofNat ([111, 98, 106, 101, 99, 116] : List Int32).length) ((([111, 98, 106, 101, 99, 116] : List Int32).map (fun c => c.toInt8.toInt32)).map Value.int) (.int 0) := (f278.other W532 ne277)
        have f546 : Fld Z h532 uk3 "com/example/groupwright/groupwright/app/Registration$Kind" "word" "Ljava/lang/String;" (.ref uw3) := (f280.other W532 (Or.inl ne279))
        have f547 : Exa Z h532 uw3 "java/lang/String" := (f281.wr W532)
        have f548 : Fld Z h532 uw3 "java/lang/String" "coder" "B" (.int 0) := (f283.other W532 (Or.inl ne282))
        have f549 : Fld Z h532 uw3 "java/lang/String" "value" "[B" (.ref ut3) := (f284.other W532 (Or.inl ne282))
        have f550 : Arv Z h532 ut3 uj3 .byte (Int32.ofNat ([100, 97, 116, 97, 115, 101, 116] : List Int32).length) ((([100, 97, 116, 97, 115, 101, 116] : List Int32).map (fun c => c.toInt8.toInt32)).map Value.int) (.int 0) := (f286.other W532 ne285)
        have f551 : Old Z n0 h532 := (f287.wr W532 g2)
        have f552 : Exa Z h532 sb "java/lang/String" := (f288.wr W532)
        have f553 : Fld Z h532 sb "java/lang/String" "coder" "B" (.int 0) := (f289.other W532 (Or.inl ne14))
        have f554 : Fld Z h532 sb "java/lang/String" "value" "[B" (.ref sx) := (f290.other W532 (Or.inl ne14))
        have f555 : Arv Z h532 sx sk .byte (Int32.ofNat cs.length) ((cs.map (fun c => c.toInt8.toInt32)).map Value.int) (.int 0) := (f291.other W532 ne17)
        exact Jk _ _ _ _ _ hSs hZs hos (Nat.le_trans (Nat.le_trans (Nat.le_trans (Nat.le_trans (Nat.le_trans (Nat.le_trans (Nat.le_trans (Nat.le_trans (Nat.le_trans (Nat.le_trans (Nat.le_trans (Nat.le_trans (Nat.le_trans (Nat.le_trans hks E1.1) (Keep.of_wr W11).1) (Keep.of_wr W22).1) (Keep.of_wr W31).1) (Keep.of_wr W40).1) (Keep.of_wr W49).1) (Keep.of_wr W58).1) (Keep.of_wr W67).1) (Keep.of_wr W76).1) (Keep.of_wr W85).1) (Keep.of_wr W94).1) (Keep.of_wr W103).1) (Keep.of_wr W112).1) (Keep.of_wr W532).1) C533 (X532.more (by decide) (by decide)) e532 N532 (Nat.le_trans (Nat.le_trans (Nat.le_trans (Nat.le_trans (Nat.le_trans (Nat.le_trans (Nat.le_trans (Nat.le_trans (Nat.le_trans (Nat.le_trans (Nat.le_trans (Nat.le_trans (Nat.le_trans (Nat.le_trans zs E1.1) (Keep.of_wr W11).1) (Keep.of_wr W22).1) (Keep.of_wr W31).1) (Keep.of_wr W40).1) (Keep.of_wr W49).1) (Keep.of_wr W58).1) (Keep.of_wr W67).1) (Keep.of_wr W76).1) (Keep.of_wr W85).1) (Keep.of_wr W94).1) (Keep.of_wr W103).1) (Keep.of_wr W112).1) (Keep.of_wr W532).1) (v9) (v20) (v29) (v38) (v47) (v56) (v65) (v74) (v83) (v92) (((ch &&& (255 : Int32)).toUInt32.toUInt16.toUInt32.toInt32)) (v110) f534 f535 f536 f537 f538 f539 f540 f541 f542 f543 f544 f545 f546 f547 f548 f549 f550 f551 f552 f553 f554 f555 V532 y10_0 y21_0 y30_0 y39_0 y48_0 y57_0 y66_0 y75_0 y84_0 y93_0 (ci_and _) y111_0
      · rw [ejk]
        show Gl p.tables e below _ (T112.setTop (mkF m 233 #[.val (.int sel), .val (.int pos), .val (.int ch), .val (.long aq), .second, .val (.long bq), .second, .val (.int (sel &&& (3 : Int32))), .val (.ref sb), .val (.ref b1), .unset, .unset, .unset, .unset, .unset] [(.int 11), (.ref b1)]))
        refine Gl.st (fun _ kq => XS.iloadN X112.here hx rfl (hb hby at_233) rfl kq) ?_
        refine Gl.st (fun _ kq => XS.sipush X112.here hx rfl (hb hby at_234) kq) ?_
        refine Gl.st (fun _ kq => XS.iand X112.here hx rfl (hb hby at_237) rfl kq) ?_
        refine Gl.st (fun _ kq => XS.i2c X112.here hx rfl (hb hby at_238) rfl kq) ?_
        show Gl p.tables e below _ (T112.setTop (mkF m 239 #[.val (.int sel), .val (.int pos), .val (.int ch), .val (.long aq), .second, .val (.long bq), .second, .val (.int (sel &&& (3 : Int32))), .val (.ref sb), .val (.ref b1), .unset, .unset, .unset, .unset, .unset] [(.int ((ch &&& (255 : Int32)).toUInt32.toUInt16.toUInt32.toInt32)), (.int 11), (.ref b1)]))
        obtain ⟨c556, a556, q556, S556, M556, H556, G556⟩ := id V112
        obtain ⟨T556, h556, X556, e556, W556, st556⟩ := stC X112 hx hZs e112 a556 (j := (11 : Int32)) (inb_of S556 ⟨by decide, by decide⟩) (g := (mkF m 239 #[.val (.int sel), .val (.int pos), .val (.int ch), .val (.long aq), .second, .val (.long bq), .second, .val (.int (sel &&& (3 : Int32))), .val (.ref sb), .val (.ref b1), .unset, .unset, .unset, .unset, .unset] [(.int ((ch &&& (255 : Int32)).toUInt32.toUInt16.toUInt32.toInt32)), (.int 11), (.ref b1)])) rfl rfl (hb hby at_239)
        refine Gl.st st556 ?_
        have C557 : CHr Z consts_1 s.vm h0 vms h556 := C113.trans (CHr.wr W556 (Safe.arv hZs.alike V112 (by decide)) C113.1)
        have V556 : Arv Z h556 b1 k1 .char (12 : Int32) [(.int v9), (.int v20), (.int v29), (.int v38), (.int v47), (.int v56), (.int v65), (.int v74), (.int v83), (.int v92), (.int v101), (.int ((ch &&& (255 : Int32)).toUInt32.toUInt16.toUInt32.toInt32))] (.int 0) := by
          have q := Arv.set a556 q556 S556 M556 H556 G556 (fits_nar_char _) W556 11 rfl (Nat.le_of_ble_eq_true rfl)
          rw [nar_id (ci_and _).1 (ci_and _).2] at q
          exact q
        have N556 := Fr.snoc X556 N112 g2
        show Gl p.tables e below _ (T556.setTop (mkF m 240 #[.val (.int sel), .val (.int pos), .val (.int ch), .val (.long aq), .second, .val (.long bq), .second, .val (.int (sel &&& (3 : Int32))), .val (.ref sb), .val (.ref b1), .unset, .unset, .unset, .unset, .unset] []))
        have f558 : Arv Z h556 va kva (.object "com/example/groupwright/groupwright/app/Registration$Kind") (3 : Int32) [(.ref uk1), (.ref uk2), (.ref uk3)] .null := (f261.other W556 ne260)
        have f559 : Exa Z h556 va "[Lcom/example/groupwright/groupwright/app/Registration$Kind;" := (f262.wr W556)
        have f560 : Fld Z h556 uk1 "com/example/groupwright/groupwright/app/Registration$Kind" "word" "Ljava/lang/String;" (.ref uw1) := (f264.other W556 (Or.inl ne263))
        have f561 : Exa Z h556 uw1 "java/lang/String" := (f265.wr W556)
        have f562 : Fld Z h556 uw1 "java/lang/String" "coder" "B" (.int 0) := (f267.other W556 (Or.inl ne266))
        have f563 : Fld Z h556 uw1 "java/lang/String" "value" "[B" (.ref ut1) := (f268.other W556 (Or.inl ne266))
        have f564 : Arv Z h556 ut1 uj1 .byte (Int32.ofNat ([99, 111, 108, 108, 101, 99, 116, 105, 111, 110] : List Int32).length) ((([99, 111, 108, 108, 101, 99, 116, 105, 111, 110] : List Int32).map (fun c => c.toInt8.toInt32)).map Value.int) (.int 0) := (f270.other W556 ne269)
        have f565 : Fld Z h556 uk2 "com/example/groupwright/groupwright/app/Registration$Kind" "word" "Ljava/lang/String;" (.ref uw2) := (f272.other W556 (Or.inl ne271))
        have f566 : Exa Z h556 uw2 "java/lang/String" := (f273.wr W556)
        have f567 : Fld Z h556 uw2 "java/lang/String" "coder" "B" (.int 0) := (f275.other W556 (Or.inl ne274))
        have f568 : Fld Z h556 uw2 "java/lang/String" "value" "[B" (.ref ut2) := (f276.other W556 (Or.inl ne274))
        have f569 : Arv Z h556 ut2 uj2 .byte (Int32.ofNat ([111, 98, 106, 101, 99, 116] : List Int32).length) ((([111, 98, 106, 101, 99, 116] : List Int32).map (fun c => c.toInt8.toInt32)).map Value.int) (.int 0) := (f278.other W556 ne277)
        have f570 : Fld Z h556 uk3 "com/example/groupwright/groupwright/app/Registration$Kind" "word" "Ljava/lang/String;" (.ref uw3) := (f280.other W556 (Or.inl ne279))
        have f571 : Exa Z h556 uw3 "java/lang/String" := (f281.wr W556)
        have f572 : Fld Z h556 uw3 "java/lang/String" "coder" "B" (.int 0) := (f283.other W556 (Or.inl ne282))
        have f573 : Fld Z h556 uw3 "java/lang/String" "value" "[B" (.ref ut3) := (f284.other W556 (Or.inl ne282))
        have f574 : Arv Z h556 ut3 uj3 .byte (Int32.ofNat ([100, 97, 116, 97, 115, 101, 116] : List Int32).length) ((([100, 97, 116, 97, 115, 101, 116] : List Int32).map (fun c => c.toInt8.toInt32)).map Value.int) (.int 0) := (f286.other W556 ne285)
        have f575 : Old Z n0 h556 := (f287.wr W556 g2)
        have f576 : Exa Z h556 sb "java/lang/String" := (f288.wr W556)
        have f577 : Fld Z h556 sb "java/lang/String" "coder" "B" (.int 0) := (f289.other W556 (Or.inl ne14))
        have f578 : Fld Z h556 sb "java/lang/String" "value" "[B" (.ref sx) := (f290.other W556 (Or.inl ne14))
        have f579 : Arv Z h556 sx sk .byte (Int32.ofNat cs.length) ((cs.map (fun c => c.toInt8.toInt32)).map Value.int) (.int 0) := (f291.other W556 ne17)
        exact Jk _ _ _ _ _ hSs hZs hos (Nat.le_trans (Nat.le_trans (Nat.le_trans (Nat.le_trans (Nat.le_trans (Nat.le_trans (Nat.le_trans (Nat.le_trans (Nat.le_trans (Nat.le_trans (Nat.le_trans (Nat.le_trans (Nat.le_trans (Nat.le_trans hks E1.1) (Keep.of_wr W11).1) (Keep.of_wr W22).1) (Keep.of_wr W31).1) (Keep.of_wr W40).1) (Keep.of_wr W49).1) (Keep.of_wr W58).1) (Keep.of_wr W67).1) (Keep.of_wr W76).1) (Keep.of_wr W85).1) (Keep.of_wr W94).1) (Keep.of_wr W103).1) (Keep.of_wr W112).1) (Keep.of_wr W556).1) C557 (X556.more (by decide) (by decide)) e556 N556 (Nat.le_trans (Nat.le_trans (Nat.le_trans (Nat.le_trans (Nat.le_trans (Nat.le_trans (Nat.le_trans (Nat.le_trans (Nat.le_trans (Nat.le_trans (Nat.le_trans (Nat.le_trans (Nat.le_trans (Nat.le_trans zs E1.1) (Keep.of_wr W11).1) (Keep.of_wr W22).1) (Keep.of_wr W31).1) (Keep.of_wr W40).1) (Keep.of_wr W49).1) (Keep.of_wr W58).1) (Keep.of_wr W67).1) (Keep.of_wr W76).1) (Keep.of_wr W85).1) (Keep.of_wr W94).1) (Keep.of_wr W103).1) (Keep.of_wr W112).1) (Keep.of_wr W556).1) (v9) (v20) (v29) (v38) (v47) (v56) (v65) (v74) (v83) (v92) (v101) (((ch &&& (255 : Int32)).toUInt32.toUInt16.toUInt32.toInt32)) f558 f559 f560 f561 f562 f563 f564 f565 f566 f567 f568 f569 f570 f571 f572 f573 f574 f575 f576 f577 f578 f579 V556 y10_0 y21_0 y30_0 y39_0 y48_0 y57_0 y66_0 y75_0 y84_0 y93_0 y102_0 (ci_and _)
  refine Gl.st (fun _ kq => XS.iload X0.here hx rfl (hb hby at_5) rfl kq) ?_
  show Gl p.tables e below _ (s₁.setTop (mkF m 7 #[.val (.int sel), .val (.int pos), .val (.int ch), .val (.long aq), .second, .val (.long bq), .second, .val (.int (sel &&& (3 : Int32))), .unset, .unset, .unset, .unset, .unset, .unset, .unset] [(.int (sel &&& (3 : Int32)))]))
  by_cases hc580 : (sel &&& (3 : Int32)) = (0 : Int32)
  · refine Gl.st (fun _ kq => XS.ifNo X0.here hx rfl (hb hby at_7) rfl ((if0 _ _).trans (teq (hc580 : (sel &&& (3 : Int32)) = (0 : Int32))).2) kq) ?_
    show Gl p.tables e below _ (s₁.setTop (mkF m 10 #[.val (.int sel), .val (.int pos), .val (.int ch), .val (.long aq), .second, .val (.long bq), .second, .val (.int (sel &&& (3 : Int32))), .unset, .unset, .unset, .unset, .unset, .unset, .unset] []))
    obtain ⟨b581, T581, h581, k581, t581, kc581, X581, e581, E581, S581, q581, hZ581, ho581, A581, F581, G581, V581, la581, lb581, R581, L581, sa581, st581⟩ := ldcCH X0 hx hZ hown (tw hw 0 rfl) (strW hw) e0 hS0 (Nat.le_of_eq (congrArg Array.size e0)) (elW hw) (by decide) C0.1 (vs := [(.int 99), (.int 111), (.int 108), (.int 108), (.int 101), (.int 99), (.int 116), (.int 105), (.int 111), (.int 110)]) (z := (10 : Int32)) (litc_0) (by decide) (by decide) (g := (mkF m 10 #[.val (.int sel), .val (.int pos), .val (.int ch), .val (.long aq), .second, .val (.long bq), .second, .val (.int (sel &&& (3 : Int32))), .unset, .unset, .unset, .unset, .unset, .unset, .unset] [])) rfl (hb hby at_10) (n := 40) (by decide) (by decide) (by decide) (by decide)
    refine Gl.st st581 ?_
    have C582 : CHr Z consts_1 s.vm h0 T581.vm h581 := C0.trans R581
    have V581 : Arv Z h581 t581 kc581 .byte (Int32.ofNat ([99, 111, 108, 108, 101, 99, 116, 105, 111, 110] : List Int32).length) ((([99, 111, 108, 108, 101, 99, 116, 105, 111, 110] : List Int32).map (fun c => c.toInt8.toInt32)).map Value.int) (.int 0) := V581
    show Gl p.tables e below _ (T581.setTop (mkF m 12 #[.val (.int sel), .val (.int pos), .val (.int ch), .val (.long aq), .second, .val (.long bq), .second, .val (.int (sel &&& (3 : Int32))), .unset, .unset, .unset, .unset, .unset, .unset, .unset] [(.ref b581)]))
    refine Gl.st (fun _ kq => XS.goto X581.here hx rfl (pc0 := 12) (pc' := 39) rfl (hb hby at_12) (by decide) (by decide) kq) ?_
    refine Gl.st (fun _ kq => XS.astore X581.here hx rfl (hb hby at_39) rfl rfl (l' := #[.val (.int sel), .val (.int pos), .val (.int ch), .val (.long aq), .second, .val (.long bq), .second, .val (.int (sel &&& (3 : Int32))), .val (.ref b581), .unset, .unset, .unset, .unset, .unset, .unset]) rfl kq) ?_
    show Gl p.tables e below _ (T581.setTop (mkF m 41 #[.val (.int sel), .val (.int pos), .val (.int ch), .val (.long aq), .second, .val (.long bq), .second, .val (.int (sel &&& (3 : Int32))), .val (.ref b581), .unset, .unset, .unset, .unset, .unset, .unset] []))
    have f583 : Arv Z h581 va kva (.object "com/example/groupwright/groupwright/app/Registration$Kind") (3 : Int32) [(.ref uk1), (.ref uk2), (.ref uk3)] .null := (pf0.ext E581)
    have f584 : Exa Z h581 va "[Lcom/example/groupwright/groupwright/app/Registration$Kind;" := (pf1.ext E581)
    have f585 : Fld Z h581 uk1 "com/example/groupwright/groupwright/app/Registration$Kind" "word" "Ljava/lang/String;" (.ref uw1) := (pf2.ext E581)
    have f586 : Exa Z h581 uw1 "java/lang/String" := (pf3.ext E581)
    have f587 : Fld Z h581 uw1 "java/lang/String" "coder" "B" (.int 0) := (pf4.ext E581)
    have f588 : Fld Z h581 uw1 "java/lang/String" "value" "[B" (.ref ut1) := (pf5.ext E581)
    have f589 : Arv Z h581 ut1 uj1 .byte (Int32.ofNat ([99, 111, 108, 108, 101, 99, 116, 105, 111, 110] : List Int32).length) ((([99, 111, 108, 108, 101, 99, 116, 105, 111, 110] : List Int32).map (fun c => c.toInt8.toInt32)).map Value.int) (.int 0) := (pf6.ext E581)
    have f590 : Fld Z h581 uk2 "com/example/groupwright/groupwright/app/Registration$Kind" "word" "Ljava/lang/String;" (.ref uw2) := (pf7.ext E581)
    have f591 : Exa Z h581 uw2 "java/lang/String" := (pf8.ext E581)
    have f592 : Fld Z h581 uw2 "java/lang/String" "coder" "B" (.int 0) := (pf9.ext E581)
    have f593 : Fld Z h581 uw2 "java/lang/String" "value" "[B" (.ref ut2) := (pf10.ext E581)
    have f594 : Arv Z h581 ut2 uj2 .byte (Int32.ofNat ([111, 98, 106, 101, 99, 116] : List Int32).length) ((([111, 98, 106, 101, 99, 116] : List Int32).map (fun c => c.toInt8.toInt32)).map Value.int) (.int 0) := (pf11.ext E581)
    have f595 : Fld Z h581 uk3 "com/example/groupwright/groupwright/app/Registration$Kind" "word" "Ljava/lang/String;" (.ref uw3) := (pf12.ext E581)
    have f596 : Exa Z h581 uw3 "java/lang/String" := (pf13.ext E581)
    have f597 : Fld Z h581 uw3 "java/lang/String" "coder" "B" (.int 0) := (pf14.ext E581)
    have f598 : Fld Z h581 uw3 "java/lang/String" "value" "[B" (.ref ut3) := (pf15.ext E581)
    have f599 : Arv Z h581 ut3 uj3 .byte (Int32.ofNat ([100, 97, 116, 97, 115, 101, 116] : List Int32).length) ((([100, 97, 116, 97, 115, 101, 116] : List Int32).map (fun c => c.toInt8.toInt32)).map Value.int) (.int 0) := (pf16.ext E581)
    have f600 : Old Z n0 h581 := (pf17.ext E581)
    exact Js _ _ _ _ _ S581 hZ581 ho581 q581 C582 (X581.more (by decide) (by decide)) e581 N0 (Nat.le_trans Z0 E581.1) (b581) (t581) (kc581) (([99, 111, 108, 108, 101, 99, 116, 105, 111, 110] : List Int32)) f583 f584 f585 f586 f587 f588 f589 f590 f591 f592 f593 f594 f595 f596 f597 f598 f599 f600 A581 F581 G581 V581 (by decide : ∀ c ∈ ([99, 111, 108, 108, 101, 99, 116, 105, 111, 110] : List Int32), ¬ c < 0 ∧ ¬ (255 : Int32) < c) (Nat.le_of_ble_eq_true rfl)
  · refine Gl.st (fun _ kq => XS.ifYes X0.here hx rfl (pc0 := 7) (pc' := 15) rfl (hb hby at_7) rfl ((if0 _ _).trans (feq (hc580 : ¬ ((sel &&& (3 : Int32)) = (0 : Int32)))).2) (by decide) (by decide) kq) ?_
    show Gl p.tables e below _ (s₁.setTop (mkF m 15 #[.val (.int sel), .val (.int pos), .val (.int ch), .val (.long aq), .second, .val (.long bq), .second, .val (.int (sel &&& (3 : Int32))), .unset, .unset, .unset, .unset, .unset, .unset, .unset] []))
    refine Gl.st (fun _ kq => XS.iload X0.here hx rfl (hb hby at_15) rfl kq) ?_
    refine Gl.st (fun _ kq => XS.iconst X0.here hx rfl (hb hby at_17) kq) ?_
    show Gl p.tables e below _ (s₁.setTop (mkF m 18 #[.val (.int sel), .val (.int pos), .val (.int ch), .val (.long aq), .second, .val (.long bq), .second, .val (.int (sel &&& (3 : Int32))), .unset, .unset, .unset, .unset, .unset, .unset, .unset] [(.int 1), (.int (sel &&& (3 : Int32)))]))
    by_cases hc601 : (sel &&& (3 : Int32)) = (1 : Int32)
    · refine Gl.st (fun _ kq => XS.icmpNo X0.here hx rfl (hb hby at_18) rfl (teq (hc601 : (sel &&& (3 : Int32)) = (1 : Int32))).2 kq) ?_
      show Gl p.tables e below _ (s₁.setTop (mkF m 21 #[.val (.int sel), .val (.int pos), .val (.int ch), .val (.long aq), .second, .val (.long bq), .second, .val (.int (sel &&& (3 : Int32))), .unset, .unset, .unset, .unset, .unset, .unset, .unset] []))
      obtain ⟨b602, T602, h602, k602, t602, kc602, X602, e602, E602, S602, q602, hZ602, ho602, A602, F602, G602, V602, la602, lb602, R602, L602, sa602, st602⟩ := ldcCH X0 hx hZ hown (tw hw 110 rfl) (strW hw) e0 hS0 (Nat.le_of_eq (congrArg Array.size e0)) (elW hw) (by decide) C0.1 (vs := [(.int 111), (.int 98), (.int 106), (.int 101), (.int 99), (.int 116)]) (z := (6 : Int32)) (litc_110) (by decide) (by decide) (g := (mkF m 21 #[.val (.int sel), .val (.int pos), .val (.int ch), .val (.long aq), .second, .val (.long bq), .second, .val (.int (sel &&& (3 : Int32))), .unset, .unset, .unset, .unset, .unset, .unset, .unset] [])) rfl (hb hby at_21) (n := 24) (by decide) (by decide) (by decide) (by decide)
      refine Gl.st st602 ?_
      have C603 : CHr Z consts_1 s.vm h0 T602.vm h602 := C0.trans R602
      have V602 : Arv Z h602 t602 kc602 .byte (Int32.ofNat ([111, 98, 106, 101, 99, 116] : List Int32).length) ((([111, 98, 106, 101, 99, 116] : List Int32).map (fun c => c.toInt8.toInt32)).map Value.int) (.int 0) := V602
      show Gl p.tables e below _ (T602.setTop (mkF m 23 #[.val (.int sel), .val (.int pos), .val (.int ch), .val (.long aq), .second, .val (.long bq), .second, .val (.int (sel &&& (3 : Int32))), .unset, .unset, .unset, .unset, .unset, .unset, .unset] [(.ref b602)]))
      refine Gl.st (fun _ kq => XS.goto X602.here hx rfl (pc0 := 23) (pc' := 39) rfl (hb hby at_23) (by decide) (by decide) kq) ?_
      refine Gl.st (fun _ kq => XS.astore X602.here hx rfl (hb hby at_39) rfl rfl (l' := #[.val (.int sel), .val (.int pos), .val (.int ch), .val (.long aq), .second, .val (.long bq), .second, .val (.int (sel &&& (3 : Int32))), .val (.ref b602), .unset, .unset, .unset, .unset, .unset, .unset]) rfl kq) ?_
      show Gl p.tables e below _ (T602.setTop (mkF m 41 #[.val (.int sel), .val (.int pos), .val (.int ch), .val (.long aq), .second, .val (.long bq), .second, .val (.int (sel &&& (3 : Int32))), .val (.ref b602), .unset, .unset, .unset, .unset, .unset, .unset] []))
      have f604 : Arv Z h602 va kva (.object "com/example/groupwright/groupwright/app/Registration$Kind") (3 : Int32) [(.ref uk1), (.ref uk2), (.ref uk3)] .null := (pf0.ext E602)
      have f605 : Exa Z h602 va "[Lcom/example/groupwright/groupwright/app/Registration$Kind;" := (pf1.ext E602)
      have f606 : Fld Z h602 uk1 "com/example/groupwright/groupwright/app/Registration$Kind" "word" "Ljava/lang/String;" (.ref uw1) := (pf2.ext E602)
      have f607 : Exa Z h602 uw1 "java/lang/String" := (pf3.ext E602)
      have f608 : Fld Z h602 uw1 "java/lang/String" "coder" "B" (.int 0) := (pf4.ext E602)
      have f609 : Fld Z h602 uw1 "java/lang/String" "value" "[B" (.ref ut1) := (pf5.ext E602)
      have f610 : Arv Z h602 ut1 uj1 .byte (Int32.ofNat ([99, 111, 108, 108, 101, 99, 116, 105, 111, 110] : List Int32).length) ((([99, 111, 108, 108, 101, 99, 116, 105, 111, 110] : List Int32).map (fun c => c.toInt8.toInt32)).map Value.int) (.int 0) := (pf6.ext E602)
      have f611 : Fld Z h602 uk2 "com/example/groupwright/groupwright/app/Registration$Kind" "word" "Ljava/lang/String;" (.ref uw2) := (pf7.ext E602)
      have f612 : Exa Z h602 uw2 "java/lang/String" := (pf8.ext E602)
      have f613 : Fld Z h602 uw2 "java/lang/String" "coder" "B" (.int 0) := (pf9.ext E602)
      have f614 : Fld Z h602 uw2 "java/lang/String" "value" "[B" (.ref ut2) := (pf10.ext E602)
      have f615 : Arv Z h602 ut2 uj2 .byte (Int32.ofNat ([111, 98, 106, 101, 99, 116] : List Int32).length) ((([111, 98, 106, 101, 99, 116] : List Int32).map (fun c => c.toInt8.toInt32)).map Value.int) (.int 0) := (pf11.ext E602)
      have f616 : Fld Z h602 uk3 "com/example/groupwright/groupwright/app/Registration$Kind" "word" "Ljava/lang/String;" (.ref uw3) := (pf12.ext E602)
      have f617 : Exa Z h602 uw3 "java/lang/String" := (pf13.ext E602)
      have f618 : Fld Z h602 uw3 "java/lang/String" "coder" "B" (.int 0) := (pf14.ext E602)
      have f619 : Fld Z h602 uw3 "java/lang/String" "value" "[B" (.ref ut3) := (pf15.ext E602)
      have f620 : Arv Z h602 ut3 uj3 .byte (Int32.ofNat ([100, 97, 116, 97, 115, 101, 116] : List Int32).length) ((([100, 97, 116, 97, 115, 101, 116] : List Int32).map (fun c => c.toInt8.toInt32)).map Value.int) (.int 0) := (pf16.ext E602)
      have f621 : Old Z n0 h602 := (pf17.ext E602)
      exact Js _ _ _ _ _ S602 hZ602 ho602 q602 C603 (X602.more (by decide) (by decide)) e602 N0 (Nat.le_trans Z0 E602.1) (b602) (t602) (kc602) (([111, 98, 106, 101, 99, 116] : List Int32)) f604 f605 f606 f607 f608 f609 f610 f611 f612 f613 f614 f615 f616 f617 f618 f619 f620 f621 A602 F602 G602 V602 (by decide : ∀ c ∈ ([111, 98, 106, 101, 99, 116] : List Int32), ¬ c < 0 ∧ ¬ (255 : Int32) < c) (Nat.le_of_ble_eq_true rfl)
    · refine Gl.st (fun _ kq => XS.icmpYes X0.here hx rfl (pc0 := 18) (pc' := 26) rfl (hb hby at_18) rfl (feq (hc601 : ¬ ((sel &&& (3 : Int32)) = (1 : Int32)))).2 (by decide) (by decide) kq) ?_
      show Gl p.tables e below _ (s₁.setTop (mkF m 26 #[.val (.int sel), .val (.int pos), .val (.int ch), .val (.long aq), .second, .val (.long bq), .second, .val (.int (sel &&& (3 : Int32))), .unset, .unset, .unset, .unset, .unset, .unset, .unset] []))
      refine Gl.st (fun _ kq => XS.iload X0.here hx rfl (hb hby at_26) rfl kq) ?_
      refine Gl.st (fun _ kq => XS.iconst X0.here hx rfl (hb hby at_28) kq) ?_
      show Gl p.tables e below _ (s₁.setTop (mkF m 29 #[.val (.int sel), .val (.int pos), .val (.int ch), .val (.long aq), .second, .val (.long bq), .second, .val (.int (sel &&& (3 : Int32))), .unset, .unset, .unset, .unset, .unset, .unset, .unset] [(.int 2), (.int (sel &&& (3 : Int32)))]))
      by_cases hc622 : (sel &&& (3 : Int32)) = (2 : Int32)
      · refine Gl.st (fun _ kq => XS.icmpNo X0.here hx rfl (hb hby at_29) rfl (teq (hc622 : (sel &&& (3 : Int32)) = (2 : Int32))).2 kq) ?_
        show Gl p.tables e below _ (s₁.setTop (mkF m 32 #[.val (.int sel), .val (.int pos), .val (.int ch), .val (.long aq), .second, .val (.long bq), .second, .val (.int (sel &&& (3 : Int32))), .unset, .unset, .unset, .unset, .unset, .unset, .unset] []))
        obtain ⟨b623, T623, h623, k623, t623, kc623, X623, e623, E623, S623, q623, hZ623, ho623, A623, F623, G623, V623, la623, lb623, R623, L623, sa623, st623⟩ := ldcCH X0 hx hZ hown (tw hw 111 rfl) (strW hw) e0 hS0 (Nat.le_of_eq (congrArg Array.size e0)) (elW hw) (by decide) C0.1 (vs := [(.int 100), (.int 97), (.int 116), (.int 97), (.int 115), (.int 101), (.int 116)]) (z := (7 : Int32)) (litc_111) (by decide) (by decide) (g := (mkF m 32 #[.val (.int sel), .val (.int pos), .val (.int ch), .val (.long aq), .second, .val (.long bq), .second, .val (.int (sel &&& (3 : Int32))), .unset, .unset, .unset, .unset, .unset, .unset, .unset] [])) rfl (hb hby at_32) (n := 28) (by decide) (by decide) (by decide) (by decide)
        refine Gl.st st623 ?_
        have C624 : CHr Z consts_1 s.vm h0 T623.vm h623 := C0.trans R623
        have V623 : Arv Z h623 t623 kc623 .byte (Int32.ofNat ([100, 97, 116, 97, 115, 101, 116] : List Int32).length) ((([100, 97, 116, 97, 115, 101, 116] : List Int32).map (fun c => c.toInt8.toInt32)).map Value.int) (.int 0) := V623
        show Gl p.tables e below _ (T623.setTop (mkF m 34 #[.val (.int sel), .val (.int pos), .val (.int ch), .val (.long aq), .second, .val (.long bq), .second, .val (.int (sel &&& (3 : Int32))), .unset, .unset, .unset, .unset, .unset, .unset, .unset] [(.ref b623)]))
        refine Gl.st (fun _ kq => XS.goto X623.here hx rfl (pc0 := 34) (pc' := 39) rfl (hb hby at_34) (by decide) (by decide) kq) ?_
        refine Gl.st (fun _ kq => XS.astore X623.here hx rfl (hb hby at_39) rfl rfl (l' := #[.val (.int sel), .val (.int pos), .val (.int ch), .val (.long aq), .second, .val (.long bq), .second, .val (.int (sel &&& (3 : Int32))), .val (.ref b623), .unset, .unset, .unset, .unset, .unset, .unset]) rfl kq) ?_
        show Gl p.tables e below _ (T623.setTop (mkF m 41 #[.val (.int sel), .val (.int pos), .val (.int ch), .val (.long aq), .second, .val (.long bq), .second, .val (.int (sel &&& (3 : Int32))), .val (.ref b623), .unset, .unset, .unset, .unset, .unset, .unset] []))
        have f625 : Arv Z h623 va kva (.object "com/example/groupwright/groupwright/app/Registration$Kind") (3 : Int32) [(.ref uk1), (.ref uk2), (.ref uk3)] .null := (pf0.ext E623)
        have f626 : Exa Z h623 va "[Lcom/example/groupwright/groupwright/app/Registration$Kind;" := (pf1.ext E623)
        have f627 : Fld Z h623 uk1 "com/example/groupwright/groupwright/app/Registration$Kind" "word" "Ljava/lang/String;" (.ref uw1) := (pf2.ext E623)
        have f628 : Exa Z h623 uw1 "java/lang/String" := (pf3.ext E623)
        have f629 : Fld Z h623 uw1 "java/lang/String" "coder" "B" (.int 0) := (pf4.ext E623)
        have f630 : Fld Z h623 uw1 "java/lang/String" "value" "[B" (.ref ut1) := (pf5.ext E623)
        have f631 : Arv Z h623 ut1 uj1 .byte (Int32.ofNat ([99, 111, 108, 108, 101, 99, 116, 105, 111, 110] : List Int32).length) ((([99, 111, 108, 108, 101, 99, 116, 105, 111, 110] : List Int32).map (fun c => c.toInt8.toInt32)).map Value.int) (.int 0) := (pf6.ext E623)
        have f632 : Fld Z h623 uk2 "com/example/groupwright/groupwright/app/Registration$Kind" "word" "Ljava/lang/String;" (.ref uw2) := (pf7.ext E623)
        have f633 : Exa Z h623 uw2 "java/lang/String" := (pf8.ext E623)
        have f634 : Fld Z h623 uw2 "java/lang/String" "coder" "B" (.int 0) := (pf9.ext E623)
        have f635 : Fld Z h623 uw2 "java/lang/String" "value" "[B" (.ref ut2) := (pf10.ext E623)
        have f636 : Arv Z h623 ut2 uj2 .byte (Int32.ofNat ([111, 98, 106, 101, 99, 116] : List Int32).length) ((([111, 98, 106, 101, 99, 116] : List Int32).map (fun c => c.toInt8.toInt32)).map Value.int) (.int 0) := (pf11.ext E623)
        have f637 : Fld Z h623 uk3 "com/example/groupwright/groupwright/app/Registration$Kind" "word" "Ljava/lang/String;" (.ref uw3) := (pf12.ext E623)
        have f638 : Exa Z h623 uw3 "java/lang/String" := (pf13.ext E623)
        have f639 : Fld Z h623 uw3 "java/lang/String" "coder" "B" (.int 0) := (pf14.ext E623)
        have f640 : Fld Z h623 uw3 "java/lang/String" "value" "[B" (.ref ut3) := (pf15.ext E623)
        have f641 : Arv Z h623 ut3 uj3 .byte (Int32.ofNat ([100, 97, 116, 97, 115, 101, 116] : List Int32).length) ((([100, 97, 116, 97, 115, 101, 116] : List Int32).map (fun c => c.toInt8.toInt32)).map Value.int) (.int 0) := (pf16.ext E623)
        have f642 : Old Z n0 h623 := (pf17.ext E623)
        exact Js _ _ _ _ _ S623 hZ623 ho623 q623 C624 (X623.more (by decide) (by decide)) e623 N0 (Nat.le_trans Z0 E623.1) (b623) (t623) (kc623) (([100, 97, 116, 97, 115, 101, 116] : List Int32)) f625 f626 f627 f628 f629 f630 f631 f632 f633 f634 f635 f636 f637 f638 f639 f640 f641 f642 A623 F623 G623 V623 (by decide : ∀ c ∈ ([100, 97, 116, 97, 115, 101, 116] : List Int32), ¬ c < 0 ∧ ¬ (255 : Int32) < c) (Nat.le_of_ble_eq_true rfl)
      · refine Gl.st (fun _ kq => XS.icmpYes X0.here hx rfl (pc0 := 29) (pc' := 37) rfl (hb hby at_29) rfl (feq (hc622 : ¬ ((sel &&& (3 : Int32)) = (2 : Int32)))).2 (by decide) (by decide) kq) ?_
        show Gl p.tables e below _ (s₁.setTop (mkF m 37 #[.val (.int sel), .val (.int pos), .val (.int ch), .val (.long aq), .second, .val (.long bq), .second, .val (.int (sel &&& (3 : Int32))), .unset, .unset, .unset, .unset, .unset, .unset, .unset] []))
        obtain ⟨b643, T643, h643, k643, t643, kc643, X643, e643, E643, S643, q643, hZ643, ho643, A643, F643, G643, V643, la643, lb643, R643, L643, sa643, st643⟩ := ldcCH X0 hx hZ hown (tw hw 108 rfl) (strW hw) e0 hS0 (Nat.le_of_eq (congrArg Array.size e0)) (elW hw) (by decide) C0.1 (vs := []) (z := (0 : Int32)) (litc_108) (by decide) (by decide) (g := (mkF m 37 #[.val (.int sel), .val (.int pos), .val (.int ch), .val (.long aq), .second, .val (.long bq), .second, .val (.int (sel &&& (3 : Int32))), .unset, .unset, .unset, .unset, .unset, .unset, .unset] [])) rfl (hb hby at_37) (n := 0) (by decide) (by decide) (by decide) (by decide)
        refine Gl.st st643 ?_
        have C644 : CHr Z consts_1 s.vm h0 T643.vm h643 := C0.trans R643
        have V643 : Arv Z h643 t643 kc643 .byte (Int32.ofNat ([] : List Int32).length) ((([] : List Int32).map (fun c => c.toInt8.toInt32)).map Value.int) (.int 0) := V643
        show Gl p.tables e below _ (T643.setTop (mkF m 39 #[.val (.int sel), .val (.int pos), .val (.int ch), .val (.long aq), .second, .val (.long bq), .second, .val (.int (sel &&& (3 : Int32))), .unset, .unset, .unset, .unset, .unset, .unset, .unset] [(.ref b643)]))
        refine Gl.st (fun _ kq => XS.astore X643.here hx rfl (hb hby at_39) rfl rfl (l' := #[.val (.int sel), .val (.int pos), .val (.int ch), .val (.long aq), .second, .val (.long bq), .second, .val (.int (sel &&& (3 : Int32))), .val (.ref b643), .unset, .unset, .unset, .unset, .unset, .unset]) rfl kq) ?_
        show Gl p.tables e below _ (T643.setTop (mkF m 41 #[.val (.int sel), .val (.int pos), .val (.int ch), .val (.long aq), .second, .val (.long bq), .second, .val (.int (sel &&& (3 : Int32))), .val (.ref b643), .unset, .unset, .unset, .unset, .unset, .unset] []))
        have f645 : Arv Z h643 va kva (.object "com/example/groupwright/groupwright/app/Registration$Kind") (3 : Int32) [(.ref uk1), (.ref uk2), (.ref uk3)] .null := (pf0.ext E643)
        have f646 : Exa Z h643 va "[Lcom/example/groupwright/groupwright/app/Registration$Kind;" := (pf1.ext E643)
        have f647 : Fld Z h643 uk1 "com/example/groupwright/groupwright/app/Registration$Kind" "word" "Ljava/lang/String;" (.ref uw1) := (pf2.ext E643)
        have f648 : Exa Z h643 uw1 "java/lang/String" := (pf3.ext E643)
        have f649 : Fld Z h643 uw1 "java/lang/String" "coder" "B" (.int 0) := (pf4.ext E643)
        have f650 : Fld Z h643 uw1 "java/lang/String" "value" "[B" (.ref ut1) := (pf5.ext E643)
        have f651 : Arv Z h643 ut1 uj1 .byte (Int32.ofNat ([99, 111, 108, 108, 101, 99, 116, 105, 111, 110] : List Int32).length) ((([99, 111, 108, 108, 101, 99, 116, 105, 111, 110] : List Int32).map (fun c => c.toInt8.toInt32)).map Value.int) (.int 0) := (pf6.ext E643)
        have f652 : Fld Z h643 uk2 "com/example/groupwright/groupwright/app/Registration$Kind" "word" "Ljava/lang/String;" (.ref uw2) := (pf7.ext E643)
        have f653 : Exa Z h643 uw2 "java/lang/String" := (pf8.ext E643)
        have f654 : Fld Z h643 uw2 "java/lang/String" "coder" "B" (.int 0) := (pf9.ext E643)
        have f655 : Fld Z h643 uw2 "java/lang/String" "value" "[B" (.ref ut2) := (pf10.ext E643)
        have f656 : Arv Z h643 ut2 uj2 .byte (Int32.ofNat ([111, 98, 106, 101, 99, 116] : List Int32).length) ((([111, 98, 106, 101, 99, 116] : List Int32).map (fun c => c.toInt8.toInt32)).map Value.int) (.int 0) := (pf11.ext E643)
        have f657 : Fld Z h643 uk3 "com/example/groupwright/groupwright/app/Registration$Kind" "word" "Ljava/lang/String;" (.ref uw3) := (pf12.ext E643)
        have f658 : Exa Z h643 uw3 "java/lang/String" := (pf13.ext E643)
        have f659 : Fld Z h643 uw3 "java/lang/String" "coder" "B" (.int 0) := (pf14.ext E643)
        have f660 : Fld Z h643 uw3 "java/lang/String" "value" "[B" (.ref ut3) := (pf15.ext E643)
        have f661 : Arv Z h643 ut3 uj3 .byte (Int32.ofNat ([100, 97, 116, 97, 115, 101, 116] : List Int32).length) ((([100, 97, 116, 97, 115, 101, 116] : List Int32).map (fun c => c.toInt8.toInt32)).map Value.int) (.int 0) := (pf16.ext E643)
        have f662 : Old Z n0 h643 := (pf17.ext E643)
        exact Js _ _ _ _ _ S643 hZ643 ho643 q643 C644 (X643.more (by decide) (by decide)) e643 N0 (Nat.le_trans Z0 E643.1) (b643) (t643) (kc643) (([] : List Int32)) f645 f646 f647 f648 f649 f650 f651 f652 f653 f654 f655 f656 f657 f658 f659 f660 f661 f662 A643 F643 G643 V643 (by decide : ∀ c ∈ ([] : List Int32), ¬ c < 0 ∧ ¬ (255 : Int32) < c) (Nat.le_of_ble_eq_true rfl)
set_option maxRecDepth 65536 in
set_option maxHeartbeats 40000000 in
theorem comes_1 {Post : Tables → Env → Array Value → State → Outcome → State → Prop} (hpost : ∀ tb e args s v u, (limb_1_1.after args s (.returned v) u = true ∧ limb_1_2.after args s (.returned v) u = true ∧ True) → Jvm.ReturnedEndW s (.returned v) u (Jvm.fieldLocs frame_1_writes args s ++ Jvm.arrayLocs frame_1_arrays args s ++ Jvm.staticLocs frame_1_statics s) 32 5312 → Post tb e args s (.returned v) u) :
    ArmFor flags0 classFile x code maxLocals ret World_1 tables_1 room_1 Calls_1 rest_1 Pre_1 Post := by
  intro l hfl _ _ p e ha hc hk s m args below hf hA hF happ hP
  obtain ⟨hcalls, hrest, hpre⟩ := hP
  obtain ⟨-, -, -, hnamed, -, -, -, hat⟩ := (Spec.applies_iff hf).mp happ
  obtain ⟨hg, hn⟩ := and_e (Cond.before_iff.mp (show (Jvm.Cond.and given_1 narrow_1).before args s = true from hpre))
  obtain ⟨hcnt, g0⟩ := and_e hg
  obtain ⟨u0, g1⟩ := and_e g0
  obtain ⟨u1, g2⟩ := and_e g1
  obtain ⟨u2, g3⟩ := and_e g2
  obtain ⟨u3, g4⟩ := and_e g3
  have u4 := g4
  obtain ⟨w0, w1, w2, w3, w4, rfl⟩ : ∃ w0 w1 w2 w3 w4 : Value, args = #[w0, w1, w2, w3, w4] := by
    have hs : args.size = 5 := by simpa [Cond.value, given_1] using hcnt
    obtain ⟨L⟩ := args
    match L, hs with
    | [w0, w1, w2, w3, w4], _ => exact ⟨w0, w1, w2, w3, w4, rfl⟩
  have hw := fun d (hd : d ∈ tables_1) => atoms_spec (ws := Jvm.Cond.code x code maxLocals ret :: tables_1) hat d (List.mem_cons_of_mem _ hd)
  have hfit : Fit s := fun {y c} hc i hi => by
    obtain ⟨ha, rfl⟩ := Array.getElem?_eq_some_iff.mp hc
    have q := List.all_eq_true.mp ((Array.all_eq_true_iff_forall_mem.mp hF) _ (Array.getElem_mem ha)) i (List.mem_range.mpr hi)
    simpa [Array.getElem?_eq_getElem hi] using q
  obtain ⟨hsets, hown0⟩ := atoms_of _ (rest_1_c_eq ▸ (show rest_1_c.before _ s = true from hrest))
  have hr0 := Cond.before_iff.mp hown0
  obtain ⟨i0, ei0⟩ := is_v u0
  obtain rfl : w0 = (.int i0) := Option.some.inj ei0
  obtain ⟨i1, ei1⟩ := is_v u1
  obtain rfl : w1 = (.int i1) := Option.some.inj ei1
  obtain ⟨i2, ei2⟩ := is_v u2
  obtain rfl : w2 = (.int i2) := Option.some.inj ei2
  obtain ⟨i3, ei3⟩ := isL_v u3
  obtain rfl : w3 = (.long i3) := Option.some.inj ei3
  obtain ⟨i4, ei4⟩ := isL_v u4
  obtain rfl : w4 = (.long i4) := Option.some.inj ei4
  obtain ⟨iG, eG⟩ := is_v (Cond.before_iff.mp (hsets _ (List.mem_of_getElem? (i := 1) rfl)))
  have SG : Sta s s.heap "java/lang/String" "COMPACT_STRINGS" "Z" (.int iG) := Sta.start eG (Or.inl (hsets _ (List.mem_of_getElem? (i := 0) rfl)))
  have cG : ¬ (iG = (0 : Int32)) := gotF (Cond.eq_ints eG (Term.int_eval (0))) (not_v (Cond.before_iff.mp (hsets _ (List.mem_of_getElem? (i := 2) rfl))))
  obtain ⟨vF, eF, rF⟩ := isR_v (Cond.before_iff.mp (hsets _ (List.mem_of_getElem? (i := 8) rfl)))
  have SF : Sta s s.heap "jdk/internal/util/Preconditions" "SIOOBE_FORMATTER" "Ljava/util/function/BiFunction;" vF := Sta.start eF (Or.inl (hsets _ (List.mem_of_getElem? (i := 7) rfl)))
  obtain ⟨n0, m0⟩ := and_e hn
  obtain ⟨n1, m1⟩ := and_e m0
  obtain ⟨n2, m2⟩ := and_e m1
  obtain ⟨n3, m3⟩ := and_e m2
  obtain ⟨n4, m4⟩ := and_e m3
  obtain ⟨n5, m5⟩ := and_e m4
  obtain ⟨n6, m6⟩ := and_e m5
  obtain ⟨n7, m7⟩ := and_e m6
  obtain ⟨n8, m8⟩ := and_e m7
  obtain ⟨n9, m9⟩ := and_e m8
  obtain ⟨n10, m10⟩ := and_e m9
  obtain ⟨n11, m11⟩ := and_e m10
  obtain ⟨n12, m12⟩ := and_e m11
  obtain ⟨n13, m13⟩ := and_e m12
  obtain ⟨n14, m14⟩ := and_e m13
  obtain ⟨n15, m15⟩ := and_e m14
  obtain ⟨n16, m16⟩ := and_e m15
  obtain ⟨n17, m17⟩ := and_e m16
  obtain ⟨n18, m18⟩ := and_e m17
  obtain ⟨n19, m19⟩ := and_e m18
  obtain ⟨n20, m20⟩ := and_e m19
  obtain ⟨n21, m21⟩ := and_e m20
  obtain ⟨n22, m22⟩ := and_e m21
  obtain ⟨n23, m23⟩ := and_e m22
  obtain ⟨n24, m24⟩ := and_e m23
  obtain ⟨n25, m25⟩ := and_e m24
  obtain ⟨n26, m26⟩ := and_e m25
  obtain ⟨n27, m27⟩ := and_e m26
  obtain ⟨n28, m28⟩ := and_e m27
  obtain ⟨n29, m29⟩ := and_e m28
  obtain ⟨n30, m30⟩ := and_e m29
  obtain ⟨n31, m31⟩ := and_e m30
  obtain ⟨n32, m32⟩ := and_e m31
  obtain ⟨n33, m33⟩ := and_e m32
  obtain ⟨n34, m34⟩ := and_e m33
  obtain ⟨n35, m35⟩ := and_e m34
  obtain ⟨n36, m36⟩ := and_e m35
  obtain ⟨n37, m37⟩ := and_e m36
  obtain ⟨n38, m38⟩ := and_e m37
  obtain ⟨n39, m39⟩ := and_e m38
  obtain ⟨n40, m40⟩ := and_e m39
  obtain ⟨n41, m41⟩ := and_e m40
  obtain ⟨n42, m42⟩ := and_e m41
  have n43 := m42
  obtain ⟨va, eva⟩ := arr_v n0
  have Eva : Exa s s.heap va "[Lcom/example/groupwright/groupwright/app/Registration$Kind;" := Exa.start eva n1
  obtain ⟨clv, Ava⟩ := Arr.start eva n0
  have elen := eqv_i (y := 3) rfl n2
  have hat0 : s.arrayAt? va = some clv := Ava.fin (Vm.Alike.refl _)
  have h31 : clv.slots.size < 2 ^ 31 := SBG.length_lt eva hat0 elen
  have ez : clv.slots.size.toInt32 = (3 : Int32) := Value.int.inj (Option.some.inj ((len_f eva hat0 h31).symm.trans elen))
  have Sva : Sta s s.heap "com/example/groupwright/groupwright/app/Registration$Kind" "$VALUES" "[Lcom/example/groupwright/groupwright/app/Registration$Kind;" (.ref va) := Sta.start eva (Or.inr ⟨(tw hw 75 rfl), (tw hw 81 rfl)⟩)
  obtain ⟨k1, ek1⟩ := exa_v n3
  have Sk1 : Sta s s.heap "com/example/groupwright/groupwright/app/Registration$Kind" "COLLECTION" "Lcom/example/groupwright/groupwright/app/Registration$Kind;" (.ref k1) := Sta.start ek1 (Or.inr ⟨(tw hw 75 rfl), (tw hw 89 rfl)⟩)
  obtain ⟨k2, ek2⟩ := exa_v n5
  have Sk2 : Sta s s.heap "com/example/groupwright/groupwright/app/Registration$Kind" "OBJECT" "Lcom/example/groupwright/groupwright/app/Registration$Kind;" (.ref k2) := Sta.start ek2 (Or.inr ⟨(tw hw 75 rfl), (tw hw 90 rfl)⟩)
  obtain ⟨k3, ek3⟩ := exa_v n7
  have Sk3 : Sta s s.heap "com/example/groupwright/groupwright/app/Registration$Kind" "DATA_SET" "Lcom/example/groupwright/groupwright/app/Registration$Kind;" (.ref k3) := Sta.start ek3 (Or.inr ⟨(tw hw 75 rfl), (tw hw 91 rfl)⟩)
  have Vva : Arv s s.heap va clv.cls (.object "com/example/groupwright/groupwright/app/Registration$Kind") (3 : Int32) [.ref k1, .ref k2, .ref k3] .null := Arv.start hfit Ava h31 ez (by decide) rfl ⟨(own_el (a := .int 0) (j := 0) (k := 0) eva rfl hat0 (by decide)).symm.trans (Cond.eq_refs (beq_iff_eq.mpr n4) ek1 rfl), (own_el (a := .int 1) (j := 1) (k := 1) eva rfl hat0 (by decide)).symm.trans (Cond.eq_refs (beq_iff_eq.mpr n6) ek2 rfl), (own_el (a := .int 2) (j := 2) (k := 2) eva rfl hat0 (by decide)).symm.trans (Cond.eq_refs (beq_iff_eq.mpr n8) ek3 rfl), trivial⟩
  obtain ⟨w1, ew1⟩ := exa_v n9
  have Ew1 : Exa s s.heap w1 "java/lang/String" := Exa.start ew1 n9
  have Fk1 : Fld s s.heap k1 "com/example/groupwright/groupwright/app/Registration$Kind" "word" "Ljava/lang/String;" (.ref w1) := Fld.start (by rw [← fld_at ek1]; exact ew1)
  have ec1 := eqv_i (y := 0) rfl n10
  have Fc1 : Fld s s.heap w1 "java/lang/String" "coder" "B" (.int 0) := Fld.start (by rw [← fld_at ew1]; exact ec1)
  obtain ⟨t1, et1⟩ := arr_v n11
  have Fv1 : Fld s s.heap w1 "java/lang/String" "value" "[B" (.ref t1) := Fld.start (by rw [← fld_at ew1]; exact et1)
  obtain ⟨cl1, At1⟩ := Arr.start et1 n11
  have elen1 := eqv_i (y := 10) rfl n12
  have hat1 : s.arrayAt? t1 = some cl1 := At1.fin (Vm.Alike.refl _)
  have h31_1 : cl1.slots.size < 2 ^ 31 := SBG.length_lt et1 hat1 elen1
  have ez1 : cl1.slots.size.toInt32 = (10 : Int32) := Value.int.inj (Option.some.inj ((len_f et1 hat1 h31_1).symm.trans elen1))
  have Vt1 : Arv s s.heap t1 cl1.cls .byte (10 : Int32) [.int 99, .int 111, .int 108, .int 108, .int 101, .int 99, .int 116, .int 105, .int 111, .int 110] (.int 0) := Arv.start hfit At1 h31_1 ez1 (by decide) rfl ⟨(own_el (a := .int 0) (j := 0) (k := 0) et1 rfl hat1 (by decide)).symm.trans (eqv_i rfl n21), (own_el (a := .int 1) (j := 1) (k := 1) et1 rfl hat1 (by decide)).symm.trans (eqv_i rfl n22), (own_el (a := .int 2) (j := 2) (k := 2) et1 rfl hat1 (by decide)).symm.trans (eqv_i rfl n23), (own_el (a := .int 3) (j := 3) (k := 3) et1 rfl hat1 (by decide)).symm.trans (eqv_i rfl n24), (own_el (a := .int 4) (j := 4) (k := 4) et1 rfl hat1 (by decide)).symm.trans (eqv_i rfl n25), (own_el (a := .int 5) (j := 5) (k := 5) et1 rfl hat1 (by decide)).symm.trans (eqv_i rfl n26), (own_el (a := .int 6) (j := 6) (k := 6) et1 rfl hat1 (by decide)).symm.trans (eqv_i rfl n27), (own_el (a := .int 7) (j := 7) (k := 7) et1 rfl hat1 (by decide)).symm.trans (eqv_i rfl n28), (own_el (a := .int 8) (j := 8) (k := 8) et1 rfl hat1 (by decide)).symm.trans (eqv_i rfl n29), (own_el (a := .int 9) (j := 9) (k := 9) et1 rfl hat1 (by decide)).symm.trans (eqv_i rfl n30), trivial⟩
  have Vl1 : Arv s s.heap t1 cl1.cls .byte (Int32.ofNat ([99, 111, 108, 108, 101, 99, 116, 105, 111, 110] : List Int32).length) ((([99, 111, 108, 108, 101, 99, 116, 105, 111, 110] : List Int32).map (fun c => c.toInt8.toInt32)).map Value.int) (.int 0) := Vt1
  obtain ⟨w2, ew2⟩ := exa_v n13
  have Ew2 : Exa s s.heap w2 "java/lang/String" := Exa.start ew2 n13
  have Fk2 : Fld s s.heap k2 "com/example/groupwright/groupwright/app/Registration$Kind" "word" "Ljava/lang/String;" (.ref w2) := Fld.start (by rw [← fld_at ek2]; exact ew2)
  have ec2 := eqv_i (y := 0) rfl n14
  have Fc2 : Fld s s.heap w2 "java/lang/String" "coder" "B" (.int 0) := Fld.start (by rw [← fld_at ew2]; exact ec2)
  obtain ⟨t2, et2⟩ := arr_v n15
  have Fv2 : Fld s s.heap w2 "java/lang/String" "value" "[B" (.ref t2) := Fld.start (by rw [← fld_at ew2]; exact et2)
  obtain ⟨cl2, At2⟩ := Arr.start et2 n15
  have elen2 := eqv_i (y := 6) rfl n16
  have hat2 : s.arrayAt? t2 = some cl2 := At2.fin (Vm.Alike.refl _)
  have h31_2 : cl2.slots.size < 2 ^ 31 := SBG.length_lt et2 hat2 elen2
  have ez2 : cl2.slots.size.toInt32 = (6 : Int32) := Value.int.inj (Option.some.inj ((len_f et2 hat2 h31_2).symm.trans elen2))
  have Vt2 : Arv s s.heap t2 cl2.cls .byte (6 : Int32) [.int 111, .int 98, .int 106, .int 101, .int 99, .int 116] (.int 0) := Arv.start hfit At2 h31_2 ez2 (by decide) rfl ⟨(own_el (a := .int 0) (j := 0) (k := 0) et2 rfl hat2 (by decide)).symm.trans (eqv_i rfl n31), (own_el (a := .int 1) (j := 1) (k := 1) et2 rfl hat2 (by decide)).symm.trans (eqv_i rfl n32), (own_el (a := .int 2) (j := 2) (k := 2) et2 rfl hat2 (by decide)).symm.trans (eqv_i rfl n33), (own_el (a := .int 3) (j := 3) (k := 3) et2 rfl hat2 (by decide)).symm.trans (eqv_i rfl n34), (own_el (a := .int 4) (j := 4) (k := 4) et2 rfl hat2 (by decide)).symm.trans (eqv_i rfl n35), (own_el (a := .int 5) (j := 5) (k := 5) et2 rfl hat2 (by decide)).symm.trans (eqv_i rfl n36), trivial⟩
  have Vl2 : Arv s s.heap t2 cl2.cls .byte (Int32.ofNat ([111, 98, 106, 101, 99, 116] : List Int32).length) ((([111, 98, 106, 101, 99, 116] : List Int32).map (fun c => c.toInt8.toInt32)).map Value.int) (.int 0) := Vt2
  obtain ⟨w3, ew3⟩ := exa_v n17
  have Ew3 : Exa s s.heap w3 "java/lang/String" := Exa.start ew3 n17
  have Fk3 : Fld s s.heap k3 "com/example/groupwright/groupwright/app/Registration$Kind" "word" "Ljava/lang/String;" (.ref w3) := Fld.start (by rw [← fld_at ek3]; exact ew3)
  have ec3 := eqv_i (y := 0) rfl n18
  have Fc3 : Fld s s.heap w3 "java/lang/String" "coder" "B" (.int 0) := Fld.start (by rw [← fld_at ew3]; exact ec3)
  obtain ⟨t3, et3⟩ := arr_v n19
  have Fv3 : Fld s s.heap w3 "java/lang/String" "value" "[B" (.ref t3) := Fld.start (by rw [← fld_at ew3]; exact et3)
  obtain ⟨cl3, At3⟩ := Arr.start et3 n19
  have elen3 := eqv_i (y := 7) rfl n20
  have hat3 : s.arrayAt? t3 = some cl3 := At3.fin (Vm.Alike.refl _)
  have h31_3 : cl3.slots.size < 2 ^ 31 := SBG.length_lt et3 hat3 elen3
  have ez3 : cl3.slots.size.toInt32 = (7 : Int32) := Value.int.inj (Option.some.inj ((len_f et3 hat3 h31_3).symm.trans elen3))
  have Vt3 : Arv s s.heap t3 cl3.cls .byte (7 : Int32) [.int 100, .int 97, .int 116, .int 97, .int 115, .int 101, .int 116] (.int 0) := Arv.start hfit At3 h31_3 ez3 (by decide) rfl ⟨(own_el (a := .int 0) (j := 0) (k := 0) et3 rfl hat3 (by decide)).symm.trans (eqv_i rfl n37), (own_el (a := .int 1) (j := 1) (k := 1) et3 rfl hat3 (by decide)).symm.trans (eqv_i rfl n38), (own_el (a := .int 2) (j := 2) (k := 2) et3 rfl hat3 (by decide)).symm.trans (eqv_i rfl n39), (own_el (a := .int 3) (j := 3) (k := 3) et3 rfl hat3 (by decide)).symm.trans (eqv_i rfl n40), (own_el (a := .int 4) (j := 4) (k := 4) et3 rfl hat3 (by decide)).symm.trans (eqv_i rfl n41), (own_el (a := .int 5) (j := 5) (k := 5) et3 rfl hat3 (by decide)).symm.trans (eqv_i rfl n42), (own_el (a := .int 6) (j := 6) (k := 6) et3 rfl hat3 (by decide)).symm.trans (eqv_i rfl n43), trivial⟩
  have Vl3 : Arv s s.heap t3 cl3.cls .byte (Int32.ofNat ([100, 97, 116, 97, 115, 101, 116] : List Int32).length) ((([100, 97, 116, 97, 115, 101, 116] : List Int32).map (fun c => c.toInt8.toInt32)).map Value.int) (.int 0) := Vt3
  have hCH : CHv s consts_1 s.vm s.heap := CHv.start (elW hw) (fun p hp => hcalls.1 p hp) (hsets _ (List.mem_of_getElem? (i := 2) rfl)) (tw hw 3 rfl) (tw hw 2 rfl)
  obtain ⟨n, o, h1, h2, h3, _, L, rfl, ⟨rfl, N⟩, -, hq⟩ := rm_law l s _ hw tables_1 i0 i1 i2 i3 i4 iG vF va clv.cls k1 k2 k3 w1 t1 cl1.cls w2 t2 cl2.cls w3 t3 cl3.cls s.heap s.heap.size (Nat.le_refl _) Vva Eva Fk1 Ew1 Fc1 Fv1 Vl1 Fk2 Ew2 Fc2 Fv2 Vl2 Fk3 Ew3 Fc3 Fv3 Vl3 (Old.start s) Sva Sk1 Sk2 Sk3 SG cG SF rF p e ha hc hk s m _ below hf ((Spec.applies_iff_loose hf).mp happ).1 ⟨rfl, State.Warmed39.refl s, rfl, hCH⟩ trivial
  refine ⟨n, _, h1, h2, h3, hpost _ _ _ _ _ _ ⟨Cond.after_iff.mpr rfl, Cond.after_iff.mpr (eq_i res_at (Term.int_eval (1)) rfl), trivial⟩ ⟨hq.1, hq.2.1, hq.2.2.1, (hq.2.2.2.sift fun y hy => Or.inr (N y hy)).mono (by decide) (by decide)⟩⟩
theorem main_1_1 : Claimed_1_1 := comes_1 fun _ _ _ _ _ _ h hF => ⟨h.1, hF⟩
theorem main_1_2 : Claimed_1_2 := comes_1 fun _ _ _ _ _ _ h hF => ⟨h.2.1, hF⟩
end Jvm.Pilot.@@N@@
namespace Jvm.Pilot.@@N@@
open Jvm Jvm.ClassFile Sem Op Lib Jvm.Free Jvm.Stand Jvm.Pilot.@@N@@.Jvm.D
/-! MADE BY PROGRAM (witnessworld.py) out of the Statement's table words and the real class files: 22 classes; the members and pool entries that the words name. The judged class is class 1, her method 3. -/
namespace start1
open Jvm.ClassFile
def u (s : String) : CpInfo := .utf8 (stringToUtf16 s)
/-- a pool by its gaps: so many unusable entries, then the entry; so many at the end -/
def gap : Nat → List CpInfo → List CpInfo
  | 0, r => r
  | n + 1, r => .unusable :: gap n r
def poolList (es : List (Nat × CpInfo)) (last : Nat) : List CpInfo := es.foldr (fun e r => gap e.1 (e.2 :: r)) (gap last [])
def pool (es : List (Nat × CpInfo)) (last : Nat) : Array CpInfo := ⟨poolList es last⟩
def fileOf (pool : Array CpInfo) (this : Nat) (attrs : Array Attribute := #[]) (ms : Array MethodInfo := #[]) (fl : Nat := 33) (sup : Nat := 0) (ifs : Array Nat := #[]) (fds : Array FieldInfo := #[]) : ClassFile where
  minorVersion := 0
  majorVersion := 65
  constantPool := pool
  accessFlags := fl
  thisClass := this
  superClass := sup
  interfaces := ifs
  fields := fds
  methods := ms
  attributes := attrs
def plain (name : String) (sup : Option ClassId) : Class where
  name := name
  kind := .ordinary
  loader := none
  accessFlags := 33
  super := sup
  interfaces := #[]
  cf := none
  fields := #[]
  methods := #[]
  instanceTypes := #[]
  staticTypes := #[]
  resolved := #[]
  callSites := []
  init := .initialized
  statics := none
  mirror := none

def pool0 : Array CpInfo := pool [(5, u "<init>"), (0, u "()V"), (1, .class_ 10), (1, u "java/lang/Object"), (85, u "clone"), (0, u "()Ljava/lang/Object;")] 26

def k0c0 : Code := { maxStack := 0, maxLocals := 1, code := object_method_1_code, exceptionTable := #[], attributes := #[] }
def k0m0 : Method := { name := "<init>", desc := "()V", sig := { parameters := [], returnType := none }, accessFlags := 1, code := some k0c0 }
def k0m1 : Method := { name := "clone", desc := "()Ljava/lang/Object;", sig := { parameters := [], returnType := some (.object "java/lang/Object") }, accessFlags := 260, code := none }
/-- java/lang/Object -/
def k0 : Class := { plain "java/lang/Object" none with
  accessFlags := 33
  interfaces := #[]
  cf := some (fileOf pool0 8 #[] #[{ accessFlags := 1, nameIndex := 5, descriptorIndex := 6, attributes := #[] }, { accessFlags := 260, nameIndex := 96, descriptorIndex := 97, attributes := #[] }] 33 0 #[] #[])
  fields := #[]
  methods := #[k0m0, k0m1]
  instanceTypes := #[]
  staticTypes := #[]
  resolved := Array.replicate 124 none
  statics := none }

def pool1 : Array CpInfo := pool [(2, .class_ 4), (1, u "java/lang/Object"), (0, u "<init>"), (0, u "()V"), (0, .methodref 8 9), (0, .class_ 10), (0, .nameAndType 11 12), (0, u "java/lang/String"), (0, u "length"), (0, u "()I"), (0, .methodref 8 14), (0, .nameAndType 15 16), (0, u "charAt"), (0, u "(I)C"), (0, .long 255), (1, .methodref 8 20), (0, .nameAndType 5 21), (0, u "([C)V"), (0, .string 23), (0, u "collection"), (0, .string 25), (0, u "object"), (0, .string 27), (0, u "dataset"), (0, .string 29), (0, u ""), (0, .methodref 31 32), (0, .class_ 33), (0, .nameAndType 34 35), (0, u "com/example/groupwright/groupwright/app/KindNamedPinLaw"), (0, u "at"), (0, u "(Ljava/lang/String;IJJ)C"), (0, .methodref 31 37), (0, .nameAndType 38 39), (0, u "str"), (0, u "([CI)Ljava/lang/String;"), (0, .methodref 41 42), (0, .class_ 43), (0, .nameAndType 44 45), (0, u "com/example/groupwright/groupwright/app/Registration$Kind"), (0, u "named"), (0, u "(Ljava/lang/String;)Lcom/example/groupwright/groupwright/app/Registration$Kind;"), (0, .methodref 8 47), (0, .nameAndType 48 49), (0, u "equals"), (0, u "(Ljava/lang/Object;)Z"), (0, .fieldref 41 51), (0, .nameAndType 52 53), (0, u "COLLECTION"), (0, u "Lcom/example/groupwright/groupwright/app/Registration$Kind;"), (0, .fieldref 41 55), (0, .nameAndType 56 53), (0, u "OBJECT"), (0, .fieldref 41 58), (0, .nameAndType 59 53), (0, u "DATA_SET"), (3, u "law"), (0, u "(IIIJJ)Z")] 8

def k1m0 : Method := { name := "<init>", desc := "()V", sig := { parameters := [], returnType := none }, accessFlags := 1, code := none }
def k1c1 : Code := { maxStack := 5, maxLocals := 8, code := method_2_code, exceptionTable := #[], attributes := #[] }
def k1m1 : Method := { name := "at", desc := "(Ljava/lang/String;IJJ)C", sig := { parameters := [(.object "java/lang/String"), .int, .long, .long], returnType := some .char }, accessFlags := 10, code := some k1c1 }
def k1c2 : Code := { maxStack := 7, maxLocals := 2, code := method_3_code, exceptionTable := #[], attributes := #[] }
def k1m2 : Method := { name := "str", desc := "([CI)Ljava/lang/String;", sig := { parameters := [(.array .char), .int], returnType := some (.object "java/lang/String") }, accessFlags := 10, code := some k1c2 }
def k1c3 : Code := { maxStack := 8, maxLocals := 15, code := code, exceptionTable := #[], attributes := #[] }
def k1m3 : Method := { name := "law", desc := "(IIIJJ)Z", sig := { parameters := [.int, .int, .int, .long, .long], returnType := some .boolean }, accessFlags := 9, code := some k1c3 }
/-- com/example/groupwright/groupwright/app/KindNamedPinLaw -/
def k1 : Class := { plain "com/example/groupwright/groupwright/app/KindNamedPinLaw" (some 0) with
  accessFlags := 49
  interfaces := #[]
  cf := some (fileOf pool1 31 #[] #[{ accessFlags := 1, nameIndex := 5, descriptorIndex := 6, attributes := #[] }, { accessFlags := 10, nameIndex := 34, descriptorIndex := 35, attributes := #[] }, { accessFlags := 10, nameIndex := 38, descriptorIndex := 39, attributes := #[] }, { accessFlags := 9, nameIndex := 63, descriptorIndex := 64, attributes := #[] }] 49 2 #[] #[])
  fields := #[]
  methods := #[k1m0, k1m1, k1m2, k1m3]
  instanceTypes := #[]
  staticTypes := #[]
  resolved := Array.replicate 73 none
  statics := none }

def pool2 : Array CpInfo := pool [(1, .class_ 2), (0, u "java/io/Serializable"), (0, .class_ 4), (0, u "java/lang/Object")] 2

/-- java/io/Serializable -/
def k2 : Class := { plain "java/io/Serializable" (some 0) with
  accessFlags := 1537
  interfaces := #[]
  cf := some (fileOf pool2 1 #[] #[] 1537 3 #[] #[])
  fields := #[]
  methods := #[]
  instanceTypes := #[]
  staticTypes := #[]
  resolved := Array.replicate 7 none
  statics := none }

def pool3 : Array CpInfo := pool [(1, .class_ 2), (0, u "java/lang/Comparable"), (0, .class_ 4), (0, u "java/lang/Object")] 7

/-- java/lang/Comparable -/
def k3 : Class := { plain "java/lang/Comparable" (some 0) with
  accessFlags := 1537
  interfaces := #[]
  cf := some (fileOf pool3 1 #[] #[] 1537 3 #[] #[])
  fields := #[]
  methods := #[]
  instanceTypes := #[]
  staticTypes := #[]
  resolved := Array.replicate 12 none
  statics := none }

def pool4 : Array CpInfo := pool [(2, .class_ 4), (1, u "java/lang/CharSequence"), (42, .class_ 48), (0, u "java/lang/CharSequence$1CodePointIterator"), (10, .class_ 60), (0, u "java/lang/CharSequence$1CharIterator"), (5, .class_ 67), (0, u "java/lang/Object")] 63

/-- java/lang/CharSequence -/
def k4 : Class := { plain "java/lang/CharSequence" (some 0) with
  accessFlags := 1537
  interfaces := #[]
  cf := some (fileOf pool4 2 #[.nestMembers #[47, 59]] #[] 1537 66 #[] #[])
  fields := #[]
  methods := #[]
  instanceTypes := #[]
  staticTypes := #[]
  resolved := Array.replicate 131 none
  statics := none }

def pool5 : Array CpInfo := pool [(1, .class_ 2), (0, u "java/lang/constant/Constable"), (0, .class_ 4), (0, u "java/lang/Object")] 6

/-- java/lang/constant/Constable -/
def k5 : Class := { plain "java/lang/constant/Constable" (some 0) with
  accessFlags := 1537
  interfaces := #[]
  cf := some (fileOf pool5 1 #[] #[] 1537 3 #[] #[])
  fields := #[]
  methods := #[]
  instanceTypes := #[]
  staticTypes := #[]
  resolved := Array.replicate 11 none
  statics := none }

def pool6 : Array CpInfo := pool [(1, .class_ 2), (0, u "java/lang/constant/ConstantDesc"), (0, .class_ 4), (0, u "java/lang/Object")] 32

/-- java/lang/constant/ConstantDesc -/
def k6 : Class := { plain "java/lang/constant/ConstantDesc" (some 0) with
  accessFlags := 1537
  interfaces := #[]
  cf := some (fileOf pool6 1 #[] #[] 1537 3 #[] #[])
  fields := #[]
  methods := #[]
  instanceTypes := #[]
  staticTypes := #[]
  resolved := Array.replicate 37 none
  statics := none }

def pool7 : Array CpInfo := pool [(1, .methodref 2 3), (0, .class_ 4), (0, .nameAndType 5 6), (0, u "java/lang/Object"), (0, u "<init>"), (0, u "()V"), (0, .string 8), (0, u ""), (0, .fieldref 10 11), (0, .class_ 12), (0, .nameAndType 13 14), (0, u "java/lang/String"), (0, u "value"), (0, u "[B"), (0, .fieldref 10 16), (0, .nameAndType 17 18), (0, u "coder"), (0, u "B"), (2, u "hash"), (0, u "I"), (2, u "hashIsZero"), (0, u "Z"), (0, .methodref 10 28), (0, .nameAndType 5 29), (0, u "([CIILjava/lang/Void;)V"), (8, .fieldref 10 39), (0, .nameAndType 40 26), (0, u "COMPACT_STRINGS"), (1, .class_ 44), (1, u "java/lang/StringUTF16"), (0, u "compress"), (1, .methodref 42 48), (0, .nameAndType 49 50), (0, u "coderFromArrayLen"), (0, u "([BI)B"), (56, .class_ 109), (1, u "java/lang/StringLatin1"), (32, u "()Z"), (34, .methodref 42 178), (0, .nameAndType 45 179), (0, u "([CII)[B"), (154, u "()I"), (0, .methodref 10 336), (0, .nameAndType 17 337), (0, u "()B"), (25, u "([BI)C"), (27, u "(II)V"), (35, u "(I)C"), (64, .methodref 10 493), (0, .nameAndType 494 142), (0, u "isLatin1"), (0, .methodref 107 496), (0, .nameAndType 497 363), (0, u "charAt"), (3, u "checkIndex"), (5, u "length"), (33, .methodref 107 542), (0, .nameAndType 543 544), (0, u "equals"), (0, u "([B[B)Z"), (28, u "(Ljava/lang/Object;)Z"), (1, .class_ 576), (0, u "java/lang/CharSequence"), (22, u "CASE_INSENSITIVE_ORDER"), (0, u "Ljava/util/Comparator;"), (409, u "([C)V"), (42, .fieldref 1054 1055), (0, .class_ 1056), (0, .nameAndType 1057 1058), (0, u "jdk/internal/util/Preconditions"), (0, u "SIOOBE_FORMATTER"), (0, u "Ljava/util/function/BiFunction;"), (0, .methodref 1054 1060), (0, .nameAndType 501 1061), (0, u "(IILjava/util/function/BiFunction;)I"), (39, u "serialPersistentFields"), (0, u "[Ljava/io/ObjectStreamField;"), (0, .class_ 1104), (0, u "java/lang/String$CaseInsensitiveComparator"), (1, .class_ 1107), (0, u "java/io/Serializable"), (0, .class_ 1109), (0, u "java/lang/Comparable"), (0, .class_ 1111), (0, u "java/lang/constant/Constable"), (0, .class_ 1113), (0, u "java/lang/constant/ConstantDesc"), (2, u "serialVersionUID"), (0, u "J"), (3, u "REPL"), (0, u "C"), (2, u "LATIN1"), (1, u "UTF16")] 323

def k7m0 : Method := { name := "<init>", desc := "()V", sig := { parameters := [], returnType := none }, accessFlags := 1, code := none }
def k7c1 : Code := { maxStack := 5, maxLocals := 2, code := jdk_42_method_3_code, exceptionTable := #[], attributes := #[] }
def k7m1 : Method := { name := "<init>", desc := "([C)V", sig := { parameters := [(.array .char)], returnType := none }, accessFlags := 1, code := some k7c1 }
def k7c2 : Code := { maxStack := 2, maxLocals := 1, code := jdk_42_method_54_code, exceptionTable := #[], attributes := #[] }
def k7m2 : Method := { name := "length", desc := "()I", sig := { parameters := [], returnType := some .int }, accessFlags := 1, code := some k7c2 }
def k7c3 : Code := { maxStack := 2, maxLocals := 2, code := jdk_42_method_56_code, exceptionTable := #[], attributes := #[] }
def k7m3 : Method := { name := "charAt", desc := "(I)C", sig := { parameters := [.int], returnType := some .char }, accessFlags := 1, code := some k7c3 }
def k7c4 : Code := { maxStack := 2, maxLocals := 3, code := jdk_42_method_66_code, exceptionTable := #[], attributes := #[] }
def k7m4 : Method := { name := "equals", desc := "(Ljava/lang/Object;)Z", sig := { parameters := [(.object "java/lang/Object")], returnType := some .boolean }, accessFlags := 1, code := some k7c4 }
def k7c5 : Code := { maxStack := 4, maxLocals := 6, code := jdk_42_method_149_code, exceptionTable := #[], attributes := #[] }
def k7m5 : Method := { name := "<init>", desc := "([CIILjava/lang/Void;)V", sig := { parameters := [(.array .char), .int, .int, (.object "java/lang/Void")], returnType := none }, accessFlags := 2, code := some k7c5 }
def k7c6 : Code := { maxStack := 1, maxLocals := 1, code := jdk_42_method_152_code, exceptionTable := #[], attributes := #[] }
def k7m6 : Method := { name := "coder", desc := "()B", sig := { parameters := [], returnType := some .byte }, accessFlags := 0, code := some k7c6 }
def k7c7 : Code := { maxStack := 1, maxLocals := 1, code := jdk_42_method_154_code, exceptionTable := #[], attributes := #[] }
def k7m7 : Method := { name := "isLatin1", desc := "()Z", sig := { parameters := [], returnType := some .boolean }, accessFlags := 0, code := some k7c7 }
def k7c8 : Code := { maxStack := 3, maxLocals := 2, code := jdk_42_method_155_code, exceptionTable := #[], attributes := #[] }
def k7m8 : Method := { name := "checkIndex", desc := "(II)V", sig := { parameters := [.int, .int], returnType := none }, accessFlags := 8, code := some k7c8 }
/-- java/lang/String -/
def k7 : Class := { plain "java/lang/String" (some 0) with
  accessFlags := 49
  interfaces := #[2, 3, 4, 5, 6]
  cf := some (fileOf pool7 10 #[.nestMembers #[1103]] #[{ accessFlags := 1, nameIndex := 5, descriptorIndex := 6, attributes := #[] }, { accessFlags := 1, nameIndex := 5, descriptorIndex := 1010, attributes := #[] }, { accessFlags := 1, nameIndex := 507, descriptorIndex := 334, attributes := #[] }, { accessFlags := 1, nameIndex := 497, descriptorIndex := 427, attributes := #[] }, { accessFlags := 1, nameIndex := 543, descriptorIndex := 573, attributes := #[] }, { accessFlags := 2, nameIndex := 5, descriptorIndex := 29, attributes := #[] }, { accessFlags := 0, nameIndex := 17, descriptorIndex := 337, attributes := #[] }, { accessFlags := 0, nameIndex := 494, descriptorIndex := 142, attributes := #[] }, { accessFlags := 8, nameIndex := 501, descriptorIndex := 391, attributes := #[] }] 49 2 #[1106, 1108, 575, 1110, 1112] #[{ accessFlags := 18, nameIndex := 13, descriptorIndex := 14, attributes := #[] }, { accessFlags := 18, nameIndex := 17, descriptorIndex := 18, attributes := #[] }, { accessFlags := 2, nameIndex := 21, descriptorIndex := 22, attributes := #[] }, { accessFlags := 2, nameIndex := 25, descriptorIndex := 26, attributes := #[] }, { accessFlags := 26, nameIndex := 1116, descriptorIndex := 1117, attributes := #[] }, { accessFlags := 24, nameIndex := 40, descriptorIndex := 26, attributes := #[] }, { accessFlags := 26, nameIndex := 1101, descriptorIndex := 1102, attributes := #[] }, { accessFlags := 26, nameIndex := 1121, descriptorIndex := 1122, attributes := #[] }, { accessFlags := 25, nameIndex := 599, descriptorIndex := 600, attributes := #[] }, { accessFlags := 24, nameIndex := 1125, descriptorIndex := 18, attributes := #[] }, { accessFlags := 24, nameIndex := 1127, descriptorIndex := 18, attributes := #[] }])
  fields := #[{ name := "value", type := (.array .byte), accessFlags := 18, slot := 0, constantValue := 0 }, { name := "coder", type := .byte, accessFlags := 18, slot := 1, constantValue := 0 }, { name := "hash", type := .int, accessFlags := 2, slot := 2, constantValue := 0 }, { name := "hashIsZero", type := .boolean, accessFlags := 2, slot := 3, constantValue := 0 }, { name := "serialVersionUID", type := .long, accessFlags := 26, slot := 0, constantValue := 0 }, { name := "COMPACT_STRINGS", type := .boolean, accessFlags := 24, slot := 1, constantValue := 0 }, { name := "serialPersistentFields", type := (.array (.object "java/io/ObjectStreamField")), accessFlags := 26, slot := 2, constantValue := 0 }, { name := "REPL", type := .char, accessFlags := 26, slot := 3, constantValue := 0 }, { name := "CASE_INSENSITIVE_ORDER", type := (.object "java/util/Comparator"), accessFlags := 25, slot := 4, constantValue := 0 }, { name := "LATIN1", type := .byte, accessFlags := 24, slot := 5, constantValue := 0 }, { name := "UTF16", type := .byte, accessFlags := 24, slot := 6, constantValue := 0 }]
  methods := #[k7m0, k7m1, k7m2, k7m3, k7m4, k7m5, k7m6, k7m7, k7m8]
  instanceTypes := #[(.array .byte), .byte, .int, .boolean]
  staticTypes := #[.long, .boolean, (.array (.object "java/io/ObjectStreamField")), .char, (.object "java/util/Comparator"), .byte, .byte]
  resolved := Array.replicate 1451 none
  statics := some 0 }

def pool8 : Array CpInfo := pool [(1, .class_ 2), (0, u "java/lang/String"), (1, .class_ 6), (1, u "java/lang/Object"), (0, u "<init>"), (0, u "()V"), (0, .methodref 1 10), (0, .nameAndType 11 12), (0, u "checkIndex"), (0, u "(II)V"), (1, .class_ 16), (1, u "java/lang/StringLatin1"), (36, u "([BI)C"), (67, u "$assertionsDisabled"), (0, u "Z"), (98, .class_ 223), (1, u "java/lang/StringLatin1$LinesSpliterator"), (28, u "charAt"), (28, u "equals"), (0, u "([B[B)Z"), (107, .class_ 391), (0, u "java/lang/StringLatin1$CharsSpliterator")] 3

def k8m0 : Method := { name := "<init>", desc := "()V", sig := { parameters := [], returnType := none }, accessFlags := 0, code := none }
def k8c1 : Code := { maxStack := 2, maxLocals := 2, code := jdk_43_method_2_code, exceptionTable := #[], attributes := #[] }
def k8m1 : Method := { name := "charAt", desc := "([BI)C", sig := { parameters := [(.array .byte), .int], returnType := some .char }, accessFlags := 9, code := some k8c1 }
def k8c2 : Code := { maxStack := 3, maxLocals := 3, code := jdk_43_method_13_code, exceptionTable := #[], attributes := #[] }
def k8m2 : Method := { name := "equals", desc := "([B[B)Z", sig := { parameters := [(.array .byte), (.array .byte)], returnType := some .boolean }, accessFlags := 9, code := some k8c2 }
/-- java/lang/StringLatin1 -/
def k8 : Class := { plain "java/lang/StringLatin1" (some 0) with
  accessFlags := 48
  interfaces := #[]
  cf := some (fileOf pool8 14 #[.nestMembers #[390, 221]] #[{ accessFlags := 0, nameIndex := 7, descriptorIndex := 8, attributes := #[] }, { accessFlags := 9, nameIndex := 252, descriptorIndex := 53, attributes := #[] }, { accessFlags := 9, nameIndex := 281, descriptorIndex := 282, attributes := #[] }] 48 4 #[] #[{ accessFlags := 4120, nameIndex := 121, descriptorIndex := 122, attributes := #[] }])
  fields := #[{ name := "$assertionsDisabled", type := .boolean, accessFlags := 4120, slot := 0, constantValue := 0 }]
  methods := #[k8m0, k8m1, k8m2]
  instanceTypes := #[]
  staticTypes := #[.boolean]
  resolved := Array.replicate 395 none
  statics := none }

def pool9 : Array CpInfo := pool [(2, .class_ 4), (1, u "java/lang/Object"), (0, u "<init>"), (0, u "()V"), (17, .class_ 26), (1, u "jdk/internal/util/Preconditions"), (6, u "checkIndex"), (21, .class_ 56), (0, u "jdk/internal/util/Preconditions$4"), (57, .class_ 115), (0, u "jdk/internal/util/Preconditions$1"), (7, u "SIOOBE_FORMATTER"), (0, u "Ljava/util/function/BiFunction;"), (0, .class_ 126), (0, u "jdk/internal/util/Preconditions$2"), (3, u "AIOOBE_FORMATTER"), (0, .class_ 132), (0, u "jdk/internal/util/Preconditions$3"), (3, u "IOOBE_FORMATTER"), (41, u "(IILjava/util/function/BiFunction;)I")] 15

def k9m0 : Method := { name := "<init>", desc := "()V", sig := { parameters := [], returnType := none }, accessFlags := 1, code := none }
def k9c1 : Code := { maxStack := 3, maxLocals := 3, code := jdk_41_method_11_code, exceptionTable := #[], attributes := #[] }
def k9m1 : Method := { name := "checkIndex", desc := "(IILjava/util/function/BiFunction;)I", sig := { parameters := [.int, .int, (.object "java/util/function/BiFunction")], returnType := some .int }, accessFlags := 9, code := some k9c1 }
/-- jdk/internal/util/Preconditions -/
def k9 : Class := { plain "jdk/internal/util/Preconditions" (some 0) with
  accessFlags := 33
  interfaces := #[]
  cf := some (fileOf pool9 24 #[.nestMembers #[55, 131, 125, 114]] #[{ accessFlags := 1, nameIndex := 5, descriptorIndex := 6, attributes := #[] }, { accessFlags := 9, nameIndex := 33, descriptorIndex := 178, attributes := #[] }] 33 2 #[] #[{ accessFlags := 25, nameIndex := 123, descriptorIndex := 124, attributes := #[] }, { accessFlags := 25, nameIndex := 130, descriptorIndex := 124, attributes := #[] }, { accessFlags := 25, nameIndex := 136, descriptorIndex := 124, attributes := #[] }])
  fields := #[{ name := "SIOOBE_FORMATTER", type := (.object "java/util/function/BiFunction"), accessFlags := 25, slot := 0, constantValue := 0 }, { name := "AIOOBE_FORMATTER", type := (.object "java/util/function/BiFunction"), accessFlags := 25, slot := 1, constantValue := 0 }, { name := "IOOBE_FORMATTER", type := (.object "java/util/function/BiFunction"), accessFlags := 25, slot := 2, constantValue := 0 }]
  methods := #[k9m0, k9m1]
  instanceTypes := #[]
  staticTypes := #[(.object "java/util/function/BiFunction"), (.object "java/util/function/BiFunction"), (.object "java/util/function/BiFunction")]
  resolved := Array.replicate 194 none
  statics := some 1 }

def pool10 : Array CpInfo := pool [(6, .class_ 8), (1, u "java/lang/Object"), (0, u "<init>"), (0, u "()V"), (1, .class_ 14), (1, u "java/lang/StringUTF16"), (31, u "$assertionsDisabled"), (0, u "Z"), (13, u "HI_BYTE_SHIFT"), (0, u "I"), (2, u "LO_BYTE_SHIFT"), (49, .methodref 12 116), (0, .nameAndType 117 118), (0, u "compress"), (0, u "([CI[BII)I"), (3, u "([CII)[B"), (138, u "coderFromArrayLen"), (0, u "([BI)B"), (106, .class_ 371), (1, u "java/lang/StringUTF16$LinesSpliterator"), (58, u "MAX_LENGTH"), (196, .class_ 628), (0, u "java/lang/StringUTF16$CodePointsSpliterator"), (0, .class_ 630), (0, u "java/lang/StringUTF16$CharsSpliterator")] 4

def k10m0 : Method := { name := "<init>", desc := "()V", sig := { parameters := [], returnType := none }, accessFlags := 0, code := none }
def k10c1 : Code := { maxStack := 2, maxLocals := 2, code := jdk_52_method_15_code, exceptionTable := #[], attributes := #[] }
def k10m1 : Method := { name := "coderFromArrayLen", desc := "([BI)B", sig := { parameters := [(.array .byte), .int], returnType := some .byte }, accessFlags := 8, code := some k10c1 }
def k10c2 : Code := { maxStack := 5, maxLocals := 6, code := jdk_52_method_16_code, exceptionTable := #[], attributes := #[] }
def k10m2 : Method := { name := "compress", desc := "([CII)[B", sig := { parameters := [(.array .char), .int, .int], returnType := some (.array .byte) }, accessFlags := 9, code := some k10c2 }
def k10c3 : Code := { maxStack := 3, maxLocals := 7, code := jdk_52_method_21_code, exceptionTable := #[], attributes := #[] }
def k10m3 : Method := { name := "compress", desc := "([CI[BII)I", sig := { parameters := [(.array .char), .int, (.array .byte), .int, .int], returnType := some .int }, accessFlags := 9, code := some k10c3 }
/-- java/lang/StringUTF16 -/
def k10 : Class := { plain "java/lang/StringUTF16" (some 0) with
  accessFlags := 48
  interfaces := #[]
  cf := some (fileOf pool10 12 #[.nestMembers #[627, 629, 369]] #[{ accessFlags := 0, nameIndex := 9, descriptorIndex := 10, attributes := #[] }, { accessFlags := 8, nameIndex := 261, descriptorIndex := 262, attributes := #[] }, { accessFlags := 9, nameIndex := 117, descriptorIndex := 122, attributes := #[] }, { accessFlags := 9, nameIndex := 117, descriptorIndex := 118, attributes := #[] }] 48 6 #[] #[{ accessFlags := 26, nameIndex := 61, descriptorIndex := 62, attributes := #[] }, { accessFlags := 26, nameIndex := 65, descriptorIndex := 62, attributes := #[] }, { accessFlags := 24, nameIndex := 430, descriptorIndex := 62, attributes := #[] }, { accessFlags := 4120, nameIndex := 46, descriptorIndex := 47, attributes := #[] }])
  fields := #[{ name := "HI_BYTE_SHIFT", type := .int, accessFlags := 26, slot := 0, constantValue := 0 }, { name := "LO_BYTE_SHIFT", type := .int, accessFlags := 26, slot := 1, constantValue := 0 }, { name := "MAX_LENGTH", type := .int, accessFlags := 24, slot := 2, constantValue := 0 }, { name := "$assertionsDisabled", type := .boolean, accessFlags := 4120, slot := 3, constantValue := 0 }]
  methods := #[k10m0, k10m1, k10m2, k10m3]
  instanceTypes := #[]
  staticTypes := #[.int, .int, .int, .boolean]
  resolved := Array.replicate 635 none
  statics := none }

def pool11 : Array CpInfo := pool [(2, .class_ 4), (1, u "java/lang/Enum"), (0, u "name"), (0, u "Ljava/lang/String;"), (2, u "ordinal"), (0, u "I"), (1, .class_ 14), (1, u "java/lang/Object"), (4, u "hash"), (86, .class_ 108), (1, u "java/lang/Enum$EnumDesc"), (2, .class_ 112), (0, u "java/lang/constant/Constable"), (0, .class_ 114), (0, u "java/lang/Comparable"), (0, .class_ 116), (0, u "java/io/Serializable")] 87

/-- java/lang/Enum -/
def k11 : Class := { plain "java/lang/Enum" (some 0) with
  accessFlags := 1057
  interfaces := #[5, 3, 2]
  cf := some (fileOf pool11 2 #[.nestMembers #[106]] #[] 1057 12 #[111, 113, 115] #[{ accessFlags := 18, nameIndex := 5, descriptorIndex := 6, attributes := #[] }, { accessFlags := 18, nameIndex := 9, descriptorIndex := 10, attributes := #[] }, { accessFlags := 2, nameIndex := 19, descriptorIndex := 10, attributes := #[] }])
  fields := #[{ name := "name", type := (.object "java/lang/String"), accessFlags := 18, slot := 0, constantValue := 0 }, { name := "ordinal", type := .int, accessFlags := 18, slot := 1, constantValue := 0 }, { name := "hash", type := .int, accessFlags := 2, slot := 2, constantValue := 0 }]
  methods := #[]
  instanceTypes := #[(.object "java/lang/String"), .int, .int]
  staticTypes := #[]
  resolved := Array.replicate 204 none
  statics := none }

def pool12 : Array CpInfo := pool [(1, .class_ 2), (0, u "com/example/groupwright/groupwright/app/Registration$Kind"), (2, u "COLLECTION"), (0, u "Lcom/example/groupwright/groupwright/app/Registration$Kind;"), (2, u "OBJECT"), (2, u "DATA_SET"), (0, .fieldref 1 14), (0, .nameAndType 15 16), (0, u "$VALUES"), (0, u "[Lcom/example/groupwright/groupwright/app/Registration$Kind;"), (0, .methodref 18 19), (0, .class_ 16), (0, .nameAndType 20 21), (0, u "clone"), (0, u "()Ljava/lang/Object;"), (1, .class_ 25), (1, u "java/lang/Enum"), (6, .fieldref 1 33), (0, .nameAndType 34 35), (0, u "word"), (0, u "Ljava/lang/String;"), (0, .methodref 1 37), (0, .nameAndType 38 39), (0, u "values"), (0, u "()[Lcom/example/groupwright/groupwright/app/Registration$Kind;"), (0, .methodref 41 42), (0, .class_ 43), (0, .nameAndType 44 45), (0, u "java/lang/String"), (0, u "equals"), (0, u "(Ljava/lang/Object;)Z"), (17, u "(Ljava/lang/String;)Lcom/example/groupwright/groupwright/app/Registration$Kind;"), (3, u "named"), (8, .class_ 77), (0, u "com/example/groupwright/groupwright/app/Registration")] 2

def k12c0 : Code := { maxStack := 1, maxLocals := 0, code := prog_12_method_1_code, exceptionTable := #[], attributes := #[] }
def k12m0 : Method := { name := "values", desc := "()[Lcom/example/groupwright/groupwright/app/Registration$Kind;", sig := { parameters := [], returnType := some (.array (.object "com/example/groupwright/groupwright/app/Registration$Kind")) }, accessFlags := 9, code := some k12c0 }
def k12c1 : Code := { maxStack := 2, maxLocals := 6, code := prog_12_method_4_code, exceptionTable := #[], attributes := #[] }
def k12m1 : Method := { name := "named", desc := "(Ljava/lang/String;)Lcom/example/groupwright/groupwright/app/Registration$Kind;", sig := { parameters := [(.object "java/lang/String")], returnType := some (.object "com/example/groupwright/groupwright/app/Registration$Kind") }, accessFlags := 8, code := some k12c1 }
/-- com/example/groupwright/groupwright/app/Registration$Kind -/
def k12 : Class := { plain "com/example/groupwright/groupwright/app/Registration$Kind" (some 11) with
  accessFlags := 16432
  interfaces := #[]
  cf := some (fileOf pool12 1 #[.nestHost 76] #[{ accessFlags := 9, nameIndex := 38, descriptorIndex := 39, attributes := #[] }, { accessFlags := 8, nameIndex := 67, descriptorIndex := 63, attributes := #[] }] 16432 23 #[] #[{ accessFlags := 16409, nameIndex := 5, descriptorIndex := 6, attributes := #[] }, { accessFlags := 16409, nameIndex := 9, descriptorIndex := 6, attributes := #[] }, { accessFlags := 16409, nameIndex := 12, descriptorIndex := 6, attributes := #[] }, { accessFlags := 18, nameIndex := 34, descriptorIndex := 35, attributes := #[] }, { accessFlags := 4122, nameIndex := 15, descriptorIndex := 16, attributes := #[] }])
  fields := #[{ name := "COLLECTION", type := (.object "com/example/groupwright/groupwright/app/Registration$Kind"), accessFlags := 16409, slot := 0, constantValue := 0 }, { name := "OBJECT", type := (.object "com/example/groupwright/groupwright/app/Registration$Kind"), accessFlags := 16409, slot := 1, constantValue := 0 }, { name := "DATA_SET", type := (.object "com/example/groupwright/groupwright/app/Registration$Kind"), accessFlags := 16409, slot := 2, constantValue := 0 }, { name := "word", type := (.object "java/lang/String"), accessFlags := 18, slot := 3, constantValue := 0 }, { name := "$VALUES", type := (.array (.object "com/example/groupwright/groupwright/app/Registration$Kind")), accessFlags := 4122, slot := 3, constantValue := 0 }]
  methods := #[k12m0, k12m1]
  instanceTypes := #[(.object "java/lang/String"), .int, .int, (.object "java/lang/String")]
  staticTypes := #[(.object "com/example/groupwright/groupwright/app/Registration$Kind"), (.object "com/example/groupwright/groupwright/app/Registration$Kind"), (.object "com/example/groupwright/groupwright/app/Registration$Kind"), (.array (.object "com/example/groupwright/groupwright/app/Registration$Kind"))]
  resolved := Array.replicate 80 none
  statics := some 2 }

def pool13 : Array CpInfo := pool [(1, .class_ 2), (0, u "java/lang/Cloneable"), (0, .class_ 4), (0, u "java/lang/Object")] 2

/-- java/lang/Cloneable -/
def k13 : Class := { plain "java/lang/Cloneable" (some 0) with
  accessFlags := 1537
  interfaces := #[]
  cf := some (fileOf pool13 1 #[] #[] 1537 3 #[] #[])
  fields := #[]
  methods := #[]
  instanceTypes := #[]
  staticTypes := #[]
  resolved := Array.replicate 7 none
  statics := none }

def pool14 : Array CpInfo := pool [(9, u "<init>"), (6, .class_ 18), (1, u "java/lang/Object"), (0, u "()V"), (1, .class_ 23), (1, u "jdk/internal/util/ArraysSupport"), (0, u "LOG2_ARRAY_LONG_INDEX_SCALE"), (0, u "I"), (2, u "U"), (0, u "Ljdk/internal/misc/Unsafe;"), (8, u "BIG_ENDIAN"), (0, u "Z"), (8, u "LOG2_BYTE_BIT_SIZE"), (4, u "LOG2_ARRAY_INT_INDEX_SCALE"), (54, u "JLA"), (0, u "Ljdk/internal/access/JavaLangAccess;"), (11, u "LOG2_ARRAY_BOOLEAN_INDEX_SCALE"), (9, u "LOG2_ARRAY_BYTE_INDEX_SCALE"), (5, u "LOG2_ARRAY_CHAR_INDEX_SCALE"), (5, u "LOG2_ARRAY_SHORT_INDEX_SCALE"), (18, u "LOG2_ARRAY_FLOAT_INDEX_SCALE"), (24, u "LOG2_ARRAY_DOUBLE_INDEX_SCALE"), (89, u "T_BOOLEAN"), (2, u "T_CHAR"), (1, u "T_FLOAT"), (1, u "T_DOUBLE"), (1, u "T_BYTE"), (1, u "T_SHORT"), (1, u "T_INT"), (1, u "T_LONG"), (1, u "SOFT_MAX_ARRAY_LENGTH")] 83

def k14m0 : Method := { name := "<init>", desc := "()V", sig := { parameters := [], returnType := none }, accessFlags := 2, code := none }
/-- jdk/internal/util/ArraysSupport -/
def k14 : Class := { plain "jdk/internal/util/ArraysSupport" (some 0) with
  accessFlags := 33
  interfaces := #[]
  cf := some (fileOf pool14 21 #[] #[{ accessFlags := 2, nameIndex := 9, descriptorIndex := 19, attributes := #[] }] 33 16 #[] #[{ accessFlags := 24, nameIndex := 28, descriptorIndex := 29, attributes := #[] }, { accessFlags := 26, nameIndex := 38, descriptorIndex := 39, attributes := #[] }, { accessFlags := 25, nameIndex := 121, descriptorIndex := 25, attributes := #[] }, { accessFlags := 25, nameIndex := 131, descriptorIndex := 25, attributes := #[] }, { accessFlags := 25, nameIndex := 137, descriptorIndex := 25, attributes := #[] }, { accessFlags := 25, nameIndex := 143, descriptorIndex := 25, attributes := #[] }, { accessFlags := 25, nameIndex := 53, descriptorIndex := 25, attributes := #[] }, { accessFlags := 25, nameIndex := 24, descriptorIndex := 25, attributes := #[] }, { accessFlags := 25, nameIndex := 162, descriptorIndex := 25, attributes := #[] }, { accessFlags := 25, nameIndex := 187, descriptorIndex := 25, attributes := #[] }, { accessFlags := 26, nameIndex := 48, descriptorIndex := 25, attributes := #[] }, { accessFlags := 25, nameIndex := 277, descriptorIndex := 25, attributes := #[] }, { accessFlags := 25, nameIndex := 280, descriptorIndex := 25, attributes := #[] }, { accessFlags := 25, nameIndex := 282, descriptorIndex := 25, attributes := #[] }, { accessFlags := 25, nameIndex := 284, descriptorIndex := 25, attributes := #[] }, { accessFlags := 25, nameIndex := 286, descriptorIndex := 25, attributes := #[] }, { accessFlags := 25, nameIndex := 288, descriptorIndex := 25, attributes := #[] }, { accessFlags := 25, nameIndex := 290, descriptorIndex := 25, attributes := #[] }, { accessFlags := 25, nameIndex := 292, descriptorIndex := 25, attributes := #[] }, { accessFlags := 26, nameIndex := 108, descriptorIndex := 109, attributes := #[] }, { accessFlags := 25, nameIndex := 294, descriptorIndex := 25, attributes := #[] }])
  fields := #[{ name := "U", type := (.object "jdk/internal/misc/Unsafe"), accessFlags := 24, slot := 0, constantValue := 0 }, { name := "BIG_ENDIAN", type := .boolean, accessFlags := 26, slot := 1, constantValue := 0 }, { name := "LOG2_ARRAY_BOOLEAN_INDEX_SCALE", type := .int, accessFlags := 25, slot := 2, constantValue := 0 }, { name := "LOG2_ARRAY_BYTE_INDEX_SCALE", type := .int, accessFlags := 25, slot := 3, constantValue := 0 }, { name := "LOG2_ARRAY_CHAR_INDEX_SCALE", type := .int, accessFlags := 25, slot := 4, constantValue := 0 }, { name := "LOG2_ARRAY_SHORT_INDEX_SCALE", type := .int, accessFlags := 25, slot := 5, constantValue := 0 }, { name := "LOG2_ARRAY_INT_INDEX_SCALE", type := .int, accessFlags := 25, slot := 6, constantValue := 0 }, { name := "LOG2_ARRAY_LONG_INDEX_SCALE", type := .int, accessFlags := 25, slot := 7, constantValue := 0 }, { name := "LOG2_ARRAY_FLOAT_INDEX_SCALE", type := .int, accessFlags := 25, slot := 8, constantValue := 0 }, { name := "LOG2_ARRAY_DOUBLE_INDEX_SCALE", type := .int, accessFlags := 25, slot := 9, constantValue := 0 }, { name := "LOG2_BYTE_BIT_SIZE", type := .int, accessFlags := 26, slot := 10, constantValue := 0 }, { name := "T_BOOLEAN", type := .int, accessFlags := 25, slot := 11, constantValue := 0 }, { name := "T_CHAR", type := .int, accessFlags := 25, slot := 12, constantValue := 0 }, { name := "T_FLOAT", type := .int, accessFlags := 25, slot := 13, constantValue := 0 }, { name := "T_DOUBLE", type := .int, accessFlags := 25, slot := 14, constantValue := 0 }, { name := "T_BYTE", type := .int, accessFlags := 25, slot := 15, constantValue := 0 }, { name := "T_SHORT", type := .int, accessFlags := 25, slot := 16, constantValue := 0 }, { name := "T_INT", type := .int, accessFlags := 25, slot := 17, constantValue := 0 }, { name := "T_LONG", type := .int, accessFlags := 25, slot := 18, constantValue := 0 }, { name := "JLA", type := (.object "jdk/internal/access/JavaLangAccess"), accessFlags := 26, slot := 19, constantValue := 0 }, { name := "SOFT_MAX_ARRAY_LENGTH", type := .int, accessFlags := 25, slot := 20, constantValue := 0 }]
  methods := #[k14m0]
  instanceTypes := #[]
  staticTypes := #[(.object "jdk/internal/misc/Unsafe"), .boolean, .int, .int, .int, .int, .int, .int, .int, .int, .int, .int, .int, .int, .int, .int, .int, .int, .int, (.object "jdk/internal/access/JavaLangAccess"), .int]
  resolved := Array.replicate 378 none
  statics := none }

/-- the primitive byte -/
def k15 : Class := { plain "byte" none with kind := .primitive 'B', accessFlags := 0x411 }
/-- [B -/
def k16 : Class := { plain "[B" (some 0) with kind := .array 15 .byte, interfaces := #[13, 2], accessFlags := 1041 }

/-- the primitive char -/
def k17 : Class := { plain "char" none with kind := .primitive 'C', accessFlags := 0x411 }
/-- [C -/
def k18 : Class := { plain "[C" (some 0) with kind := .array 17 .char, interfaces := #[13, 2], accessFlags := 1041 }

/-- the primitive int -/
def k19 : Class := { plain "int" none with kind := .primitive 'I', accessFlags := 0x411 }
/-- [I -/
def k20 : Class := { plain "[I" (some 0) with kind := .array 19 .int, interfaces := #[13, 2], accessFlags := 1041 }

/-- [Lcom/example/groupwright/groupwright/app/Registration$Kind; -/
def k21 : Class := { plain "[Lcom/example/groupwright/groupwright/app/Registration$Kind;" (some 0) with kind := .array 12 (.object "com/example/groupwright/groupwright/app/Registration$Kind"), interfaces := #[13, 2], accessFlags := 1041 }

def heap : Heap := #[{ cls := 7, slots := #[.long 0, .int 1, .null, .int 0, .null, .int 0, .int 0], vm := .statics 7 },
  { cls := 9, slots := #[.null, .null, .null], vm := .statics 9 },
  { cls := 12, slots := #[.ref 10, .ref 11, .ref 12, .ref 3], vm := .statics 12 },
  { cls := 21, slots := #[.ref 10, .ref 11, .ref 12], vm := .none },
  { cls := 16, slots := #[.int 99, .int 111, .int 108, .int 108, .int 101, .int 99, .int 116, .int 105, .int 111, .int 110], vm := .none },
  { cls := 16, slots := #[.int 111, .int 98, .int 106, .int 101, .int 99, .int 116], vm := .none },
  { cls := 16, slots := #[.int 100, .int 97, .int 116, .int 97, .int 115, .int 101, .int 116], vm := .none },
  { cls := 7, slots := #[.ref 4, .int 0, .int 0, .int 0], vm := .none },
  { cls := 7, slots := #[.ref 5, .int 0, .int 0, .int 0], vm := .none },
  { cls := 7, slots := #[.ref 6, .int 0, .int 0, .int 0], vm := .none },
  { cls := 12, slots := #[.null, .int 0, .int 0, .ref 7], vm := .none },
  { cls := 12, slots := #[.null, .int 0, .int 0, .ref 8], vm := .none },
  { cls := 12, slots := #[.null, .int 0, .int 0, .ref 9], vm := .none }]
def classes : Array Class := #[k0, k1, k2, k3, k4, k5, k6, k7, k8, k9, k10, k11, k12, k13, k14, k15, k16, k17, k18, k19, k20, k21]
def interned : List (Array UInt16 × Addr) := []
def slotsUsed : Nat := 64
def theMethod : MethodId := ⟨1, 3⟩
def args0 : Array Value := #[.int 5, .int 7, .int 9, .long 4, .long 3]
def aboutOver (below : List Frame) : State where
  vm := { classes := classes, interned := interned.toArray }
  heap := heap
  slotsUsed := slotsUsed
  threads := #[{ frames := .invoking theMethod args0 :: below }]
def below0 : List Frame := [.native { method := ⟨0, 0⟩, args := #[] }]
def about1 : State := aboutOver below0
def p0 : Program := .bare "" "" ""
def e0 : Env := launch0.env 0 0 0
theorem w_frames : about1.frames = Frame.invoking theMethod args0 :: below0 := rfl
set_option maxRecDepth 65536 in
theorem w_args : argsFit about1.vm theMethod args0 = true := by decide +kernel
set_option maxRecDepth 65536 in
theorem w_heap : heapFits about1 = true := by decide +kernel
set_option maxRecDepth 65536 in
theorem w_runnable : about1.curStatus? = some .runnable := by decide +kernel
set_option maxRecDepth 65536 in
theorem w_alone : about1.alone = true := by decide +kernel
set_option maxRecDepth 65536 in
theorem w_named : about1.methodNamed? x = some theMethod := by decide +kernel
set_option maxRecDepth 65536 in
theorem w_hears : about1.hears theMethod below0 = true := by decide +kernel
set_option maxRecDepth 65536 in
theorem w_ripe : about1.ripe theMethod args0 below0 = true := by decide +kernel
theorem w_running : about1.status = .running := rfl
set_option maxRecDepth 65536 in
theorem w_room : about1.hasRoom e0.platform room_1 = true :=
  launch0.hasRoom_least _ room_1 (by decide +kernel) (by decide +kernel) (by decide +kernel) (by decide +kernel) (by decide +kernel) (by decide +kernel)
theorem allAtoms_all (ts : List Jvm.Cond) (a : Array Jvm.Value) (st : Jvm.State) : (allAtoms ts).before a st = ts.all (fun c => c.before a st) := by
  induction ts with
  | nil => rfl
  | cons c t ih =>
    show (Jvm.Cond.and c (allAtoms t)).before a st = _
    rw [Jvm.Cond.before_and, ih, List.all_cons]
def words1 : List Jvm.Cond := Jvm.Cond.code x code maxLocals ret :: tables_1
/-- a 'code' word, met by the world's own term for the bytes: nothing is compared byte by byte -/
theorem code_word {y : MethodName} {bytes : ByteArray} {mx : Nat} {rt : Option FieldType} {a : Array Value} {s : State} {m : MethodId} {meth : Method} {c : Code} (h1 : s.methodNamed? y = some m) (h2 : s.vm.method? m = some meth) (h3 : meth.code = some c) (h4 : c.code = bytes)
    (h5 : (c.maxLocals == mx && c.exceptionTable.isEmpty && decide (c.maxStack ≤ mostOperands) && decide (meth.sig.returnType = rt) && !meth.locks && decide (parseMethodDescriptor y.desc = some meth.sig)) = true) : (Jvm.Cond.code y bytes mx rt).before a s = true := by
  simp only [Bool.and_eq_true, beq_iff_eq, Bool.not_eq_true', decide_eq_true_eq] at h5
  obtain ⟨⟨⟨⟨⟨g1, g2⟩, g3⟩, g4⟩, g5⟩, g6⟩ := h5
  simp [Cond.before, Cond.holds, Cond.value, h1, h2, h3, h4, g1, g2, g3, g4, g5, g6]
def isCode : Jvm.Cond → Bool
  | .code _ _ _ _ => true
  | _ => false
theorem all_split {L : List Jvm.Cond} {P : Jvm.Cond → Bool} (h1 : L.all (fun c => isCode c || P c) = true) (h2 : ∀ c ∈ L.filter isCode, P c = true) : L.all P = true := by
  refine List.all_eq_true.mpr fun c hc => ?_
  have h := List.all_eq_true.mp h1 c hc
  rcases Bool.eq_false_or_eq_true (isCode c) with hi | hi
  · exact h2 c (List.mem_filter.mpr ⟨hc, hi⟩)
  · simpa [hi] using h
set_option maxRecDepth 65536 in
theorem w_c0 : (Jvm.Cond.code x code maxLocals ret).before args0 about1 = true := code_word (m := ⟨1, 3⟩) (meth := k1m3) (c := k1c3) (by decide +kernel) rfl rfl rfl (by decide +kernel)
set_option maxRecDepth 65536 in
theorem w_c1 : (Jvm.Cond.code ({ cls := "com/example/groupwright/groupwright/app/KindNamedPinLaw", name := "at", desc := "(Ljava/lang/String;IJJ)C" } : Jvm.MethodName) method_2_code (8 : Nat) (Option.some Jvm.ClassFile.FieldType.char)).before args0 about1 = true := code_word (m := ⟨1, 1⟩) (meth := k1m1) (c := k1c1) (by decide +kernel) rfl rfl rfl (by decide +kernel)
set_option maxRecDepth 65536 in
theorem w_c2 : (Jvm.Cond.code ({ cls := "java/lang/String", name := "length", desc := "()I" } : Jvm.MethodName) jdk_42_method_54_code (1 : Nat) (Option.some Jvm.ClassFile.FieldType.int)).before args0 about1 = true := code_word (m := ⟨7, 2⟩) (meth := k7m2) (c := k7c2) (by decide +kernel) rfl rfl rfl (by decide +kernel)
set_option maxRecDepth 65536 in
theorem w_c3 : (Jvm.Cond.code ({ cls := "java/lang/String", name := "coder", desc := "()B" } : Jvm.MethodName) jdk_42_method_152_code (1 : Nat) (Option.some Jvm.ClassFile.FieldType.byte)).before args0 about1 = true := code_word (m := ⟨7, 6⟩) (meth := k7m6) (c := k7c6) (by decide +kernel) rfl rfl rfl (by decide +kernel)
set_option maxRecDepth 65536 in
theorem w_c4 : (Jvm.Cond.code ({ cls := "java/lang/String", name := "charAt", desc := "(I)C" } : Jvm.MethodName) jdk_42_method_56_code (2 : Nat) (Option.some Jvm.ClassFile.FieldType.char)).before args0 about1 = true := code_word (m := ⟨7, 3⟩) (meth := k7m3) (c := k7c3) (by decide +kernel) rfl rfl rfl (by decide +kernel)
set_option maxRecDepth 65536 in
theorem w_c5 : (Jvm.Cond.code ({ cls := "java/lang/String", name := "isLatin1", desc := "()Z" } : Jvm.MethodName) jdk_42_method_154_code (1 : Nat) (Option.some Jvm.ClassFile.FieldType.boolean)).before args0 about1 = true := code_word (m := ⟨7, 7⟩) (meth := k7m7) (c := k7c7) (by decide +kernel) rfl rfl rfl (by decide +kernel)
set_option maxRecDepth 65536 in
theorem w_c6 : (Jvm.Cond.code ({ cls := "java/lang/StringLatin1", name := "charAt", desc := "([BI)C" } : Jvm.MethodName) jdk_43_method_2_code (2 : Nat) (Option.some Jvm.ClassFile.FieldType.char)).before args0 about1 = true := code_word (m := ⟨8, 1⟩) (meth := k8m1) (c := k8c1) (by decide +kernel) rfl rfl rfl (by decide +kernel)
set_option maxRecDepth 65536 in
theorem w_c7 : (Jvm.Cond.code ({ cls := "java/lang/String", name := "checkIndex", desc := "(II)V" } : Jvm.MethodName) jdk_42_method_155_code (2 : Nat) (Option.none : Option Jvm.ClassFile.FieldType)).before args0 about1 = true := code_word (m := ⟨7, 8⟩) (meth := k7m8) (c := k7c8) (by decide +kernel) rfl rfl rfl (by decide +kernel)
set_option maxRecDepth 65536 in
theorem w_c8 : (Jvm.Cond.code ({ cls := "jdk/internal/util/Preconditions", name := "checkIndex", desc := "(IILjava/util/function/BiFunction;)I" } : Jvm.MethodName) jdk_41_method_11_code (3 : Nat) (Option.some Jvm.ClassFile.FieldType.int)).before args0 about1 = true := code_word (m := ⟨9, 1⟩) (meth := k9m1) (c := k9c1) (by decide +kernel) rfl rfl rfl (by decide +kernel)
set_option maxRecDepth 65536 in
theorem w_c9 : (Jvm.Cond.code ({ cls := "com/example/groupwright/groupwright/app/KindNamedPinLaw", name := "str", desc := "([CI)Ljava/lang/String;" } : Jvm.MethodName) method_3_code (2 : Nat) (Option.some (Jvm.ClassFile.FieldType.object "java/lang/String"))).before args0 about1 = true := code_word (m := ⟨1, 2⟩) (meth := k1m2) (c := k1c2) (by decide +kernel) rfl rfl rfl (by decide +kernel)
set_option maxRecDepth 65536 in
theorem w_c10 : (Jvm.Cond.code ({ cls := "java/lang/String", name := "<init>", desc := "([C)V" } : Jvm.MethodName) jdk_42_method_3_code (2 : Nat) (Option.none : Option Jvm.ClassFile.FieldType)).before args0 about1 = true := code_word (m := ⟨7, 1⟩) (meth := k7m1) (c := k7c1) (by decide +kernel) rfl rfl rfl (by decide +kernel)
set_option maxRecDepth 65536 in
theorem w_c11 : (Jvm.Cond.code ({ cls := "java/lang/String", name := "<init>", desc := "([CIILjava/lang/Void;)V" } : Jvm.MethodName) jdk_42_method_149_code (6 : Nat) (Option.none : Option Jvm.ClassFile.FieldType)).before args0 about1 = true := code_word (m := ⟨7, 5⟩) (meth := k7m5) (c := k7c5) (by decide +kernel) rfl rfl rfl (by decide +kernel)
set_option maxRecDepth 65536 in
theorem w_c12 : (Jvm.Cond.code ({ cls := "java/lang/Object", name := "<init>", desc := "()V" } : Jvm.MethodName) object_method_1_code (1 : Nat) (Option.none : Option Jvm.ClassFile.FieldType)).before args0 about1 = true := code_word (m := ⟨0, 0⟩) (meth := k0m0) (c := k0c0) (by decide +kernel) rfl rfl rfl (by decide +kernel)
set_option maxRecDepth 65536 in
theorem w_c13 : (Jvm.Cond.code ({ cls := "java/lang/StringUTF16", name := "compress", desc := "([CII)[B" } : Jvm.MethodName) jdk_52_method_16_code (6 : Nat) (Option.some (Jvm.ClassFile.FieldType.array Jvm.ClassFile.FieldType.byte))).before args0 about1 = true := code_word (m := ⟨10, 2⟩) (meth := k10m2) (c := k10c2) (by decide +kernel) rfl rfl rfl (by decide +kernel)
set_option maxRecDepth 65536 in
theorem w_c14 : (Jvm.Cond.code ({ cls := "java/lang/StringUTF16", name := "compress", desc := "([CI[BII)I" } : Jvm.MethodName) jdk_52_method_21_code (7 : Nat) (Option.some Jvm.ClassFile.FieldType.int)).before args0 about1 = true := code_word (m := ⟨10, 3⟩) (meth := k10m3) (c := k10c3) (by decide +kernel) rfl rfl rfl (by decide +kernel)
set_option maxRecDepth 65536 in
theorem w_c15 : (Jvm.Cond.code ({ cls := "java/lang/StringUTF16", name := "coderFromArrayLen", desc := "([BI)B" } : Jvm.MethodName) jdk_52_method_15_code (2 : Nat) (Option.some Jvm.ClassFile.FieldType.byte)).before args0 about1 = true := code_word (m := ⟨10, 1⟩) (meth := k10m1) (c := k10c1) (by decide +kernel) rfl rfl rfl (by decide +kernel)
set_option maxRecDepth 65536 in
theorem w_c16 : (Jvm.Cond.code ({ cls := "com/example/groupwright/groupwright/app/Registration$Kind", name := "named", desc := "(Ljava/lang/String;)Lcom/example/groupwright/groupwright/app/Registration$Kind;" } : Jvm.MethodName) prog_12_method_4_code (6 : Nat) (Option.some (Jvm.ClassFile.FieldType.object "com/example/groupwright/groupwright/app/Registration$Kind"))).before args0 about1 = true := code_word (m := ⟨12, 1⟩) (meth := k12m1) (c := k12c1) (by decide +kernel) rfl rfl rfl (by decide +kernel)
set_option maxRecDepth 65536 in
theorem w_c17 : (Jvm.Cond.code ({ cls := "com/example/groupwright/groupwright/app/Registration$Kind", name := "values", desc := "()[Lcom/example/groupwright/groupwright/app/Registration$Kind;" } : Jvm.MethodName) prog_12_method_1_code (0 : Nat) (Option.some (Jvm.ClassFile.FieldType.array (Jvm.ClassFile.FieldType.object "com/example/groupwright/groupwright/app/Registration$Kind")))).before args0 about1 = true := code_word (m := ⟨12, 0⟩) (meth := k12m0) (c := k12c0) (by decide +kernel) rfl rfl rfl (by decide +kernel)
set_option maxRecDepth 65536 in
theorem w_c18 : (Jvm.Cond.code ({ cls := "java/lang/String", name := "equals", desc := "(Ljava/lang/Object;)Z" } : Jvm.MethodName) jdk_42_method_66_code (3 : Nat) (Option.some Jvm.ClassFile.FieldType.boolean)).before args0 about1 = true := code_word (m := ⟨7, 4⟩) (meth := k7m4) (c := k7c4) (by decide +kernel) rfl rfl rfl (by decide +kernel)
set_option maxRecDepth 65536 in
theorem w_c19 : (Jvm.Cond.code ({ cls := "java/lang/StringLatin1", name := "equals", desc := "([B[B)Z" } : Jvm.MethodName) jdk_43_method_13_code (3 : Nat) (Option.some Jvm.ClassFile.FieldType.boolean)).before args0 about1 = true := code_word (m := ⟨8, 2⟩) (meth := k8m2) (c := k8c2) (by decide +kernel) rfl rfl rfl (by decide +kernel)
def codes1 : List Jvm.Cond := [Jvm.Cond.code x code maxLocals ret, Jvm.Cond.code ({ cls := "com/example/groupwright/groupwright/app/KindNamedPinLaw", name := "at", desc := "(Ljava/lang/String;IJJ)C" } : Jvm.MethodName) method_2_code (8 : Nat) (Option.some Jvm.ClassFile.FieldType.char), Jvm.Cond.code ({ cls := "java/lang/String", name := "length", desc := "()I" } : Jvm.MethodName) jdk_42_method_54_code (1 : Nat) (Option.some Jvm.ClassFile.FieldType.int), Jvm.Cond.code ({ cls := "java/lang/String", name := "coder", desc := "()B" } : Jvm.MethodName) jdk_42_method_152_code (1 : Nat) (Option.some Jvm.ClassFile.FieldType.byte), Jvm.Cond.code ({ cls := "java/lang/String", name := "charAt", desc := "(I)C" } : Jvm.MethodName) jdk_42_method_56_code (2 : Nat) (Option.some Jvm.ClassFile.FieldType.char), Jvm.Cond.code ({ cls := "java/lang/String", name := "isLatin1", desc := "()Z" } : Jvm.MethodName) jdk_42_method_154_code (1 : Nat) (Option.some Jvm.ClassFile.FieldType.boolean), Jvm.Cond.code ({ cls := "java/lang/StringLatin1", name := "charAt", desc := "([BI)C" } : Jvm.MethodName) jdk_43_method_2_code (2 : Nat) (Option.some Jvm.ClassFile.FieldType.char), Jvm.Cond.code ({ cls := "java/lang/String", name := "checkIndex", desc := "(II)V" } : Jvm.MethodName) jdk_42_method_155_code (2 : Nat) (Option.none : Option Jvm.ClassFile.FieldType), Jvm.Cond.code ({ cls := "jdk/internal/util/Preconditions", name := "checkIndex", desc := "(IILjava/util/function/BiFunction;)I" } : Jvm.MethodName) jdk_41_method_11_code (3 : Nat) (Option.some Jvm.ClassFile.FieldType.int), Jvm.Cond.code ({ cls := "com/example/groupwright/groupwright/app/KindNamedPinLaw", name := "str", desc := "([CI)Ljava/lang/String;" } : Jvm.MethodName) method_3_code (2 : Nat) (Option.some (Jvm.ClassFile.FieldType.object "java/lang/String")), Jvm.Cond.code ({ cls := "java/lang/String", name := "<init>", desc := "([C)V" } : Jvm.MethodName) jdk_42_method_3_code (2 : Nat) (Option.none : Option Jvm.ClassFile.FieldType), Jvm.Cond.code ({ cls := "java/lang/String", name := "<init>", desc := "([CIILjava/lang/Void;)V" } : Jvm.MethodName) jdk_42_method_149_code (6 : Nat) (Option.none : Option Jvm.ClassFile.FieldType), Jvm.Cond.code ({ cls := "java/lang/Object", name := "<init>", desc := "()V" } : Jvm.MethodName) object_method_1_code (1 : Nat) (Option.none : Option Jvm.ClassFile.FieldType), Jvm.Cond.code ({ cls := "java/lang/StringUTF16", name := "compress", desc := "([CII)[B" } : Jvm.MethodName) jdk_52_method_16_code (6 : Nat) (Option.some (Jvm.ClassFile.FieldType.array Jvm.ClassFile.FieldType.byte)), Jvm.Cond.code ({ cls := "java/lang/StringUTF16", name := "compress", desc := "([CI[BII)I" } : Jvm.MethodName) jdk_52_method_21_code (7 : Nat) (Option.some Jvm.ClassFile.FieldType.int), Jvm.Cond.code ({ cls := "java/lang/StringUTF16", name := "coderFromArrayLen", desc := "([BI)B" } : Jvm.MethodName) jdk_52_method_15_code (2 : Nat) (Option.some Jvm.ClassFile.FieldType.byte), Jvm.Cond.code ({ cls := "com/example/groupwright/groupwright/app/Registration$Kind", name := "named", desc := "(Ljava/lang/String;)Lcom/example/groupwright/groupwright/app/Registration$Kind;" } : Jvm.MethodName) prog_12_method_4_code (6 : Nat) (Option.some (Jvm.ClassFile.FieldType.object "com/example/groupwright/groupwright/app/Registration$Kind")), Jvm.Cond.code ({ cls := "com/example/groupwright/groupwright/app/Registration$Kind", name := "values", desc := "()[Lcom/example/groupwright/groupwright/app/Registration$Kind;" } : Jvm.MethodName) prog_12_method_1_code (0 : Nat) (Option.some (Jvm.ClassFile.FieldType.array (Jvm.ClassFile.FieldType.object "com/example/groupwright/groupwright/app/Registration$Kind"))), Jvm.Cond.code ({ cls := "java/lang/String", name := "equals", desc := "(Ljava/lang/Object;)Z" } : Jvm.MethodName) jdk_42_method_66_code (3 : Nat) (Option.some Jvm.ClassFile.FieldType.boolean), Jvm.Cond.code ({ cls := "java/lang/StringLatin1", name := "equals", desc := "([B[B)Z" } : Jvm.MethodName) jdk_43_method_13_code (3 : Nat) (Option.some Jvm.ClassFile.FieldType.boolean)]
set_option maxRecDepth 65536 in
theorem codes_eq : words1.filter isCode = codes1 := rfl
theorem w_codes : ∀ c ∈ words1.filter isCode, c.before args0 about1 = true := by
  rw [codes_eq]
  intro c hc
  simp only [codes1, List.mem_cons, List.not_mem_nil, or_false] at hc
  rcases hc with rfl | rfl | rfl | rfl | rfl | rfl | rfl | rfl | rfl | rfl | rfl | rfl | rfl | rfl | rfl | rfl | rfl | rfl | rfl | rfl
  · exact w_c0
  · exact w_c1
  · exact w_c2
  · exact w_c3
  · exact w_c4
  · exact w_c5
  · exact w_c6
  · exact w_c7
  · exact w_c8
  · exact w_c9
  · exact w_c10
  · exact w_c11
  · exact w_c12
  · exact w_c13
  · exact w_c14
  · exact w_c15
  · exact w_c16
  · exact w_c17
  · exact w_c18
  · exact w_c19
set_option maxRecDepth 65536 in
theorem w_t1 : (words1.take 24).all (fun c => isCode c || c.before args0 about1) = true := by decide +kernel
set_option maxRecDepth 65536 in
theorem w_t2 : ((words1.drop 24).take 24).all (fun c => isCode c || c.before args0 about1) = true := by decide +kernel
set_option maxRecDepth 65536 in
theorem w_t3 : (((words1.drop 24).drop 24).take 24).all (fun c => isCode c || c.before args0 about1) = true := by decide +kernel
set_option maxRecDepth 65536 in
theorem w_t4 : ((((words1.drop 24).drop 24).drop 24).take 24).all (fun c => isCode c || c.before args0 about1) = true := by decide +kernel
set_option maxRecDepth 65536 in
theorem w_t5 : ((((words1.drop 24).drop 24).drop 24).drop 24).all (fun c => isCode c || c.before args0 about1) = true := by decide +kernel
theorem w_tables : (allAtoms (Jvm.Cond.code x code maxLocals ret :: tables_1)).before args0 about1 = true := by
  rw [allAtoms_all]
  show words1.all (fun c => c.before args0 about1) = true
  refine all_split ?_ w_codes
  rw [← List.take_append_drop 24 words1, List.all_append, w_t1, ← List.take_append_drop 24 (words1.drop 24), List.all_append, w_t2, ← List.take_append_drop 24 ((words1.drop 24).drop 24), List.all_append, w_t3, ← List.take_append_drop 24 (((words1.drop 24).drop 24).drop 24), List.all_append, w_t4, w_t5]
  rfl
set_option maxRecDepth 65536 in
theorem w_rest : rest_1_c.before args0 about1 = true := by decide +kernel
set_option maxRecDepth 65536 in
theorem w_case : (Jvm.Cond.and given_1 narrow_1).before args0 about1 = true := by decide +kernel
set_option maxRecDepth 65536 in
theorem w_consts : constsHeld consts_1 about1 := Jvm.Lit.constsHeldB_iff.mp (by decide +kernel)
theorem w_applies : (headSpec (Jvm.Cond.code x code maxLocals ret :: tables_1) room_1).applies x e0.platform about1 = true :=
  (Spec.applies_iff w_frames).mpr ⟨w_running, w_runnable, w_alone, w_named, w_hears, w_ripe, w_room, w_tables⟩
theorem atStart : AtStart classFile x code maxLocals ret World_1 tables_1 room_1 Calls_1 rest_1 Pre_1 launch0 p0 e0 about1 theMethod args0 below0 :=
  ⟨lists_1, trivial, launch0.admits_env _ _ _, launch0.least_env, fairChoices_fair.cas, fairChoices_fair.clock, w_frames, w_args, w_heap, w_applies, ⟨w_consts, trivial⟩, w_rest, w_case⟩
end start1
theorem witness_1 : WitnessClaimed_1 := ⟨start1.p0, start1.e0, start1.about1, start1.theMethod, start1.args0, start1.below0, start1.atStart⟩
end Jvm.Pilot.@@N@@
