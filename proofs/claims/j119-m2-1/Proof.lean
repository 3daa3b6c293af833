import JvmDerived
import JvmDerived.Pilot.@@N@@Statement
import JvmDerived.Pilot.@@N@@Code
set_option linter.unusedVariables false
set_option linter.unusedSimpArgs false
namespace Jvm.RoadKit
open Sem ClassFile Op Lib Jvm.Stand Jvm.Free Jvm.LawKit
section OwnKit
/-- the run from S comes to an end that P allows -/
def Gl (tb : Tables) (e : Env) (below : List Frame) (P : Outcome → State → Prop) (S : State) : Prop := ∃ s₂ o, Steps tb e below S s₂ ∧ s₂.status = .running ∧ Ended s₂ below o ∧ P o s₂
variable {tb : Tables} {p : Program} {l : Launch} {e : Env} {R : Room} {s : State} {m : MethodId} {args : Array Value} {below : List Frame} {meth : Method} {c : Code} {T : State} {locs : List Loc} {cells slots : Nat} {P : Outcome → State → Prop} {S S' : State}
theorem Gl.st (h : ∀ t, Steps tb e below S' t → Steps tb e below S t) (k : Gl tb e below P S') : Gl tb e below P S := by
  obtain ⟨s₂, o, h1, h2⟩ := k; exact ⟨s₂, o, h _ h1, h2⟩
theorem Gl.to (h : Steps tb e below S S') (k : Gl tb e below P S') : Gl tb e below P S := Gl.st (fun _ q => h.trans q) k
theorem Gl.cast {g g' : JFrame} (q : g = g') (k : Gl tb e below P (T.setTop g')) : Gl tb e below P (T.setTop g) := q ▸ k
abbrev EndN (s : State) (Q : Option Value → Heap → List Loc → Prop) (kc ks : Nat) : Outcome → State → Prop := fun o s₂ => ∃ v L, o = .returned v ∧ Q v s₂.heap L ∧ FrameEnd s o s₂ L kc ks
abbrev EndW (s : State) (Q : Option Value → Heap → List Loc → Prop) (kc ks : Nat) : Outcome → State → Prop := fun o s₂ => ∃ v L, o = .returned v ∧ Q v s₂.heap L ∧ ReturnedEndW s o s₂ L kc ks
variable {Q : Option Value → Heap → List Loc → Prop} {kc ks : Nat}
theorem Gl.fin (X : Stand p l e R s m args below meth c T locs cells slots) {v : Option Value} (hv : meth.sig.returnType = none → v = none) (hlk : meth.locks = false) (hc : cells ≤ kc) (hs : slots ≤ ks) (hQ : Q v T.heap locs)
    (k : ∀ fs, (∀ (f : JFrame) (acts : List Action), f.method = m → f.locked = none → f.entered = [] → (doReturn e (T.setTop f) acts v).1 = T.setFrames fs) → Steps p.tables e below S (T.setFrames fs)) : Gl p.tables e below (EndN s Q kc ks) S := by
  obtain ⟨fs, hr, hrun, hended, hW, hsame⟩ := X.leave hv hlk
  exact ⟨_, _, k fs hr, hrun, hended, v, locs, rfl, hQ, ⟨_, rfl⟩, hW, hsame.mono hc hs⟩
theorem Gl.finW {vm₁ : Vm} {n : Nat} (X : Stand p l e R (s.setVm vm₁) m args below meth c T locs cells slots) (hS : s.Since vm₁ n) (hn : n ≤ T.heap.size) {v : Option Value} (hv : meth.sig.returnType = none → v = none) (hlk : meth.locks = false) (hc : cells ≤ kc) (hs : slots ≤ ks) (hQ : Q v T.heap locs)
    (k : ∀ fs, (∀ (f : JFrame) (acts : List Action), f.method = m → f.locked = none → f.entered = [] → (doReturn e (T.setTop f) acts v).1 = T.setFrames fs) → Steps p.tables e below S (T.setFrames fs)) : Gl p.tables e below (EndW s Q kc ks) S := by
  obtain ⟨fs, hr, hrun, hended, h1, h2, h3, hsame⟩ := X.leaveW hS hn hv hlk
  exact ⟨_, _, k fs hr, hrun, hended, v, locs, rfl, hQ, h1, h2, h3, hsame.mono hc hs⟩
variable {pc : Nat} {Ls : Array Slot} {rest : List Value}
theorem nov {meth : Method} {t : FieldType} {v : Option Value} (h : meth.sig.returnType = some t) : meth.sig.returnType = none → v = none := fun q => by rw [h] at q; cases q
theorem narR {t : FieldType} {w : Value} (hw : w.isRef = true) (ht : t.isReference = true) : narrow t w = w := by
  rcases ref_cases hw with rfl | ⟨a, rfl⟩ <;> cases t <;> first | rfl | (simp [FieldType.isReference] at ht)
theorem fitR {t : FieldType} {w : Value} (hw : w.isRef = true) (ht : t.isReference = true) : fits t w = true := by
  rcases ref_cases hw with rfl | ⟨a, rfl⟩ <;> cases t <;> first | rfl | (simp [FieldType.isReference] at ht)
theorem refc {w : Value} (hw : w.isRef = true) : w.category = 1 := by
  rcases ref_cases hw with rfl | ⟨a, rfl⟩ <;> rfl
theorem lt_ne32 {u w : Int32} (h : u < w) : ¬ u = w := fun q => by rw [q] at h; exact Int32.lt_irrefl h
theorem lt_ne32' {u w : Int32} (h : w < u) : ¬ u = w := fun q => lt_ne32 h q.symm
theorem tri32 {u w : Int32} (h1 : ¬ u < w) (h2 : ¬ w < u) : u = w := by
  rw [Int32.lt_iff_toInt_lt] at h1 h2
  exact Int32.toInt_inj.mp (by omega)
theorem alc0 {P : Int32 → Prop} : ∀ x ∈ ([] : List Int32), P x := fun _ q => nomatch q
theorem alcS {P : Int32 → Prop} {y : Int32} {L : List Int32} (q : P y) (r : ∀ x ∈ L, P x) : ∀ x ∈ y :: L, P x := fun x z => (List.mem_cons.mp z).elim (fun u => u ▸ q) (r x)
theorem up255 (cs : List Int32) (h : ∀ c ∈ cs, ¬ c < 0 ∧ ¬ (255 : Int32) < c) : ∀ c ∈ cs, ¬ c < 0 ∧ ¬ (65535 : Int32) < c := fun c hc => ⟨(h c hc).1, fun q => (h c hc).2 (by rw [Int32.lt_iff_toInt_lt] at q ⊢; have e1 : (65535 : Int32).toInt = 65535 := rfl; have e2 : (255 : Int32).toInt = 255 := rfl; omega)⟩
theorem Gl.retN (X : Stand p l e R s m args below meth c T locs cells slots) (hx : p.tables.exec = Jvm.exec) {z : Int32} {t : FieldType} (hret : meth.sig.returnType = some t) (ht : t = .boolean ∨ t = .byte ∨ t = .char ∨ t = .short) (hd : decode c.code pc = .ok (.ireturn, 1)) (hlk : meth.locks = false) (hc : cells ≤ kc) (hs : slots ≤ ks) (hQ : Q (some (.int (nar t z))) T.heap locs) : Gl p.tables e below (EndN s Q kc ks) (T.setTop (mkF m pc Ls (.int z :: rest))) :=
  Gl.fin X (nov hret) hlk hc hs hQ fun _ hr => Jvm.RoadKit.retN X hx hret ht hd hr
theorem retIo (X : Stand p l e R s m args below meth c T locs cells slots) (hx : p.tables.exec = Jvm.exec) {z : Int32} (hret : meth.sig.returnType = some .int) (hd : decode c.code pc = .ok (.ireturn, 1)) {fs : List Frame}
    (hl : ∀ (f : JFrame) (acts : List Action), f.method = m → f.locked = none → f.entered = [] → (doReturn e (T.setTop f) acts (some (.int z))).1 = T.setFrames fs) : Steps p.tables e below (T.setTop (mkF m pc Ls (.int z :: rest))) (T.setFrames fs) :=
  retOut X hx hret rfl (Or.inl ⟨rfl, Or.inl rfl, _, rfl⟩) hd hl
theorem Gl.retI (X : Stand p l e R s m args below meth c T locs cells slots) (hx : p.tables.exec = Jvm.exec) {z : Int32} (hret : meth.sig.returnType = some .int) (hd : decode c.code pc = .ok (.ireturn, 1)) (hlk : meth.locks = false) (hc : cells ≤ kc) (hs : slots ≤ ks) (hQ : Q (some (.int z)) T.heap locs) : Gl p.tables e below (EndN s Q kc ks) (T.setTop (mkF m pc Ls (.int z :: rest))) :=
  Gl.fin X (nov hret) hlk hc hs hQ fun _ hr => retIo X hx hret hd hr
theorem Gl.retJ (X : Stand p l e R s m args below meth c T locs cells slots) (hx : p.tables.exec = Jvm.exec) {z : Int64} (hret : meth.sig.returnType = some .long) (hd : decode c.code pc = .ok (.lreturn, 1)) (hlk : meth.locks = false) (hc : cells ≤ kc) (hs : slots ≤ ks) (hQ : Q (some (.long z)) T.heap locs) : Gl p.tables e below (EndN s Q kc ks) (T.setTop (mkF m pc Ls (.long z :: rest))) :=
  Gl.fin X (nov hret) hlk hc hs hQ fun _ hr => retOut X hx hret rfl (Or.inr (Or.inl ⟨rfl, rfl, _, rfl⟩)) hd hr
theorem Gl.retA (X : Stand p l e R s m args below meth c T locs cells slots) (hx : p.tables.exec = Jvm.exec) {w : Value} {t : FieldType} (hret : meth.sig.returnType = some t) (ht : t.isReference = true) (hw : w.isRef = true) (hd : decode c.code pc = .ok (.areturn, 1)) (hlk : meth.locks = false) (hc : cells ≤ kc) (hs : slots ≤ ks) (hQ : Q (some w) T.heap locs) : Gl p.tables e below (EndN s Q kc ks) (T.setTop (mkF m pc Ls (w :: rest))) :=
  Gl.fin X (nov hret) hlk hc hs hQ fun _ hr => retOut X hx hret (narR hw ht) (Or.inr (Or.inr (Or.inr (Or.inr ⟨rfl, ht, hw⟩)))) hd hr
theorem Gl.ret0 (X : Stand p l e R s m args below meth c T locs cells slots) (hx : p.tables.exec = Jvm.exec) (hret : meth.sig.returnType = none) (hd : decode c.code pc = .ok (.return_, 1)) (hlk : meth.locks = false) (hc : cells ≤ kc) (hs : slots ≤ ks) (hQ : Q none T.heap locs) : Gl p.tables e below (EndN s Q kc ks) (T.setTop (mkF m pc Ls [])) :=
  Gl.fin X (fun _ => rfl) hlk hc hs hQ fun _ hr => X.returnOut hx hret hd hr
variable {vm₁ : Vm} {n : Nat}
theorem Gl.retNW (X : Stand p l e R (s.setVm vm₁) m args below meth c T locs cells slots) (hx : p.tables.exec = Jvm.exec) (hS : s.Since vm₁ n) (hn : n ≤ T.heap.size) {z : Int32} {t : FieldType} (hret : meth.sig.returnType = some t) (ht : t = .boolean ∨ t = .byte ∨ t = .char ∨ t = .short) (hd : decode c.code pc = .ok (.ireturn, 1)) (hlk : meth.locks = false) (hc : cells ≤ kc) (hs : slots ≤ ks) (hQ : Q (some (.int (nar t z))) T.heap locs) : Gl p.tables e below (EndW s Q kc ks) (T.setTop (mkF m pc Ls (.int z :: rest))) :=
  Gl.finW X hS hn (nov hret) hlk hc hs hQ fun _ hr => Jvm.RoadKit.retN X hx hret ht hd hr
theorem Gl.retIW (X : Stand p l e R (s.setVm vm₁) m args below meth c T locs cells slots) (hx : p.tables.exec = Jvm.exec) (hS : s.Since vm₁ n) (hn : n ≤ T.heap.size) {z : Int32} (hret : meth.sig.returnType = some .int) (hd : decode c.code pc = .ok (.ireturn, 1)) (hlk : meth.locks = false) (hc : cells ≤ kc) (hs : slots ≤ ks) (hQ : Q (some (.int z)) T.heap locs) : Gl p.tables e below (EndW s Q kc ks) (T.setTop (mkF m pc Ls (.int z :: rest))) :=
  Gl.finW X hS hn (nov hret) hlk hc hs hQ fun _ hr => retIo X hx hret hd hr
theorem Gl.retAW (X : Stand p l e R (s.setVm vm₁) m args below meth c T locs cells slots) (hx : p.tables.exec = Jvm.exec) (hS : s.Since vm₁ n) (hn : n ≤ T.heap.size) {w : Value} {t : FieldType} (hret : meth.sig.returnType = some t) (ht : t.isReference = true) (hw : w.isRef = true) (hd : decode c.code pc = .ok (.areturn, 1)) (hlk : meth.locks = false) (hc : cells ≤ kc) (hs : slots ≤ ks) (hQ : Q (some w) T.heap locs) : Gl p.tables e below (EndW s Q kc ks) (T.setTop (mkF m pc Ls (w :: rest))) :=
  Gl.finW X hS hn (nov hret) hlk hc hs hQ fun _ hr => retOut X hx hret (narR hw ht) (Or.inr (Or.inr (Or.inr (Or.inr ⟨rfl, ht, hw⟩)))) hd hr
theorem Gl.ret0W (X : Stand p l e R (s.setVm vm₁) m args below meth c T locs cells slots) (hx : p.tables.exec = Jvm.exec) (hS : s.Since vm₁ n) (hn : n ≤ T.heap.size) (hret : meth.sig.returnType = none) (hd : decode c.code pc = .ok (.return_, 1)) (hlk : meth.locks = false) (hc : cells ≤ kc) (hs : slots ≤ ks) (hQ : Q none T.heap locs) : Gl p.tables e below (EndW s Q kc ks) (T.setTop (mkF m pc Ls [])) :=
  Gl.finW X hS hn (fun _ => rfl) hlk hc hs hQ fun _ hr => X.returnOut hx hret hd hr
abbrev EndH (s : State) (Z : State) (EL : List (String × Nat)) (Q : Option Value → Heap → List Loc → Prop) (kc ks : Nat) : Outcome → State → Prop := fun o s₂ => ∃ v L, o = .returned v ∧ Q v s₂.heap L ∧ CHr Z EL s.vm s.heap s₂.vm s₂.heap ∧ ReturnedEndW s o s₂ L kc ks
variable {Z : State} {EL : List (String × Nat)}
theorem Gl.finH (X : Stand p l e R (s.setVm vm₁) m args below meth c T locs cells slots) (hS : s.Since vm₁ n) (hn : n ≤ T.heap.size) (hC : CHr Z EL s.vm s.heap T.vm T.heap) {v : Option Value} (hv : meth.sig.returnType = none → v = none) (hlk : meth.locks = false) (hc : cells ≤ kc) (hs : slots ≤ ks) (hQ : Q v T.heap locs)
    (k : ∀ fs, (∀ (f : JFrame) (acts : List Action), f.method = m → f.locked = none → f.entered = [] → (doReturn e (T.setTop f) acts v).1 = T.setFrames fs) → Steps p.tables e below S (T.setFrames fs)) : Gl p.tables e below (EndH s Z EL Q kc ks) S := by
  obtain ⟨fs, hr, hrun, hended, h1, h2, h3, hsame⟩ := X.leaveW hS hn hv hlk
  exact ⟨_, _, k fs hr, hrun, hended, v, locs, rfl, hQ, hC, h1, h2, h3, hsame.mono hc hs⟩
theorem Gl.retNH (X : Stand p l e R (s.setVm vm₁) m args below meth c T locs cells slots) (hx : p.tables.exec = Jvm.exec) (hS : s.Since vm₁ n) (hn : n ≤ T.heap.size) (hC : CHr Z EL s.vm s.heap T.vm T.heap) {z : Int32} {t : FieldType} (hret : meth.sig.returnType = some t) (ht : t = .boolean ∨ t = .byte ∨ t = .char ∨ t = .short) (hd : decode c.code pc = .ok (.ireturn, 1)) (hlk : meth.locks = false) (hc : cells ≤ kc) (hs : slots ≤ ks) (hQ : Q (some (.int (nar t z))) T.heap locs) : Gl p.tables e below (EndH s Z EL Q kc ks) (T.setTop (mkF m pc Ls (.int z :: rest))) :=
  Gl.finH X hS hn hC (nov hret) hlk hc hs hQ fun _ hr => Jvm.RoadKit.retN X hx hret ht hd hr
theorem Gl.retIH (X : Stand p l e R (s.setVm vm₁) m args below meth c T locs cells slots) (hx : p.tables.exec = Jvm.exec) (hS : s.Since vm₁ n) (hn : n ≤ T.heap.size) (hC : CHr Z EL s.vm s.heap T.vm T.heap) {z : Int32} (hret : meth.sig.returnType = some .int) (hd : decode c.code pc = .ok (.ireturn, 1)) (hlk : meth.locks = false) (hc : cells ≤ kc) (hs : slots ≤ ks) (hQ : Q (some (.int z)) T.heap locs) : Gl p.tables e below (EndH s Z EL Q kc ks) (T.setTop (mkF m pc Ls (.int z :: rest))) :=
  Gl.finH X hS hn hC (nov hret) hlk hc hs hQ fun _ hr => retIo X hx hret hd hr
theorem Gl.retAH (X : Stand p l e R (s.setVm vm₁) m args below meth c T locs cells slots) (hx : p.tables.exec = Jvm.exec) (hS : s.Since vm₁ n) (hn : n ≤ T.heap.size) (hC : CHr Z EL s.vm s.heap T.vm T.heap) {w : Value} {t : FieldType} (hret : meth.sig.returnType = some t) (ht : t.isReference = true) (hw : w.isRef = true) (hd : decode c.code pc = .ok (.areturn, 1)) (hlk : meth.locks = false) (hc : cells ≤ kc) (hs : slots ≤ ks) (hQ : Q (some w) T.heap locs) : Gl p.tables e below (EndH s Z EL Q kc ks) (T.setTop (mkF m pc Ls (w :: rest))) :=
  Gl.finH X hS hn hC (nov hret) hlk hc hs hQ fun _ hr => retOut X hx hret (narR hw ht) (Or.inr (Or.inr (Or.inr (Or.inr ⟨rfl, ht, hw⟩)))) hd hr
theorem Gl.ret0H (X : Stand p l e R (s.setVm vm₁) m args below meth c T locs cells slots) (hx : p.tables.exec = Jvm.exec) (hS : s.Since vm₁ n) (hn : n ≤ T.heap.size) (hC : CHr Z EL s.vm s.heap T.vm T.heap) (hret : meth.sig.returnType = none) (hd : decode c.code pc = .ok (.return_, 1)) (hlk : meth.locks = false) (hc : cells ≤ kc) (hs : slots ≤ ks) (hQ : Q none T.heap locs) : Gl p.tables e below (EndH s Z EL Q kc ks) (T.setTop (mkF m pc Ls [])) :=
  Gl.finH X hS hn hC (fun _ => rfl) hlk hc hs hQ fun _ hr => X.returnOut hx hret hd hr
theorem safe_nul {vm : Vm} {h : Heap} {x : Addr} (hal : Z.vm.Alike vm) (E : Exa Z h x "java/lang/String") (V : Fld Z h x "java/lang/String" "value" "[B" .null) : Safe Z EL vm h x := fun B => by
  obtain ⟨p, hp, u, a, hb, q, hqa, hS, hy⟩ := B
  obtain ⟨cS, ⟨⟨s1, s2, s3, ⟨cv, kv, iv, s4, s4'⟩, ⟨cc, kc, ic, s5, s5'⟩, s6, s7, s8, s9, s10, s11, s12, s13, s14, s15, s16⟩, hfS, hcS⟩, ⟨kS, k1, k2, k3⟩, hB, hbyt⟩ := hS
  rcases hy with rfl | rfl
  · obtain ⟨cell, cf, k, i, f, f1, f2, f3, f4, f5, f6, f7⟩ := V
    have e1 : cell = q.sC := Option.some.inj (f1.symm.trans s1)
    obtain ⟨kv', z4⟩ := ff_back (U := Wst Z vm h) hal s4
    cases f2.symm.trans z4
    rw [e1, s8] at f7
    cases f7
  · obtain ⟨cell, k, e1, e2, e3, e4, e5⟩ := E
    have e6 : cell = q.SA := Option.some.inj (e1.symm.trans s10)
    subst e6
    have hB' : Z.vm.findClass "[B" = some q.SA.cls := by rw [← hal.findClass]; exact hB
    obtain ⟨k1', a1, a2⟩ := Vm.findClass_spec e2
    obtain ⟨k2', b1, b2⟩ := Vm.findClass_spec hB'
    cases a1.symm.trans b1
    exact absurd (a2.symm.trans b2) (by decide)
/-- an object of a class whose superclass is the root is no instance of another class -/
theorem not_root {a0 : Array Value} {C O K : String} {n : Nat} (w : (Cond.superclass C O).before a0 Z = true) (wr : (Cond.noSuperclass O).before a0 Z = true) (wi : (Cond.instantiable K n).before a0 Z = true) (h1 : C ≠ K) (h2 : O ≠ K) : ∃ c t, Z.vm.findClass C = some c ∧ Z.vm.findClass K = some t ∧ Z.vm.assignable c t = false := by
  obtain ⟨t, kt, g1, g2, g3, g4, -⟩ := Cond.instantiable_spec wi
  obtain ⟨c, h0⟩ := found_sup w
  obtain ⟨p, k, kp, s1, s2, s3, s4, s5, s6, s7⟩ := Cond.superclass_spec h0 w
  obtain ⟨o, ko, o1, o2, o3, o4, o5⟩ := Cond.noSuperclass_spec wr
  have ne1 := ids_ne h0 g1 h1
  have ne2 := ids_ne o1 g1 h2
  have hi : kt.isInterface = false := by
    cases q : kt.isInterface with
    | false => rfl
    | true => rw [q] at g4; simp at g4
  have n0 : NS Z O K := ⟨o, t, o1, g1, fun fuel => by
    cases fuel with
    | zero => rfl
    | succ f => simp [Vm.isSubclassAux, ne2, o2, o3]⟩
  obtain ⟨c', t', a1, a2, n3⟩ := NS.step w n0 h1
  cases h0.symm.trans a1
  cases g1.symm.trans a2
  refine ⟨c, t, h0, g1, ?_⟩
  show Z.vm.assignableAux (255 + 1) c t = false
  simp [Vm.assignableAux, ne1, s2, g2, s5, g3, hi, Vm.isSubclass, n3]
end OwnKit
end Jvm.RoadKit
namespace Jvm.RoadKit
open Sem ClassFile Op Lib Jvm.Stand Jvm.Free Jvm.LawKit
theorem n32_int {i : Nat} (h : i < 2147483648) : (Int32.ofNat i).toInt = i := Int32.toInt_ofNat_small h
theorem n32_lt {i j : Nat} (hi : i < 2147483648) (hj : j < 2147483648) : (Int32.ofNat i < Int32.ofNat j) ↔ i < j := by
  rw [Int32.lt_iff_toInt_lt, n32_int hi, n32_int hj]; omega
theorem n32_plt {i j : Nat} (h : i < j) (hj : j < 2147483648) : Int32.ofNat i < Int32.ofNat j := (n32_lt (by omega) hj).mpr h
theorem n32_nlt {i j : Nat} (h : ¬ i < j) (hi : i < 2147483648) (hj : j < 2147483648) : ¬ (Int32.ofNat i < Int32.ofNat j) := fun q => h ((n32_lt hi hj).mp q)
theorem n32_nn {i : Nat} (hi : i < 2147483648) : ¬ (Int32.ofNat i < (0 : Int32)) := by
  rw [Int32.lt_iff_toInt_lt, n32_int hi]
  have e : (0 : Int32).toInt = 0 := rfl
  omega
theorem n32_eq {i j : Nat} (hi : i < 2147483648) (hj : j < 2147483648) : (Int32.ofNat i = Int32.ofNat j) ↔ i = j :=
  ⟨fun q => by have := congrArg Int32.toInt q; rw [n32_int hi, n32_int hj] at this; omega, fun q => q ▸ rfl⟩
theorem n32_eq0 {i : Nat} (hi : i < 2147483648) : (Int32.ofNat i = (0 : Int32)) ↔ i = 0 := n32_eq (j := 0) hi (by omega)
theorem n32_add (i j : Nat) : Int32.ofNat i + Int32.ofNat j = Int32.ofNat (i + j) := (Int32.ofNat_add i j).symm
theorem n32_inc (i : Nat) : Int32.ofNat i + (1 : Int32) = Int32.ofNat (i + 1) := n32_add i 1
theorem n32_sub {i j : Nat} (h : j ≤ i) : Int32.ofNat i - Int32.ofNat j = Int32.ofNat (i - j) := by
  have e : Int32.ofNat i = Int32.ofNat (i - j) + Int32.ofNat j := by rw [n32_add]; congr 1; omega
  rw [e, Int32.add_sub_cancel]
theorem n32_cl {i : Nat} (h : i < 2147483648) : (Int32.ofNat i).toNatClampNeg = i := by
  simp only [Int32.toNatClampNeg, n32_int h]; omega
/-- the low byte, and back -/
theorem lo_back {c : Int32} (h0 : ¬ c < 0) (h1 : ¬ (255 : Int32) < c) : c.toInt8.toInt32 &&& 255 = c := by
  rw [Int32.lt_iff_toInt_lt] at h0 h1
  have e0 : (0 : Int32).toInt = 0 := rfl
  have e1 : (255 : Int32).toInt = 255 := rfl
  obtain ⟨j, rfl⟩ : ∃ j : Fin 256, c = Int32.ofNat j.val := ⟨⟨c.toInt.toNat, by omega⟩, Int32.toInt_inj.mp (by rw [n32_int (by show c.toInt.toNat < _; omega)]; show c.toInt = ((c.toInt.toNat : Nat) : Int); omega)⟩
  exact (by decide +kernel : ∀ j : Fin 256, (Int32.ofNat j.val).toInt8.toInt32 &&& 255 = Int32.ofNat j.val) j
theorem lo_inj {c d : Int32} (h0 : ¬ c < 0) (h1 : ¬ (255 : Int32) < c) (k0 : ¬ d < 0) (k1 : ¬ (255 : Int32) < d) (e : c.toInt8.toInt32 = d.toInt8.toInt32) : c = d := by
  rw [← lo_back h0 h1, ← lo_back k0 k1, e]
theorem lo_get {cs : List Int32} {i : Nat} (hi : i < cs.length) : (((cs.map (fun c => c.toInt8.toInt32)).map Value.int).getD i (.int 0)) = .int ((cs.getD i 0).toInt8.toInt32) := by
  simp [List.getD_eq_getElem?_getD, hi]
theorem mem_get {P : Int32 → Prop} {cs : List Int32} (h : ∀ c ∈ cs, P c) {i : Nat} (hi : i < cs.length) : P (cs.getD i 0) := by
  have e : cs.getD i 0 = cs[i] := by simp [List.getD_eq_getElem?_getD, hi]
  rw [e]; exact h _ (List.getElem_mem hi)
def Rng (cs : List Int32) : Prop := ∀ c ∈ cs, ¬ c < 0 ∧ ¬ (255 : Int32) < c
theorem Rng.sub {cs : List Int32} (h : Rng cs) (x d : Nat) : Rng ((cs.drop x).take d) := fun c hc => h c (List.mem_of_mem_drop (List.mem_of_mem_take hc))
/-- the first place from i on -/
def First (q : Int32) (cs : List Int32) (i r : Nat) : Prop := i ≤ r ∧ r < cs.length ∧ cs.getD r 0 = q ∧ ∀ k, i ≤ k → k < r → ¬ cs.getD k 0 = q
def Nowhere (q : Int32) (cs : List Int32) (i : Nat) : Prop := ∀ k, i ≤ k → k < cs.length → ¬ cs.getD k 0 = q
theorem own_copied {cs : List Int32} {x d : Nat} (h : x + d ≤ cs.length) : ∀ i, ((((cs.drop x).take d).map (fun c => c.toInt8.toInt32)).map Value.int).getD i (.int 0) = ((([] ++ List.replicate d (Value.int (0 : Int32))).take 0) ++ ((List.range d).map fun i => (((cs.map (fun c => c.toInt8.toInt32)).map Value.int).getD (x + i) (.int 0))) ++ (([] ++ List.replicate d (Value.int (0 : Int32))).drop (0 + d))).getD i (.int 0) := by
  intro i
  by_cases hi : i < d
  · have hl : x + i < cs.length := by omega
    simp [List.getD_eq_getElem?_getD, hi, hl, List.getElem?_append, List.getElem?_take, List.getElem?_drop]
  · simp [List.getD_eq_getElem?_getD, hi, List.getElem?_append, List.getElem?_take, List.getElem?_drop]
end Jvm.RoadKit
namespace Jvm.RoadKit
open Sem ClassFile Op Lib Jvm.Stand Jvm.Free Jvm.LawKit
theorem first_here {q : Int32} {cs : List Int32} : First q (q :: cs) 0 0 := ⟨Nat.le_refl _, by simp, rfl, fun k _ h => absurd h (by omega)⟩
theorem first_cons {q c : Int32} {cs : List Int32} {r : Nat} (h : ¬ c = q) (F : First q cs 0 r) : First q (c :: cs) 0 (r + 1) := by
  obtain ⟨-, h2, h3, h4⟩ := F
  refine ⟨by omega, by simp; omega, h3, fun k _ hk => ?_⟩
  cases k with
  | zero => exact h
  | succ k => exact h4 k (by omega) (by omega)
theorem nowhere_nil {q : Int32} : Nowhere q [] 0 := fun k _ h => absurd h (by simp)
theorem nowhere_cons {q c : Int32} {cs : List Int32} (h : ¬ c = q) (F : Nowhere q cs 0) : Nowhere q (c :: cs) 0 := fun k _ hk => by
  cases k with
  | zero => exact h
  | succ k => exact F k (by omega) (by simpa using hk)
theorem first_no {q : Int32} {cs : List Int32} {i r : Nat} (F : First q cs i r) (N : Nowhere q cs i) : False := N r F.1 F.2.1 F.2.2.1
theorem first_uniq {q : Int32} {cs : List Int32} {i r r' : Nat} (F : First q cs i r) (G : First q cs i r') : r = r' := by
  rcases Nat.lt_trichotomy r r' with h | h | h
  · exact absurd F.2.2.1 (G.2.2.2 r F.1 h)
  · exact h
  · exact absurd G.2.2.1 (F.2.2.2 r' G.1 h)
theorem ds_len {cs ds : List Int32} {x : Nat} (h : ds = (cs.drop x).take (cs.length - x)) : ds.length = cs.length - x := by rw [h]; simp
theorem ds_get {cs ds : List Int32} {x d : Nat} (h : ds = (cs.drop x).take d) {j : Nat} (hj : j < ds.length) : ds.getD j 0 = cs.getD (x + j) 0 := by
  subst h
  have hj' : j < d ∧ x + j < cs.length := by simp at hj; omega
  simp [List.getD_eq_getElem?_getD, List.getElem?_take, List.getElem?_drop, hj'.1]
end Jvm.RoadKit
namespace Jvm.RoadKit
open Sem ClassFile Op Lib Jvm.Stand Jvm.Free Jvm.LawKit
theorem ex_first {q : Int32} {cs : List Int32} : ∀ (d i : Nat), (i + d < cs.length) → cs.getD (i + d) 0 = q → ∃ r, First q cs i r ∧ r ≤ i + d
  | 0, i, h, e => ⟨i, ⟨Nat.le_refl _, h, e, fun k h1 h2 => absurd h2 (by omega)⟩, Nat.le_refl _⟩
  | d + 1, i, h, e => by
    by_cases c : cs.getD i 0 = q
    · exact ⟨i, ⟨Nat.le_refl _, by omega, c, fun k h1 h2 => absurd h2 (by omega)⟩, by omega⟩
    · obtain ⟨r, F, hr⟩ := ex_first (q := q) (cs := cs) d (i + 1) (by omega) (by rw [show i + 1 + d = i + (d + 1) by omega]; exact e)
      exact ⟨r, ⟨by have := F.1; omega, F.2.1, F.2.2.1, fun k h1 h2 => by
        by_cases z : k = i
        · rw [z]; exact c
        · exact F.2.2.2 k (by omega) h2⟩, by omega⟩
def Chr (ch : Int32) : Prop := ¬ ch < 0 ∧ ¬ (255 : Int32) < ch
/-- no place from i to k - 1 holds q -/
def Upto (q : Int32) (cs : List Int32) (i k : Nat) : Prop := ∀ j, i ≤ j → j < k → ¬ cs.getD j 0 = q
theorem upto_0 {q : Int32} {cs : List Int32} {i : Nat} : Upto q cs i 0 := fun j _ h => absurd h (by omega)
theorem upto_lt {q : Int32} {cs : List Int32} {i k : Nat} (U : Upto q cs i k) (h : k < i) : Upto q cs i (k + 1) := fun j h1 h2 => absurd h2 (by omega)
theorem upto_ne {q : Int32} {cs : List Int32} {i k : Nat} (U : Upto q cs i k) (h : ¬ cs.getD k 0 = q) : Upto q cs i (k + 1) := fun j h1 h2 => by
  by_cases z : j = k
  · rw [z]; exact h
  · exact U j h1 (by omega)
end Jvm.RoadKit
/- laws to paste: Road.backV, Road.lenW, Road.chN, Road.eqW, Road.empW, Road.codOf (cut by pick.py; bodies as the Statement names them) -/
namespace Jvm.Pilot.@@N@@
namespace StrChars
open Jvm Sem ClassFile Op Lib Jvm.Stand Jvm.Free.XT Jvm.Free.ALB Jvm.Free.JM Jvm.Free
open Jvm.Lib.Cold (StaticIs)
/-- a char array whose places are chars -/
def Ch (a : Addr) (A : Cell) (U : State) : Prop := Arr .char a A U ∧ Typed .char A
theorem Ch.mv {a : Addr} {A : Cell} {U U' : State} (h : Ch a A U) (hal : U.vm.Alike U'.vm) (hh : U'.heap = U.heap) : Ch a A U' := ⟨h.1.mv hal hh, h.2⟩
theorem Ch.keep {a : Addr} {A : Cell} {U U' : State} (h : Ch a A U) (hal : U.vm.Alike U'.vm) (hk : U'.heap[a]? = some A) : Ch a A U' := ⟨h.1.keep hal hk, h.2⟩
/-- what place i of a char[]'s cell holds -/
def cv (A : Cell) (i : Nat) : Int32 := match A.slots[i]? with | some (.int x) => x | _ => 0
theorem Ch.get {a : Addr} {A : Cell} {U : State} (h : Ch a A U) {i : Nat} (hi : i < A.slots.size) : A.slots[i]? = some (.int (cv A i)) := by
  have e := Array.getElem?_eq_getElem hi
  have f := h.2 i _ e
  unfold cv; rw [e]
  generalize A.slots[i] = v at f
  cases v <;> simp [fits] at f ⊢
/-- the byte that i2b leaves of a char -/
def lo8 (x : Int32) : Int32 := x.toInt8.toInt32
theorem fits_lo8 (y : Int32) : fits .byte (.int (lo8 y)) = true := by
  have h1 := y.toInt8.le_toInt
  have h2 := y.toInt8.toInt_lt
  simp only [lo8, fits, Bool.and_eq_true, decide_eq_true_eq, Int32.le_iff_toInt_le, Int8.toInt_toInt32, show (-128 : Int32).toInt = -128 from by decide, show (127 : Int32).toInt = 127 from by decide]
  omega
/-- A' is A but that each place j of lo .. hi - 1 holds f j -/
def Laid (A A' : Cell) (lo hi : Nat) (f : Nat → Value) : Prop := A'.cls = A.cls ∧ A'.vm = A.vm ∧ A'.slots.size = A.slots.size ∧ ∀ i, A'.slots[i]? = if lo ≤ i ∧ i < hi then some (f i) else A.slots[i]?
theorem Laid.zero (A : Cell) (lo : Nat) (f : Nat → Value) : Laid A A lo (lo + 0) f := ⟨rfl, rfl, rfl, fun i => by rw [if_neg (by omega)]⟩
theorem Laid.step {A Ak : Cell} {lo k : Nat} {f : Nat → Value} {v : Value} (h : Laid A Ak lo k f) (hlo : lo ≤ k) (hk : k < Ak.slots.size) (hv : v = f k) : Laid A (Ak.setSlot k v) lo (k + 1) f := by
  refine ⟨h.1, h.2.1, by simpa [Cell.setSlot] using h.2.2.1, fun i => ?_⟩
  by_cases e : k = i
  · subst e; rw [Cell.slots_setSlot_self v hk, if_pos (by omega), hv]
  · rw [Cell.slots_setSlot_ne v e, h.2.2.2 i]
    by_cases q : lo ≤ i ∧ i < k
    · rw [if_pos q, if_pos (by omega)]
    · rw [if_neg q, if_neg (by omega)]
def U16 : String := "java/lang/StringUTF16"
namespace Cmp5
def yN : MethodName := ⟨"java/lang/StringUTF16", "compress", "([CI[BII)I"⟩
abbrev yB : ByteArray := jdk_52_method_21_code
theorem d0 : decode yB 0 = .ok (.iconst 0, 1) := by decide +kernel
theorem d1 : decode yB 1 = .ok (.istore 5, 2) := by decide +kernel
theorem d3 : decode yB 3 = .ok (.iload 5, 2) := by decide +kernel
theorem d5 : decode yB 5 = .ok (.iload 4, 2) := by decide +kernel
theorem d7 : decode yB 7 = .ok (.if_icmp (.ge) 37, 3) := by decide +kernel
theorem d10 : decode yB 10 = .ok (.aload_n 0, 1) := by decide +kernel
theorem d11 : decode yB 11 = .ok (.iload_n 1, 1) := by decide +kernel
theorem d12 : decode yB 12 = .ok (.caload, 1) := by decide +kernel
theorem d13 : decode yB 13 = .ok (.istore 6, 2) := by decide +kernel
theorem d15 : decode yB 15 = .ok (.iload 6, 2) := by decide +kernel
theorem d17 : decode yB 17 = .ok (.sipush 255, 3) := by decide +kernel
theorem d20 : decode yB 20 = .ok (.if_icmp (.le) 6, 3) := by decide +kernel
theorem d26 : decode yB 26 = .ok (.aload_n 2, 1) := by decide +kernel
theorem d27 : decode yB 27 = .ok (.iload_n 3, 1) := by decide +kernel
theorem d28 : decode yB 28 = .ok (.iload 6, 2) := by decide +kernel
theorem d30 : decode yB 30 = .ok (.i2b, 1) := by decide +kernel
theorem d31 : decode yB 31 = .ok (.bastore, 1) := by decide +kernel
theorem d32 : decode yB 32 = .ok (.iinc 1 1, 3) := by decide +kernel
theorem d35 : decode yB 35 = .ok (.iinc 3 1, 3) := by decide +kernel
theorem d38 : decode yB 38 = .ok (.iinc 5 1, 3) := by decide +kernel
theorem d41 : decode yB 41 = .ok (.goto (-38), 3) := by decide +kernel
theorem d44 : decode yB 44 = .ok (.iload 4, 2) := by decide +kernel
theorem d46 : decode yB 46 = .ok (.ireturn, 1) := by decide +kernel
def site : List Cond := []
def tab : Cond := tabOf yN yB 7 (some .int) site
def P (b : Addr) (A : Cell) (d : Addr) (B : Cell) (o q len : Nat) (args : Array Value) (s : State) : Prop := args = #[.ref b, .int (Int32.ofNat o), .ref d, .int (Int32.ofNat q), .int (Int32.ofNat len)] ∧ Ch b A s ∧ Arr .byte d B s ∧ b ≠ d ∧ o + len ≤ A.slots.size ∧ q + len ≤ B.slots.size ∧ ∀ i, i < len → ¬ 255 < cv A (o + i)
def E (b : Addr) (A : Cell) (d : Addr) (B : Cell) (o q len : Nat) (r : Option Value) (s u : State) : Prop := r = some (.int (Int32.ofNat len)) ∧ ∃ B', Put d B' s u ∧ Laid B B' q (q + len) (fun j => Value.int (lo8 (cv A (o + (j - q)))))
/-- no char of the range above 255: len; the places written hold each char's low byte -/
theorem law (l : Launch) (b : Addr) (A : Cell) (d : Addr) (B : Cell) (o q len : Nat) : Law l yN 5 5 0 0 yB 7 (some .int) site (P b A d B o q len) (E b A d B o q len) (copyLocs d q len) 0 0 := by
  refine Law.of_walk (plainFor_of_name (by decide +kernel)) (by decide +kernel) (by decide +kernel) (by decide) (fun _ _ h => by rw [h.1]; rfl) (fun _ U U' hal hh h => ⟨h.1, h.2.1.mv hal hh, h.2.2.1.mv hal hh, h.2.2.2⟩) (fun r U U' V V' h1 hal h2 h => ⟨h.1, h.2.elim fun B' q => ⟨B', q.1.mv h1 h2, q.2⟩⟩) ?_
  intro p e s m args below meth c s₁ X0 hexec hbytes hml hret hlk hnm hown hh0 W hP
  obtain ⟨rfl, hA, hB, hne, l1, l2, hp⟩ := hP
  have c1 : Steps p.tables e below (s₁.setTop (entryFrame m #[.ref b, .int (Int32.ofNat o), .ref d, .int (Int32.ofNat q), .int (Int32.ofNat len)] 7)) (s₁.setTop (mkF m 0 #[.val (.ref b), .val (.int (Int32.ofNat o)), .val (.ref d), .val (.int (Int32.ofNat q)), .val (.int (Int32.ofNat len)), .unset, .unset] [])) := entry rfl
  have hA0 := hA.1.mv X0.warmed.alike hh0
  have hB0 := hB.mv X0.warmed.alike hh0
  have a31 := hA.1.2.2.2
  have c2 : Steps p.tables e below (s₁.setTop (entryFrame m #[.ref b, .int (Int32.ofNat o), .ref d, .int (Int32.ofNat q), .int (Int32.ofNat len)] 7)) (s₁.setTop (mkF m 3 #[.val (.ref b), .val (.int (Int32.ofNat o)), .val (.ref d), .val (.int (Int32.ofNat q)), .val (.int (Int32.ofNat len)), .val (.int 0), .unset] [])) := c1.trans (by
    refine iconstV X0.here hexec rfl 0 (hb hbytes d0) (by decide) ?_
    refine XS.istore X0.here hexec rfl (hb hbytes d1) rfl rfl ?_
    exact Steps.refl _)
  have loop : ∀ (r i : Nat), i + r = len → ∀ (z : Slot), (z = .unset ∨ ∃ w, z = .val w ∧ w.category = 1) → ∀ (Tl : State) (Bk : Cell), Stand p l e { frames := 0, locals := 0, cells := 0, slots := 0 } s m #[.ref b, .int (Int32.ofNat o), .ref d, .int (Int32.ofNat q), .int (Int32.ofNat len)] below meth c Tl ([] ++ copyLocs d q i) 0 0 → Put d Bk s₁ Tl → Laid B Bk q (q + i) (fun j => Value.int (lo8 (cv A (o + (j - q))))) →
      Steps p.tables e below (s₁.setTop (entryFrame m #[.ref b, .int (Int32.ofNat o), .ref d, .int (Int32.ofNat q), .int (Int32.ofNat len)] 7)) (Tl.setTop (mkF m 3 #[.val (.ref b), .val (.int (Int32.ofNat (o + i))), .val (.ref d), .val (.int (Int32.ofNat (q + i))), .val (.int (Int32.ofNat len)), .val (.int (Int32.ofNat i)), z] [])) → ∃ (T' : State) (B' : Cell) (z' : Slot), Stand p l e { frames := 0, locals := 0, cells := 0, slots := 0 } s m #[.ref b, .int (Int32.ofNat o), .ref d, .int (Int32.ofNat q), .int (Int32.ofNat len)] below meth c T' ([] ++ copyLocs d q len) 0 0 ∧ Put d B' s₁ T' ∧ Laid B B' q (q + len) (fun j => Value.int (lo8 (cv A (o + (j - q))))) ∧
      Steps p.tables e below (s₁.setTop (entryFrame m #[.ref b, .int (Int32.ofNat o), .ref d, .int (Int32.ofNat q), .int (Int32.ofNat len)] 7)) (T'.setTop (mkF m 3 #[.val (.ref b), .val (.int (Int32.ofNat (o + len))), .val (.ref d), .val (.int (Int32.ofNat (q + len))), .val (.int (Int32.ofNat len)), .val (.int (Int32.ofNat len)), z'] [])) := by
    intro r
    induction r with
    | zero =>
      intro i hi z hz Tl Bk Xl pl fl cl
      have hil : i = len := by omega
      rw [hil] at Xl fl cl
      exact ⟨Tl, Bk, z, Xl, pl, fl, cl⟩
    | succ r ih =>
      intro i hi z hz Tl Bk Xl pl fl cl
      have all := X0.warmed.alike.symm.trans Xl.warmed.alike
      have hAl := hA0.keep all (pl.other hne hA0.1)
      have hBk := hB0.like all pl.1 fl.1 fl.2.1 fl.2.2.1
      have hlt : q + i < Bk.slots.size := by rw [fl.2.2.1]; omega
      have c3 : Steps p.tables e below (s₁.setTop (entryFrame m #[.ref b, .int (Int32.ofNat o), .ref d, .int (Int32.ofNat q), .int (Int32.ofNat len)] 7)) (Tl.setTop (mkF m 12 #[.val (.ref b), .val (.int (Int32.ofNat (o + i))), .val (.ref d), .val (.int (Int32.ofNat (q + i))), .val (.int (Int32.ofNat len)), .val (.int (Int32.ofNat i)), z] [.int (Int32.ofNat (o + i)), .ref b])) := cl.trans (by
        refine XS.iload Xl.here hexec rfl (hb hbytes d3) rfl ?_
        refine XS.iload Xl.here hexec rfl (hb hbytes d5) rfl ?_
        refine XS.icmpNo Xl.here hexec rfl (hb hbytes d7) rfl (ii_ge_f (lt32 (by omega) (by omega))) ?_
        refine XS.aloadN Xl.here hexec rfl (hb hbytes d10) rfl rfl ?_
        refine XS.iloadN Xl.here hexec rfl (hb hbytes d11) rfl ?_
        exact Steps.refl _)
      have c4 : Steps p.tables e below (s₁.setTop (entryFrame m #[.ref b, .int (Int32.ofNat o), .ref d, .int (Int32.ofNat q), .int (Int32.ofNat len)] 7)) (Tl.setTop (mkF m 13 #[.val (.ref b), .val (.int (Int32.ofNat (o + i))), .val (.ref d), .val (.int (Int32.ofNat (q + i))), .val (.int (Int32.ofNat len)), .val (.int (Int32.ofNat i)), z] [.int (cv A (o + i))])) := c3.trans (by
        refine Xl.aget hexec hAl rfl (hA.get (i := o + i) (by omega)) rfl rfl (hb hbytes d12) ?_
        exact Steps.refl _)
      have c5 : Steps p.tables e below (s₁.setTop (entryFrame m #[.ref b, .int (Int32.ofNat o), .ref d, .int (Int32.ofNat q), .int (Int32.ofNat len)] 7)) (Tl.setTop (mkF m 15 #[.val (.ref b), .val (.int (Int32.ofNat (o + i))), .val (.ref d), .val (.int (Int32.ofNat (q + i))), .val (.int (Int32.ofNat len)), .val (.int (Int32.ofNat i)), .val (.int (cv A (o + i)))] [])) := c4.trans (by
        refine XS.istoreS Xl.here hexec rfl (hb hbytes d13) rfl rfl hz ?_
        exact Steps.refl _)
      have c6 : Steps p.tables e below (s₁.setTop (entryFrame m #[.ref b, .int (Int32.ofNat o), .ref d, .int (Int32.ofNat q), .int (Int32.ofNat len)] 7)) (Tl.setTop (mkF m 31 #[.val (.ref b), .val (.int (Int32.ofNat (o + i))), .val (.ref d), .val (.int (Int32.ofNat (q + i))), .val (.int (Int32.ofNat len)), .val (.int (Int32.ofNat i)), .val (.int (cv A (o + i)))] [.int (lo8 (cv A (o + i))), .int (Int32.ofNat (q + i)), .ref d])) := c5.trans (by
        refine XS.iload Xl.here hexec rfl (hb hbytes d15) rfl ?_
        refine sipushV Xl.here hexec rfl 255 (hb hbytes d17) (by decide) ?_
        refine XS.icmpYes Xl.here hexec rfl (pc0 := 20) rfl (hb hbytes d20) rfl (ii_le_t (hp i (by omega))) (by decide) rfl ?_
        refine XS.aloadN Xl.here hexec rfl (hb hbytes d26) rfl rfl ?_
        refine XS.iloadN Xl.here hexec rfl (hb hbytes d27) rfl ?_
        refine XS.iload Xl.here hexec rfl (hb hbytes d28) rfl ?_
        refine i2b Xl.here hexec rfl (hb hbytes d30) rfl ?_
        exact Steps.refl _)
      obtain ⟨T7, X7, p7, st7⟩ := Xl.aput hexec hBk rfl hlt rfl (fits_lo8 (cv A (o + i))) (g := (mkF m 31 #[.val (.ref b), .val (.int (Int32.ofNat (o + i))), .val (.ref d), .val (.int (Int32.ofNat (q + i))), .val (.int (Int32.ofNat len)), .val (.int (Int32.ofNat i)), .val (.int (cv A (o + i)))] [.int (lo8 (cv A (o + i))), .int (Int32.ofNat (q + i)), .ref d])) rfl (rest := []) rfl (hb hbytes d31)
      have c8 : Steps p.tables e below (s₁.setTop (entryFrame m #[.ref b, .int (Int32.ofNat o), .ref d, .int (Int32.ofNat q), .int (Int32.ofNat len)] 7)) (T7.setTop (mkF m 32 #[.val (.ref b), .val (.int (Int32.ofNat (o + i))), .val (.ref d), .val (.int (Int32.ofNat (q + i))), .val (.int (Int32.ofNat len)), .val (.int (Int32.ofNat i)), .val (.int (cv A (o + i)))] [])) := c6.trans (st7 _ (Steps.refl _))
      have c9 : Steps p.tables e below (s₁.setTop (entryFrame m #[.ref b, .int (Int32.ofNat o), .ref d, .int (Int32.ofNat q), .int (Int32.ofNat len)] 7)) (T7.setTop (mkF m 3 #[.val (.ref b), .val (.int (Int32.ofNat (o + i) + 1)), .val (.ref d), .val (.int (Int32.ofNat (q + i) + 1)), .val (.int (Int32.ofNat len)), .val (.int (Int32.ofNat i + 1)), .val (.int (cv A (o + i)))] [])) := c8.trans (by
        refine iincV X7.here hexec rfl 1 (hb hbytes d32) (by decide) rfl rfl ?_
        refine iincV X7.here hexec rfl 1 (hb hbytes d35) (by decide) rfl rfl ?_
        refine iincV X7.here hexec rfl 1 (hb hbytes d38) (by decide) rfl rfl ?_
        refine XS.goto X7.here hexec rfl (pc0 := 41) rfl (hb hbytes d41) (by decide) rfl ?_
        exact Steps.refl _)
      have c10 : Steps p.tables e below (s₁.setTop (entryFrame m #[.ref b, .int (Int32.ofNat o), .ref d, .int (Int32.ofNat q), .int (Int32.ofNat len)] 7)) (T7.setTop (mkF m 3 #[.val (.ref b), .val (.int (Int32.ofNat (o + (i + 1)))), .val (.ref d), .val (.int (Int32.ofNat (q + (i + 1)))), .val (.int (Int32.ofNat len)), .val (.int (Int32.ofNat (i + 1))), .val (.int (cv A (o + i)))] [])) := by
        have := c9
        rw [succ32, succ32, succ32] at this
        exact this
      exact ih (i + 1) (by omega) _ (Or.inr ⟨_, rfl, rfl⟩) T7 _ (by rw [copyLocs_step, ← List.append_assoc]; exact X7) (pl.trans p7) (fl.step (by omega) hlt (by simp)) c10
  obtain ⟨T9, B9, z9, X9, p9, f9, g9⟩ := loop len 0 (by omega) .unset (Or.inl rfl) s₁ B (by simpa [copyLocs] using X0) ⟨hB0.1, fun _ _ => rfl, rfl⟩ (Laid.zero _ _ _) c2
  have c11 : Steps p.tables e below (s₁.setTop (entryFrame m #[.ref b, .int (Int32.ofNat o), .ref d, .int (Int32.ofNat q), .int (Int32.ofNat len)] 7)) (T9.setTop (mkF m 46 #[.val (.ref b), .val (.int (Int32.ofNat (o + len))), .val (.ref d), .val (.int (Int32.ofNat (q + len))), .val (.int (Int32.ofNat len)), .val (.int (Int32.ofNat len)), z9] [.int (Int32.ofNat len)])) := g9.trans (by
    refine XS.iload X9.here hexec rfl (hb hbytes d3) rfl ?_
    refine XS.iload X9.here hexec rfl (hb hbytes d5) rfl ?_
    refine XS.icmpYes X9.here hexec rfl (pc0 := 7) rfl (hb hbytes d7) rfl (ii_ge_t (nlt32 (by omega) (Nat.le_refl _))) (by decide) rfl ?_
    refine XS.iload X9.here hexec rfl (hb hbytes d44) rfl ?_
    exact Steps.refl _)
  exact ⟨T9, some (.int (Int32.ofNat len)), _, _, _, X9, by simp, rfl, rfl, (fun h => by cases h), ⟨rfl, B9, p9.from hh0, f9⟩, fun fs hl => c11.trans (X9.ireturnOut hexec hret rfl (Or.inl rfl) (hb hbytes d46) hl)⟩
end Cmp5
namespace Cmp3
def yN : MethodName := ⟨"java/lang/StringUTF16", "compress", "([CII)[B"⟩
abbrev yB : ByteArray := jdk_52_method_16_code
theorem d0 : decode yB 0 = .ok (.iload_n 2, 1) := by decide +kernel
theorem d1 : decode yB 1 = .ok (.newarray .byte, 2) := by decide +kernel
theorem d3 : decode yB 3 = .ok (.astore_n 3, 1) := by decide +kernel
theorem d4 : decode yB 4 = .ok (.aload_n 0, 1) := by decide +kernel
theorem d5 : decode yB 5 = .ok (.iload_n 1, 1) := by decide +kernel
theorem d6 : decode yB 6 = .ok (.aload_n 3, 1) := by decide +kernel
theorem d7 : decode yB 7 = .ok (.iconst 0, 1) := by decide +kernel
theorem d8 : decode yB 8 = .ok (.iload_n 2, 1) := by decide +kernel
theorem d9 : decode yB 9 = .ok (.invokestatic 115, 3) := by decide +kernel
theorem d12 : decode yB 12 = .ok (.istore 4, 2) := by decide +kernel
theorem d14 : decode yB 14 = .ok (.iload 4, 2) := by decide +kernel
theorem d16 : decode yB 16 = .ok (.iload_n 2, 1) := by decide +kernel
theorem d17 : decode yB 17 = .ok (.if_icmp (.eq) 40, 3) := by decide +kernel
theorem d57 : decode yB 57 = .ok (.aload_n 3, 1) := by decide +kernel
theorem d58 : decode yB 58 = .ok (.areturn, 1) := by decide +kernel
def site : List Cond := [.arrayClass .byte, Cmp5.tab] ++ staticW U16 115 Cmp5.yN
def tab : Cond := tabOf yN yB 6 (some (.array .byte)) site
def P (b : Addr) (A : Cell) (o len : Nat) (args : Array Value) (s : State) : Prop := args = #[.ref b, .int (Int32.ofNat o), .int (Int32.ofNat len)] ∧ Ch b A s ∧ o + len ≤ A.slots.size ∧ len ≤ 536870912 ∧ ∀ i, i < len → ¬ 255 < cv A (o + i)
def E (b : Addr) (A : Cell) (o len : Nat) (r : Option Value) (s u : State) : Prop := NewArr .byte "[B" len (fun j => .int (lo8 (cv A (o + j)))) r s u ∧ u.heap.size = s.heap.size + 1
/-- no char of the range above 255: a new byte[] of their low bytes -/
theorem law (l : Launch) (b : Addr) (A : Cell) (o len : Nat) : Law l yN 3 3 1 18 yB 6 (some (.array .byte)) site (P b A o len) (E b A o len) [] 1 len := by
  refine Law.of_walk (plainFor_of_name (by decide +kernel)) (by decide +kernel) (by decide +kernel) (by decide) (fun _ _ h => by rw [h.1]; rfl) (fun _ U U' hal hh h => ⟨h.1, h.2.1.mv hal hh, h.2.2⟩) (fun r U U' V V' h1 hal h2 h => ⟨NewArr.mv r U U' V V' h1 hal h2 h.1, by rw [h1, h2]; exact h.2⟩) ?_
  intro p e s m args below meth c s₁ X0 hexec hbytes hml hret hlk hnm hown hh0 W hP
  obtain ⟨rfl, hA, l1, l2, hp⟩ := hP
  have a31 := hA.1.2.2.2
  have c1 : Steps p.tables e below (s₁.setTop (entryFrame m #[.ref b, .int (Int32.ofNat o), .int (Int32.ofNat len)] 6)) (s₁.setTop (mkF m 0 #[.val (.ref b), .val (.int (Int32.ofNat o)), .val (.int (Int32.ofNat len)), .unset, .unset, .unset] [])) := entry rfl
  have c2 : Steps p.tables e below (s₁.setTop (entryFrame m #[.ref b, .int (Int32.ofNat o), .int (Int32.ofNat len)] 6)) (s₁.setTop (mkF m 1 #[.val (.ref b), .val (.int (Int32.ofNat o)), .val (.int (Int32.ofNat len)), .unset, .unset, .unset] [.int (Int32.ofNat len)])) := c1.trans (by
    refine XS.iloadN X0.here hexec rfl (hb hbytes d0) rfl ?_
    exact Steps.refl _)
  obtain ⟨T3, B3, X3, ba3, bs3, bv3, bh3, bf3, st3⟩ := X0.anew hexec (atype := .byte) (wk W (.arrayClass .byte)) rfl (by show len * 1 ≤ _; omega) (by omega) (g := (mkF m 1 #[.val (.ref b), .val (.int (Int32.ofNat o)), .val (.int (Int32.ofNat len)), .unset, .unset, .unset] [.int (Int32.ofNat len)])) rfl (hb hbytes d1) (rest := []) rfl (Nat.le_refl _) (by show 0 + len ≤ len; omega)
  rw [hh0] at ba3 st3
  have kp3 : XT.Kept s T3 := (XT.Kept.of_eq hh0).push bh3
  have hA3 := hA.keep X3.warmed.alike (kp3 _ _ hA.1.1)
  have hne : b ≠ s.heap.size := hA.1.ne
  have c4 : Steps p.tables e below (s₁.setTop (entryFrame m #[.ref b, .int (Int32.ofNat o), .int (Int32.ofNat len)] 6)) (T3.setTop (mkF m 3 #[.val (.ref b), .val (.int (Int32.ofNat o)), .val (.int (Int32.ofNat len)), .unset, .unset, .unset] [.ref s.heap.size])) := c2.trans (st3 _ (Steps.refl _))
  have c5 : Steps p.tables e below (s₁.setTop (entryFrame m #[.ref b, .int (Int32.ofNat o), .int (Int32.ofNat len)] 6)) (T3.setTop (mkF m 9 #[.val (.ref b), .val (.int (Int32.ofNat o)), .val (.int (Int32.ofNat len)), .val (.ref s.heap.size), .unset, .unset] [.int (Int32.ofNat len), .int 0, .ref s.heap.size, .int (Int32.ofNat o), .ref b])) := c4.trans (by
    refine XS.astoreN X3.here hexec rfl (hb hbytes d3) rfl rfl rfl ?_
    refine XS.aloadN X3.here hexec rfl (hb hbytes d4) rfl rfl ?_
    refine XS.iloadN X3.here hexec rfl (hb hbytes d5) rfl ?_
    refine XS.aloadN X3.here hexec rfl (hb hbytes d6) rfl rfl ?_
    refine iconstV X3.here hexec rfl 0 (hb hbytes d7) (by decide) ?_
    refine XS.iloadN X3.here hexec rfl (hb hbytes d8) rfl ?_
    exact Steps.refl _)
  obtain ⟨v6, T6, X6, E6, g6⟩ := X3.callS hexec (Cmp5.law l b A s.heap.size B3 o 0 len) hown (wks W (staticW U16 115 Cmp5.yN)) (wk W Cmp5.tab) (W := 0) (Nat.le_of_ble_eq_true rfl) (Nat.le_of_ble_eq_true rfl) (Nat.le_refl _) (by show 0 + len + 0 ≤ len; omega) (g := (mkF m 9 #[.val (.ref b), .val (.int (Int32.ofNat o)), .val (.int (Int32.ofNat len)), .val (.ref s.heap.size), .unset, .unset] [.int (Int32.ofNat len), .int (Int32.ofNat 0), .ref s.heap.size, .int (Int32.ofNat o), .ref b])) rfl (by rw [hml]; rfl) c5 (argsL := [.ref b, .int (Int32.ofNat o), .ref s.heap.size, .int (Int32.ofNat 0), .int (Int32.ofNat len)]) (rest := []) rfl rfl (by show 2 * 0 + 0 ≤ _; decide) (hb hbytes d9) (⟨rfl, hA3, ba3, hne, l1, by rw [bs3]; simp, hp⟩)
  obtain ⟨rfl, B6, p6, f6⟩ := E6
  have c7 : Steps p.tables e below (s₁.setTop (entryFrame m #[.ref b, .int (Int32.ofNat o), .int (Int32.ofNat len)] 6)) (T6.setTop (mkF m 12 #[.val (.ref b), .val (.int (Int32.ofNat o)), .val (.int (Int32.ofNat len)), .val (.ref s.heap.size), .unset, .unset] [.int (Int32.ofNat len)])) := g6
  have c8 : Steps p.tables e below (s₁.setTop (entryFrame m #[.ref b, .int (Int32.ofNat o), .int (Int32.ofNat len)] 6)) (T6.setTop (mkF m 58 #[.val (.ref b), .val (.int (Int32.ofNat o)), .val (.int (Int32.ofNat len)), .val (.ref s.heap.size), .val (.int (Int32.ofNat len)), .unset] [.ref s.heap.size])) := c7.trans (by
    refine XS.istore X6.here hexec rfl (hb hbytes d12) rfl rfl ?_
    refine XS.iload X6.here hexec rfl (hb hbytes d14) rfl ?_
    refine XS.iloadN X6.here hexec rfl (hb hbytes d16) rfl ?_
    refine XS.icmpYes X6.here hexec rfl (pc0 := 17) rfl (hb hbytes d17) rfl (ii_eq_t rfl) (by decide) rfl ?_
    refine XS.aloadN X6.here hexec rfl (hb hbytes d57) rfl rfl ?_
    exact Steps.refl _)
  have X8 := X6.wide (L' := []) (cells' := 1) (slots' := len) (fun x hx hlt => by
    simp only [List.nil_append, copyLocs, List.mem_map, List.mem_range] at hx
    obtain ⟨i, -, rfl⟩ := hx
    exact absurd hlt (Nat.lt_irrefl _)) (Nat.le_refl _) (by omega)
  exact ⟨T6, some (.ref s.heap.size), _, _, _, X8, rfl, rfl, rfl, (fun h => by cases h), ⟨⟨rfl, B6, ba3.like (X3.warmed.alike.symm.trans X6.warmed.alike) p6.1 f6.1 f6.2.1 f6.2.2.1, f6.2.1.trans bv3, by rw [X6.warmed.alike.findClass, f6.1]; exact bf3, by rw [f6.2.2.1, bs3]; simp, fun j hj => by rw [f6.2.2.2 j, if_pos (by omega)]; rfl, kp3.put p6 (Nat.le_refl _)⟩, by rw [p6.2.2, bh3, hh0]; simp⟩, fun fs hl => c8.trans (X8.areturnOut hexec rfl hret rfl (hb hbytes d58) hl)⟩
end Cmp3
namespace CodL
def yN : MethodName := ⟨"java/lang/StringUTF16", "coderFromArrayLen", "([BI)B"⟩
abbrev yB : ByteArray := jdk_52_method_15_code
theorem d0 : decode yB 0 = .ok (.iload_n 1, 1) := by decide +kernel
theorem d1 : decode yB 1 = .ok (.aload_n 0, 1) := by decide +kernel
theorem d2 : decode yB 2 = .ok (.arraylength, 1) := by decide +kernel
theorem d3 : decode yB 3 = .ok (.isub, 1) := by decide +kernel
theorem d4 : decode yB 4 = .ok (.bipush 31, 2) := by decide +kernel
theorem d6 : decode yB 6 = .ok (.iushr, 1) := by decide +kernel
theorem d7 : decode yB 7 = .ok (.i2b, 1) := by decide +kernel
theorem d8 : decode yB 8 = .ok (.ireturn, 1) := by decide +kernel
def site : List Cond := []
def tab : Cond := tabOf yN yB 2 (some .byte) site
def P (d : Addr) (B : Cell) (args : Array Value) (s : State) : Prop := args = #[.ref d, .int (Int32.ofNat B.slots.size)] ∧ Arr .byte d B s
def E (r : Option Value) (s u : State) : Prop := XT.PureE (some (.int 0)) r s u
/-- an array as long as the number of chars: LATIN1 -/
theorem law (l : Launch) (d : Addr) (B : Cell) : Law l yN 2 2 0 0 yB 2 (some .byte) site (P d B) E [] 0 0 := by
  refine Law.of_walk (plainFor_of_name (by decide +kernel)) (by decide +kernel) (by decide +kernel) (by decide) (fun _ _ h => by rw [h.1]; rfl) (fun _ U U' hal hh h => ⟨h.1, h.2.mv hal hh⟩) (fun r U U' V V' h1 hal h2 h => XT.PureE.mv r U U' V V' h1 hal h2 h) ?_
  intro p e s m args below meth c s₁ X0 hexec hbytes hml hret hlk hnm hown hh0 W hP
  obtain ⟨rfl, hB⟩ := hP
  have hB0 := hB.mv X0.warmed.alike hh0
  have c1 : Steps p.tables e below (s₁.setTop (entryFrame m #[.ref d, .int (Int32.ofNat B.slots.size)] 2)) (s₁.setTop (mkF m 0 #[.val (.ref d), .val (.int (Int32.ofNat B.slots.size))] [])) := entry rfl
  have c2 : Steps p.tables e below (s₁.setTop (entryFrame m #[.ref d, .int (Int32.ofNat B.slots.size)] 2)) (s₁.setTop (mkF m 2 #[.val (.ref d), .val (.int (Int32.ofNat B.slots.size))] [.ref d, .int (Int32.ofNat B.slots.size)])) := c1.trans (by
    refine XS.iloadN X0.here hexec rfl (hb hbytes d0) rfl ?_
    refine XS.aloadN X0.here hexec rfl (hb hbytes d1) rfl rfl ?_
    exact Steps.refl _)
  have c3 : Steps p.tables e below (s₁.setTop (entryFrame m #[.ref d, .int (Int32.ofNat B.slots.size)] 2)) (s₁.setTop (mkF m 8 #[.val (.ref d), .val (.int (Int32.ofNat B.slots.size))] [.int (lo8 (ushr (Int32.ofNat B.slots.size - Int32.ofNat B.slots.size) 31))])) := c2.trans (by
    refine X0.alen hexec hB0 rfl rfl (hb hbytes d2) ?_
    refine XS.isub X0.here hexec rfl (hb hbytes d3) rfl ?_
    refine bipushV X0.here hexec rfl 31 (hb hbytes d4) (by decide) ?_
    refine iushr X0.here hexec rfl (hb hbytes d6) rfl ?_
    refine i2b X0.here hexec rfl (hb hbytes d7) rfl ?_
    exact Steps.refl _)
  have e0 : lo8 (ushr (Int32.ofNat B.slots.size - Int32.ofNat B.slots.size) 31) = 0 := by rw [Int32.sub_self]; decide
  rw [e0] at c3
  exact ⟨s₁, some (.int 0), _, _, _, X0, rfl, rfl, rfl, (fun h => by cases h), ⟨rfl, hh0⟩, fun fs hl => c3.trans (X0.ireturnOut hexec hret rfl (Or.inr (Or.inr (Or.inl rfl))) (hb hbytes d8) hl)⟩
end CodL
/-- the String at a is Latin-1 over a new byte[] (the heap's one new cell): the low bytes of the len chars of A from o on; every cell but a is kept -/
def Got (a : Addr) (D : Cell) (fV fC : Field) (A : Cell) (o len : Nat) (r : Option Value) (s u : State) : Prop := r = none ∧ ∃ D' V : Cell, Blank "java/lang/String" a D' u ∧ Same D D' [fV.slot, fC.slot] ∧ D'.slots[fV.slot]? = some (.ref s.heap.size) ∧ D'.slots[fC.slot]? = some (.int 0) ∧ Arr .byte s.heap.size V u ∧ V.vm = .none ∧ u.vm.findClass "[B" = some V.cls ∧ V.slots.size = len ∧ (∀ j, j < len → V.slots[j]? = some (.int (lo8 (cv A (o + j))))) ∧ (∀ (y : Addr) (c : Cell), y ≠ a → s.heap[y]? = some c → u.heap[y]? = some c) ∧ u.heap.size = s.heap.size + 1
theorem Got.mv {a : Addr} {D A : Cell} {fV fC : Field} {o len : Nat} : ∀ r (U U' V V' : State), U'.heap = U.heap → V.vm.Alike V'.vm → V'.heap = V.heap → Got a D fV fC A o len r U V → Got a D fV fC A o len r U' V' :=
  fun r U U' V V' h1 hal h2 ⟨e0, D', X, a1, a2, a3, a4, a5, a6, a7, a8, a9, a10, a11⟩ => ⟨e0, D', X, a1.mv hal h2, a2, by rw [h1]; exact a3, a4, by rw [h1]; exact a5.mv hal h2, a6, by rw [hal.findClass]; exact a7, a8, a9, by rw [h1, h2]; exact a10, by rw [h1, h2]; exact a11⟩
namespace New4
def yN : MethodName := ⟨"java/lang/String", "<init>", "([CIILjava/lang/Void;)V"⟩
abbrev yB : ByteArray := jdk_42_method_149_code
theorem d0 : decode yB 0 = .ok (.aload_n 0, 1) := by decide +kernel
theorem d1 : decode yB 1 = .ok (.invokespecial 1, 3) := by decide +kernel
theorem d4 : decode yB 4 = .ok (.iload_n 3, 1) := by decide +kernel
theorem d5 : decode yB 5 = .ok (.ifCond (.ne) 22, 3) := by decide +kernel
theorem d27 : decode yB 27 = .ok (.getstatic 38, 3) := by decide +kernel
theorem d30 : decode yB 30 = .ok (.ifCond (.eq) 28, 3) := by decide +kernel
theorem d33 : decode yB 33 = .ok (.aload_n 1, 1) := by decide +kernel
theorem d34 : decode yB 34 = .ok (.iload_n 2, 1) := by decide +kernel
theorem d35 : decode yB 35 = .ok (.iload_n 3, 1) := by decide +kernel
theorem d36 : decode yB 36 = .ok (.invokestatic 177, 3) := by decide +kernel
theorem d39 : decode yB 39 = .ok (.astore 5, 2) := by decide +kernel
theorem d41 : decode yB 41 = .ok (.aload_n 0, 1) := by decide +kernel
theorem d42 : decode yB 42 = .ok (.aload 5, 2) := by decide +kernel
theorem d44 : decode yB 44 = .ok (.iload_n 3, 1) := by decide +kernel
theorem d45 : decode yB 45 = .ok (.invokestatic 47, 3) := by decide +kernel
theorem d48 : decode yB 48 = .ok (.putfield 15, 3) := by decide +kernel
theorem d51 : decode yB 51 = .ok (.aload_n 0, 1) := by decide +kernel
theorem d52 : decode yB 52 = .ok (.aload 5, 2) := by decide +kernel
theorem d54 : decode yB 54 = .ok (.putfield 9, 3) := by decide +kernel
theorem d57 : decode yB 57 = .ok (.return_, 1) := by decide +kernel
def site : List Cond := [.fieldLink "java/lang/String" 38 "java/lang/String" "COMPACT_STRINGS" "Z", Cmp3.tab, CodL.tab, .laysFinal "java/lang/String" "java/lang/String" "value" "[B", .fieldLink "java/lang/String" 9 "java/lang/String" "value" "[B", .laysFinal "java/lang/String" "java/lang/String" "coder" "B", .fieldLink "java/lang/String" 15 "java/lang/String" "coder" "B"] ++ objW "java/lang/String" 1 ++ staticW "java/lang/String" 177 Cmp3.yN ++ staticW "java/lang/String" 47 CodL.yN
def tab : Cond := tabOf yN yB 6 none site
def P (a : Addr) (D : Cell) (fV fC : Field) (b : Addr) (A : Cell) (z : Int32) (o len : Nat) (args : Array Value) (s : State) : Prop := args = #[.ref a, .ref b, .int (Int32.ofNat o), .int (Int32.ofNat len), .null] ∧ Blank "java/lang/String" a D s ∧ Found "java/lang/String" "value" "[B" fV s ∧ Found "java/lang/String" "coder" "B" fC s ∧ Ch b A s ∧ StaticIs s "java/lang/String" "COMPACT_STRINGS" "Z" (.int z) ∧ ¬ z = 0 ∧ 0 < len ∧ o + len ≤ A.slots.size ∧ len ≤ 536870912 ∧ ∀ i, i < len → ¬ 255 < cv A (o + i)
def E (a : Addr) (D : Cell) (fV fC : Field) (A : Cell) (o len : Nat) (r : Option Value) (s u : State) : Prop := Got a D fV fC A o len r s u
/-- len > 0, no char of the range above 255: a Latin-1 String of their low bytes -/
theorem law (l : Launch) (a : Addr) (D : Cell) (fV fC : Field) (b : Addr) (A : Cell) (z : Int32) (o len : Nat) : Law l yN 5 4 2 35 yB 6 none site (P a D fV fC b A z o len) (E a D fV fC A o len) [⟨a, fC.slot⟩, ⟨a, fV.slot⟩] 1 len := by
  refine Law.of_walk (plainFor_of_name (by decide +kernel)) (by decide +kernel) (by decide +kernel) (by decide) (fun _ _ h => by rw [h.1]; rfl) (fun _ U U' hal hh h => ⟨h.1, h.2.1.mv hal hh, h.2.2.1.al hal, h.2.2.2.1.al hal, h.2.2.2.2.1.mv hal hh, h.2.2.2.2.2.1.there hal hh, h.2.2.2.2.2.2⟩) (fun r U U' V V' h1 hal h2 h => Got.mv r U U' V V' h1 hal h2 h) ?_
  intro p e s m args below meth c s₁ X0 hexec hbytes hml hret hlk hnm hown hh0 W hP
  obtain ⟨rfl, hB, f1, f2, hA, s1, hz, l0, l1, l2, hp⟩ := hP
  have a31 := hA.1.2.2.2
  have c1 : Steps p.tables e below (s₁.setTop (entryFrame m #[.ref a, .ref b, .int (Int32.ofNat o), .int (Int32.ofNat len), .null] 6)) (s₁.setTop (mkF m 0 #[.val (.ref a), .val (.ref b), .val (.int (Int32.ofNat o)), .val (.int (Int32.ofNat len)), .val .null, .unset] [])) := entry rfl
  have c2 : Steps p.tables e below (s₁.setTop (entryFrame m #[.ref a, .ref b, .int (Int32.ofNat o), .int (Int32.ofNat len), .null] 6)) (s₁.setTop (mkF m 1 #[.val (.ref a), .val (.ref b), .val (.int (Int32.ofNat o)), .val (.int (Int32.ofNat len)), .val .null, .unset] [.ref a])) := c1.trans (by
    refine XS.aloadN X0.here hexec rfl (hb hbytes d0) rfl rfl ?_
    exact Steps.refl _)
  obtain ⟨T3, X3, q3, st3⟩ := X0.oinit hexec hown (wks W (objW "java/lang/String" 1)) (g := (mkF m 1 #[.val (.ref a), .val (.ref b), .val (.int (Int32.ofNat o)), .val (.int (Int32.ofNat len)), .val .null, .unset] [.ref a])) rfl (by rw [hml]; rfl) (rest := []) rfl (hb hbytes d1) (W := 0) (by show 2 * 0 + 0 ≤ _; decide) (Nat.le_of_ble_eq_true rfl) (Nat.le_of_ble_eq_true rfl)
  have hh3 := q3.trans hh0
  have c4 : Steps p.tables e below (s₁.setTop (entryFrame m #[.ref a, .ref b, .int (Int32.ofNat o), .int (Int32.ofNat len), .null] 6)) (T3.setTop (mkF m 27 #[.val (.ref a), .val (.ref b), .val (.int (Int32.ofNat o)), .val (.int (Int32.ofNat len)), .val .null, .unset] [])) := (c2.trans (st3 _ (Steps.refl _))).trans (by
    refine XS.iloadN X3.here hexec rfl (hb hbytes d4) rfl ?_
    refine XS.ifYes X3.here hexec rfl (pc0 := 5) rfl (hb hbytes d5) rfl (i0_ne_t (nz32 (by omega) l0)) (by decide) rfl ?_
    exact Steps.refl _)
  obtain ⟨T5, X5, q5, st5⟩ := X3.sget hexec hown (wk W (.fieldLink "java/lang/String" 38 "java/lang/String" "COMPACT_STRINGS" "Z")) s1 (fun _ _ h => by rw [hh3]; exact h) (g := (mkF m 27 #[.val (.ref a), .val (.ref b), .val (.int (Int32.ofNat o)), .val (.int (Int32.ofNat len)), .val .null, .unset] [])) rfl (hb hbytes d27)
  have hh5 := q5.trans hh3
  have c6 : Steps p.tables e below (s₁.setTop (entryFrame m #[.ref a, .ref b, .int (Int32.ofNat o), .int (Int32.ofNat len), .null] 6)) (T5.setTop (mkF m 30 #[.val (.ref a), .val (.ref b), .val (.int (Int32.ofNat o)), .val (.int (Int32.ofNat len)), .val .null, .unset] [.int z])) := c4.trans (st5 _ (Steps.refl _))
  have c7 : Steps p.tables e below (s₁.setTop (entryFrame m #[.ref a, .ref b, .int (Int32.ofNat o), .int (Int32.ofNat len), .null] 6)) (T5.setTop (mkF m 36 #[.val (.ref a), .val (.ref b), .val (.int (Int32.ofNat o)), .val (.int (Int32.ofNat len)), .val .null, .unset] [.int (Int32.ofNat len), .int (Int32.ofNat o), .ref b])) := c6.trans (by
    refine XS.ifNo X5.here hexec rfl (hb hbytes d30) rfl (i0_eq_f hz) ?_
    refine XS.aloadN X5.here hexec rfl (hb hbytes d33) rfl rfl ?_
    refine XS.iloadN X5.here hexec rfl (hb hbytes d34) rfl ?_
    refine XS.iloadN X5.here hexec rfl (hb hbytes d35) rfl ?_
    exact Steps.refl _)
  obtain ⟨v8, T8, X8, E8, g8⟩ := X5.callS hexec (Cmp3.law l b A o len) hown (wks W (staticW "java/lang/String" 177 Cmp3.yN)) (wk W Cmp3.tab) (W := 0) (Nat.le_of_ble_eq_true rfl) (Nat.le_of_ble_eq_true rfl) (Nat.le_refl _) (by show 0 + len ≤ len; omega) (g := (mkF m 36 #[.val (.ref a), .val (.ref b), .val (.int (Int32.ofNat o)), .val (.int (Int32.ofNat len)), .val .null, .unset] [.int (Int32.ofNat len), .int (Int32.ofNat o), .ref b])) rfl (by rw [hml]; rfl) c7 (argsL := [.ref b, .int (Int32.ofNat o), .int (Int32.ofNat len)]) (rest := []) rfl rfl (by show 2 * 0 + 0 ≤ _; decide) (hb hbytes d36) (⟨rfl, hA.mv X5.warmed.alike hh5, l1, l2, hp⟩)
  obtain ⟨e8, z8⟩ := E8
  obtain ⟨rfl, N, n1, n2, n3, n4, n5, n6⟩ := NewArr.mv _ T5 s _ _ hh5.symm (Vm.Alike.refl _) rfl e8
  rw [hh5] at z8
  have hB1 := hB.keep X8.warmed.alike (n6 _ _ hB.1)
  have hne : s.heap.size ≠ a := (Nat.ne_of_lt (Array.getElem?_eq_some_iff.mp hB.1).1).symm
  have c9 : Steps p.tables e below (s₁.setTop (entryFrame m #[.ref a, .ref b, .int (Int32.ofNat o), .int (Int32.ofNat len), .null] 6)) (T8.setTop (mkF m 39 #[.val (.ref a), .val (.ref b), .val (.int (Int32.ofNat o)), .val (.int (Int32.ofNat len)), .val .null, .unset] [.ref s.heap.size])) := g8
  have c10 : Steps p.tables e below (s₁.setTop (entryFrame m #[.ref a, .ref b, .int (Int32.ofNat o), .int (Int32.ofNat len), .null] 6)) (T8.setTop (mkF m 45 #[.val (.ref a), .val (.ref b), .val (.int (Int32.ofNat o)), .val (.int (Int32.ofNat len)), .val .null, .val (.ref s.heap.size)] [.int (Int32.ofNat N.slots.size), .ref s.heap.size, .ref a])) := by
    have hc : Steps p.tables e below (s₁.setTop (entryFrame m #[.ref a, .ref b, .int (Int32.ofNat o), .int (Int32.ofNat len), .null] 6)) (T8.setTop (mkF m 45 #[.val (.ref a), .val (.ref b), .val (.int (Int32.ofNat o)), .val (.int (Int32.ofNat len)), .val .null, .val (.ref s.heap.size)] [.int (Int32.ofNat len), .ref s.heap.size, .ref a])) := c9.trans (by
      refine XS.astore X8.here hexec rfl (hb hbytes d39) rfl rfl rfl ?_
      refine XS.aloadN X8.here hexec rfl (hb hbytes d41) rfl rfl ?_
      refine XS.aload X8.here hexec rfl (hb hbytes d42) rfl rfl ?_
      refine XS.iloadN X8.here hexec rfl (hb hbytes d44) rfl ?_
      exact Steps.refl _)
    rw [n4]; exact hc
  obtain ⟨v11, T11, X11, E11, g11⟩ := X8.callS hexec (CodL.law l s.heap.size N) hown (wks W (staticW "java/lang/String" 47 CodL.yN)) (wk W CodL.tab) (W := 1) (Nat.le_of_ble_eq_true rfl) (Nat.le_of_ble_eq_true rfl) (Nat.le_refl _) (by show 0 + len + 0 ≤ len; omega) (g := (mkF m 45 #[.val (.ref a), .val (.ref b), .val (.int (Int32.ofNat o)), .val (.int (Int32.ofNat len)), .val .null, .val (.ref s.heap.size)] [.int (Int32.ofNat N.slots.size), .ref s.heap.size, .ref a])) rfl (by rw [hml]; rfl) c10 (argsL := [.ref s.heap.size, .int (Int32.ofNat N.slots.size)]) (rest := [.ref a]) rfl rfl (by show 2 * 0 + (1 + 0) ≤ _; decide) (hb hbytes d45) (⟨rfl, n1⟩)
  obtain ⟨rfl, q11⟩ := E11
  have hB11 := hB1.mv (X8.warmed.alike.symm.trans X11.warmed.alike) q11
  have c12 : Steps p.tables e below (s₁.setTop (entryFrame m #[.ref a, .ref b, .int (Int32.ofNat o), .int (Int32.ofNat len), .null] 6)) (T11.setTop (mkF m 48 #[.val (.ref a), .val (.ref b), .val (.int (Int32.ofNat o)), .val (.int (Int32.ofNat len)), .val .null, .val (.ref s.heap.size)] [.int 0, .ref a])) := g11
  obtain ⟨T13, X13, p13, bl13, sl13, st13⟩ := X11.finit hexec hown (wk W (.fieldLink "java/lang/String" 15 "java/lang/String" "coder" "B")) (Or.inr ⟨_, (wk W (.laysFinal "java/lang/String" "java/lang/String" "coder" "B"))⟩) (Or.inl ⟨rfl, hnm⟩) f2 (Or.inl rfl) hB11 (t := .byte) (by decide +kernel) rfl (g := (mkF m 48 #[.val (.ref a), .val (.ref b), .val (.int (Int32.ofNat o)), .val (.int (Int32.ofNat len)), .val .null, .val (.ref s.heap.size)] [.int 0, .ref a])) rfl (rest := []) rfl (hb hbytes d48)
  have c14 : Steps p.tables e below (s₁.setTop (entryFrame m #[.ref a, .ref b, .int (Int32.ofNat o), .int (Int32.ofNat len), .null] 6)) (T13.setTop (mkF m 54 #[.val (.ref a), .val (.ref b), .val (.int (Int32.ofNat o)), .val (.int (Int32.ofNat len)), .val .null, .val (.ref s.heap.size)] [.ref s.heap.size, .ref a])) := (c12.trans (st13 _ (Steps.refl _))).trans (by
    refine XS.aloadN X13.here hexec rfl (hb hbytes d51) rfl rfl ?_
    refine XS.aload X13.here hexec rfl (hb hbytes d52) rfl rfl ?_
    exact Steps.refl _)
  obtain ⟨T15, X15, p15, bl15, sl15, st15⟩ := X13.finit hexec hown (wk W (.fieldLink "java/lang/String" 9 "java/lang/String" "value" "[B")) (Or.inr ⟨_, (wk W (.laysFinal "java/lang/String" "java/lang/String" "value" "[B"))⟩) (Or.inl ⟨rfl, hnm⟩) f1 (Or.inl rfl) bl13 (t := (.array .byte)) (by decide +kernel) rfl (g := (mkF m 54 #[.val (.ref a), .val (.ref b), .val (.int (Int32.ofNat o)), .val (.int (Int32.ofNat len)), .val .null, .val (.ref s.heap.size)] [.ref s.heap.size, .ref a])) rfl (rest := []) rfl (hb hbytes d54)
  have c16 : Steps p.tables e below (s₁.setTop (entryFrame m #[.ref a, .ref b, .int (Int32.ofNat o), .int (Int32.ofNat len), .null] 6)) (T15.setTop (mkF m 57 #[.val (.ref a), .val (.ref b), .val (.int (Int32.ofNat o)), .val (.int (Int32.ofNat len)), .val .null, .val (.ref s.heap.size)] [])) := c14.trans (st15 _ (Steps.refl _))
  have ap := apart (Or.inr ⟨_, (wk W (.laysFinal "java/lang/String" "java/lang/String" "value" "[B"))⟩) (Or.inr ⟨_, (wk W (.laysFinal "java/lang/String" "java/lang/String" "coder" "B"))⟩) f1 f2 (t₁ := .array .byte) (t₂ := .byte) (by decide +kernel) (by decide +kernel) (by decide)
  have al := X8.warmed.alike.symm.trans X15.warmed.alike
  have n7 : T11.heap[s.heap.size]? = some N := by rw [q11]; exact n1.1
  exact ⟨T15, none, _, _, _, X15, by simp, rfl, by omega, (fun _ => rfl), ⟨rfl, _, N, bl15, ((Same.refl D _).set _ (by simp)).set _ (by simp), sl15, (Cell.slots_setSlot_ne _ ap).trans sl13, n1.keep al (p15.other hne (p13.other hne n7)), n2, by rw [al.findClass]; exact n3, n4, n5, fun y c h1 h2 => p15.other h1 (p13.other h1 (by rw [q11]; exact n6 y c h2)), by rw [p15.2.2, p13.2.2, q11]; exact z8⟩, fun fs hl => c16.trans (X15.returnOut hexec hret (hb hbytes d57) hl)⟩
end New4
namespace New1
def yN : MethodName := ⟨"java/lang/String", "<init>", "([C)V"⟩
abbrev yB : ByteArray := jdk_42_method_3_code
theorem d0 : decode yB 0 = .ok (.aload_n 0, 1) := by decide +kernel
theorem d1 : decode yB 1 = .ok (.aload_n 1, 1) := by decide +kernel
theorem d2 : decode yB 2 = .ok (.iconst 0, 1) := by decide +kernel
theorem d3 : decode yB 3 = .ok (.aload_n 1, 1) := by decide +kernel
theorem d4 : decode yB 4 = .ok (.arraylength, 1) := by decide +kernel
theorem d5 : decode yB 5 = .ok (.aconst_null, 1) := by decide +kernel
theorem d6 : decode yB 6 = .ok (.invokespecial 27, 3) := by decide +kernel
theorem d9 : decode yB 9 = .ok (.return_, 1) := by decide +kernel
def site : List Cond := [New4.tab] ++ initW "java/lang/String" 27 New4.yN
def tab : Cond := tabOf yN yB 2 none site
def P (a : Addr) (D : Cell) (fV fC : Field) (b : Addr) (A : Cell) (z : Int32) (args : Array Value) (s : State) : Prop := args = #[.ref a, .ref b] ∧ Blank "java/lang/String" a D s ∧ Found "java/lang/String" "value" "[B" fV s ∧ Found "java/lang/String" "coder" "B" fC s ∧ Ch b A s ∧ StaticIs s "java/lang/String" "COMPACT_STRINGS" "Z" (.int z) ∧ ¬ z = 0 ∧ 0 < A.slots.size ∧ A.slots.size ≤ 536870912 ∧ ∀ i, i < A.slots.size → ¬ 255 < cv A i
def E (a : Addr) (D : Cell) (fV fC : Field) (A : Cell) (r : Option Value) (s u : State) : Prop := Got a D fV fC A 0 A.slots.size r s u
/-- new String(chars), not empty, no char above 255: a Latin-1 String of their low bytes -/
theorem law (l : Launch) (a : Addr) (D : Cell) (fV fC : Field) (b : Addr) (A : Cell) (z : Int32) : Law l yN 2 1 3 52 yB 2 none site (P a D fV fC b A z) (E a D fV fC A) [⟨a, fC.slot⟩, ⟨a, fV.slot⟩] 1 A.slots.size := by
  refine Law.of_walk (plainFor_of_name (by decide +kernel)) (by decide +kernel) (by decide +kernel) (by decide) (fun _ _ h => by rw [h.1]; rfl) (fun _ U U' hal hh h => ⟨h.1, h.2.1.mv hal hh, h.2.2.1.al hal, h.2.2.2.1.al hal, h.2.2.2.2.1.mv hal hh, h.2.2.2.2.2.1.there hal hh, h.2.2.2.2.2.2⟩) (fun r U U' V V' h1 hal h2 h => Got.mv r U U' V V' h1 hal h2 h) ?_
  intro p e s m args below meth c s₁ X0 hexec hbytes hml hret hlk hnm hown hh0 W hP
  obtain ⟨rfl, hB, f1, f2, hA, s1, hz, l0, l2, hp⟩ := hP
  have c1 : Steps p.tables e below (s₁.setTop (entryFrame m #[.ref a, .ref b] 2)) (s₁.setTop (mkF m 0 #[.val (.ref a), .val (.ref b)] [])) := entry rfl
  have c2 : Steps p.tables e below (s₁.setTop (entryFrame m #[.ref a, .ref b] 2)) (s₁.setTop (mkF m 6 #[.val (.ref a), .val (.ref b)] [.null, .int (Int32.ofNat A.slots.size), .int 0, .ref b, .ref a])) := c1.trans (by
    refine XS.aloadN X0.here hexec rfl (hb hbytes d0) rfl rfl ?_
    refine XS.aloadN X0.here hexec rfl (hb hbytes d1) rfl rfl ?_
    refine iconstV X0.here hexec rfl 0 (hb hbytes d2) (by decide) ?_
    refine XS.aloadN X0.here hexec rfl (hb hbytes d3) rfl rfl ?_
    refine X0.alen hexec (hA.1.mv X0.warmed.alike hh0) rfl rfl (hb hbytes d4) ?_
    refine XS.aconstNull X0.here hexec rfl (hb hbytes d5) ?_
    exact Steps.refl _)
  obtain ⟨v3, T3, X3, E3, g3⟩ := X0.callN hexec (New4.law l a D fV fC b A z 0 A.slots.size) rfl hown (wks W (initW "java/lang/String" 27 New4.yN)) (W New4.tab (by simp only [site, List.mem_cons, List.mem_append, true_or, or_true])) (W := 0) (Nat.le_of_ble_eq_true rfl) (Nat.le_of_ble_eq_true rfl) (Nat.le_refl _) (by show 0 + A.slots.size ≤ A.slots.size; omega) (g := (mkF m 6 #[.val (.ref a), .val (.ref b)] [.null, .int (Int32.ofNat A.slots.size), .int (Int32.ofNat 0), .ref b, .ref a])) rfl (by rw [hml]; rfl) c2 (argsL := [.ref b, .int (Int32.ofNat 0), .int (Int32.ofNat A.slots.size), .null]) (rest := []) rfl rfl (by show 2 * 0 + 0 ≤ _; decide) (hb hbytes d6) (⟨rfl, hB.mv X0.warmed.alike hh0, f1.al X0.warmed.alike, f2.al X0.warmed.alike, hA.mv X0.warmed.alike hh0, s1.there X0.warmed.alike hh0, hz, l0, by omega, l2, fun i hi => by rw [Nat.zero_add]; exact hp i hi⟩)
  have e0 := Got.mv _ s₁ s _ _ hh0.symm (Vm.Alike.refl _) rfl E3
  obtain rfl := e0.1
  have c4 : Steps p.tables e below (s₁.setTop (entryFrame m #[.ref a, .ref b] 2)) (T3.setTop (mkF m 9 #[.val (.ref a), .val (.ref b)] [])) := g3
  exact ⟨T3, none, _, _, _, X3, by simp, rfl, by omega, (fun _ => rfl), e0, fun fs hl => c4.trans (X3.returnOut hexec hret (hb hbytes d9) hl)⟩
theorem pays {l : Launch} {R : Room} {p : Program} {e : Env} {below : List Frame} {s : State} {sargs : Array Value} {len W : Nat} (a : Addr) (D : Cell) (fV fC : Field) (b : Addr) (A : Cell) (z : Int32) (htab : tab.before sargs s = true) (hfr : 4 ≤ R.frames) (hlo : W + 65 ≤ R.locals) :
    Back l R p e below s sargs yN len W (fun A₁ a₁ => A₁.cells + 1 ≤ R.cells ∧ A₁.slots + A.slots.size ≤ R.slots ∧ P a D fV fC b A z a₁ A₁.U) (fun A₁ _ v₁ B₁ => E a D fV fC A v₁ A₁.U B₁.U ∧ B₁.locs = A₁.locs ++ [⟨a, fC.slot⟩, ⟨a, fV.slot⟩] ∧ B₁.cells = A₁.cells + 1 ∧ B₁.slots = A₁.slots + A.slots.size) :=
  (law l a D fV fC b A z).pays htab hfr (by omega)
end New1
/-- the byte, read back as charAt reads it, is the char -/
theorem lo8_mask {x : Int32} (h0 : ¬ x < 0) (h1 : ¬ 255 < x) : lo8 x &&& 255 = x := by
  have t : ∀ k : Fin 256, lo8 (Int32.ofNat k.val) &&& 255 = Int32.ofNat k.val := by decide +kernel
  rw [Int32.lt_iff_toInt_lt] at h0 h1
  have e0 : (0 : Int32).toInt = 0 := rfl
  have e1 : (255 : Int32).toInt = 255 := rfl
  obtain ⟨k, hk⟩ : ∃ k : Nat, x.toInt = k := ⟨x.toInt.toNat, by omega⟩
  have hx : x = Int32.ofNat k := Int32.toInt_inj.mp (by rw [hk, Int32.toInt_ofNat_small (by omega)])
  rw [hx]
  exact t ⟨k, by omega⟩
end StrChars
namespace StrChars.Road
open Jvm Sem ClassFile Op Lib Jvm.Stand Jvm.Free Jvm.Free.XT
open Jvm.Lib.Cold (StaticIs)
abbrev ST : String := "java/lang/String"
/-- every table word that New1's law asks, flat -/
abbrev words : List Jvm.Cond := [.code New1.yN New1.yB 2 none, .initialized ST, .methodLink ST 27 New4.yN, .instanceMethod New4.yN,
  .code New4.yN New4.yB 6 none, .fieldLink ST 38 ST "COMPACT_STRINGS" "Z", .laysFinal ST ST "value" "[B", .fieldLink ST 9 ST "value" "[B", .laysFinal ST ST "coder" "B", .fieldLink ST 15 ST "coder" "B",
  .methodLink ST 1 Lib.objectInit, .instanceMethod Lib.objectInit, .code Lib.objectInit ⟨#[0xb1]⟩ 1 none, .methodLink ST 177 Cmp3.yN, .static Cmp3.yN, .methodLink ST 47 CodL.yN, .static CodL.yN,
  .code Cmp3.yN Cmp3.yB 6 (some (.array .byte)), .initialized U16, .arrayClass .byte, .methodLink U16 115 Cmp5.yN, .static Cmp5.yN, .code Cmp5.yN Cmp5.yB 7 (some .int), .code CodL.yN CodL.yB 2 (some .byte)]
theorem tab_of {a : Array Value} {s : State} (h : ∀ w ∈ words, w.before a s = true) : New1.tab.before a s = true := by
  have h5 : Cmp5.tab.before a s = true := unparts (wk h (.code Cmp5.yN Cmp5.yB 7 (some .int))) (wks h (.initialized Cmp5.yN.cls :: Cmp5.site))
  have hc : CodL.tab.before a s = true := unparts (wk h (.code CodL.yN CodL.yB 2 (some .byte))) (wks h (.initialized CodL.yN.cls :: CodL.site))
  have q5 : ∀ w ∈ Cmp5.tab :: words, w.before a s = true := fun w hw => (List.mem_cons.mp hw).elim (fun e => e ▸ h5) (h w)
  have h3 : Cmp3.tab.before a s = true := unparts (wk q5 (.code Cmp3.yN Cmp3.yB 6 (some (.array .byte)))) (wks q5 (.initialized Cmp3.yN.cls :: Cmp3.site))
  have q3 : ∀ w ∈ Cmp3.tab :: CodL.tab :: words, w.before a s = true := fun w hw => (List.mem_cons.mp hw).elim (fun e => e ▸ h3) fun hw => (List.mem_cons.mp hw).elim (fun e => e ▸ hc) (h w)
  have h4 : New4.tab.before a s = true := unparts (wk q3 (.code New4.yN New4.yB 6 none)) (wks q3 (.initialized New4.yN.cls :: New4.site))
  have q4 : ∀ w ∈ New4.tab :: words, w.before a s = true := fun w hw => (List.mem_cons.mp hw).elim (fun e => e ▸ h4) (h w)
  exact unparts (wk q4 (.code New1.yN New1.yB 2 none)) (wks q4 (.initialized New1.yN.cls :: New1.site))
/-- the words ride from the start Z to the walk's own state -/
theorem moved {Z s : State} {a0 args : Array Value} (hZ : Z.Warmed39 s.vm) (hw : ∀ d ∈ words, d.before a0 Z = true) : ∀ d ∈ words, d.before args s = true := fun d hd => by
  have q := hw d hd
  have t : ∀ d ∈ words, d = .arrayClass .byte ∨ (d.onTables && d.keepsFace) = true := by decide +kernel
  rcases t d hd with rfl | t
  · exact RoadKit.mvA hZ q
  · exact RoadKit.mv hZ q t
/-- WHAT COMES BACK, over the tables of the start Z: h the heap at the call, h' behind it -/
def Q (Z : State) (x : Addr) (A : Cell) (h : Heap) (v : Option Value) (h' : Heap) (L : List Loc) : Prop := v = none ∧ (∀ y ∈ L, y.base = x) ∧ RoadKit.Keep h h' [x] ∧ h'.size = h.size + 1 ∧ RoadKit.Exa Z h' x ST ∧ RoadKit.Fld Z h' x ST "value" "[B" (.ref h.size) ∧ RoadKit.Fld Z h' x ST "coder" "B" (.int 0) ∧
  (∃ V : Cell, RoadKit.Arr Z h' h.size V .byte ∧ V.vm = .none ∧ Z.vm.findClass "[B" = some V.cls ∧ V.slots.size = A.slots.size ∧ ∀ j, j < A.slots.size → V.slots[j]? = some (.int (lo8 (cv A j)))) ∧
  ∀ (O n d : String) (w : Value), RoadKit.Fld Z h x O n d w → RoadKit.slotOf Z O n d ≠ RoadKit.slotOf Z ST "value" "[B" → RoadKit.slotOf Z O n d ≠ RoadKit.slotOf Z ST "coder" "B" → RoadKit.Fld Z h' x O n d w
/-- **new String(chars) AT A CALL, IN THE ROAD'S FORM**: for specialBack behind newO: x the fresh String, b the char[] with the cell A -/
theorem back {p : Program} {l : Launch} {e : Env} {R : Room} {s : State} {args : Array Value} {below : List Frame} {len W : Nat} {Z : State} {a0 : Array Value} {h : Heap} (hZ : Z.Warmed39 s.vm) (hw : ∀ d ∈ words, d.before a0 Z = true) {kI : Nat} (wi : (Jvm.Cond.instantiable ST kI).before a0 Z = true)
    {x b : Addr} {A : Cell} {z : Int32} {v0 c0 : Value} (E : RoadKit.Exa Z h x ST) (V : RoadKit.Fld Z h x ST "value" "[B" v0) (C : RoadKit.Fld Z h x ST "coder" "B" c0) (K : RoadKit.Arr Z h b A .char) (hty : Typed .char A) (S : RoadKit.Sta Z h ST "COMPACT_STRINGS" "Z" (.int z)) (hz : ¬ z = 0)
    (l0 : 0 < A.slots.size) (l2 : A.slots.size ≤ 536870912) (hp : ∀ i, i < A.slots.size → ¬ 255 < cv A i) (hfr : 4 ≤ R.frames) (hlo : W + 65 ≤ R.locals) :
    Back l R p e below s args New1.yN len W (fun P a => a = #[.ref x, .ref b] ∧ P.U.heap = h ∧ P.cells + 1 ≤ R.cells ∧ P.slots + A.slots.size ≤ R.slots)
      (fun P _ v B => ∃ L, Q Z x A h v B.U.heap L ∧ B.locs = P.locs ++ L ∧ B.cells = P.cells + 1 ∧ B.slots = P.slots + A.slots.size) := by
  intro m meth c P g ig mk a X hg hsize hdg hW hn hp'
  obtain ⟨rfl, rfl, r1, r2⟩ := hp'
  have al : Z.vm.Alike P.U.vm := hZ.alike.trans X.warmed.alike
  obtain ⟨D, cfV, kV, iV, fV, hD, gV, stV, knV, obV, asV, slV⟩ := id V
  obtain ⟨D', cfC, kC, iC, fC, hD', gC, stC, -, -, asC, slC⟩ := id C
  cases hD.symm.trans hD'
  obtain ⟨D2, kD, e1, e2, e3, e4, e5⟩ := id E
  cases hD.symm.trans e1
  obtain ⟨c2, k2, i1, i2, i3, -⟩ := Cond.instantiable_spec wi
  cases e2.symm.trans i1
  cases e3.symm.trans i2
  obtain ⟨kU, u1, u2⟩ := al.2.2 _ _ e3
  have hB : Blank ST x D P.U := ⟨hD, ⟨knV, fun q hq => by rw [hq] at obV; cases obV⟩, by rw [al.findClass]; exact e2, kU, u1, by rw [u2]; exact i3, by rw [u2]; exact e5 i3⟩
  have F1 : Found ST "value" "[B" fV P.U := ⟨SBG.found_only al ⟨cfV, kV, iV, gV⟩, stV⟩
  have F2 : Found ST "coder" "B" fC P.U := ⟨SBG.found_only al ⟨cfC, kC, iC, gC⟩, stC⟩
  have hA : Ch b A P.U := ⟨⟨K.1, State.isArrayOf_alike al K.2.1, K.2.2, by omega⟩, hty⟩
  have hS : StaticIs P.U ST "COMPACT_STRINGS" "Z" (.int z) := by
    obtain ⟨cfS, iS, kS, fS, st, cS, t1, t2, t3, t4, t5, t6, t7⟩ := S
    exact StaticIs.there (s := { Z with heap := P.U.heap }) ⟨cfS, iS, kS, fS, st, cS, t1, t2, t3, t4, t5, (fun q => by rw [q] at t6; cases t6), t7⟩ al rfl
  obtain ⟨v, B, X', ⟨⟨hv, E', V', q1, q2, q3, q4, q5, q6, q7, q8, q9, q10, q11⟩, hl, hc, hs⟩, st⟩ := New1.pays x D fV fC b A z (tab_of (moved hZ hw)) hfr hlo m meth c P g ig mk _ X hg hsize hdg hW hn ⟨r1, r2, rfl, hB, F1, F2, hA, hS, hz, l0, l2, hp⟩
  have al' : Z.vm.Alike B.U.vm := hZ.alike.trans X'.warmed.alike
  have hsz : E'.slots.size = D.slots.size := by
    obtain ⟨-, -, -, kB, w1, w2, w3⟩ := q1
    obtain ⟨kB', y1, y2⟩ := al'.2.2 _ _ e3
    rw [q2.2.1] at w1
    cases w1.symm.trans y1
    rw [w3, e5 i3, y2]
  refine ⟨v, B, X', ⟨_, ⟨hv, ?_, ⟨by omega, fun y cy hy hn' => q10 y cy (by simpa using hn') hy, fun y cy hy => ?_⟩, q11, ⟨E', _, q1.1, by rw [q2.2.1]; exact e2, by rw [q2.2.1]; exact e3, by rw [q2.1]; exact obV, fun _ => by rw [hsz]; exact e5 i3⟩,
    ⟨E', cfV, kV, iV, fV, q1.1, gV, stV, by rw [q2.1]; exact knV, by rw [q2.1]; exact obV, by rw [q2.2.1]; exact asV, q3⟩, ⟨E', cfC, kC, iC, fC, q1.1, gC, stC, by rw [q2.1]; exact knV, by rw [q2.1]; exact obV, by rw [q2.2.1]; exact asC, q4⟩,
    ⟨V', ⟨q5.1, State.isArrayOf_alike al'.symm q5.2.1, q5.2.2.1⟩, q6, by rw [← al'.findClass]; exact q7, q8, fun j hj => by have := q9 j hj; rwa [Nat.zero_add] at this⟩, fun O n d w F n1 n2 => ?_⟩, hl, hc, hs⟩, st⟩
  · intro y hy
    simp only [List.mem_cons, List.not_mem_nil, or_false] at hy
    rcases hy with rfl | rfl <;> rfl
  · by_cases q : y = x
    · subst q
      cases hD.symm.trans hy
      exact ⟨E', q1.1, q2.2.1, q2.1, hsz⟩
    · exact ⟨cy, q10 y cy q hy, rfl, rfl, rfl⟩
  · obtain ⟨D3, cf, k, i, f, g1, g2, g3, g4, g5, g6, g7⟩ := F
    cases hD.symm.trans g1
    simp only [RoadKit.slotOf, g2, gV, gC, Option.map_some, Option.getD_some] at n1 n2
    exact ⟨E', cf, k, i, f, q1.1, g2, g3, by rw [q2.1]; exact g4, by rw [q2.1]; exact g5, by rw [q2.2.1]; exact g6, by rw [q2.2.2 f.slot (by simp [n1, n2])]; exact g7⟩
end StrChars.Road
namespace StrChars.Road
open Jvm Sem ClassFile Op Lib Jvm.Stand Jvm.Free Jvm.Free.XT
/-- WHAT COMES BACK, the byte[] as a list of values -/
def QA (Z : State) (x : Addr) (zn : Int32) (cs : List Int32) (h : Heap) (v : Option Value) (h' : Heap) (L : List Loc) : Prop := v = none ∧ (∀ y ∈ L, y.base = x) ∧ RoadKit.Keep h h' [x] ∧ h'.size = h.size + 1 ∧ RoadKit.Exa Z h' x ST ∧ RoadKit.Fld Z h' x ST "value" "[B" (.ref h.size) ∧ RoadKit.Fld Z h' x ST "coder" "B" (.int 0) ∧
  (∃ kb, Z.vm.findClass "[B" = some kb ∧ RoadKit.Arv Z h' h.size kb .byte zn (cs.map fun c => .int (lo8 c)) (.int 0)) ∧
  ∀ (O n d : String) (w : Value), RoadKit.Fld Z h x O n d w → RoadKit.slotOf Z O n d ≠ RoadKit.slotOf Z ST "value" "[B" → RoadKit.slotOf Z O n d ≠ RoadKit.slotOf Z ST "coder" "B" → RoadKit.Fld Z h' x O n d w
/-- **new String(chars) AT A CALL, THE ARRAYS AS LISTS**: the char[] at b holds cs, not empty, no char above 255 -/
theorem backArv {p : Program} {l : Launch} {e : Env} {R : Room} {s : State} {args : Array Value} {below : List Frame} {len W : Nat} {Z : State} {a0 : Array Value} {h : Heap} (hZ : Z.Warmed39 s.vm) (hw : ∀ d ∈ words, d.before a0 Z = true) {kI : Nat} (wi : (Jvm.Cond.instantiable ST kI).before a0 Z = true)
    {x b : Addr} {k : ClassId} {zn z : Int32} {cs : List Int32} {dv v0 c0 : Value} (E : RoadKit.Exa Z h x ST) (V : RoadKit.Fld Z h x ST "value" "[B" v0) (C : RoadKit.Fld Z h x ST "coder" "B" c0) (K : RoadKit.Arv Z h b k .char zn (cs.map Value.int) dv) (S : RoadKit.Sta Z h ST "COMPACT_STRINGS" "Z" (.int z)) (hz : ¬ z = 0)
    (hlen : zn.toNatClampNeg = cs.length) (h0 : 0 < cs.length) (hbig : cs.length ≤ 536870912) (hall : ∀ c ∈ cs, ¬ 255 < c) (hfr : 4 ≤ R.frames) (hlo : W + 65 ≤ R.locals) :
    Back l R p e below s args New1.yN len W (fun P a => a = #[.ref x, .ref b] ∧ P.U.heap = h ∧ P.cells + 1 ≤ R.cells ∧ P.slots + cs.length ≤ R.slots)
      (fun P _ v B => ∃ L, QA Z x zn cs h v B.U.heap L ∧ B.locs = P.locs ++ L ∧ B.cells = P.cells + 1 ∧ B.slots = P.slots + cs.length) := by
  obtain ⟨A, K1, K2, K3, K4, K5, K6⟩ := K
  have e : A.slots.size = cs.length := K3.trans hlen
  have hat : ∀ (i : Nat) (hi : i < cs.length), A.slots[i]? = some (.int cs[i]) := fun i hi => by rw [K5 i (by omega)]; simp [List.getD_eq_getElem?_getD, hi]
  have hcv : ∀ (i : Nat) (hi : i < cs.length), cv A i = cs[i] := fun i hi => by unfold cv; rw [hat i hi]
  have hty : Typed .char A := fun i v hv => by
    have hi : i < A.slots.size := (Array.getElem?_eq_some_iff.mp hv).1
    have q := K5 i hi
    rw [hv] at q
    rw [Option.some.inj q]
    exact K6 i hi
  refine Back.mono (back hZ hw wi E V C K1 hty S hz (by omega) (by omega) (fun i hi => by rw [hcv i (by omega)]; exact hall _ (List.getElem_mem _)) hfr hlo) (fun P a hp => ⟨hp.1, hp.2.1, hp.2.2.1, by rw [e]; exact hp.2.2.2⟩) (fun P a v B hp hq => ?_)
  obtain ⟨L, ⟨q1, q2, q3, q4, q5, q6, q7, ⟨V', v1, v2, v3, v4, v5⟩, q9⟩, hl, hc, hs⟩ := hq
  refine ⟨L, ⟨q1, q2, q3, q4, q5, q6, q7, ⟨V'.cls, v3, V', v1, rfl, by rw [v4, e, hlen], K4, fun i hi => ?_, fun i hi => ?_⟩, q9⟩, hl, hc, by rw [hs, e]⟩
  · have hi' : i < cs.length := by omega
    rw [v5 i (by omega), hcv i hi']; simp [List.getD_eq_getElem?_getD, hi']
  · have hi' : i < cs.length := by omega
    simp only [List.getD_eq_getElem?_getD, List.getElem?_map, List.getElem?_eq_getElem hi', Option.map_some, Option.getD_some]
    exact fits_lo8 _
end StrChars.Road
namespace StrChars.Road
open Jvm Sem ClassFile Op Lib Jvm.Stand Jvm.Free Jvm.Free.XT
/-- WHAT COMES BACK, in the writer's own shape -/
def QV (Z : State) (x : Addr) (N : Int32) (bs : List Int32) (h : Heap) (n0 : Nat) (v : Option Value) (h' : Heap) (L : List Loc) : Prop := v = none ∧ RoadKit.Fr n0 L ∧ RoadKit.Keep h h' [x] ∧ RoadKit.Exa Z h' x ST ∧ RoadKit.Fld Z h' x ST "coder" "B" (.int 0) ∧
  ∃ (t : Addr) (kb : ClassId), n0 ≤ t ∧ h.size ≤ t ∧ ¬ t = x ∧ RoadKit.Fld Z h' x ST "value" "[B" (.ref t) ∧ RoadKit.Arv Z h' t kb .byte N (bs.map Value.int) (.int 0)
/-- **new String(chars) AT A CALL, FOR THE WRITER**: a char[] of n known ints, each 0 to 255 -/
theorem backV {p : Program} {l : Launch} {e : Env} {R : Room} {s : State} {args : Array Value} {below : List Frame} {len W : Nat} {Z : State} {a0 : Array Value} {h : Heap} (hZ : Z.Warmed39 s.vm) (hw : ∀ d ∈ words, d.before a0 Z = true) {kI : Nat} (wi : (Jvm.Cond.instantiable ST kI).before a0 Z = true)
    {x b : Addr} {kC : ClassId} {cs bs : List Int32} {d v0 c0 : Value} {z N : Int32} {n n0 : Nat} (hx0 : n0 ≤ x) (hh0 : n0 ≤ h.size) (E : RoadKit.Exa Z h x ST) (V : RoadKit.Fld Z h x ST "value" "[B" v0) (C : RoadKit.Fld Z h x ST "coder" "B" c0) (K : RoadKit.Arv Z h b kC .char N (cs.map Value.int) d) (S : RoadKit.Sta Z h ST "COMPACT_STRINGS" "Z" (.int z)) (hz : ¬ z = 0)
    (hn : cs.length = n) (hN : N = Int32.ofNat n) (l0 : 0 < n) (l2 : n ≤ 4000) (hp : ∀ c ∈ cs, ¬ c < 0 ∧ ¬ (255 : Int32) < c) (hb : bs = cs.map (fun c => c.toInt8.toInt32)) (hfr : 4 ≤ R.frames) (hlo : W + 65 ≤ R.locals) :
    Back l R p e below s args (⟨"java/lang/String", "<init>", "([C)V"⟩ : MethodName) len W (fun P a => a = #[.ref x, .ref b] ∧ P.U.heap = h ∧ P.cells + 1 ≤ R.cells ∧ P.slots + n ≤ R.slots)
      (fun P _ v B => ∃ L, QV Z x N bs h n0 v B.U.heap L ∧ B.locs = P.locs ++ L ∧ B.cells = P.cells + 1 ∧ B.slots = P.slots + n) := by
  subst hn hN hb
  refine Back.mono (backArv hZ hw wi E V C K S hz (n32 (by omega)) l0 (by omega) (fun c hc => (hp c hc).2) hfr hlo) (fun P a hp => hp) (fun P a v B hp hq => ?_)
  obtain ⟨L, ⟨q1, q2, q3, q4, q5, q6, q7, ⟨kb, v1, v2⟩, q9⟩, hl, hc, hs⟩ := hq
  exact ⟨L, ⟨q1, fun y hy => by rw [q2 y hy]; exact hx0, q3, q5, q7, h.size, kb, hh0, Nat.le_refl _, Nat.ne_of_gt E.lt, q6, by rw [List.map_map]; exact v2⟩, hl, hc, hs⟩
end StrChars.Road
namespace StrChars
open Jvm Sem ClassFile Op Lib Jvm.Stand Jvm.Free.XT Jvm.Free.ALB Jvm.Free.JM Jvm.Free
open Jvm.Lib.Cold (StaticIs)
def hi8 (x : Int32) : Int32 := lo8 (x >>> ((8 : Int32) &&& 31))
/-- what StringUTF16.getChar makes of two bytes -/
def pairCh (u v : Int32) : Int32 := (((u &&& 255) <<< ((0 : Int32) &&& 31)) ||| ((v &&& 255) <<< ((8 : Int32) &&& 31))).toUInt32.toUInt16.toUInt32.toInt32
theorem shr0 (c : Int32) : c >>> ((0 : Int32) &&& 31) = c := by
  have e : ((0 : Int32) &&& 31) = 0 := by decide
  rw [e]
  apply Int32.toBitVec_inj.mp
  rw [Int32.toBitVec_shiftRight]
  have e1 : ((0 : Int32).toBitVec.smod 32) = 0#32 := by decide
  rw [e1, BitVec.sshiftRight_eq']
  exact BitVec.sshiftRight_zero
theorem lo8_and (x : Int32) : (lo8 x &&& 255).toBitVec.toNat = x.toBitVec.toNat % 256 := by
  have h : (lo8 x).toBitVec = (x.toBitVec.signExtend 8).signExtend 32 := by rw [lo8, Int8.toBitVec_toInt32, Int32.toBitVec_toInt8]
  rw [Int32.toBitVec_and, BitVec.toNat_and, h]
  have e : ((x.toBitVec.signExtend 8).signExtend 32).toNat % 256 = x.toBitVec.toNat % 256 := by
    rw [BitVec.toNat_signExtend]
    have hlt := x.toBitVec.isLt
    simp only [BitVec.toNat_setWidth, BitVec.toNat_signExtend]
    split <;> split <;> omega
  rw [← e]
  exact Nat.and_two_pow_sub_one_eq_mod _ 8
theorem pair_says {c : Int32} (h0 : ¬ c < 0) (h1 : ¬ 65535 < c) : pairCh (lo8 c) (hi8 c) = c := by
  rw [Int32.lt_iff_toInt_lt] at h0 h1
  have e0 : (0 : Int32).toInt = 0 := rfl
  have e1 : (65535 : Int32).toInt = 65535 := rfl
  have hc : c.toInt = c.toBitVec.toNat := by
    have := c.toBitVec.isLt
    have e : c.toInt = c.toBitVec.toInt := rfl
    rw [e] at h0 h1
    rw [e]
    rw [BitVec.toInt_eq_toNat_cond] at h0 h1 ⊢
    split at h0 <;> split <;> omega
  have hn : c.toBitVec.toNat < 65536 := by omega
  have a1 := lo8_and c
  have a2 : (hi8 c &&& 255).toBitVec.toNat = c.toBitVec.toNat / 256 := by
    rw [hi8, lo8_and]
    have e : ((8 : Int32) &&& 31) = 8 := by decide
    rw [e, Int32.toBitVec_shiftRight]
    have e2 : ((8 : Int32).toBitVec.smod 32) = 8#32 := by decide
    rw [e2, BitVec.sshiftRight_eq', BitVec.toNat_sshiftRight_of_msb_false (by rw [BitVec.msb_eq_false_iff_two_mul_lt]; omega)]
    show c.toBitVec.toNat >>> 8 % 256 = _
    rw [Nat.shiftRight_eq_div_pow]
    omega
  unfold pairCh
  apply Int32.toBitVec_inj.mp
  apply BitVec.eq_of_toNat_eq
  have f0 : ((0 : Int32) &&& 31) = 0 := by decide
  have f8 : ((8 : Int32) &&& 31) = 8 := by decide
  rw [f0, f8]
  have g : (((lo8 c &&& 255) <<< (0 : Int32)) ||| ((hi8 c &&& 255) <<< (8 : Int32))).toBitVec.toNat = c.toBitVec.toNat := by
    rw [Int32.toBitVec_or, Int32.toBitVec_shiftLeft, Int32.toBitVec_shiftLeft]
    have s0 : ((0 : Int32).toBitVec.smod 32) = 0#32 := by decide
    have s8 : ((8 : Int32).toBitVec.smod 32) = 8#32 := by decide
    rw [s0, s8, BitVec.toNat_or]
    simp only [BitVec.shiftLeft_eq', BitVec.toNat_shiftLeft, a1, a2]
    show (c.toBitVec.toNat % 256) <<< 0 % 2 ^ 32 ||| (c.toBitVec.toNat / 256) <<< 8 % 2 ^ 32 = _
    rw [Nat.shiftLeft_zero, Nat.mod_eq_of_lt (show c.toBitVec.toNat % 256 < 2 ^ 32 by omega), Nat.mod_eq_of_lt (show (c.toBitVec.toNat / 256) <<< 8 < 2 ^ 32 by rw [Nat.shiftLeft_eq]; omega), Nat.or_comm, ← Nat.shiftLeft_add_eq_or_of_lt (by omega), Nat.shiftLeft_eq]
    omega
  show BitVec.toNat (((((lo8 c &&& 255) <<< (0 : Int32)) ||| ((hi8 c &&& 255) <<< (8 : Int32))).toBitVec.setWidth 16).setWidth 32) = _
  rw [BitVec.toNat_setWidth, BitVec.toNat_setWidth, g]
  omega
end StrChars
namespace StrChars
open Jvm Sem ClassFile Op Lib Jvm.Stand Jvm.Free.XT Jvm.Free.ALB Jvm.Free.JM Jvm.Free
open Jvm.Lib.Cold (StaticIs)
theorem shr1 {n : Nat} (h : 2 * n < 2 ^ 31) : Int32.ofNat (2 * n) >>> ((1 : Int32) &&& 31) = Int32.ofNat n := by
  have e : ((1 : Int32) &&& 31) = 1 := by decide
  rw [e]
  apply Int32.toBitVec_inj.mp
  rw [Int32.toBitVec_shiftRight]
  have e1 : ((1 : Int32).toBitVec.smod 32) = 1#32 := by decide
  have hm : (BitVec.ofNat 32 (2 * n)).toNat = 2 * n := by rw [BitVec.toNat_ofNat, Nat.mod_eq_of_lt (by omega)]
  rw [e1, BitVec.sshiftRight_eq']
  apply BitVec.eq_of_toNat_eq
  show ((BitVec.ofNat 32 (2 * n)).sshiftRight 1).toNat = (BitVec.ofNat 32 n).toNat
  rw [BitVec.toNat_sshiftRight_of_msb_false (by rw [BitVec.msb_eq_false_iff_two_mul_lt, hm]; omega), hm, BitVec.toNat_ofNat, Nat.shiftRight_eq_div_pow]
  omega
/-- charAt's cast of a byte read back -/
def chr8 (u : Int32) : Int32 := (u &&& 255).toUInt32.toUInt16.toUInt32.toInt32
theorem chr8_lo8 {c : Int32} (h0 : ¬ c < 0) (h1 : ¬ 255 < c) : chr8 (lo8 c) = c := by
  have t : ∀ k : Fin 256, (Int32.ofNat k.val).toUInt32.toUInt16.toUInt32.toInt32 = Int32.ofNat k.val := by decide +kernel
  unfold chr8
  rw [lo8_mask h0 h1]
  rw [Int32.lt_iff_toInt_lt] at h0 h1
  have e0 : (0 : Int32).toInt = 0 := rfl
  have e1 : (255 : Int32).toInt = 255 := rfl
  obtain ⟨k, hk⟩ : ∃ k : Nat, c.toInt = k := ⟨c.toInt.toNat, by omega⟩
  have hx : c = Int32.ofNat k := Int32.toInt_inj.mp (by rw [hk, Int32.toInt_ofNat_small (by omega)])
  rw [hx]
  exact t ⟨k, by omega⟩
theorem narrow_ch {c : Int32} (h0 : ¬ c < 0) (h1 : ¬ 65535 < c) : narrow .char (.int c) = .int c := by
  have q : narrow .char (.int (pairCh (lo8 c) (hi8 c))) = .int (pairCh (lo8 c) (hi8 c)) := narrow_c _
  rwa [pair_says h0 h1] at q
/-- the array's cell V codes the n chars f 0 .. f (n - 1) by the coder cd, as the JDK does: coder 1 just where some char is above 255 -/
def Cod (cd : Int32) (n : Nat) (f : Nat → Int32) (V : Cell) : Prop := (cd = 0 ∧ V.slots.size = n ∧ ∀ j, j < n → V.slots[j]? = some (.int (lo8 (f j))) ∧ ¬ 255 < f j) ∨ (cd = 1 ∧ V.slots.size = 2 * n ∧ (∀ j, j < n → V.slots[2 * j]? = some (.int (lo8 (f j))) ∧ V.slots[2 * j + 1]? = some (.int (hi8 (f j)))) ∧ ∃ j, j < n ∧ 255 < f j)
theorem Cod.cd {cd : Int32} {n : Nat} {f : Nat → Int32} {V : Cell} (h : Cod cd n f V) : cd = 0 ∨ cd = 1 := h.imp (fun q => q.1) fun q => q.1
theorem Cod.len {cd : Int32} {n : Nat} {f : Nat → Int32} {V : Cell} (h : Cod cd n f V) (hs : V.slots.size < 2 ^ 31) : Int32.ofNat V.slots.size >>> (cd &&& 31) = Int32.ofNat n := by
  rcases h with ⟨rfl, h, -⟩ | ⟨rfl, h, -⟩
  · rw [shr0, h]
  · rw [h, shr1 (by omega)]
/-- **x is a String of the n chars f 0 .. f (n - 1)**, Latin-1 or UTF-16; its array at t has the cell V -/
def Txt (x t : Addr) (V : Cell) (cd : Int32) (n : Nat) (f : Nat → Int32) (U : State) : Prop := Exact "java/lang/String" x U ∧ Has x "java/lang/String" "value" "[B" (.ref t) U ∧ Has x "java/lang/String" "coder" "B" (.int cd) U ∧ XT.Arr .byte t V U ∧ Cod cd n f V ∧ ∀ j, j < n → ¬ f j < 0 ∧ ¬ 65535 < f j
theorem Txt.mv {x t : Addr} {V : Cell} {cd : Int32} {n : Nat} {f : Nat → Int32} {U U' : State} (h : Txt x t V cd n f U) (hal : U.vm.Alike U'.vm) (hh : U'.heap = U.heap) : Txt x t V cd n f U' := ⟨h.1.mv hal hh, h.2.1.mv hal hh, h.2.2.1.mv hal hh, h.2.2.2.1.mv hal hh, h.2.2.2.2⟩
namespace Cdr
def yN : MethodName := ⟨"java/lang/String", "coder", "()B"⟩
abbrev yB : ByteArray := jdk_42_method_152_code
theorem d0 : decode yB 0 = .ok (.getstatic 38, 3) := by decide +kernel
theorem d3 : decode yB 3 = .ok (.ifCond (.eq) 10, 3) := by decide +kernel
theorem d6 : decode yB 6 = .ok (.aload_n 0, 1) := by decide +kernel
theorem d7 : decode yB 7 = .ok (.getfield 15, 3) := by decide +kernel
theorem d10 : decode yB 10 = .ok (.goto 4, 3) := by decide +kernel
theorem d14 : decode yB 14 = .ok (.ireturn, 1) := by decide +kernel
def site : List Cond := [.fieldLink "java/lang/String" 38 "java/lang/String" "COMPACT_STRINGS" "Z", .fieldLink "java/lang/String" 15 "java/lang/String" "coder" "B"]
def tab : Cond := tabOf yN yB 1 (some .byte) site
def P (x : Addr) (cd z : Int32) (args : Array Value) (s : State) : Prop := args = #[.ref x] ∧ Has x "java/lang/String" "coder" "B" (.int cd) s ∧ (cd = 0 ∨ cd = 1) ∧ StaticIs s "java/lang/String" "COMPACT_STRINGS" "Z" (.int z) ∧ ¬ z = 0
def E (cd : Int32) (r : Option Value) (s u : State) : Prop := XT.PureE (some (.int cd)) r s u
theorem law (l : Launch) (x : Addr) (cd z : Int32) : Law l yN 1 0 0 0 yB 1 (some .byte) site (P x cd z) (E cd) [] 0 0 := by
  refine Law.of_walk (plainFor_of_name (by decide +kernel)) (by decide +kernel) (by decide +kernel) (by decide) (fun _ _ h => by rw [h.1]; rfl) (fun _ U U' hal hh h => ⟨h.1, h.2.1.mv hal hh, h.2.2.1, h.2.2.2.1.there hal hh, h.2.2.2.2⟩) (fun r U U' V V' h1 hal h2 h => XT.PureE.mv r U U' V V' h1 hal h2 h) ?_
  intro p e s m args below meth c s₁ X0 hexec hbytes hml hret hlk hnm hown hh0 W hP
  obtain ⟨rfl, hx, hc, s1, hz⟩ := hP
  have c1 : Steps p.tables e below (s₁.setTop (entryFrame m #[.ref x] 1)) (s₁.setTop (mkF m 0 #[.val (.ref x)] [])) := entry rfl
  obtain ⟨T2, X2, q2, st2⟩ := X0.sget hexec hown (wk W (.fieldLink "java/lang/String" 38 "java/lang/String" "COMPACT_STRINGS" "Z")) s1 (fun _ _ h => by rw [hh0]; exact h) (g := (mkF m 0 #[.val (.ref x)] [])) rfl (hb hbytes d0)
  have hh2 := q2.trans hh0
  have c3 : Steps p.tables e below (s₁.setTop (entryFrame m #[.ref x] 1)) (T2.setTop (mkF m 7 #[.val (.ref x)] [.ref x])) := (c1.trans (st2 _ (Steps.refl _))).trans (by
    refine XS.ifNo X2.here hexec rfl (hb hbytes d3) rfl (i0_eq_f hz) ?_
    refine XS.aloadN X2.here hexec rfl (hb hbytes d6) rfl rfl ?_
    exact Steps.refl _)
  obtain ⟨T4, X4, q4, st4⟩ := X2.hget hexec hown (wk W (.fieldLink "java/lang/String" 15 "java/lang/String" "coder" "B")) (hx.mv X2.warmed.alike hh2) (g := (mkF m 7 #[.val (.ref x)] [.ref x])) rfl (rest := []) rfl (hb hbytes d7)
  have c5 : Steps p.tables e below (s₁.setTop (entryFrame m #[.ref x] 1)) (T4.setTop (mkF m 14 #[.val (.ref x)] [.int cd])) := (c3.trans (st4 _ (Steps.refl _))).trans (by
    refine XS.goto X4.here hexec rfl (pc0 := 10) rfl (hb hbytes d10) (by decide) rfl ?_
    exact Steps.refl _)
  exact ⟨T4, some (.int cd), _, _, _, X4, rfl, rfl, rfl, (fun h => by cases h), ⟨rfl, q4.trans hh2⟩, fun fs hl => c5.trans (X4.ireturnOut hexec hret (by rcases hc with rfl | rfl <;> rfl) (Or.inr (Or.inr (Or.inl rfl))) (hb hbytes d14) hl)⟩
end Cdr
namespace Len
def yN : MethodName := ⟨"java/lang/String", "length", "()I"⟩
abbrev yB : ByteArray := jdk_42_method_54_code
theorem d0 : decode yB 0 = .ok (.aload_n 0, 1) := by decide +kernel
theorem d1 : decode yB 1 = .ok (.getfield 9, 3) := by decide +kernel
theorem d4 : decode yB 4 = .ok (.arraylength, 1) := by decide +kernel
theorem d5 : decode yB 5 = .ok (.aload_n 0, 1) := by decide +kernel
theorem d6 : decode yB 6 = .ok (.invokevirtual 335, 3) := by decide +kernel
theorem d9 : decode yB 9 = .ok (.ishr, 1) := by decide +kernel
theorem d10 : decode yB 10 = .ok (.ireturn, 1) := by decide +kernel
def site : List Cond := [.fieldLink "java/lang/String" 9 "java/lang/String" "value" "[B", Cdr.tab] ++ virtW "java/lang/String" 335 "java/lang/String" Cdr.yN Cdr.yN
def tab : Cond := tabOf yN yB 1 (some .int) site
def P (x t : Addr) (V : Cell) (cd : Int32) (n : Nat) (f : Nat → Int32) (z : Int32) (args : Array Value) (s : State) : Prop := args = #[.ref x] ∧ Txt x t V cd n f s ∧ StaticIs s "java/lang/String" "COMPACT_STRINGS" "Z" (.int z) ∧ ¬ z = 0
def E (n : Nat) (r : Option Value) (s u : State) : Prop := XT.PureE (some (.int (Int32.ofNat n))) r s u
/-- length() of a String of n chars, in either coding -/
theorem law (l : Launch) (x t : Addr) (V : Cell) (cd : Int32) (n : Nat) (f : Nat → Int32) (z : Int32) : Law l yN 1 0 1 13 yB 1 (some .int) site (P x t V cd n f z) (E n) [] 0 0 := by
  refine Law.of_walk (plainFor_of_name (by decide +kernel)) (by decide +kernel) (by decide +kernel) (by decide) (fun _ _ h => by rw [h.1]; rfl) (fun _ U U' hal hh h => ⟨h.1, h.2.1.mv hal hh, h.2.2.1.there hal hh, h.2.2.2⟩) (fun r U U' V V' h1 hal h2 h => XT.PureE.mv r U U' V V' h1 hal h2 h) ?_
  intro p e s m args below meth c s₁ X0 hexec hbytes hml hret hlk hnm hown hh0 W hP
  obtain ⟨rfl, hx, s1, hz⟩ := hP
  have v31 := hx.2.2.2.1.2.2.2
  have c1 : Steps p.tables e below (s₁.setTop (entryFrame m #[.ref x] 1)) (s₁.setTop (mkF m 1 #[.val (.ref x)] [.ref x])) := Steps.trans (entry rfl) (by
    show Steps p.tables e below (s₁.setTop (mkF m 0 #[.val (.ref x)] [])) _
    refine XS.aloadN X0.here hexec rfl (hb hbytes d0) rfl rfl ?_
    exact Steps.refl _)
  obtain ⟨T2, X2, q2, st2⟩ := X0.hget hexec hown (wk W (.fieldLink "java/lang/String" 9 "java/lang/String" "value" "[B")) (hx.mv X0.warmed.alike hh0).2.1 (g := (mkF m 1 #[.val (.ref x)] [.ref x])) rfl (rest := []) rfl (hb hbytes d1)
  have hh2 := q2.trans hh0
  have hx2 := hx.mv X2.warmed.alike hh2
  have c3 : Steps p.tables e below (s₁.setTop (entryFrame m #[.ref x] 1)) (T2.setTop (mkF m 6 #[.val (.ref x)] [.ref x, .int (Int32.ofNat V.slots.size)])) := (c1.trans (st2 _ (Steps.refl _))).trans (by
    refine X2.alen hexec hx2.2.2.2.1 rfl rfl (hb hbytes d4) ?_
    refine XS.aloadN X2.here hexec rfl (hb hbytes d5) rfl rfl ?_
    exact Steps.refl _)
  obtain ⟨v4, T4, X4, E4, g4⟩ := X2.callV hexec (Cdr.law l x cd z) hown (wks W (virtW "java/lang/String" 335 "java/lang/String" Cdr.yN Cdr.yN)) rfl (by decide) (wk W Cdr.tab) (W := 1) (Nat.le_of_ble_eq_true rfl) (Nat.le_of_ble_eq_true rfl) (Nat.le_refl _) (Nat.le_refl _) (hx2.1.fc X2.warmed.alike) hx2.1.is (g := (mkF m 6 #[.val (.ref x)] [.ref x, .int (Int32.ofNat V.slots.size)])) rfl (by rw [hml]; rfl) c3 (argsL := []) (rest := [.int (Int32.ofNat V.slots.size)]) rfl rfl (by show 2 * 0 + (1 + 0) ≤ _; decide) (hb hbytes d6) (⟨rfl, hx2.2.2.1, hx.2.2.2.2.1.cd, s1.there X2.warmed.alike hh2, hz⟩)
  obtain ⟨rfl, q4⟩ := E4
  have c5 : Steps p.tables e below (s₁.setTop (entryFrame m #[.ref x] 1)) (T4.setTop (mkF m 10 #[.val (.ref x)] [.int (Int32.ofNat V.slots.size >>> (cd &&& 31))])) := Steps.trans g4 (by
    refine ishr X4.here hexec rfl (hb hbytes d9) rfl ?_
    exact Steps.refl _)
  rw [hx.2.2.2.2.1.len v31] at c5
  exact ⟨T4, some (.int (Int32.ofNat n)), _, _, _, X4, rfl, rfl, rfl, (fun h => by cases h), ⟨rfl, q4.trans hh2⟩, fun fs hl => c5.trans (X4.ireturnOut hexec hret rfl (Or.inl rfl) (hb hbytes d10) hl)⟩
theorem pays {l : Launch} {R : Room} {p : Program} {e : Env} {below : List Frame} {s : State} {sargs : Array Value} {len W : Nat} (x t : Addr) (V : Cell) (cd : Int32) (n : Nat) (f : Nat → Int32) (z : Int32) (htab : tab.before sargs s = true) (hfr : 2 ≤ R.frames) (hlo : W + 25 ≤ R.locals) :
    Back l R p e below s sargs yN len W (fun A₁ a₁ => A₁.cells + 0 ≤ R.cells ∧ A₁.slots + 0 ≤ R.slots ∧ P x t V cd n f z a₁ A₁.U) (fun A₁ _ v₁ B₁ => E n v₁ A₁.U B₁.U ∧ B₁.locs = A₁.locs ++ [] ∧ B₁.cells = A₁.cells + 0 ∧ B₁.slots = A₁.slots + 0) :=
  (law l x t V cd n f z).pays htab hfr (by omega)
end Len
namespace IsL
def yN : MethodName := ⟨"java/lang/String", "isLatin1", "()Z"⟩
abbrev yB : ByteArray := jdk_42_method_154_code
theorem d0 : decode yB 0 = .ok (.getstatic 38, 3) := by decide +kernel
theorem d3 : decode yB 3 = .ok (.ifCond (.eq) 14, 3) := by decide +kernel
theorem d6 : decode yB 6 = .ok (.aload_n 0, 1) := by decide +kernel
theorem d7 : decode yB 7 = .ok (.getfield 15, 3) := by decide +kernel
theorem d10 : decode yB 10 = .ok (.ifCond (.ne) 7, 3) := by decide +kernel
theorem d13 : decode yB 13 = .ok (.iconst 1, 1) := by decide +kernel
theorem d14 : decode yB 14 = .ok (.goto 4, 3) := by decide +kernel
theorem d17 : decode yB 17 = .ok (.iconst 0, 1) := by decide +kernel
theorem d18 : decode yB 18 = .ok (.ireturn, 1) := by decide +kernel
def site : List Cond := [.fieldLink "java/lang/String" 38 "java/lang/String" "COMPACT_STRINGS" "Z", .fieldLink "java/lang/String" 15 "java/lang/String" "coder" "B"]
def tab : Cond := tabOf yN yB 1 (some .boolean) site
def P (x : Addr) (cd z : Int32) (args : Array Value) (s : State) : Prop := args = #[.ref x] ∧ Has x "java/lang/String" "coder" "B" (.int cd) s ∧ (cd = 0 ∨ cd = 1) ∧ StaticIs s "java/lang/String" "COMPACT_STRINGS" "Z" (.int z) ∧ ¬ z = 0
def E (cd : Int32) (r : Option Value) (s u : State) : Prop := XT.PureE (some (.int (1 - cd))) r s u
theorem law (l : Launch) (x : Addr) (cd z : Int32) : Law l yN 1 0 0 0 yB 1 (some .boolean) site (P x cd z) (E cd) [] 0 0 := by
  refine Law.of_walk (plainFor_of_name (by decide +kernel)) (by decide +kernel) (by decide +kernel) (by decide) (fun _ _ h => by rw [h.1]; rfl) (fun _ U U' hal hh h => ⟨h.1, h.2.1.mv hal hh, h.2.2.1, h.2.2.2.1.there hal hh, h.2.2.2.2⟩) (fun r U U' V V' h1 hal h2 h => XT.PureE.mv r U U' V V' h1 hal h2 h) ?_
  intro p e s m args below meth c s₁ X0 hexec hbytes hml hret hlk hnm hown hh0 W hP
  obtain ⟨rfl, hx, hc, s1, hz⟩ := hP
  have c1 : Steps p.tables e below (s₁.setTop (entryFrame m #[.ref x] 1)) (s₁.setTop (mkF m 0 #[.val (.ref x)] [])) := entry rfl
  obtain ⟨T2, X2, q2, st2⟩ := X0.sget hexec hown (wk W (.fieldLink "java/lang/String" 38 "java/lang/String" "COMPACT_STRINGS" "Z")) s1 (fun _ _ h => by rw [hh0]; exact h) (g := (mkF m 0 #[.val (.ref x)] [])) rfl (hb hbytes d0)
  have hh2 := q2.trans hh0
  have c3 : Steps p.tables e below (s₁.setTop (entryFrame m #[.ref x] 1)) (T2.setTop (mkF m 7 #[.val (.ref x)] [.ref x])) := (c1.trans (st2 _ (Steps.refl _))).trans (by
    refine XS.ifNo X2.here hexec rfl (hb hbytes d3) rfl (i0_eq_f hz) ?_
    refine XS.aloadN X2.here hexec rfl (hb hbytes d6) rfl rfl ?_
    exact Steps.refl _)
  obtain ⟨T4, X4, q4, st4⟩ := X2.hget hexec hown (wk W (.fieldLink "java/lang/String" 15 "java/lang/String" "coder" "B")) (hx.mv X2.warmed.alike hh2) (g := (mkF m 7 #[.val (.ref x)] [.ref x])) rfl (rest := []) rfl (hb hbytes d7)
  have c5 : Steps p.tables e below (s₁.setTop (entryFrame m #[.ref x] 1)) (T4.setTop (mkF m 10 #[.val (.ref x)] [.int cd])) := c3.trans (st4 _ (Steps.refl _))
  have c6 : Steps p.tables e below (s₁.setTop (entryFrame m #[.ref x] 1)) (T4.setTop (mkF m 18 #[.val (.ref x)] [.int (1 - cd)])) := by
    rcases hc with rfl | rfl
    · exact c5.trans (by
        refine XS.ifNo X4.here hexec rfl (hb hbytes d10) rfl (i0_ne_f rfl) ?_
        refine iconstV X4.here hexec rfl 1 (hb hbytes d13) (by decide) ?_
        refine XS.goto X4.here hexec rfl (pc0 := 14) rfl (hb hbytes d14) (by decide) rfl ?_
        exact Steps.refl _)
    · exact c5.trans (by
        refine XS.ifYes X4.here hexec rfl (pc0 := 10) rfl (hb hbytes d10) rfl (i0_ne_t (by decide)) (by decide) rfl ?_
        refine iconstV X4.here hexec rfl 0 (hb hbytes d17) (by decide) ?_
        exact Steps.refl _)
  exact ⟨T4, some (.int (1 - cd)), _, _, _, X4, rfl, rfl, rfl, (fun h => by cases h), ⟨rfl, q4.trans hh2⟩, fun fs hl => c6.trans (X4.ireturnOut hexec hret (by rcases hc with rfl | rfl <;> rfl) (Or.inr (Or.inl rfl)) (hb hbytes d18) hl)⟩
end IsL
namespace LChA
def yN : MethodName := ⟨"java/lang/StringLatin1", "charAt", "([BI)C"⟩
abbrev yB : ByteArray := jdk_43_method_2_code
theorem d0 : decode yB 0 = .ok (.iload_n 1, 1) := by decide +kernel
theorem d1 : decode yB 1 = .ok (.aload_n 0, 1) := by decide +kernel
theorem d2 : decode yB 2 = .ok (.arraylength, 1) := by decide +kernel
theorem d3 : decode yB 3 = .ok (.invokestatic 9, 3) := by decide +kernel
theorem d6 : decode yB 6 = .ok (.aload_n 0, 1) := by decide +kernel
theorem d7 : decode yB 7 = .ok (.iload_n 1, 1) := by decide +kernel
theorem d8 : decode yB 8 = .ok (.baload, 1) := by decide +kernel
theorem d9 : decode yB 9 = .ok (.sipush 255, 3) := by decide +kernel
theorem d12 : decode yB 12 = .ok (.iand, 1) := by decide +kernel
theorem d13 : decode yB 13 = .ok (.i2c, 1) := by decide +kernel
theorem d14 : decode yB 14 = .ok (.ireturn, 1) := by decide +kernel
def site : List Cond := [JO.Str_checkIndex.tab] ++ staticW "java/lang/StringLatin1" 9 JO.Str_checkIndex.yN
def tab : Cond := tabOf yN yB 2 (some .char) site
def P (t : Addr) (V : Cell) (i : Nat) (u : Int32) (fm : Value) (args : Array Value) (s : State) : Prop := args = #[.ref t, .int (Int32.ofNat i)] ∧ XT.Arr .byte t V s ∧ V.slots[i]? = some (.int u) ∧ (StaticIs s "jdk/internal/util/Preconditions" "SIOOBE_FORMATTER" "Ljava/util/function/BiFunction;" fm ∧ fm.isRef = true)
def E (u : Int32) (r : Option Value) (s w : State) : Prop := XT.PureE (some (.int (chr8 u))) r s w
theorem law (l : Launch) (t : Addr) (V : Cell) (i : Nat) (u : Int32) (fm : Value) : Law l yN 2 2 2 27 yB 2 (some .char) site (P t V i u fm) (E u) [] 0 0 := by
  refine Law.of_walk (plainFor_of_name (by decide +kernel)) (by decide +kernel) (by decide +kernel) (by decide) (fun _ _ h => by rw [h.1]; rfl) (fun _ U U' hal hh h => ⟨h.1, h.2.1.mv hal hh, h.2.2.1, h.2.2.2.1.there hal hh, h.2.2.2.2⟩) (fun r U U' V V' h1 hal h2 h => XT.PureE.mv r U U' V V' h1 hal h2 h) ?_
  intro p e s m args below meth c s₁ X0 hexec hbytes hml hret hlk hnm hown hh0 W hP
  obtain ⟨rfl, hV, hu, s1, rf⟩ := hP
  have v31 := hV.2.2.2
  have hi : i < V.slots.size := (Array.getElem?_eq_some_iff.mp hu).1
  have c1 : Steps p.tables e below (s₁.setTop (entryFrame m #[.ref t, .int (Int32.ofNat i)] 2)) (s₁.setTop (mkF m 0 #[.val (.ref t), .val (.int (Int32.ofNat i))] [])) := entry rfl
  have c2 : Steps p.tables e below (s₁.setTop (entryFrame m #[.ref t, .int (Int32.ofNat i)] 2)) (s₁.setTop (mkF m 3 #[.val (.ref t), .val (.int (Int32.ofNat i))] [.int (Int32.ofNat V.slots.size), .int (Int32.ofNat i)])) := c1.trans (by
    refine XS.iloadN X0.here hexec rfl (hb hbytes d0) rfl ?_
    refine XS.aloadN X0.here hexec rfl (hb hbytes d1) rfl rfl ?_
    refine X0.alen hexec (hV.mv X0.warmed.alike hh0) rfl rfl (hb hbytes d2) ?_
    exact Steps.refl _)
  obtain ⟨v3, T3, X3, E3, g3⟩ := X0.callS hexec (JO.Str_checkIndex.law l (Int32.ofNat i) (Int32.ofNat V.slots.size) fm) hown (wks W (staticW "java/lang/StringLatin1" 9 JO.Str_checkIndex.yN)) (wk W JO.Str_checkIndex.tab) (W := 0) (Nat.le_of_ble_eq_true rfl) (Nat.le_of_ble_eq_true rfl) (Nat.le_refl _) (Nat.le_refl _) (g := (mkF m 3 #[.val (.ref t), .val (.int (Int32.ofNat i))] [.int (Int32.ofNat V.slots.size), .int (Int32.ofNat i)])) rfl (by rw [hml]; rfl) c2 (argsL := [.int (Int32.ofNat i), .int (Int32.ofNat V.slots.size)]) (rest := []) rfl rfl (by show 2 * 0 + 0 ≤ _; decide) (hb hbytes d3) (⟨rfl, rf, s1.there X0.warmed.alike hh0, Int32.ofNat_not_neg (by omega), lt32 v31 hi⟩)
  obtain ⟨rfl, q3⟩ := E3
  have hh3 := q3.trans hh0
  have c4 : Steps p.tables e below (s₁.setTop (entryFrame m #[.ref t, .int (Int32.ofNat i)] 2)) (T3.setTop (mkF m 14 #[.val (.ref t), .val (.int (Int32.ofNat i))] [.int (chr8 u)])) := Steps.trans g3 (by
    refine XS.aloadN X3.here hexec rfl (hb hbytes d6) rfl rfl ?_
    refine XS.iloadN X3.here hexec rfl (hb hbytes d7) rfl ?_
    refine X3.aget hexec (hV.mv X3.warmed.alike hh3) rfl hu rfl rfl (hb hbytes d8) ?_
    refine sipushV X3.here hexec rfl 255 (hb hbytes d9) (by decide) ?_
    refine XS.iand X3.here hexec rfl (hb hbytes d12) rfl ?_
    refine i2c X3.here hexec rfl (hb hbytes d13) rfl ?_
    exact Steps.refl _)
  exact ⟨T3, some (.int (chr8 u)), _, _, _, X3, rfl, rfl, rfl, (fun h => by cases h), ⟨rfl, hh3⟩, fun fs hl => c4.trans (X3.ireturnOut hexec hret (narrow_c _) (Or.inr (Or.inr (Or.inr (Or.inl rfl)))) (hb hbytes d14) hl)⟩
end LChA
end StrChars
namespace StrChars.Road
open Jvm Sem ClassFile Op Lib Jvm.Stand Jvm.Free Jvm.Free.XT
open Jvm.Lib.Cold (StaticIs)
theorem consq {a : Array Value} {s : State} {c : Jvm.Cond} {L : List Jvm.Cond} (h0 : c.before a s = true) (h : ∀ w ∈ L, w.before a s = true) : ∀ w ∈ c :: L, w.before a s = true := fun w hw => (List.mem_cons.mp hw).elim (fun e => e ▸ h0) (h w)
/-- the words of String.length(), either coding -/
abbrev wordsLen : List Jvm.Cond := [.code Len.yN Len.yB 1 (some .int), .initialized ST, .fieldLink ST 9 ST "value" "[B", .fieldLink ST 38 ST "COMPACT_STRINGS" "Z", .fieldLink ST 15 ST "coder" "B", .code Cdr.yN Cdr.yB 1 (some .byte), .methodLink ST 335 Cdr.yN, .declares Cdr.yN, .selects ST Cdr.yN Cdr.yN, .instanceMethod Cdr.yN]
theorem tabLen_of {a : Array Value} {s : State} (h : ∀ w ∈ wordsLen, w.before a s = true) : Len.tab.before a s = true := by
  have hc : Cdr.tab.before a s = true := unparts (wk h (.code Cdr.yN Cdr.yB 1 (some .byte))) (wks h (.initialized Cdr.yN.cls :: Cdr.site))
  have q := consq hc h
  exact unparts (wk q (.code Len.yN Len.yB 1 (some .int))) (wks q (.initialized Len.yN.cls :: Len.site))
theorem movedLen {Z s : State} {a0 args : Array Value} (hZ : Z.Warmed39 s.vm) (hw : ∀ d ∈ wordsLen, d.before a0 Z = true) : ∀ d ∈ wordsLen, d.before args s = true := fun d hd => by
  have q := hw d hd
  have t : ∀ d ∈ wordsLen, d = .arrayClass .byte ∨ (d.onTables && d.keepsFace) = true := by decide +kernel
  rcases t d hd with rfl | t
  · exact RoadKit.mvA hZ q
  · exact RoadKit.mv hZ q t
/-- the bytes of the chars cs, low before high -/
def wideBytes : List Int32 → List Value
  | [] => []
  | c :: cs => .int (lo8 c) :: .int (hi8 c) :: wideBytes cs
theorem wide_lo (d : Value) : ∀ (cs : List Int32) (j : Nat), j < cs.length → (wideBytes cs).getD (2 * j) d = .int (lo8 (cs.getD j 0))
  | [], j, h => absurd h (Nat.not_lt_zero j)
  | c :: cs, 0, _ => rfl
  | c :: cs, j + 1, h => by
    have q := wide_lo d cs j (by simpa using h)
    rw [show 2 * (j + 1) = 2 * j + 1 + 1 from by omega]
    simpa [wideBytes] using q
theorem wide_hi (d : Value) : ∀ (cs : List Int32) (j : Nat), j < cs.length → (wideBytes cs).getD (2 * j + 1) d = .int (hi8 (cs.getD j 0))
  | [], j, h => absurd h (Nat.not_lt_zero j)
  | c :: cs, 0, _ => rfl
  | c :: cs, j + 1, h => by
    have q := wide_hi d cs j (by simpa using h)
    rw [show 2 * (j + 1) + 1 = 2 * j + 1 + 1 + 1 from by omega]
    simpa [wideBytes] using q
theorem low_at (d : Value) (cs : List Int32) (j : Nat) (h : j < cs.length) : (cs.map fun c => Value.int (lo8 c)).getD j d = .int (lo8 (cs.getD j 0)) := by
  simp [List.getD_eq_getElem?_getD, h]
/-- an array of N2 bytes vs codes the chars cs by the coder cd -/
def CodA (cs : List Int32) (cd N2 : Int32) (vs : List Value) : Prop := (cd = 0 ∧ N2 = Int32.ofNat cs.length ∧ vs = (cs.map fun c => Value.int (lo8 c)) ∧ ∀ c ∈ cs, ¬ 255 < c) ∨ (cd = 1 ∧ N2 = Int32.ofNat (2 * cs.length) ∧ vs = wideBytes cs ∧ ∃ c ∈ cs, 255 < c)
theorem CodA.cod {cs : List Int32} {cd N2 : Int32} {vs : List Value} {V : Cell} (h : CodA cs cd N2 vs) (hn : 2 * cs.length < 2 ^ 31) (hs : V.slots.size = N2.toNatClampNeg) (hv : RoadKit.Has V vs (.int 0)) : Cod cd cs.length (fun j => cs.getD j 0) V := by
  rcases h with ⟨rfl, rfl, rfl, h⟩ | ⟨rfl, rfl, rfl, c, hc, hw⟩
  · rw [n32 (by omega)] at hs
    exact Or.inl ⟨rfl, hs, fun j hj => ⟨by rw [hv j (by omega), low_at _ _ _ hj], by
      have e : cs.getD j 0 = cs[j] := by simp [List.getD_eq_getElem?_getD, hj]
      show ¬ 255 < cs.getD j 0
      rw [e]; exact h _ (List.getElem_mem _)⟩⟩
  · rw [n32 (by omega)] at hs
    obtain ⟨j, hj, rfl⟩ := List.getElem_of_mem hc
    exact Or.inr ⟨rfl, hs, fun j hj => ⟨by rw [hv _ (by omega), wide_lo _ _ _ hj], by rw [hv _ (by omega), wide_hi _ _ _ hj]⟩, j, hj, by
      have e : cs.getD j 0 = cs[j] := by simp [List.getD_eq_getElem?_getD, hj]
      show 255 < cs.getD j 0
      rw [e]; exact hw⟩
/-- an object of exactly java/lang/String, its two fields found: as the laws ask it -/
theorem strObj {Z U : State} {a0 : Array Value} {kI : Nat} (wi : (Jvm.Cond.instantiable ST kI).before a0 Z = true) (al : Z.vm.Alike U.vm) {x : Addr} {v0 c0 : Value} (E : RoadKit.Exa Z U.heap x ST) (V : RoadKit.Fld Z U.heap x ST "value" "[B" v0) (C : RoadKit.Fld Z U.heap x ST "coder" "B" c0) :
    ∃ (D : Cell) (fV fC : Field), Blank ST x D U ∧ Found ST "value" "[B" fV U ∧ Found ST "coder" "B" fC U ∧ D.slots[fV.slot]? = some v0 ∧ D.slots[fC.slot]? = some c0 ∧ RoadKit.slotOf Z ST "value" "[B" = fV.slot ∧ RoadKit.slotOf Z ST "coder" "B" = fC.slot := by
  obtain ⟨D, cfV, kV, iV, fV, hD, gV, stV, knV, obV, asV, slV⟩ := V
  obtain ⟨D', cfC, kC, iC, fC, hD', gC, stC, -, -, asC, slC⟩ := C
  cases hD.symm.trans hD'
  obtain ⟨D2, kD, e1, e2, e3, e4, e5⟩ := E
  cases hD.symm.trans e1
  obtain ⟨c2, k2, i1, i2, i3, -⟩ := Cond.instantiable_spec wi
  cases e2.symm.trans i1
  cases e3.symm.trans i2
  obtain ⟨kU, u1, u2⟩ := al.2.2 _ _ e3
  exact ⟨D, fV, fC, ⟨hD, ⟨knV, fun q hq => by rw [hq] at obV; cases obV⟩, by rw [al.findClass]; exact e2, kU, u1, by rw [u2]; exact i3, by rw [u2]; exact e5 i3⟩, ⟨SBG.found_only al ⟨cfV, kV, iV, gV⟩, stV⟩, ⟨SBG.found_only al ⟨cfC, kC, iC, gC⟩, stC⟩, slV, slC, by simp [RoadKit.slotOf, gV], by simp [RoadKit.slotOf, gC]⟩
theorem sta_is {Z U : State} (al : Z.vm.Alike U.vm) {C n d : String} {v : Value} (S : RoadKit.Sta Z U.heap C n d v) : StaticIs U C n d v := by
  obtain ⟨cfS, iS, kS, fS, st, cS, t1, t2, t3, t4, t5, t6, t7⟩ := S
  exact StaticIs.there (s := { Z with heap := U.heap }) ⟨cfS, iS, kS, fS, st, cS, t1, t2, t3, t4, t5, (fun q => by rw [q] at t6; cases t6), t7⟩ al rfl
/-- **length() OF SUCH A STRING** -/
theorem lenW {p : Program} {l : Launch} {e : Env} {R : Room} {s : State} {args : Array Value} {below : List Frame} {len W : Nat} {Z : State} {a0 : Array Value} {h : Heap} (hZ : Z.Warmed39 s.vm) (hw : ∀ d ∈ wordsLen, d.before a0 Z = true) {kI : Nat} (wi : (Jvm.Cond.instantiable ST kI).before a0 Z = true)
    {x t : Addr} {kb : ClassId} {cs : List Int32} {cd N2 z : Int32} {vs : List Value} (E : RoadKit.Exa Z h x ST) (V : RoadKit.Fld Z h x ST "value" "[B" (.ref t)) (C : RoadKit.Fld Z h x ST "coder" "B" (.int cd)) (K : RoadKit.Arv Z h t kb .byte N2 vs (.int 0)) (hc : CodA cs cd N2 vs) (hb : ∀ c ∈ cs, ¬ c < 0 ∧ ¬ (65535 : Int32) < c)
    (S : RoadKit.Sta Z h ST "COMPACT_STRINGS" "Z" (.int z)) (hz : ¬ z = 0) (l2 : cs.length ≤ 4000) (hfr : 2 ≤ R.frames) (hlo : W + 25 ≤ R.locals) :
    Back l R p e below s args (⟨"java/lang/String", "length", "()I"⟩ : MethodName) len W (fun P a => a = #[.ref x] ∧ P.U.heap = h ∧ P.cells + 0 ≤ R.cells ∧ P.slots + 0 ≤ R.slots)
      (fun P _ v B => ∃ L, (v = some (.int (Int32.ofNat cs.length)) ∧ L = [] ∧ B.U.heap = h) ∧ B.locs = P.locs ++ L ∧ B.cells = P.cells + 0 ∧ B.slots = P.slots + 0) := by
  obtain ⟨A, K1, K2, K3, K4, K5, K6⟩ := K
  have hcod := hc.cod (by omega) K3 K5
  intro m meth c P g ig mk a X hg hsize hdg hW hn hp'
  obtain ⟨rfl, rfl, r1, r2⟩ := hp'
  have al : Z.vm.Alike P.U.vm := hZ.alike.trans X.warmed.alike
  obtain ⟨D, fV, fC, hB, F1, F2, g1, g2, -, -⟩ := strObj wi al E V C
  have hx : Txt x t A cd cs.length (fun j => cs.getD j 0) P.U := ⟨⟨_, hB.2.2.1, D, hB.1, rfl, by cases q : D.vm <;> first | rfl | exact absurd q (hB.2.1.2 _)⟩, Has.of hB F1 g1, Has.of hB F2 g2, ⟨K1.1, State.isArrayOf_alike al K1.2.1, K1.2.2, by rcases hcod with ⟨-, q, -⟩ | ⟨-, q, -⟩ <;> omega⟩, hcod, fun j hj => by
    have e : cs.getD j 0 = cs[j] := by simp [List.getD_eq_getElem?_getD, hj]
    show ¬ cs.getD j 0 < 0 ∧ ¬ 65535 < cs.getD j 0
    rw [e]; exact hb _ (List.getElem_mem _)⟩
  obtain ⟨v, B, X', ⟨⟨hv, hh⟩, hl, hk, hs⟩, st⟩ := Len.pays x t A cd cs.length (fun j => cs.getD j 0) z (tabLen_of (movedLen hZ hw)) hfr hlo m meth c P g ig mk _ X hg hsize hdg hW hn ⟨r1, r2, rfl, hx, sta_is al S, hz⟩
  exact ⟨v, B, X', ⟨[], ⟨hv, rfl, hh⟩, hl, hk, hs⟩, st⟩
end StrChars.Road
namespace StrChars
open Jvm Sem ClassFile Op Lib Jvm.Stand Jvm.Free.XT Jvm.Free.ALB Jvm.Free.JM Jvm.Free
open Jvm.Lib.Cold (StaticIs)
namespace Emp
def yN : MethodName := ⟨"java/lang/String", "isEmpty", "()Z"⟩
abbrev yB : ByteArray := jdk_42_method_55_code
theorem d0 : decode yB 0 = .ok (.aload_n 0, 1) := by decide +kernel
theorem d1 : decode yB 1 = .ok (.getfield 9, 3) := by decide +kernel
theorem d4 : decode yB 4 = .ok (.arraylength, 1) := by decide +kernel
theorem d5 : decode yB 5 = .ok (.ifCond (.ne) 7, 3) := by decide +kernel
theorem d8 : decode yB 8 = .ok (.iconst 1, 1) := by decide +kernel
theorem d9 : decode yB 9 = .ok (.goto 4, 3) := by decide +kernel
theorem d12 : decode yB 12 = .ok (.iconst 0, 1) := by decide +kernel
theorem d13 : decode yB 13 = .ok (.ireturn, 1) := by decide +kernel
def site : List Cond := [.fieldLink "java/lang/String" 9 "java/lang/String" "value" "[B"]
def tab : Cond := tabOf yN yB 1 (some .boolean) site
def P (x t : Addr) (V : Cell) (cd : Int32) (n : Nat) (f : Nat → Int32) (args : Array Value) (s : State) : Prop := args = #[.ref x] ∧ Txt x t V cd n f s
def E (n : Nat) (r : Option Value) (s u : State) : Prop := XT.PureE (some (.int (if n = 0 then 1 else 0))) r s u
/-- isEmpty() of a String of n chars -/
theorem law (l : Launch) (x t : Addr) (V : Cell) (cd : Int32) (n : Nat) (f : Nat → Int32) : Law l yN 1 0 0 0 yB 1 (some .boolean) site (P x t V cd n f) (E n) [] 0 0 := by
  refine Law.of_walk (plainFor_of_name (by decide +kernel)) (by decide +kernel) (by decide +kernel) (by decide) (fun _ _ h => by rw [h.1]; rfl) (fun _ U U' hal hh h => ⟨h.1, h.2.mv hal hh⟩) (fun r U U' V V' h1 hal h2 h => XT.PureE.mv r U U' V V' h1 hal h2 h) ?_
  intro p e s m args below meth c s₁ X0 hexec hbytes hml hret hlk hnm hown hh0 W hP
  obtain ⟨rfl, hx⟩ := hP
  have v31 := hx.2.2.2.1.2.2.2
  have c1 : Steps p.tables e below (s₁.setTop (entryFrame m #[.ref x] 1)) (s₁.setTop (mkF m 1 #[.val (.ref x)] [.ref x])) := Steps.trans (entry rfl) (by
    show Steps p.tables e below (s₁.setTop (mkF m 0 #[.val (.ref x)] [])) _
    refine XS.aloadN X0.here hexec rfl (hb hbytes d0) rfl rfl ?_
    exact Steps.refl _)
  obtain ⟨T2, X2, q2, st2⟩ := X0.hget hexec hown (wk W (.fieldLink "java/lang/String" 9 "java/lang/String" "value" "[B")) (hx.mv X0.warmed.alike hh0).2.1 (g := (mkF m 1 #[.val (.ref x)] [.ref x])) rfl (rest := []) rfl (hb hbytes d1)
  have hh2 := q2.trans hh0
  have hx2 := hx.mv X2.warmed.alike hh2
  have c3 : Steps p.tables e below (s₁.setTop (entryFrame m #[.ref x] 1)) (T2.setTop (mkF m 5 #[.val (.ref x)] [.int (Int32.ofNat V.slots.size)])) := (c1.trans (st2 _ (Steps.refl _))).trans (by
    refine X2.alen hexec hx2.2.2.2.1 rfl rfl (hb hbytes d4) ?_
    exact Steps.refl _)
  have hz : V.slots.size = 0 ↔ n = 0 := by
    rcases hx.2.2.2.2.1 with ⟨-, q, -⟩ | ⟨-, q, -⟩ <;> omega
  by_cases h0 : n = 0
  · have c4 : Steps p.tables e below (s₁.setTop (entryFrame m #[.ref x] 1)) (T2.setTop (mkF m 13 #[.val (.ref x)] [.int 1])) := c3.trans (by
      refine XS.ifNo X2.here hexec rfl (hb hbytes d5) rfl (i0_ne_f (by rw [hz.mpr h0]; rfl)) ?_
      refine iconstV X2.here hexec rfl 1 (hb hbytes d8) (by decide) ?_
      refine XS.goto X2.here hexec rfl (pc0 := 9) rfl (hb hbytes d9) (by decide) rfl ?_
      exact Steps.refl _)
    exact ⟨T2, some (.int 1), _, _, _, X2, rfl, rfl, rfl, (fun h => by cases h), ⟨by rw [if_pos h0], hh2⟩, fun fs hl => c4.trans (X2.ireturnOut hexec hret rfl (Or.inr (Or.inl rfl)) (hb hbytes d13) hl)⟩
  · have c4 : Steps p.tables e below (s₁.setTop (entryFrame m #[.ref x] 1)) (T2.setTop (mkF m 13 #[.val (.ref x)] [.int 0])) := c3.trans (by
      refine XS.ifYes X2.here hexec rfl (pc0 := 5) rfl (hb hbytes d5) rfl (i0_ne_t (nz32 v31 (by omega))) (by decide) rfl ?_
      refine iconstV X2.here hexec rfl 0 (hb hbytes d12) (by decide) ?_
      exact Steps.refl _)
    exact ⟨T2, some (.int 0), _, _, _, X2, rfl, rfl, rfl, (fun h => by cases h), ⟨by rw [if_neg h0], hh2⟩, fun fs hl => c4.trans (X2.ireturnOut hexec hret rfl (Or.inr (Or.inl rfl)) (hb hbytes d13) hl)⟩
theorem pays {l : Launch} {R : Room} {p : Program} {e : Env} {below : List Frame} {s : State} {sargs : Array Value} {len W : Nat} (x t : Addr) (V : Cell) (cd : Int32) (n : Nat) (f : Nat → Int32) (htab : tab.before sargs s = true) (hfr : 1 ≤ R.frames) (hlo : W + 12 ≤ R.locals) :
    Back l R p e below s sargs yN len W (fun A₁ a₁ => A₁.cells + 0 ≤ R.cells ∧ A₁.slots + 0 ≤ R.slots ∧ P x t V cd n f a₁ A₁.U) (fun A₁ _ v₁ B₁ => E n v₁ A₁.U B₁.U ∧ B₁.locs = A₁.locs ++ [] ∧ B₁.cells = A₁.cells + 0 ∧ B₁.slots = A₁.slots + 0) :=
  (law l x t V cd n f).pays htab hfr (by omega)
end Emp
/-- what place i of a byte[]'s cell holds -/
def yv (A : Cell) (i : Nat) : Int32 := match A.slots[i]? with | some (.int x) => x | _ => 0
theorem yv_get {a : Addr} {A : Cell} {U : State} (h : XT.Arr .byte a A U) (ht : Typed .byte A) {i : Nat} (hi : i < A.slots.size) : A.slots[i]? = some (.int (yv A i)) := by
  have e := Array.getElem?_eq_getElem hi
  have f := ht i _ e
  unfold yv; rw [e]
  generalize A.slots[i] = v at f
  cases v <;> simp [fits] at f ⊢
/-- the two arrays are equal, place for place -/
def EqC (A B : Cell) : Prop := A.slots.size = B.slots.size ∧ ∀ i, i < A.slots.size → yv A i = yv B i
/-- a boolean that says whether p -/
def Says01 (q : Prop) (r : Option Value) (s u : State) : Prop := ∃ v : Int32, r = some (.int v) ∧ u.heap = s.heap ∧ ((v = 1 ∧ q) ∨ (v = 0 ∧ ¬ q))
theorem Says01.mv {q : Prop} : ∀ r (U U' V V' : State), U'.heap = U.heap → V.vm.Alike V'.vm → V'.heap = V.heap → Says01 q r U V → Says01 q r U' V' :=
  fun r U U' V V' h1 _ h2 ⟨v, a, b, c⟩ => ⟨v, a, by rw [h1, h2]; exact b, c⟩
namespace LEq
def yN : MethodName := ⟨"java/lang/StringLatin1", "equals", "([B[B)Z"⟩
abbrev yB : ByteArray := jdk_43_method_13_code
theorem d0 : decode yB 0 = .ok (.aload_n 0, 1) := by decide +kernel
theorem d1 : decode yB 1 = .ok (.arraylength, 1) := by decide +kernel
theorem d2 : decode yB 2 = .ok (.aload_n 1, 1) := by decide +kernel
theorem d3 : decode yB 3 = .ok (.arraylength, 1) := by decide +kernel
theorem d4 : decode yB 4 = .ok (.if_icmp (.ne) 30, 3) := by decide +kernel
theorem d7 : decode yB 7 = .ok (.iconst 0, 1) := by decide +kernel
theorem d8 : decode yB 8 = .ok (.istore_n 2, 1) := by decide +kernel
theorem d9 : decode yB 9 = .ok (.iload_n 2, 1) := by decide +kernel
theorem d10 : decode yB 10 = .ok (.aload_n 0, 1) := by decide +kernel
theorem d11 : decode yB 11 = .ok (.arraylength, 1) := by decide +kernel
theorem d12 : decode yB 12 = .ok (.if_icmp (.ge) 20, 3) := by decide +kernel
theorem d15 : decode yB 15 = .ok (.aload_n 0, 1) := by decide +kernel
theorem d16 : decode yB 16 = .ok (.iload_n 2, 1) := by decide +kernel
theorem d17 : decode yB 17 = .ok (.baload, 1) := by decide +kernel
theorem d18 : decode yB 18 = .ok (.aload_n 1, 1) := by decide +kernel
theorem d19 : decode yB 19 = .ok (.iload_n 2, 1) := by decide +kernel
theorem d20 : decode yB 20 = .ok (.baload, 1) := by decide +kernel
theorem d21 : decode yB 21 = .ok (.if_icmp (.eq) 5, 3) := by decide +kernel
theorem d24 : decode yB 24 = .ok (.iconst 0, 1) := by decide +kernel
theorem d25 : decode yB 25 = .ok (.ireturn, 1) := by decide +kernel
theorem d26 : decode yB 26 = .ok (.iinc 2 1, 3) := by decide +kernel
theorem d29 : decode yB 29 = .ok (.goto (-20), 3) := by decide +kernel
theorem d32 : decode yB 32 = .ok (.iconst 1, 1) := by decide +kernel
theorem d33 : decode yB 33 = .ok (.ireturn, 1) := by decide +kernel
theorem d34 : decode yB 34 = .ok (.iconst 0, 1) := by decide +kernel
theorem d35 : decode yB 35 = .ok (.ireturn, 1) := by decide +kernel
def site : List Cond := []
def tab : Cond := tabOf yN yB 3 (some .boolean) site
def P (a : Addr) (A : Cell) (b : Addr) (B : Cell) (args : Array Value) (s : State) : Prop := args = #[.ref a, .ref b] ∧ XT.Arr .byte a A s ∧ Typed .byte A ∧ XT.Arr .byte b B s ∧ Typed .byte B
/-- whether two byte[] are equal, place for place -/
theorem law (l : Launch) (a : Addr) (A : Cell) (b : Addr) (B : Cell) : Law l yN 2 2 0 0 yB 3 (some .boolean) site (P a A b B) (Says01 (EqC A B)) [] 0 0 := by
  refine Law.of_walk (plainFor_of_name (by decide +kernel)) (by decide +kernel) (by decide +kernel) (by decide) (fun _ _ h => by rw [h.1]; rfl) (fun _ U U' hal hh h => ⟨h.1, h.2.1.mv hal hh, h.2.2.1, h.2.2.2.1.mv hal hh, h.2.2.2.2⟩) (fun r U U' V V' h1 hal h2 h => Says01.mv r U U' V V' h1 hal h2 h) ?_
  intro p e s m args below meth c s₁ X0 hexec hbytes hml hret hlk hnm hown hh0 W hP
  obtain ⟨rfl, hA, tA, hB, tB⟩ := hP
  have a31 := hA.2.2.2
  have b31 := hB.2.2.2
  have hA0 := hA.mv X0.warmed.alike hh0
  have hB0 := hB.mv X0.warmed.alike hh0
  have c1 : Steps p.tables e below (s₁.setTop (entryFrame m #[.ref a, .ref b] 3)) (s₁.setTop (mkF m 0 #[.val (.ref a), .val (.ref b), .unset] [])) := entry rfl
  have c2 : Steps p.tables e below (s₁.setTop (entryFrame m #[.ref a, .ref b] 3)) (s₁.setTop (mkF m 4 #[.val (.ref a), .val (.ref b), .unset] [.int (Int32.ofNat B.slots.size), .int (Int32.ofNat A.slots.size)])) := c1.trans (by
    refine XS.aloadN X0.here hexec rfl (hb hbytes d0) rfl rfl ?_
    refine X0.alen hexec hA0 rfl rfl (hb hbytes d1) ?_
    refine XS.aloadN X0.here hexec rfl (hb hbytes d2) rfl rfl ?_
    refine X0.alen hexec hB0 rfl rfl (hb hbytes d3) ?_
    exact Steps.refl _)
  by_cases hs : A.slots.size = B.slots.size
  · have c3 : Steps p.tables e below (s₁.setTop (entryFrame m #[.ref a, .ref b] 3)) (s₁.setTop (mkF m 9 #[.val (.ref a), .val (.ref b), .val (.int 0)] [])) := c2.trans (by
      refine XS.icmpNo X0.here hexec rfl (hb hbytes d4) rfl (ii_ne_f (by rw [hs])) ?_
      refine iconstV X0.here hexec rfl 0 (hb hbytes d7) (by decide) ?_
      refine XS.istoreN X0.here hexec rfl (hb hbytes d8) rfl rfl ?_
      exact Steps.refl _)
    have loop : ∀ (r i : Nat), i + r = A.slots.size → (∀ j, j < i → yv A j = yv B j) → Steps p.tables e below (s₁.setTop (entryFrame m #[.ref a, .ref b] 3)) (s₁.setTop (mkF m 9 #[.val (.ref a), .val (.ref b), .val (.int (Int32.ofNat i))] [])) → ∃ (pc : Nat) (Ls : Array Slot) (v : Int32), (pc = 25 ∨ pc = 33) ∧ ((v = 1 ∧ EqC A B) ∨ (v = 0 ∧ ¬ EqC A B)) ∧ Steps p.tables e below (s₁.setTop (entryFrame m #[.ref a, .ref b] 3)) (s₁.setTop (mkF m pc Ls [.int v])) := by
      intro r
      induction r with
      | zero =>
        intro i hi he cl
        exact ⟨33, _, 1, Or.inr rfl, Or.inl ⟨rfl, hs, fun j hj => he j (by omega)⟩, cl.trans (by
          refine XS.iloadN X0.here hexec rfl (hb hbytes d9) rfl ?_
          refine XS.aloadN X0.here hexec rfl (hb hbytes d10) rfl rfl ?_
          refine X0.alen hexec hA0 rfl rfl (hb hbytes d11) ?_
          refine XS.icmpYes X0.here hexec rfl (pc0 := 12) rfl (hb hbytes d12) rfl (ii_ge_t (nlt32 (by omega) (by omega))) (by decide) rfl ?_
          refine iconstV X0.here hexec rfl 1 (hb hbytes d32) (by decide) ?_
          exact Steps.refl _)⟩
      | succ r ih =>
        intro i hi he cl
        have c4 : Steps p.tables e below (s₁.setTop (entryFrame m #[.ref a, .ref b] 3)) (s₁.setTop (mkF m 21 #[.val (.ref a), .val (.ref b), .val (.int (Int32.ofNat i))] [.int (yv B i), .int (yv A i)])) := cl.trans (by
          refine XS.iloadN X0.here hexec rfl (hb hbytes d9) rfl ?_
          refine XS.aloadN X0.here hexec rfl (hb hbytes d10) rfl rfl ?_
          refine X0.alen hexec hA0 rfl rfl (hb hbytes d11) ?_
          refine XS.icmpNo X0.here hexec rfl (hb hbytes d12) rfl (ii_ge_f (lt32 (by omega) (by omega))) ?_
          refine XS.aloadN X0.here hexec rfl (hb hbytes d15) rfl rfl ?_
          refine XS.iloadN X0.here hexec rfl (hb hbytes d16) rfl ?_
          refine X0.aget hexec hA0 rfl (yv_get hA tA (i := i) (by omega)) rfl rfl (hb hbytes d17) ?_
          refine XS.aloadN X0.here hexec rfl (hb hbytes d18) rfl rfl ?_
          refine XS.iloadN X0.here hexec rfl (hb hbytes d19) rfl ?_
          refine X0.aget hexec hB0 rfl (yv_get hB tB (i := i) (by omega)) rfl rfl (hb hbytes d20) ?_
          exact Steps.refl _)
        by_cases hv : yv A i = yv B i
        · have c5 : Steps p.tables e below (s₁.setTop (entryFrame m #[.ref a, .ref b] 3)) (s₁.setTop (mkF m 9 #[.val (.ref a), .val (.ref b), .val (.int (Int32.ofNat i + 1))] [])) := c4.trans (by
            refine XS.icmpYes X0.here hexec rfl (pc0 := 21) rfl (hb hbytes d21) rfl (ii_eq_t hv) (by decide) rfl ?_
            refine iincV X0.here hexec rfl 1 (hb hbytes d26) (by decide) rfl rfl ?_
            refine XS.goto X0.here hexec rfl (pc0 := 29) rfl (hb hbytes d29) (by decide) rfl ?_
            exact Steps.refl _)
          rw [succ32] at c5
          exact ih (i + 1) (by omega) (fun j hj => by
            by_cases e : j = i
            · rw [e]; exact hv
            · exact he j (by omega)) c5
        · exact ⟨25, _, 0, Or.inl rfl, Or.inr ⟨rfl, fun q => hv (q.2 i (by omega))⟩, c4.trans (by
            refine XS.icmpNo X0.here hexec rfl (hb hbytes d21) rfl (ii_eq_f hv) ?_
            refine iconstV X0.here hexec rfl 0 (hb hbytes d24) (by decide) ?_
            exact Steps.refl _)⟩
    obtain ⟨pc, Ls, v, hpc, hv, cz⟩ := loop A.slots.size 0 (by omega) (fun j hj => absurd hj (Nat.not_lt_zero j)) c3
    have nv : narrow .boolean (.int v) = .int v := by rcases hv with ⟨rfl, -⟩ | ⟨rfl, -⟩ <;> rfl
    rcases hpc with rfl | rfl
    · exact ⟨s₁, some (.int v), _, _, _, X0, rfl, rfl, rfl, (fun h => by cases h), ⟨v, rfl, hh0, hv⟩, fun fs hl => cz.trans (X0.ireturnOut hexec hret nv (Or.inr (Or.inl rfl)) (hb hbytes d25) hl)⟩
    · exact ⟨s₁, some (.int v), _, _, _, X0, rfl, rfl, rfl, (fun h => by cases h), ⟨v, rfl, hh0, hv⟩, fun fs hl => cz.trans (X0.ireturnOut hexec hret nv (Or.inr (Or.inl rfl)) (hb hbytes d33) hl)⟩
  · have c3 : Steps p.tables e below (s₁.setTop (entryFrame m #[.ref a, .ref b] 3)) (s₁.setTop (mkF m 35 #[.val (.ref a), .val (.ref b), .unset] [.int 0])) := c2.trans (by
      refine XS.icmpYes X0.here hexec rfl (pc0 := 4) rfl (hb hbytes d4) rfl (ii_ne_t (ne32 a31 b31 hs)) (by decide) rfl ?_
      refine iconstV X0.here hexec rfl 0 (hb hbytes d34) (by decide) ?_
      exact Steps.refl _)
    exact ⟨s₁, some (.int 0), _, _, _, X0, rfl, rfl, rfl, (fun h => by cases h), ⟨0, rfl, hh0, Or.inr ⟨rfl, fun q => hs q.1⟩⟩, fun fs hl => c3.trans (X0.ireturnOut hexec hret rfl (Or.inr (Or.inl rfl)) (hb hbytes d35) hl)⟩
end LEq
theorem Cod.ty {cd : Int32} {n : Nat} {f : Nat → Int32} {V : Cell} (h : Cod cd n f V) : Typed .byte V := fun i v hv => by
  have hi : i < V.slots.size := (Array.getElem?_eq_some_iff.mp hv).1
  rcases h with ⟨-, k1, k2⟩ | ⟨-, k1, k2, -⟩
  · rw [(k2 i (by omega)).1] at hv; cases hv; exact fits_lo8 _
  · rcases Nat.mod_two_eq_zero_or_one i with e | e
    · obtain ⟨j, rfl⟩ : ∃ j, i = 2 * j := ⟨i / 2, by omega⟩
      rw [(k2 j (by omega)).1] at hv; cases hv; exact fits_lo8 _
    · obtain ⟨j, rfl⟩ : ∃ j, i = 2 * j + 1 := ⟨i / 2, by omega⟩
      rw [(k2 j (by omega)).2] at hv; cases hv; exact fits_lo8 _
/-- the same text -/
def SameT (n : Nat) (f : Nat → Int32) (k : Nat) (g : Nat → Int32) : Prop := n = k ∧ ∀ j, j < n → f j = g j
theorem lo8_inj {x y : Int32} (h0 : ¬ x < 0) (h1 : ¬ 255 < x) (k0 : ¬ y < 0) (k1 : ¬ 255 < y) (h : lo8 x = lo8 y) : x = y := by
  rw [← lo8_mask h0 h1, ← lo8_mask k0 k1, h]
/-- arrays coded by one coder are equal just where the texts are -/
theorem Cod.eqv {cd : Int32} {n k : Nat} {f g : Nat → Int32} {V V' : Cell} (h : Cod cd n f V) (h' : Cod cd k g V') (hf : ∀ j, j < n → ¬ f j < 0 ∧ ¬ 65535 < f j) (hg : ∀ j, j < k → ¬ g j < 0 ∧ ¬ 65535 < g j) : EqC V V' ↔ SameT n f k g := by
  have yvv : ∀ {W : Cell} {i : Nat} {x : Int32}, W.slots[i]? = some (.int x) → yv W i = x := fun q => by unfold yv; rw [q]
  rcases h with ⟨rfl, k1, k2⟩ | ⟨rfl, k1, k2, -⟩
  · rcases h' with ⟨-, m1, m2⟩ | ⟨e, -⟩
    · constructor
      · rintro ⟨e1, e2⟩
        refine ⟨by omega, fun j hj => ?_⟩
        have q := e2 j (by omega)
        rw [yvv (k2 j hj).1, yvv (m2 j (by omega)).1] at q
        exact lo8_inj (hf j hj).1 (k2 j hj).2 (hg j (by omega)).1 (m2 j (by omega)).2 q
      · rintro ⟨rfl, e2⟩
        refine ⟨by omega, fun j hj => ?_⟩
        rw [yvv (k2 j (by omega)).1, yvv (m2 j (by omega)).1, e2 j (by omega)]
    · exact absurd e (by decide)
  · rcases h' with ⟨e, -⟩ | ⟨-, m1, m2, -⟩
    · exact absurd e (by decide)
    · constructor
      · rintro ⟨e1, e2⟩
        refine ⟨by omega, fun j hj => ?_⟩
        have q1 := e2 (2 * j) (by omega)
        have q2 := e2 (2 * j + 1) (by omega)
        rw [yvv (k2 j hj).1, yvv (m2 j (by omega)).1] at q1
        rw [yvv (k2 j hj).2, yvv (m2 j (by omega)).2] at q2
        rw [← pair_says (hf j hj).1 (hf j hj).2, ← pair_says (hg j (by omega)).1 (hg j (by omega)).2, q1, q2]
      · rintro ⟨rfl, e2⟩
        refine ⟨by omega, fun i hi => ?_⟩
        rcases Nat.mod_two_eq_zero_or_one i with e | e
        · obtain ⟨j, rfl⟩ : ∃ j, i = 2 * j := ⟨i / 2, by omega⟩
          rw [yvv (k2 j (by omega)).1, yvv (m2 j (by omega)).1, e2 j (by omega)]
        · obtain ⟨j, rfl⟩ : ∃ j, i = 2 * j + 1 := ⟨i / 2, by omega⟩
          rw [yvv (k2 j (by omega)).2, yvv (m2 j (by omega)).2, e2 j (by omega)]
/-- two codings differ: so do the texts -/
theorem Cod.dif {cd cd' : Int32} {n k : Nat} {f g : Nat → Int32} {V V' : Cell} (h : Cod cd n f V) (h' : Cod cd' k g V') (hne : ¬ cd = cd') : ¬ SameT n f k g := by
  rintro ⟨rfl, e⟩
  rcases h with ⟨rfl, -, k2⟩ | ⟨rfl, -, -, j, hj, hw⟩
  · rcases h' with ⟨rfl, -⟩ | ⟨-, -, -, j, hj, hw⟩
    · exact hne rfl
    · exact (k2 j hj).2 (by rw [e j hj]; exact hw)
  · rcases h' with ⟨-, -, m2⟩ | ⟨rfl, -⟩
    · exact (m2 j hj).2 (by rw [← e j hj]; exact hw)
    · exact hne rfl
/-- an object of exactly C is an instance of C -/
theorem cinst {p : Program} {l : Launch} {e : Env} {R : Room} {s : State} {m : MethodId} {args : Array Value} {below : List Frame} {meth : Method} {c : Code} {T : State} {locs : List Loc} {cells slots : Nat} (X : Stand p l e R s m args below meth c T locs cells slots) (hexec : p.tables.exec = Jvm.exec) {own C : String} {index : Nat} (hown : s.vm.findClass own = some m.cls) (hlink : (Cond.classLink own index C).before args s = true) {a : Addr} (hE : Exact C a T)
    {g : JFrame} (hg : g.method = m) {rest : List Value} (hstack : g.stack = .ref a :: rest) (hdg : decode c.code g.pc = .ok (.instanceof index, 3)) :
    ∃ T', Stand p l e R s m args below meth c T' locs cells slots ∧ T'.heap = T.heap ∧ ∀ target, Steps p.tables e below (T'.setTop { g with pc := g.pc + 3, stack := .int 1 :: rest }) target → Steps p.tables e below (T.setTop g) target := by
  obtain ⟨cB, h1, D, h2, h3, h4⟩ := hE
  have h1' : s.vm.findClass C = some cB := by rw [← X.warmed.alike.findClass]; exact h1
  obtain ⟨vm', X', st⟩ := X.instanceofYes hexec hown hlink h2 h4 h1' (by rw [h3]; exact Jvm.Free.SB.assignable_self _ _) hg hstack hdg
  exact ⟨_, X', rfl, st⟩
theorem cself {p : Program} {l : Launch} {e : Env} {R : Room} {s : State} {m : MethodId} {args : Array Value} {below : List Frame} {meth : Method} {c : Code} {T : State} {locs : List Loc} {cells slots : Nat} (X : Stand p l e R s m args below meth c T locs cells slots) (hexec : p.tables.exec = Jvm.exec) {own C : String} {index : Nat} (hown : s.vm.findClass own = some m.cls) (hlink : (Cond.classLink own index C).before args s = true) {a : Addr} (hE : Exact C a T)
    {g : JFrame} (hg : g.method = m) {rest : List Value} (hstack : g.stack = .ref a :: rest) (hdg : decode c.code g.pc = .ok (.checkcast index, 3)) :
    ∃ T', Stand p l e R s m args below meth c T' locs cells slots ∧ T'.heap = T.heap ∧ ∀ target, Steps p.tables e below (T'.setTop { g with pc := g.pc + 3, stack := .ref a :: rest }) target → Steps p.tables e below (T.setTop g) target := by
  obtain ⟨cB, h1, D, h2, h3, h4⟩ := hE
  have h1' : s.vm.findClass C = some cB := by rw [← X.warmed.alike.findClass]; exact h1
  obtain ⟨vm', X', st⟩ := X.checkcastYes hexec hown hlink h2 h4 h1' (by rw [h3]; exact Jvm.Free.SB.assignable_self _ _) hg hstack hdg
  exact ⟨_, X', rfl, fun t h => st t (by rw [← hstack] at h; exact h)⟩
namespace SEq
def yN : MethodName := ⟨"java/lang/String", "equals", "(Ljava/lang/Object;)Z"⟩
abbrev yB : ByteArray := jdk_42_method_66_code
theorem d0 : decode yB 0 = .ok (.aload_n 0, 1) := by decide +kernel
theorem d1 : decode yB 1 = .ok (.aload_n 1, 1) := by decide +kernel
theorem d2 : decode yB 2 = .ok (.if_acmp (.ne) 5, 3) := by decide +kernel
theorem d5 : decode yB 5 = .ok (.iconst 1, 1) := by decide +kernel
theorem d6 : decode yB 6 = .ok (.ireturn, 1) := by decide +kernel
theorem d7 : decode yB 7 = .ok (.aload_n 1, 1) := by decide +kernel
theorem d8 : decode yB 8 = .ok (.instanceof 10, 3) := by decide +kernel
theorem d11 : decode yB 11 = .ok (.ifCond (.eq) 43, 3) := by decide +kernel
theorem d14 : decode yB 14 = .ok (.aload_n 1, 1) := by decide +kernel
theorem d15 : decode yB 15 = .ok (.checkcast 10, 3) := by decide +kernel
theorem d18 : decode yB 18 = .ok (.astore_n 2, 1) := by decide +kernel
theorem d19 : decode yB 19 = .ok (.getstatic 38, 3) := by decide +kernel
theorem d22 : decode yB 22 = .ok (.ifCond (.eq) 14, 3) := by decide +kernel
theorem d25 : decode yB 25 = .ok (.aload_n 0, 1) := by decide +kernel
theorem d26 : decode yB 26 = .ok (.getfield 15, 3) := by decide +kernel
theorem d29 : decode yB 29 = .ok (.aload_n 2, 1) := by decide +kernel
theorem d30 : decode yB 30 = .ok (.getfield 15, 3) := by decide +kernel
theorem d33 : decode yB 33 = .ok (.if_icmp (.ne) 21, 3) := by decide +kernel
theorem d36 : decode yB 36 = .ok (.aload_n 0, 1) := by decide +kernel
theorem d37 : decode yB 37 = .ok (.getfield 9, 3) := by decide +kernel
theorem d40 : decode yB 40 = .ok (.aload_n 2, 1) := by decide +kernel
theorem d41 : decode yB 41 = .ok (.getfield 9, 3) := by decide +kernel
theorem d44 : decode yB 44 = .ok (.invokestatic 541, 3) := by decide +kernel
theorem d47 : decode yB 47 = .ok (.ifCond (.eq) 7, 3) := by decide +kernel
theorem d50 : decode yB 50 = .ok (.iconst 1, 1) := by decide +kernel
theorem d51 : decode yB 51 = .ok (.goto 4, 3) := by decide +kernel
theorem d54 : decode yB 54 = .ok (.iconst 0, 1) := by decide +kernel
theorem d55 : decode yB 55 = .ok (.ireturn, 1) := by decide +kernel
def site : List Cond := [.classLink "java/lang/String" 10 "java/lang/String", .fieldLink "java/lang/String" 38 "java/lang/String" "COMPACT_STRINGS" "Z", .fieldLink "java/lang/String" 15 "java/lang/String" "coder" "B", .fieldLink "java/lang/String" 9 "java/lang/String" "value" "[B", LEq.tab] ++ staticW "java/lang/String" 541 LEq.yN
def tab : Cond := tabOf yN yB 3 (some .boolean) site
def P (x t : Addr) (V : Cell) (cd : Int32) (n : Nat) (f : Nat → Int32) (y t' : Addr) (V' : Cell) (cd' : Int32) (k : Nat) (g : Nat → Int32) (z : Int32) (args : Array Value) (s : State) : Prop := args = #[.ref x, .ref y] ∧ Txt x t V cd n f s ∧ Txt y t' V' cd' k g s ∧ StaticIs s "java/lang/String" "COMPACT_STRINGS" "Z" (.int z) ∧ ¬ z = 0
/-- equals(Object) of two Strings: whether the texts are the same -/
theorem law (l : Launch) (x t : Addr) (V : Cell) (cd : Int32) (n : Nat) (f : Nat → Int32) (y t' : Addr) (V' : Cell) (cd' : Int32) (k : Nat) (g : Nat → Int32) (z : Int32) : Law l yN 2 1 1 14 yB 3 (some .boolean) site (P x t V cd n f y t' V' cd' k g z) (Says01 (SameT n f k g)) [] 0 0 := by
  refine Law.of_walk (plainFor_of_name (by decide +kernel)) (by decide +kernel) (by decide +kernel) (by decide) (fun _ _ h => by rw [h.1]; rfl) (fun _ U U' hal hh h => ⟨h.1, h.2.1.mv hal hh, h.2.2.1.mv hal hh, h.2.2.2.1.there hal hh, h.2.2.2.2⟩) (fun r U U' V V' h1 hal h2 h => Says01.mv r U U' V V' h1 hal h2 h) ?_
  intro p e s m args below meth c s₁ X0 hexec hbytes hml hret hlk hnm hown hh0 W hP
  obtain ⟨rfl, hx, hy, s1, hz⟩ := hP
  have c1 : Steps p.tables e below (s₁.setTop (entryFrame m #[.ref x, .ref y] 3)) (s₁.setTop (mkF m 2 #[.val (.ref x), .val (.ref y), .unset] [.ref y, .ref x])) := Steps.trans (entry rfl) (by
    show Steps p.tables e below (s₁.setTop (mkF m 0 #[.val (.ref x), .val (.ref y), .unset] [])) _
    refine XS.aloadN X0.here hexec rfl (hb hbytes d0) rfl rfl ?_
    refine XS.aloadN X0.here hexec rfl (hb hbytes d1) rfl rfl ?_
    exact Steps.refl _)
  by_cases hxy : x = y
  · have c2 : Steps p.tables e below (s₁.setTop (entryFrame m #[.ref x, .ref y] 3)) (s₁.setTop (mkF m 6 #[.val (.ref x), .val (.ref y), .unset] [.int 1])) := c1.trans (by
      refine acmpNo X0.here hexec rfl (hb hbytes d2) rfl rfl rfl (by simp [acmp, hxy]) ?_
      refine iconstV X0.here hexec rfl 1 (hb hbytes d5) (by decide) ?_
      exact Steps.refl _)
    subst hxy
    have ec : cd = cd' := by
      obtain ⟨D, fd, a1, a2, a3⟩ := hx.2.2.1
      obtain ⟨D', fd', b1, b2, b3⟩ := hy.2.2.1
      cases a1.symm.trans b1
      obtain ⟨q1, q2, q3, q4⟩ := a2.1
      obtain ⟨r1, r2, r3, r4⟩ := b2.1
      cases q4.symm.trans r4
      cases a3.symm.trans b3; rfl
    have et : t = t' := by
      obtain ⟨D, fd, a1, a2, a3⟩ := hx.2.1
      obtain ⟨D', fd', b1, b2, b3⟩ := hy.2.1
      cases a1.symm.trans b1
      obtain ⟨q1, q2, q3, q4⟩ := a2.1
      obtain ⟨r1, r2, r3, r4⟩ := b2.1
      cases q4.symm.trans r4
      cases a3.symm.trans b3; rfl
    subst ec et
    have ev : V = V' := by cases hx.2.2.2.1.1.symm.trans hy.2.2.2.1.1; rfl
    subst ev
    have hs : SameT n f k g := (Cod.eqv hx.2.2.2.2.1 hy.2.2.2.2.1 hx.2.2.2.2.2 hy.2.2.2.2.2).mp ⟨rfl, fun _ _ => rfl⟩
    exact ⟨s₁, some (.int 1), _, _, _, X0, rfl, rfl, rfl, (fun h => by cases h), ⟨1, rfl, hh0, Or.inl ⟨rfl, hs⟩⟩, fun fs hl => c2.trans (X0.ireturnOut hexec hret rfl (Or.inr (Or.inl rfl)) (hb hbytes d6) hl)⟩
  · have c2 : Steps p.tables e below (s₁.setTop (entryFrame m #[.ref x, .ref y] 3)) (s₁.setTop (mkF m 8 #[.val (.ref x), .val (.ref y), .unset] [.ref y])) := c1.trans (by
      refine acmpYes X0.here hexec rfl (pc0 := 2) rfl (hb hbytes d2) rfl rfl rfl (by simp [acmp, hxy]) (by decide) rfl ?_
      refine XS.aloadN X0.here hexec rfl (hb hbytes d7) rfl rfl ?_
      exact Steps.refl _)
    obtain ⟨T3, X3, q3, st3⟩ := cinst X0 hexec hown (wk W (.classLink "java/lang/String" 10 "java/lang/String")) (hy.mv X0.warmed.alike hh0).1 (g := (mkF m 8 #[.val (.ref x), .val (.ref y), .unset] [.ref y])) rfl (rest := []) rfl (hb hbytes d8)
    have hh3 := q3.trans hh0
    have c4 : Steps p.tables e below (s₁.setTop (entryFrame m #[.ref x, .ref y] 3)) (T3.setTop (mkF m 15 #[.val (.ref x), .val (.ref y), .unset] [.ref y])) := (c2.trans (st3 _ (Steps.refl _))).trans (by
      refine XS.ifNo X3.here hexec rfl (hb hbytes d11) rfl (i0_eq_f (by decide)) ?_
      refine XS.aloadN X3.here hexec rfl (hb hbytes d14) rfl rfl ?_
      exact Steps.refl _)
    obtain ⟨T5, X5, q5, st5⟩ := cself X3 hexec hown (wk W (.classLink "java/lang/String" 10 "java/lang/String")) (hy.mv X3.warmed.alike hh3).1 (g := (mkF m 15 #[.val (.ref x), .val (.ref y), .unset] [.ref y])) rfl (rest := []) rfl (hb hbytes d15)
    have hh5 := q5.trans hh3
    have c6 : Steps p.tables e below (s₁.setTop (entryFrame m #[.ref x, .ref y] 3)) (T5.setTop (mkF m 19 #[.val (.ref x), .val (.ref y), .val (.ref y)] [])) := (c4.trans (st5 _ (Steps.refl _))).trans (by
      refine XS.astoreN X5.here hexec rfl (hb hbytes d18) rfl rfl rfl ?_
      exact Steps.refl _)
    obtain ⟨T7, X7, q7, st7⟩ := X5.sget hexec hown (wk W (.fieldLink "java/lang/String" 38 "java/lang/String" "COMPACT_STRINGS" "Z")) s1 (fun _ _ h => by rw [hh5]; exact h) (g := (mkF m 19 #[.val (.ref x), .val (.ref y), .val (.ref y)] [])) rfl (hb hbytes d19)
    have hh7 := q7.trans hh5
    have c8 : Steps p.tables e below (s₁.setTop (entryFrame m #[.ref x, .ref y] 3)) (T7.setTop (mkF m 26 #[.val (.ref x), .val (.ref y), .val (.ref y)] [.ref x])) := (c6.trans (st7 _ (Steps.refl _))).trans (by
      refine XS.ifNo X7.here hexec rfl (hb hbytes d22) rfl (i0_eq_f hz) ?_
      refine XS.aloadN X7.here hexec rfl (hb hbytes d25) rfl rfl ?_
      exact Steps.refl _)
    obtain ⟨T9, X9, q9, st9⟩ := X7.hget hexec hown (wk W (.fieldLink "java/lang/String" 15 "java/lang/String" "coder" "B")) (hx.mv X7.warmed.alike hh7).2.2.1 (g := (mkF m 26 #[.val (.ref x), .val (.ref y), .val (.ref y)] [.ref x])) rfl (rest := []) rfl (hb hbytes d26)
    have hh9 := q9.trans hh7
    have c10 : Steps p.tables e below (s₁.setTop (entryFrame m #[.ref x, .ref y] 3)) (T9.setTop (mkF m 30 #[.val (.ref x), .val (.ref y), .val (.ref y)] [.ref y, .int cd])) := (c8.trans (st9 _ (Steps.refl _))).trans (by
      refine XS.aloadN X9.here hexec rfl (hb hbytes d29) rfl rfl ?_
      exact Steps.refl _)
    obtain ⟨T11, X11, q11, st11⟩ := X9.hget hexec hown (wk W (.fieldLink "java/lang/String" 15 "java/lang/String" "coder" "B")) (hy.mv X9.warmed.alike hh9).2.2.1 (g := (mkF m 30 #[.val (.ref x), .val (.ref y), .val (.ref y)] [.ref y, .int cd])) rfl (rest := [.int cd]) rfl (hb hbytes d30)
    have hh11 := q11.trans hh9
    have c12 : Steps p.tables e below (s₁.setTop (entryFrame m #[.ref x, .ref y] 3)) (T11.setTop (mkF m 33 #[.val (.ref x), .val (.ref y), .val (.ref y)] [.int cd', .int cd])) := c10.trans (st11 _ (Steps.refl _))
    by_cases hcd : cd = cd'
    · subst hcd
      have c13 : Steps p.tables e below (s₁.setTop (entryFrame m #[.ref x, .ref y] 3)) (T11.setTop (mkF m 37 #[.val (.ref x), .val (.ref y), .val (.ref y)] [.ref x])) := c12.trans (by
        refine XS.icmpNo X11.here hexec rfl (hb hbytes d33) rfl (ii_ne_f rfl) ?_
        refine XS.aloadN X11.here hexec rfl (hb hbytes d36) rfl rfl ?_
        exact Steps.refl _)
      obtain ⟨T14, X14, q14, st14⟩ := X11.hget hexec hown (wk W (.fieldLink "java/lang/String" 9 "java/lang/String" "value" "[B")) (hx.mv X11.warmed.alike hh11).2.1 (g := (mkF m 37 #[.val (.ref x), .val (.ref y), .val (.ref y)] [.ref x])) rfl (rest := []) rfl (hb hbytes d37)
      have hh14 := q14.trans hh11
      have c15 : Steps p.tables e below (s₁.setTop (entryFrame m #[.ref x, .ref y] 3)) (T14.setTop (mkF m 41 #[.val (.ref x), .val (.ref y), .val (.ref y)] [.ref y, .ref t])) := (c13.trans (st14 _ (Steps.refl _))).trans (by
        refine XS.aloadN X14.here hexec rfl (hb hbytes d40) rfl rfl ?_
        exact Steps.refl _)
      obtain ⟨T16, X16, q16, st16⟩ := X14.hget hexec hown (wk W (.fieldLink "java/lang/String" 9 "java/lang/String" "value" "[B")) (hy.mv X14.warmed.alike hh14).2.1 (g := (mkF m 41 #[.val (.ref x), .val (.ref y), .val (.ref y)] [.ref y, .ref t])) rfl (rest := [.ref t]) rfl (hb hbytes d41)
      have hh16 := q16.trans hh14
      have c17 : Steps p.tables e below (s₁.setTop (entryFrame m #[.ref x, .ref y] 3)) (T16.setTop (mkF m 44 #[.val (.ref x), .val (.ref y), .val (.ref y)] [.ref t', .ref t])) := c15.trans (st16 _ (Steps.refl _))
      obtain ⟨v18, T18, X18, E18, g18⟩ := X16.callS hexec (LEq.law l t V t' V') hown (wks W (staticW "java/lang/String" 541 LEq.yN)) (wk W LEq.tab) (W := 0) (Nat.le_of_ble_eq_true rfl) (Nat.le_of_ble_eq_true rfl) (Nat.le_refl _) (Nat.le_refl _) (g := (mkF m 44 #[.val (.ref x), .val (.ref y), .val (.ref y)] [.ref t', .ref t])) rfl (by rw [hml]; rfl) c17 (argsL := [.ref t, .ref t']) (rest := []) rfl rfl (by show 2 * 0 + 0 ≤ _; decide) (hb hbytes d44) (⟨rfl, hx.2.2.2.1.mv X16.warmed.alike hh16, hx.2.2.2.2.1.ty, hy.2.2.2.1.mv X16.warmed.alike hh16, hy.2.2.2.2.1.ty⟩)
      obtain ⟨v, rfl, q18, hv⟩ := E18
      have iff := Cod.eqv hx.2.2.2.2.1 hy.2.2.2.2.1 hx.2.2.2.2.2 hy.2.2.2.2.2
      rcases hv with ⟨rfl, he⟩ | ⟨rfl, he⟩
      · have c19 : Steps p.tables e below (s₁.setTop (entryFrame m #[.ref x, .ref y] 3)) (T18.setTop (mkF m 55 #[.val (.ref x), .val (.ref y), .val (.ref y)] [.int 1])) := Steps.trans g18 (by
          refine XS.ifNo X18.here hexec rfl (hb hbytes d47) rfl (i0_eq_f (by decide)) ?_
          refine iconstV X18.here hexec rfl 1 (hb hbytes d50) (by decide) ?_
          refine XS.goto X18.here hexec rfl (pc0 := 51) rfl (hb hbytes d51) (by decide) rfl ?_
          exact Steps.refl _)
        exact ⟨T18, some (.int 1), _, _, _, X18, rfl, rfl, rfl, (fun h => by cases h), ⟨1, rfl, q18.trans hh16, Or.inl ⟨rfl, iff.mp he⟩⟩, fun fs hl => c19.trans (X18.ireturnOut hexec hret rfl (Or.inr (Or.inl rfl)) (hb hbytes d55) hl)⟩
      · have c19 : Steps p.tables e below (s₁.setTop (entryFrame m #[.ref x, .ref y] 3)) (T18.setTop (mkF m 55 #[.val (.ref x), .val (.ref y), .val (.ref y)] [.int 0])) := Steps.trans g18 (by
          refine XS.ifYes X18.here hexec rfl (pc0 := 47) rfl (hb hbytes d47) rfl (i0_eq_t rfl) (by decide) rfl ?_
          refine iconstV X18.here hexec rfl 0 (hb hbytes d54) (by decide) ?_
          exact Steps.refl _)
        exact ⟨T18, some (.int 0), _, _, _, X18, rfl, rfl, rfl, (fun h => by cases h), ⟨0, rfl, q18.trans hh16, Or.inr ⟨rfl, fun q => he (iff.mpr q)⟩⟩, fun fs hl => c19.trans (X18.ireturnOut hexec hret rfl (Or.inr (Or.inl rfl)) (hb hbytes d55) hl)⟩
    · have c13 : Steps p.tables e below (s₁.setTop (entryFrame m #[.ref x, .ref y] 3)) (T11.setTop (mkF m 55 #[.val (.ref x), .val (.ref y), .val (.ref y)] [.int 0])) := c12.trans (by
        refine XS.icmpYes X11.here hexec rfl (pc0 := 33) rfl (hb hbytes d33) rfl (ii_ne_t hcd) (by decide) rfl ?_
        refine iconstV X11.here hexec rfl 0 (hb hbytes d54) (by decide) ?_
        exact Steps.refl _)
      exact ⟨T11, some (.int 0), _, _, _, X11, rfl, rfl, rfl, (fun h => by cases h), ⟨0, rfl, hh11, Or.inr ⟨rfl, Cod.dif hx.2.2.2.2.1 hy.2.2.2.2.1 hcd⟩⟩, fun fs hl => c13.trans (X11.ireturnOut hexec hret rfl (Or.inr (Or.inl rfl)) (hb hbytes d55) hl)⟩
theorem pays {l : Launch} {R : Room} {p : Program} {e : Env} {below : List Frame} {s : State} {sargs : Array Value} {len W : Nat} (x t : Addr) (V : Cell) (cd : Int32) (n : Nat) (f : Nat → Int32) (y t' : Addr) (V' : Cell) (cd' : Int32) (k : Nat) (g : Nat → Int32) (z : Int32) (htab : tab.before sargs s = true) (hfr : 2 ≤ R.frames) (hlo : W + 28 ≤ R.locals) :
    Back l R p e below s sargs yN len W (fun A₁ a₁ => A₁.cells + 0 ≤ R.cells ∧ A₁.slots + 0 ≤ R.slots ∧ P x t V cd n f y t' V' cd' k g z a₁ A₁.U) (fun A₁ _ v₁ B₁ => Says01 (SameT n f k g) v₁ A₁.U B₁.U ∧ B₁.locs = A₁.locs ++ [] ∧ B₁.cells = A₁.cells + 0 ∧ B₁.slots = A₁.slots + 0) :=
  (law l x t V cd n f y t' V' cd' k g z).pays htab hfr (by omega)
end SEq
end StrChars
namespace StrChars.Road
open Jvm Sem ClassFile Op Lib Jvm.Stand Jvm.Free Jvm.Free.XT
open Jvm.Lib.Cold (StaticIs)
/-- the words of String.isEmpty() -/
abbrev wordsEmp : List Jvm.Cond := [.code Emp.yN Emp.yB 1 (some .boolean), .initialized ST, .fieldLink ST 9 ST "value" "[B"]
theorem tabEmp_of {a : Array Value} {s : State} (h : ∀ w ∈ wordsEmp, w.before a s = true) : Emp.tab.before a s = true := unparts (wk h (.code Emp.yN Emp.yB 1 (some .boolean))) (wks h (.initialized Emp.yN.cls :: Emp.site))
theorem movedEmp {Z s : State} {a0 args : Array Value} (hZ : Z.Warmed39 s.vm) (hw : ∀ d ∈ wordsEmp, d.before a0 Z = true) : ∀ d ∈ wordsEmp, d.before args s = true := fun d hd => by
  have t : ∀ d ∈ wordsEmp, (d.onTables && d.keepsFace) = true := by decide +kernel
  exact RoadKit.mv hZ (hw d hd) (t d hd)
/-- the words of String.equals(Object) -/
abbrev wordsEq : List Jvm.Cond := [.code SEq.yN SEq.yB 3 (some .boolean), .initialized ST, .classLink ST 10 ST, .fieldLink ST 38 ST "COMPACT_STRINGS" "Z", .fieldLink ST 15 ST "coder" "B", .fieldLink ST 9 ST "value" "[B", .methodLink ST 541 LEq.yN, .static LEq.yN, .code LEq.yN LEq.yB 3 (some .boolean), .initialized "java/lang/StringLatin1"]
theorem tabEq_of {a : Array Value} {s : State} (h : ∀ w ∈ wordsEq, w.before a s = true) : SEq.tab.before a s = true := by
  have hl : LEq.tab.before a s = true := unparts (wk h (.code LEq.yN LEq.yB 3 (some .boolean))) (wks h (.initialized LEq.yN.cls :: LEq.site))
  have q := consq hl h
  exact unparts (wk q (.code SEq.yN SEq.yB 3 (some .boolean))) (wks q (.initialized SEq.yN.cls :: SEq.site))
theorem movedEq {Z s : State} {a0 args : Array Value} (hZ : Z.Warmed39 s.vm) (hw : ∀ d ∈ wordsEq, d.before a0 Z = true) : ∀ d ∈ wordsEq, d.before args s = true := fun d hd => by
  have t : ∀ d ∈ wordsEq, (d.onTables && d.keepsFace) = true := by decide +kernel
  exact RoadKit.mv hZ (hw d hd) (t d hd)
/-- the road's facts of a String, as the laws ask it -/
theorem txt_of {Z U : State} {a0 : Array Value} {kI : Nat} (wi : (Jvm.Cond.instantiable ST kI).before a0 Z = true) (al : Z.vm.Alike U.vm) {x t : Addr} {kb : ClassId} {cs : List Int32} {cd N2 : Int32} {vs : List Value} (E : RoadKit.Exa Z U.heap x ST) (V : RoadKit.Fld Z U.heap x ST "value" "[B" (.ref t)) (C : RoadKit.Fld Z U.heap x ST "coder" "B" (.int cd)) (K : RoadKit.Arv Z U.heap t kb .byte N2 vs (.int 0)) (hc : CodA cs cd N2 vs) (hb : ∀ c ∈ cs, ¬ c < 0 ∧ ¬ (65535 : Int32) < c) (l2 : cs.length ≤ 4000) :
    ∃ A, Txt x t A cd cs.length (fun j => cs.getD j 0) U := by
  obtain ⟨A, K1, K2, K3, K4, K5, K6⟩ := K
  have hcod := hc.cod (by omega) K3 K5
  obtain ⟨D, fV, fC, hB, F1, F2, g1, g2, -, -⟩ := strObj wi al E V C
  exact ⟨A, ⟨_, hB.2.2.1, D, hB.1, rfl, by cases q : D.vm <;> first | rfl | exact absurd q (hB.2.1.2 _)⟩, Has.of hB F1 g1, Has.of hB F2 g2, ⟨K1.1, State.isArrayOf_alike al K1.2.1, K1.2.2, by rcases hcod with ⟨-, q, -⟩ | ⟨-, q, -⟩ <;> omega⟩, hcod, fun j hj => by
    have e : cs.getD j 0 = cs[j] := by simp [List.getD_eq_getElem?_getD, hj]
    show ¬ cs.getD j 0 < 0 ∧ ¬ 65535 < cs.getD j 0
    rw [e]; exact hb _ (List.getElem_mem _)⟩
theorem same_list (cs ds : List Int32) : SameT cs.length (fun j => cs.getD j 0) ds.length (fun j => ds.getD j 0) ↔ cs = ds := by
  constructor
  · rintro ⟨e, q⟩
    refine List.ext_getElem e fun j h1 h2 => ?_
    have := q j h1
    simpa [List.getD_eq_getElem?_getD, h1, h2] using this
  · rintro rfl
    exact ⟨rfl, fun _ _ => rfl⟩
/-- **isEmpty() OF SUCH A STRING** -/
theorem empW {p : Program} {l : Launch} {e : Env} {R : Room} {s : State} {args : Array Value} {below : List Frame} {len W : Nat} {Z : State} {a0 : Array Value} {h : Heap} (hZ : Z.Warmed39 s.vm) (hw : ∀ d ∈ wordsEmp, d.before a0 Z = true) {kI : Nat} (wi : (Jvm.Cond.instantiable ST kI).before a0 Z = true)
    {x t : Addr} {kb : ClassId} {cs : List Int32} {cd N2 : Int32} {vs : List Value} (E : RoadKit.Exa Z h x ST) (V : RoadKit.Fld Z h x ST "value" "[B" (.ref t)) (C : RoadKit.Fld Z h x ST "coder" "B" (.int cd)) (K : RoadKit.Arv Z h t kb .byte N2 vs (.int 0)) (hc : CodA cs cd N2 vs) (hb : ∀ c ∈ cs, ¬ c < 0 ∧ ¬ (65535 : Int32) < c) (l2 : cs.length ≤ 4000) (hfr : 1 ≤ R.frames) (hlo : W + 12 ≤ R.locals) :
    Back l R p e below s args (⟨"java/lang/String", "isEmpty", "()Z"⟩ : MethodName) len W (fun P a => a = #[.ref x] ∧ P.U.heap = h ∧ P.cells + 0 ≤ R.cells ∧ P.slots + 0 ≤ R.slots)
      (fun P _ v B => ∃ L, (v = some (.int (if cs.length = 0 then 1 else 0)) ∧ L = [] ∧ B.U.heap = h) ∧ B.locs = P.locs ++ L ∧ B.cells = P.cells + 0 ∧ B.slots = P.slots + 0) := by
  intro m meth c P g ig mk a X hg hsize hdg hW hn hp'
  obtain ⟨rfl, rfl, r1, r2⟩ := hp'
  have al : Z.vm.Alike P.U.vm := hZ.alike.trans X.warmed.alike
  obtain ⟨A, hx⟩ := txt_of wi al E V C K hc hb l2
  obtain ⟨v, B, X', ⟨⟨hv, hh⟩, hl, hk, hs⟩, st⟩ := Emp.pays x t A cd cs.length (fun j => cs.getD j 0) (tabEmp_of (movedEmp hZ hw)) hfr hlo m meth c P g ig mk _ X hg hsize hdg hW hn ⟨r1, r2, rfl, hx⟩
  exact ⟨v, B, X', ⟨[], ⟨hv, rfl, hh⟩, hl, hk, hs⟩, st⟩
/-- **equals(Object) OF TWO SUCH STRINGS**: 1 just where the chars are the same -/
theorem eqW {p : Program} {l : Launch} {e : Env} {R : Room} {s : State} {args : Array Value} {below : List Frame} {len W : Nat} {Z : State} {a0 : Array Value} {h : Heap} (hZ : Z.Warmed39 s.vm) (hw : ∀ d ∈ wordsEq, d.before a0 Z = true) {kI : Nat} (wi : (Jvm.Cond.instantiable ST kI).before a0 Z = true)
    {x t : Addr} {kb : ClassId} {cs : List Int32} {cd N2 : Int32} {vs : List Value} (E : RoadKit.Exa Z h x ST) (V : RoadKit.Fld Z h x ST "value" "[B" (.ref t)) (C : RoadKit.Fld Z h x ST "coder" "B" (.int cd)) (K : RoadKit.Arv Z h t kb .byte N2 vs (.int 0)) (hc : CodA cs cd N2 vs) (hb : ∀ c ∈ cs, ¬ c < 0 ∧ ¬ (65535 : Int32) < c) (l2 : cs.length ≤ 4000)
    {y t' : Addr} {kb' : ClassId} {ds : List Int32} {cd' N2' : Int32} {vs' : List Value} (E' : RoadKit.Exa Z h y ST) (V' : RoadKit.Fld Z h y ST "value" "[B" (.ref t')) (C' : RoadKit.Fld Z h y ST "coder" "B" (.int cd')) (K' : RoadKit.Arv Z h t' kb' .byte N2' vs' (.int 0)) (hc' : CodA ds cd' N2' vs') (hb' : ∀ c ∈ ds, ¬ c < 0 ∧ ¬ (65535 : Int32) < c) (l2' : ds.length ≤ 4000)
    {z : Int32} (S : RoadKit.Sta Z h ST "COMPACT_STRINGS" "Z" (.int z)) (hz : ¬ z = 0) (hfr : 2 ≤ R.frames) (hlo : W + 28 ≤ R.locals) :
    Back l R p e below s args (⟨"java/lang/String", "equals", "(Ljava/lang/Object;)Z"⟩ : MethodName) len W (fun P a => a = #[.ref x, .ref y] ∧ P.U.heap = h ∧ P.cells + 0 ≤ R.cells ∧ P.slots + 0 ≤ R.slots)
      (fun P _ v B => ∃ L, (((v = some (.int 1) ∧ cs = ds) ∨ (v = some (.int 0) ∧ ¬ cs = ds)) ∧ L = [] ∧ B.U.heap = h) ∧ B.locs = P.locs ++ L ∧ B.cells = P.cells + 0 ∧ B.slots = P.slots + 0) := by
  intro m meth c P g ig mk a X hg hsize hdg hW hn hp'
  obtain ⟨rfl, rfl, r1, r2⟩ := hp'
  have al : Z.vm.Alike P.U.vm := hZ.alike.trans X.warmed.alike
  obtain ⟨A, hx⟩ := txt_of wi al E V C K hc hb l2
  obtain ⟨A', hy⟩ := txt_of wi al E' V' C' K' hc' hb' l2'
  obtain ⟨v, B, X', ⟨⟨w, hv, hh, hq⟩, hl, hk, hs⟩, st⟩ := SEq.pays x t A cd cs.length (fun j => cs.getD j 0) y t' A' cd' ds.length (fun j => ds.getD j 0) z (tabEq_of (movedEq hZ hw)) hfr hlo m meth c P g ig mk _ X hg hsize hdg hW hn ⟨r1, r2, rfl, hx, hy, sta_is al S, hz⟩
  refine ⟨v, B, X', ⟨[], ⟨?_, rfl, hh⟩, hl, hk, hs⟩, st⟩
  rcases hq with ⟨rfl, q⟩ | ⟨rfl, q⟩
  · exact Or.inl ⟨hv, (same_list cs ds).mp q⟩
  · exact Or.inr ⟨hv, fun e => q ((same_list cs ds).mpr e)⟩
end StrChars.Road
namespace StrChars
open Jvm Sem ClassFile Op Lib Jvm.Stand Jvm.Free.XT Jvm.Free.ALB Jvm.Free.JM Jvm.Free
open Jvm.Lib.Cold (StaticIs)
namespace ChN
def yN : MethodName := ⟨"java/lang/String", "charAt", "(I)C"⟩
abbrev yB : ByteArray := jdk_42_method_56_code
theorem d0 : decode yB 0 = .ok (.aload_n 0, 1) := by decide +kernel
theorem d1 : decode yB 1 = .ok (.invokevirtual 492, 3) := by decide +kernel
theorem d4 : decode yB 4 = .ok (.ifCond (.eq) 12, 3) := by decide +kernel
theorem d7 : decode yB 7 = .ok (.aload_n 0, 1) := by decide +kernel
theorem d8 : decode yB 8 = .ok (.getfield 9, 3) := by decide +kernel
theorem d11 : decode yB 11 = .ok (.iload_n 1, 1) := by decide +kernel
theorem d12 : decode yB 12 = .ok (.invokestatic 495, 3) := by decide +kernel
theorem d15 : decode yB 15 = .ok (.ireturn, 1) := by decide +kernel
def site : List Cond := [.fieldLink "java/lang/String" 9 "java/lang/String" "value" "[B", IsL.tab, LChA.tab] ++ virtW "java/lang/String" 492 "java/lang/String" IsL.yN IsL.yN ++ staticW "java/lang/String" 495 LChA.yN
def tab : Cond := tabOf yN yB 2 (some .char) site
def P (x t : Addr) (V : Cell) (n : Nat) (f : Nat → Int32) (z : Int32) (fm : Value) (i : Nat) (args : Array Value) (s : State) : Prop := args = #[.ref x, .int (Int32.ofNat i)] ∧ Txt x t V 0 n f s ∧ i < n ∧ StaticIs s "java/lang/String" "COMPACT_STRINGS" "Z" (.int z) ∧ ¬ z = 0 ∧ StaticIs s "jdk/internal/util/Preconditions" "SIOOBE_FORMATTER" "Ljava/util/function/BiFunction;" fm ∧ fm.isRef = true
def E (f : Nat → Int32) (i : Nat) (r : Option Value) (s u : State) : Prop := XT.PureE (some (.int (f i))) r s u
/-- charAt(i) of a Latin-1 String of n chars, i < n: f i -/
theorem law (l : Launch) (x t : Addr) (V : Cell) (n : Nat) (f : Nat → Int32) (z : Int32) (fm : Value) (i : Nat) : Law l yN 2 1 3 40 yB 2 (some .char) site (P x t V n f z fm i) (E f i) [] 0 0 := by
  refine Law.of_walk (plainFor_of_name (by decide +kernel)) (by decide +kernel) (by decide +kernel) (by decide) (fun _ _ h => by rw [h.1]; rfl) (fun _ U U' hal hh h => ⟨h.1, h.2.1.mv hal hh, h.2.2.1, h.2.2.2.1.there hal hh, h.2.2.2.2.1, h.2.2.2.2.2.1.there hal hh, h.2.2.2.2.2.2⟩) (fun r U U' V V' h1 hal h2 h => XT.PureE.mv r U U' V V' h1 hal h2 h) ?_
  intro p e s m args below meth c s₁ X0 hexec hbytes hml hret hlk hnm hown hh0 W hP
  obtain ⟨rfl, hx, hi, s1, hz, s3, rf⟩ := hP
  have v31 := hx.2.2.2.1.2.2.2
  have hr := hx.2.2.2.2.2 i hi
  have hx0 := hx.mv X0.warmed.alike hh0
  have c1 : Steps p.tables e below (s₁.setTop (entryFrame m #[.ref x, .int (Int32.ofNat i)] 2)) (s₁.setTop (mkF m 1 #[.val (.ref x), .val (.int (Int32.ofNat i))] [.ref x])) := Steps.trans (entry rfl) (by
    show Steps p.tables e below (s₁.setTop (mkF m 0 #[.val (.ref x), .val (.int (Int32.ofNat i))] [])) _
    refine XS.aloadN X0.here hexec rfl (hb hbytes d0) rfl rfl ?_
    exact Steps.refl _)
  obtain ⟨v2, T2, X2, E2, g2⟩ := X0.callV hexec (IsL.law l x 0 z) hown (wks W (virtW "java/lang/String" 492 "java/lang/String" IsL.yN IsL.yN)) rfl (by decide) (wk W IsL.tab) (W := 0) (Nat.le_of_ble_eq_true rfl) (Nat.le_of_ble_eq_true rfl) (Nat.le_refl _) (Nat.le_refl _) (hx0.1.fc X0.warmed.alike) hx0.1.is (g := (mkF m 1 #[.val (.ref x), .val (.int (Int32.ofNat i))] [.ref x])) rfl (by rw [hml]; rfl) c1 (argsL := []) (rest := []) rfl rfl (by show 2 * 0 + 0 ≤ _; decide) (hb hbytes d1) (⟨rfl, hx0.2.2.1, hx.2.2.2.2.1.cd, s1.there X0.warmed.alike hh0, hz⟩)
  obtain ⟨rfl, q2⟩ := E2
  have hh2 := q2.trans hh0
  have hx2 := hx.mv X2.warmed.alike hh2
  obtain ⟨-, k1, k2⟩ | ⟨k0, -⟩ := hx.2.2.2.2.1
  · have c3 : Steps p.tables e below (s₁.setTop (entryFrame m #[.ref x, .int (Int32.ofNat i)] 2)) (T2.setTop (mkF m 8 #[.val (.ref x), .val (.int (Int32.ofNat i))] [.ref x])) := Steps.trans g2 (by
      refine XS.ifNo X2.here hexec rfl (hb hbytes d4) rfl (i0_eq_f (by decide)) ?_
      refine XS.aloadN X2.here hexec rfl (hb hbytes d7) rfl rfl ?_
      exact Steps.refl _)
    obtain ⟨T4, X4, q4, st4⟩ := X2.hget hexec hown (wk W (.fieldLink "java/lang/String" 9 "java/lang/String" "value" "[B")) hx2.2.1 (g := (mkF m 8 #[.val (.ref x), .val (.int (Int32.ofNat i))] [.ref x])) rfl (rest := []) rfl (hb hbytes d8)
    have hh4 := q4.trans hh2
    have c5 : Steps p.tables e below (s₁.setTop (entryFrame m #[.ref x, .int (Int32.ofNat i)] 2)) (T4.setTop (mkF m 12 #[.val (.ref x), .val (.int (Int32.ofNat i))] [.int (Int32.ofNat i), .ref t])) := (c3.trans (st4 _ (Steps.refl _))).trans (by
      refine XS.iloadN X4.here hexec rfl (hb hbytes d11) rfl ?_
      exact Steps.refl _)
    obtain ⟨v6, T6, X6, E6, g6⟩ := X4.callS hexec (LChA.law l t V i (lo8 (f i)) fm) hown (wks W (staticW "java/lang/String" 495 LChA.yN)) (wk W LChA.tab) (W := 0) (Nat.le_of_ble_eq_true rfl) (Nat.le_of_ble_eq_true rfl) (Nat.le_refl _) (Nat.le_refl _) (g := (mkF m 12 #[.val (.ref x), .val (.int (Int32.ofNat i))] [.int (Int32.ofNat i), .ref t])) rfl (by rw [hml]; rfl) c5 (argsL := [.ref t, .int (Int32.ofNat i)]) (rest := []) rfl rfl (by show 2 * 0 + 0 ≤ _; decide) (hb hbytes d12) (⟨rfl, hx.2.2.2.1.mv X4.warmed.alike hh4, (k2 i hi).1, s3.there X4.warmed.alike hh4, rf⟩)
    obtain ⟨rfl, q6⟩ := E6
    rw [chr8_lo8 hr.1 (k2 i hi).2] at g6
    exact ⟨T6, some (.int (f i)), _, _, _, X6, rfl, rfl, rfl, (fun h => by cases h), ⟨rfl, q6.trans hh4⟩, fun fs hl => Steps.trans g6 (X6.ireturnOut hexec hret (narrow_ch hr.1 hr.2) (Or.inr (Or.inr (Or.inr (Or.inl rfl)))) (hb hbytes d15) hl)⟩
  · exact absurd k0 (by decide)
theorem pays {l : Launch} {R : Room} {p : Program} {e : Env} {below : List Frame} {s : State} {sargs : Array Value} {len W : Nat} (x t : Addr) (V : Cell) (n : Nat) (f : Nat → Int32) (z : Int32) (fm : Value) (i : Nat) (htab : tab.before sargs s = true) (hfr : 4 ≤ R.frames) (hlo : W + 53 ≤ R.locals) :
    Back l R p e below s sargs yN len W (fun A₁ a₁ => A₁.cells + 0 ≤ R.cells ∧ A₁.slots + 0 ≤ R.slots ∧ P x t V n f z fm i a₁ A₁.U) (fun A₁ _ v₁ B₁ => E f i v₁ A₁.U B₁.U ∧ B₁.locs = A₁.locs ++ [] ∧ B₁.cells = A₁.cells + 0 ∧ B₁.slots = A₁.slots + 0) :=
  (law l x t V n f z fm i).pays htab hfr (by omega)
end ChN
end StrChars
namespace StrChars.Road
open Jvm Sem ClassFile Op Lib Jvm.Stand Jvm.Free Jvm.Free.XT
open Jvm.Lib.Cold (StaticIs)
/-- the words of String.charAt(int), the Latin-1 road alone -/
abbrev wordsChN : List Jvm.Cond := [.code ChN.yN ChN.yB 2 (some .char), .initialized ST, .fieldLink ST 9 ST "value" "[B", .fieldLink ST 38 ST "COMPACT_STRINGS" "Z", .fieldLink ST 15 ST "coder" "B", .code IsL.yN IsL.yB 1 (some .boolean), .methodLink ST 492 IsL.yN, .declares IsL.yN, .selects ST IsL.yN IsL.yN, .instanceMethod IsL.yN,
  .methodLink ST 495 LChA.yN, .static LChA.yN, .code LChA.yN LChA.yB 2 (some .char), .initialized "java/lang/StringLatin1", .methodLink "java/lang/StringLatin1" 9 JO.Str_checkIndex.yN, .static JO.Str_checkIndex.yN, .code JO.Str_checkIndex.yN JO.Str_checkIndex.yB 2 none,
  .fieldLink ST 1053 "jdk/internal/util/Preconditions" "SIOOBE_FORMATTER" "Ljava/util/function/BiFunction;", .methodLink ST 1059 JC.PreCheck.yN, .static JC.PreCheck.yN, .code JC.PreCheck.yN JC.PreCheck.yB 3 (some .int), .initialized "jdk/internal/util/Preconditions"]
theorem tabChN_of {a : Array Value} {s : State} (h : ∀ w ∈ wordsChN, w.before a s = true) : ChN.tab.before a s = true := by
  have hp : JC.PreCheck.tab.before a s = true := unparts (wk h (.code JC.PreCheck.yN JC.PreCheck.yB 3 (some .int))) (wks h (.initialized JC.PreCheck.yN.cls :: JC.PreCheck.site))
  have qk := consq hp h
  have hk : JO.Str_checkIndex.tab.before a s = true := unparts (wk qk (.code JO.Str_checkIndex.yN JO.Str_checkIndex.yB 2 none)) (wks qk (.initialized JO.Str_checkIndex.yN.cls :: JO.Str_checkIndex.site))
  have ql := consq hk h
  have hl : LChA.tab.before a s = true := unparts (wk ql (.code LChA.yN LChA.yB 2 (some .char))) (wks ql (.initialized LChA.yN.cls :: LChA.site))
  have hi : IsL.tab.before a s = true := unparts (wk h (.code IsL.yN IsL.yB 1 (some .boolean))) (wks h (.initialized IsL.yN.cls :: IsL.site))
  have q := consq hi (consq hl h)
  exact unparts (wk q (.code ChN.yN ChN.yB 2 (some .char))) (wks q (.initialized ChN.yN.cls :: ChN.site))
theorem movedChN {Z s : State} {a0 args : Array Value} (hZ : Z.Warmed39 s.vm) (hw : ∀ d ∈ wordsChN, d.before a0 Z = true) : ∀ d ∈ wordsChN, d.before args s = true := fun d hd => by
  have t : ∀ d ∈ wordsChN, (d.onTables && d.keepsFace) = true := by decide +kernel
  exact RoadKit.mv hZ (hw d hd) (t d hd)
/-- **charAt(i) OF A LATIN-1 STRING**, i < n: the char -/
theorem chN {p : Program} {l : Launch} {e : Env} {R : Room} {s : State} {args : Array Value} {below : List Frame} {len W : Nat} {Z : State} {a0 : Array Value} {h : Heap} (hZ : Z.Warmed39 s.vm) (hw : ∀ d ∈ wordsChN, d.before a0 Z = true) {kI : Nat} (wi : (Jvm.Cond.instantiable ST kI).before a0 Z = true)
    {x t : Addr} {kb : ClassId} {cs : List Int32} {N2 z : Int32} {vs : List Value} {fm : Value} {i : Nat} {j : Int32} (E : RoadKit.Exa Z h x ST) (V : RoadKit.Fld Z h x ST "value" "[B" (.ref t)) (C : RoadKit.Fld Z h x ST "coder" "B" (.int 0)) (K : RoadKit.Arv Z h t kb .byte N2 vs (.int 0)) (hc : CodA cs 0 N2 vs) (hb : ∀ c ∈ cs, ¬ c < 0 ∧ ¬ (65535 : Int32) < c)
    (S : RoadKit.Sta Z h ST "COMPACT_STRINGS" "Z" (.int z)) (hz : ¬ z = 0) (F : RoadKit.Sta Z h "jdk/internal/util/Preconditions" "SIOOBE_FORMATTER" "Ljava/util/function/BiFunction;" fm) (rf : fm.isRef = true) (l2 : cs.length ≤ 4000) (hi : i < cs.length) (hj : j = Int32.ofNat i) (hfr : 4 ≤ R.frames) (hlo : W + 53 ≤ R.locals) :
    Back l R p e below s args (⟨"java/lang/String", "charAt", "(I)C"⟩ : MethodName) len W (fun P a => a = #[.ref x, .int j] ∧ P.U.heap = h ∧ P.cells + 0 ≤ R.cells ∧ P.slots + 0 ≤ R.slots)
      (fun P _ v B => ∃ L, (v = some (.int (cs.getD i 0)) ∧ L = [] ∧ B.U.heap = h) ∧ B.locs = P.locs ++ L ∧ B.cells = P.cells + 0 ∧ B.slots = P.slots + 0) := by
  subst hj
  intro m meth c P g ig mk a X hg hsize hdg hW hn hp'
  obtain ⟨rfl, rfl, r1, r2⟩ := hp'
  have al : Z.vm.Alike P.U.vm := hZ.alike.trans X.warmed.alike
  obtain ⟨A, hx⟩ := txt_of wi al E V C K hc hb l2
  obtain ⟨v, B, X', ⟨⟨hv, hh⟩, hl, hk, hs⟩, st⟩ := ChN.pays x t A cs.length (fun j => cs.getD j 0) z fm i (tabChN_of (movedChN hZ hw)) hfr hlo m meth c P g ig mk _ X hg hsize hdg hW hn ⟨r1, r2, rfl, hx, hi, sta_is al S, hz, sta_is al F, rf⟩
  exact ⟨v, B, X', ⟨[], ⟨hv, rfl, hh⟩, hl, hk, hs⟩, st⟩
/-- what backV says of its String, as the contracts of this text ask it: cs's low bytes, coder 0 -/
theorem codOf {cs : List Int32} {n : Nat} (hn : cs.length = n) (hb : ∀ c ∈ cs, ¬ 255 < c) : CodA cs 0 (Int32.ofNat n) ((cs.map lo8).map Value.int) := Or.inl ⟨rfl, by rw [hn], by simp [List.map_map, Function.comp_def], hb⟩
end StrChars.Road
end Jvm.Pilot.@@N@@
namespace Jvm.Pilot.@@N@@
open Jvm Jvm.ClassFile Sem Op Lib Jvm.Free Jvm.Stand Jvm.LawKit Jvm.RoadKit Bundle Jvm.Pilot.@@N@@.Jvm.D
theorem tw {a0 : Array Value} {Z : State} (hw : ∀ d ∈ tables_1, d.before a0 Z = true) (i : Nat) {d : Jvm.Cond} (h : tables_1[i]? = some d) : d.before a0 Z = true := hw d (List.mem_of_getElem? h)
theorem pn_com_example_groupwright_groupwright_core_ShareId : plainName "com/example/groupwright/groupwright/core/ShareId" = true := by first | (simp [plainName, overriddenIn]; done) | decide +kernel
theorem pn_com_example_groupwright_groupwright_core_ShareIdOfPinLaw : plainName "com/example/groupwright/groupwright/core/ShareIdOfPinLaw" = true := by first | (simp [plainName, overriddenIn]; done) | decide +kernel
theorem pn_java_lang_String : plainName "java/lang/String" = true := by first | (simp [plainName, overriddenIn]; done) | decide +kernel
theorem pn_java_lang_StringLatin1 : plainName "java/lang/StringLatin1" = true := by first | (simp [plainName, overriddenIn]; done) | decide +kernel
theorem pn_jdk_internal_util_ArraysSupport : plainName "jdk/internal/util/ArraysSupport" = true := by first | (simp [plainName, overriddenIn]; done) | decide +kernel
theorem pd___C_V : parseMethodDescriptor "([C)V" = some ⟨[(.array .char)], none⟩ := by decide +kernel
theorem pd___Z : parseMethodDescriptor "()Z" = some ⟨[], some .boolean⟩ := by decide +kernel
theorem pd___I : parseMethodDescriptor "()I" = some ⟨[], some .int⟩ := by decide +kernel
theorem pd__Ljava_lang_String__V : parseMethodDescriptor "(Ljava/lang/String;)V" = some ⟨[(.object "java/lang/String")], none⟩ := by decide +kernel
theorem pd__I_C : parseMethodDescriptor "(I)C" = some ⟨[.int], some .char⟩ := by decide +kernel
theorem pd__Ljava_lang_Object__Z : parseMethodDescriptor "(Ljava/lang/Object;)Z" = some ⟨[(.object "java/lang/Object")], some .boolean⟩ := by decide +kernel
theorem pd__I_BII_I : parseMethodDescriptor "(I[BII)I" = some ⟨[.int, (.array .byte), .int, .int], some .int⟩ := by decide +kernel
theorem pd__Ljava_lang_Object_IIII_I : parseMethodDescriptor "(Ljava/lang/Object;IIII)I" = some ⟨[(.object "java/lang/Object"), .int, .int, .int, .int], some .int⟩ := by decide +kernel
theorem pd___B_I : parseMethodDescriptor "([B)I" = some ⟨[(.array .byte)], some .int⟩ := by decide +kernel
theorem pd__ICCCC_Ljava_lang_String_ : parseMethodDescriptor "(ICCCC)Ljava/lang/String;" = some ⟨[.int, .char, .char, .char, .char], some (.object "java/lang/String")⟩ := by decide +kernel
theorem pd__Ljava_lang_String__Lcom_example_groupwright_groupwright_core_ShareId_ : parseMethodDescriptor "(Ljava/lang/String;)Lcom/example/groupwright/groupwright/core/ShareId;" = some ⟨[(.object "java/lang/String")], some (.object "com/example/groupwright/groupwright/core/ShareId")⟩ := by decide +kernel
theorem pd___Ljava_lang_String_ : parseMethodDescriptor "()Ljava/lang/String;" = some ⟨[], some (.object "java/lang/String")⟩ := by decide +kernel
theorem pd__JI_C : parseMethodDescriptor "(JI)C" = some ⟨[.long, .int], some .char⟩ := by decide +kernel
theorem sm256 {c : Int32} (h0 : ¬ c < 0) (h1 : ¬ (255 : Int32) < c) : ∃ j : Fin 256, c = Int32.ofNat j.val := by
  rw [Int32.lt_iff_toInt_lt] at h0 h1
  have e0 : (0 : Int32).toInt = 0 := rfl
  have e1 : (255 : Int32).toInt = 255 := rfl
  refine ⟨⟨c.toInt.toNat, by omega⟩, ?_⟩
  apply Int32.toInt_inj.mp
  rw [Int32.toInt_ofNat_small (by show c.toInt.toNat < _; omega)]
  show c.toInt = ((c.toInt.toNat : Nat) : Int)
  omega
theorem nar_id {c : Int32} (h0 : ¬ c < 0) (h1 : ¬ (255 : Int32) < c) : nar .char c = c := by
  obtain ⟨j, rfl⟩ := sm256 h0 h1
  exact (by decide +kernel : ∀ j : Fin 256, nar .char (Int32.ofNat j.val) = Int32.ofNat j.val) j

section OwnHash
open Jvm.Free.XT StrChars.Road
def own_QH (Z : State) (x : Addr) (N : Int32) (bs : List Int32) (h : Heap) (n0 : Nat) (v : Option Value) (h' : Heap) (L : List Loc) : Prop := v = none ∧ Fr n0 L ∧ Keep h h' [x] ∧ Exa Z h' x "java/lang/String" ∧ Fld Z h' x "java/lang/String" "coder" "B" (.int 0) ∧
  ∃ (t : Addr) (kb : ClassId), n0 ≤ t ∧ h.size ≤ t ∧ ¬ t = x ∧ Fld Z h' x "java/lang/String" "value" "[B" (.ref t) ∧ Arv Z h' t kb .byte N (bs.map Value.int) (.int 0) ∧ Z.vm.findClass "[B" = some kb ∧
  ∀ (O n d : String) (w : Value), Fld Z h x O n d w → Jvm.RoadKit.slotOf Z O n d ≠ Jvm.RoadKit.slotOf Z "java/lang/String" "value" "[B" → Jvm.RoadKit.slotOf Z O n d ≠ Jvm.RoadKit.slotOf Z "java/lang/String" "coder" "B" → Fld Z h' x O n d w
theorem own_backH {p : Program} {l : Launch} {e : Env} {R : Room} {s : State} {args : Array Value} {below : List Frame} {len W : Nat} {Z : State} {a0 : Array Value} {h : Heap} (hZ : Z.Warmed39 s.vm) (hw : ∀ d ∈ StrChars.Road.words, d.before a0 Z = true) {kI : Nat} (wi : (Jvm.Cond.instantiable "java/lang/String" kI).before a0 Z = true)
    {x b : Addr} {kC : ClassId} {cs bs : List Int32} {d v0 c0 : Value} {z N : Int32} {n n0 : Nat} (hx0 : n0 ≤ x) (hh0 : n0 ≤ h.size) (E : Exa Z h x "java/lang/String") (V : Fld Z h x "java/lang/String" "value" "[B" v0) (C : Fld Z h x "java/lang/String" "coder" "B" c0) (K : Arv Z h b kC .char N (cs.map Value.int) d) (S : Sta Z h "java/lang/String" "COMPACT_STRINGS" "Z" (.int z)) (hz : ¬ z = 0)
    (hn : cs.length = n) (hN : N = Int32.ofNat n) (l0 : 0 < n) (l2 : n ≤ 4000) (hp : ∀ c ∈ cs, ¬ c < 0 ∧ ¬ (255 : Int32) < c) (hb : bs = cs.map (fun c => c.toInt8.toInt32)) (hfr : 4 ≤ R.frames) (hlo : W + 65 ≤ R.locals) :
    Back l R p e below s args (⟨"java/lang/String", "<init>", "([C)V"⟩ : MethodName) len W (fun P a => a = #[.ref x, .ref b] ∧ P.U.heap = h ∧ P.cells + 1 ≤ R.cells ∧ P.slots + n ≤ R.slots)
      (fun P _ v B => ∃ L, own_QH Z x N bs h n0 v B.U.heap L ∧ B.locs = P.locs ++ L ∧ B.cells = P.cells + 1 ∧ B.slots = P.slots + n) := by
  subst hn hN hb
  refine Back.mono (StrChars.Road.backArv hZ hw wi E V C K S hz (n32_cl (by omega)) l0 (by omega) (fun c hc => (hp c hc).2) hfr hlo) (fun P a hp => hp) (fun P a v B hp hq => ?_)
  obtain ⟨L, ⟨q1, q2, q3, q4, q5, q6, q7, ⟨kb, v1, v2⟩, q9⟩, hl, hc, hs⟩ := hq
  exact ⟨L, ⟨q1, fun y hy => by rw [q2 y hy]; exact hx0, q3, q5, q7, h.size, kb, hh0, Nat.le_refl _, Nat.ne_of_gt E.lt, q6, by rw [List.map_map]; exact v2, v1, q9⟩, hl, hc, hs⟩
theorem own_insB {Z : State} {h : Heap} {t : Addr} {k : ClassId} {n : Int32} {vs : List Value} {d : Value} (A : Arv Z h t k .byte n vs d) (hf : Z.vm.findClass "[B" = some k) : Ins Z h t "[B" true := by
  obtain ⟨c, ⟨a1, a2, -⟩, rfl, -⟩ := A
  refine ⟨c, c.cls, a1, hf, ?_⟩
  have e : c.vm.isStatics = false := by
    cases q : c.vm.isStatics with
    | false => rfl
    | true =>
      cases z : c.vm <;> rw [z] at q <;> first | (exact absurd z (a2.1 _)) | (exact absurd q (by decide)) | (cases q)
  simp [e, Vm.assignable_self]
/-- the hash of a Latin-1 string's bytes -/
def own_hs : Int32 → List Int32 → Int32
  | r, [] => r
  | r, c :: cs => own_hs ((31 : Int32) * r + (c.toInt8.toInt32 &&& (255 : Int32))) cs
def own_hc (cs : List Int32) : Int32 := if cs.length = 1 then ((cs.getD 0 0).toInt8.toInt32 &&& (255 : Int32)) else own_hs 0 cs
theorem own_hs_nil {r : Int32} {cs : List Int32} {i : Nat} (h : i = cs.length) : own_hs r (cs.drop i) = r := by rw [h, List.drop_length]; rfl
theorem own_hs_cons {r : Int32} {cs : List Int32} {i : Nat} (h : i < cs.length) : own_hs r (cs.drop i) = own_hs ((31 : Int32) * r + ((cs.getD i 0).toInt8.toInt32 &&& (255 : Int32))) (cs.drop (i + 1)) := by
  rw [List.drop_eq_getElem_cons h]
  have e : cs.getD i 0 = cs[i] := by simp [List.getD_eq_getElem?_getD, h]
  rw [e]; rfl
theorem own_sw1 {cs : List Int32} (h : cs.length = 1) : (#[((0 : Int), (26 : Int)), (1, 30)] : Array (Int × Int)).find? (fun z => z.1 == (Int32.ofNat cs.length).toInt) = some (1, 30) := by rw [h]; rfl
theorem own_sw2 {cs : List Int32} (h0 : ¬ cs.length = 0) (h1 : ¬ cs.length = 1) (h2 : cs.length ≤ 4000) : (#[((0 : Int), (26 : Int)), (1, 30)] : Array (Int × Int)).find? (fun z => z.1 == (Int32.ofNat cs.length).toInt) = none := by
  rw [n32_int (by omega), Array.find?_eq_none]
  intro z hz
  have hz' : z = (0, 26) ∨ z = (1, 30) := by simpa using hz
  rcases hz' with rfl | rfl
  · simp; omega
  · simp; omega
end OwnHash

abbrev own_cc (c : Int32) : Prop := ¬ c < 48 ∧ ¬ 57 < c
theorem own_and15 (x : Int64) : ∃ j : Fin 16, x &&& (15 : Int64) = Int64.ofNat j.val := by
  have h : (x &&& 15).toBitVec.toNat < 16 := by
    simp only [Int64.toBitVec_and, BitVec.toNat_and]
    exact Nat.lt_succ_of_le Nat.and_le_right
  refine ⟨⟨_, h⟩, ?_⟩
  apply Int64.toBitVec_inj.mp
  show _ = BitVec.ofNat 64 _
  rw [BitVec.ofNat_toNat]; simp
theorem own_dg (x : Int64) : own_cc (nar .char (((48 : Int32) + (((x &&& (15 : Int64)) - ((x &&& (15 : Int64)) / (10 : Int64)) * (10 : Int64)).toInt32)).toUInt32.toUInt16.toUInt32.toInt32)) := by
  obtain ⟨j, e⟩ := own_and15 x
  rw [e]
  exact (by decide +kernel : ∀ j : Fin 16, own_cc (nar .char (((48 : Int32) + ((Int64.ofNat j.val - (Int64.ofNat j.val / (10 : Int64)) * (10 : Int64)).toInt32)).toUInt32.toUInt16.toUInt32.toInt32))) j
theorem cc_rng {c : Int32} (h : own_cc c) : ¬ c < 0 ∧ ¬ (255 : Int32) < c := by
  obtain ⟨a, b⟩ := h
  simp only [Int32.lt_iff_toInt_lt] at a b ⊢
  have e0 : (0 : Int32).toInt = 0 := rfl
  have e1 : (255 : Int32).toInt = 255 := rfl
  have e2 : (48 : Int32).toInt = 48 := rfl
  have e3 : (57 : Int32).toInt = 57 := rfl
  omega
theorem cc_nar {c : Int32} (h : own_cc c) : own_cc (nar .char c) := by rw [nar_id (cc_rng h).1 (cc_rng h).2]; exact h
theorem own_ccl0 : ∀ c ∈ ([] : List Int32), own_cc c := fun _ q => nomatch q
theorem own_len {i n : Nat} (hi : i ≤ n) (hn : n ≤ 4) : (Int32.ofNat i < Int32.ofNat n) ↔ i < n := n32_lt (by omega) (by omega)
theorem own_get {cs : List Int32} (h : ∀ c ∈ cs, own_cc c) {i : Nat} (hi : i < cs.length) : own_cc (cs.getD i 0) := mem_get h hi
theorem wdNew {a0 : Array Value} {Z : State} (hw : ∀ d ∈ tables_1, d.before a0 Z = true) : ∀ d ∈ StrChars.Road.words, d.before a0 Z = true := fun d hd => hw d ((by decide +kernel : ∀ d ∈ StrChars.Road.words, d ∈ tables_1) d hd)
theorem wdLen {a0 : Array Value} {Z : State} (hw : ∀ d ∈ tables_1, d.before a0 Z = true) : ∀ d ∈ StrChars.Road.wordsLen, d.before a0 Z = true := fun d hd => hw d ((by decide +kernel : ∀ d ∈ StrChars.Road.wordsLen, d ∈ tables_1) d hd)
theorem wdCh {a0 : Array Value} {Z : State} (hw : ∀ d ∈ tables_1, d.before a0 Z = true) : ∀ d ∈ StrChars.Road.wordsChN, d.before a0 Z = true := fun d hd => hw d ((by decide +kernel : ∀ d ∈ StrChars.Road.wordsChN, d ∈ tables_1) d hd)
theorem wdEq {a0 : Array Value} {Z : State} (hw : ∀ d ∈ tables_1, d.before a0 Z = true) : ∀ d ∈ StrChars.Road.wordsEq, d.before a0 Z = true := fun d hd => hw d ((by decide +kernel : ∀ d ∈ StrChars.Road.wordsEq, d ∈ tables_1) d hd)
theorem wdEmp {a0 : Array Value} {Z : State} (hw : ∀ d ∈ tables_1, d.before a0 Z = true) : ∀ d ∈ StrChars.Road.wordsEmp, d.before a0 Z = true := fun d hd => hw d ((by decide +kernel : ∀ d ∈ StrChars.Road.wordsEmp, d ∈ tables_1) d hd)
theorem d1_0 : decode method_2_code 0 = .ok (.bipush 48, 2) := by decide +kernel
theorem d1_2 : decode method_2_code 2 = .ok (.lload_n 0, 1) := by decide +kernel
theorem d1_3 : decode method_2_code 3 = .ok (.iconst 4, 1) := by decide +kernel
theorem d1_4 : decode method_2_code 4 = .ok (.iload_n 2, 1) := by decide +kernel
theorem d1_5 : decode method_2_code 5 = .ok (.imul, 1) := by decide +kernel
theorem d1_6 : decode method_2_code 6 = .ok (.lushr, 1) := by decide +kernel
theorem d1_7 : decode method_2_code 7 = .ok (.ldc2_w 7, 3) := by decide +kernel
theorem d1_10 : decode method_2_code 10 = .ok (.land, 1) := by decide +kernel
theorem d1_11 : decode method_2_code 11 = .ok (.ldc2_w 9, 3) := by decide +kernel
theorem d1_14 : decode method_2_code 14 = .ok (.lrem, 1) := by decide +kernel
theorem d1_15 : decode method_2_code 15 = .ok (.l2i, 1) := by decide +kernel
theorem d1_16 : decode method_2_code 16 = .ok (.iadd, 1) := by decide +kernel
theorem d1_17 : decode method_2_code 17 = .ok (.i2c, 1) := by decide +kernel
theorem d1_18 : decode method_2_code 18 = .ok (.ireturn, 1) := by decide +kernel
theorem ef_dg (m : MethodId) (q : Int64) (i : Int32) : entryFrame m #[(.long q), (.int i)] 3 = mkF m 0 #[.val (.long q), .second, .val (.int i)] [] := by first | (simp [entryFrame, mkF, argsToLocals, Value.category]; done) | rfl
def Q_dg (Z : State) (q : Int64) (i : Int32) (h0 : Heap) (n0 : Nat) (v : Option Value) (h : Heap) (L : List Loc) : Prop := (∃ r : Int32, v = some (.int r) ∧ Fr n0 L ∧ h = h0 ∧ (own_cc r))
set_option maxRecDepth 65536 in
set_option maxHeartbeats 40000000 in
theorem rm_dg (l : Launch) (Z : State) (a0 : Array Value) (hw : ∀ d ∈ tables_1, d.before a0 Z = true) (ws : List Jvm.Cond) (q : Int64) (i : Int32) (h0 : Heap) (n0 : Nat) (Z0 : n0 ≤ h0.size) :
    MetFree l (⟨"com/example/groupwright/groupwright/core/ShareIdOfPinLaw", "digit", "(JI)C"⟩ : MethodName) (head1 (Jvm.Cond.code (⟨"com/example/groupwright/groupwright/core/ShareIdOfPinLaw", "digit", "(JI)C"⟩ : MethodName) method_2_code 3 (some .char) :: ws) ({ frames := 0, cells := 0, slots := 0, locals := 0 } : Room)) (fun aa U => aa = #[(.long q), (.int i)] ∧ Z.Warmed39 U.vm ∧ U.heap = h0) (fun _ _ _ _ _ => True) (fun _ U o U' => ∃ v L, o = .returned v ∧ Q_dg Z q i h0 n0 v U'.heap L ∧ FrameEnd U o U' L ({ frames := 0, cells := 0, slots := 0, locals := 0 } : Room).cells ({ frames := 0, cells := 0, slots := 0, locals := 0 } : Room).slots) := by
  refine MetFree.of_bodySF (plainFor_of_name pn_com_example_groupwright_groupwright_core_ShareIdOfPinLaw) hisR ?_
  intro p e s m args below meth c s₁ Bd hml0 hP hK
  obtain ⟨rfl, hZ, hh⟩ := hP
  have hx := Bd.exec
  have hby := Bd.bytes
  have hlk : meth.locks = false := BodyLoose.notSynchronized Bd
  have hml : c.maxLocals = 3 := hml0
  have hown : s.vm.findClass "com/example/groupwright/groupwright/core/ShareIdOfPinLaw" = some m.cls := findClass_of_methodNamed Bd.named
  have hnm := (name_of_methodNamed Bd.named Bd.method).1
  have X0 : Stand p l e ({ frames := 0, cells := 0, slots := 0, locals := 0 } : Room) s m #[(.long q), (.int i)] below meth c s₁ [] 0 0 := Stand.of_body Bd
  have e0 : s₁.heap = h0 := by rw [← hh, Bd.state]; rfl
  have N0 := Fr.nil n0
  show Gl p.tables e below (EndN s (Q_dg Z q i h0 n0) ({ frames := 0, cells := 0, slots := 0, locals := 0 } : Room).cells ({ frames := 0, cells := 0, slots := 0, locals := 0 } : Room).slots) _
  refine Gl.cast (ef_dg m q i) ?_
  show Gl p.tables e below _ (s₁.setTop (mkF m 0 #[.val (.long q), .second, .val (.int i)] []))
  refine Gl.st (fun _ kq => XS.bipush X0.here hx rfl (hb hby d1_0) kq) ?_
  show Gl p.tables e below _ (s₁.setTop (mkF m 2 #[.val (.long q), .second, .val (.int i)] [(.int 48)]))
  refine Gl.st (fun _ kq => XS.lloadN X0.here hx rfl (hb hby d1_2) rfl kq) ?_
  show Gl p.tables e below _ (s₁.setTop (mkF m 3 #[.val (.long q), .second, .val (.int i)] [(.long q), (.int 48)]))
  refine Gl.st (fun _ kq => XS.iconst X0.here hx rfl (hb hby d1_3) kq) ?_
  show Gl p.tables e below _ (s₁.setTop (mkF m 4 #[.val (.long q), .second, .val (.int i)] [(.int 4), (.long q), (.int 48)]))
  refine Gl.st (fun _ kq => XS.iloadN X0.here hx rfl (hb hby d1_4) rfl kq) ?_
  show Gl p.tables e below _ (s₁.setTop (mkF m 5 #[.val (.long q), .second, .val (.int i)] [(.int i), (.int 4), (.long q), (.int 48)]))
  refine Gl.st (fun _ kq => XS.imul X0.here hx rfl (hb hby d1_5) rfl kq) ?_
  show Gl p.tables e below _ (s₁.setTop (mkF m 6 #[.val (.long q), .second, .val (.int i)] [(.int ((4 : Int32) * i)), (.long q), (.int 48)]))
  refine Gl.st (fun _ kq => XS.lushr X0.here hx rfl (hb hby d1_6) rfl kq) ?_
  show Gl p.tables e below _ (s₁.setTop (mkF m 7 #[.val (.long q), .second, .val (.int i)] [(.long ((q.toUInt64 >>> (((4 : Int32) * i) &&& 0x3f).toInt64.toUInt64).toInt64)), (.int 48)]))
  refine Gl.st (fun _ kq => X0.ldc2Long hx hown (mvT hZ (tw hw 4 rfl)) (g := (mkF m 7 #[.val (.long q), .second, .val (.int i)] [(.long ((q.toUInt64 >>> (((4 : Int32) * i) &&& 0x3f).toInt64.toUInt64).toInt64)), (.int 48)])) rfl (hb hby d1_7) _ kq) ?_
  show Gl p.tables e below _ (s₁.setTop (mkF m 10 #[.val (.long q), .second, .val (.int i)] [(.long (15 : Int64)), (.long ((q.toUInt64 >>> (((4 : Int32) * i) &&& 0x3f).toInt64.toUInt64).toInt64)), (.int 48)]))
  refine Gl.st (fun _ kq => XS.land X0.here hx rfl (hb hby d1_10) rfl kq) ?_
  show Gl p.tables e below _ (s₁.setTop (mkF m 11 #[.val (.long q), .second, .val (.int i)] [(.long (((q.toUInt64 >>> (((4 : Int32) * i) &&& 0x3f).toInt64.toUInt64).toInt64) &&& (15 : Int64))), (.int 48)]))
  refine Gl.st (fun _ kq => X0.ldc2Long hx hown (mvT hZ (tw hw 5 rfl)) (g := (mkF m 11 #[.val (.long q), .second, .val (.int i)] [(.long (((q.toUInt64 >>> (((4 : Int32) * i) &&& 0x3f).toInt64.toUInt64).toInt64) &&& (15 : Int64))), (.int 48)])) rfl (hb hby d1_11) _ kq) ?_
  show Gl p.tables e below _ (s₁.setTop (mkF m 14 #[.val (.long q), .second, .val (.int i)] [(.long (10 : Int64)), (.long (((q.toUInt64 >>> (((4 : Int32) * i) &&& 0x3f).toInt64.toUInt64).toInt64) &&& (15 : Int64))), (.int 48)]))
  refine Gl.st (fun _ kq => XS.lrem X0.here hx rfl (hb hby d1_14) rfl (by decide) kq) ?_
  show Gl p.tables e below _ (s₁.setTop (mkF m 15 #[.val (.long q), .second, .val (.int i)] [(.long ((((q.toUInt64 >>> (((4 : Int32) * i) &&& 0x3f).toInt64.toUInt64).toInt64) &&& (15 : Int64)) - ((((q.toUInt64 >>> (((4 : Int32) * i) &&& 0x3f).toInt64.toUInt64).toInt64) &&& (15 : Int64)) / (10 : Int64)) * (10 : Int64))), (.int 48)]))
  refine Gl.st (fun _ kq => XS.l2i X0.here hx rfl (hb hby d1_15) rfl kq) ?_
  show Gl p.tables e below _ (s₁.setTop (mkF m 16 #[.val (.long q), .second, .val (.int i)] [(.int (((((q.toUInt64 >>> (((4 : Int32) * i) &&& 0x3f).toInt64.toUInt64).toInt64) &&& (15 : Int64)) - ((((q.toUInt64 >>> (((4 : Int32) * i) &&& 0x3f).toInt64.toUInt64).toInt64) &&& (15 : Int64)) / (10 : Int64)) * (10 : Int64)).toInt32)), (.int 48)]))
  refine Gl.st (fun _ kq => XS.iadd X0.here hx rfl (hb hby d1_16) rfl kq) ?_
  show Gl p.tables e below _ (s₁.setTop (mkF m 17 #[.val (.long q), .second, .val (.int i)] [(.int ((48 : Int32) + (((((q.toUInt64 >>> (((4 : Int32) * i) &&& 0x3f).toInt64.toUInt64).toInt64) &&& (15 : Int64)) - ((((q.toUInt64 >>> (((4 : Int32) * i) &&& 0x3f).toInt64.toUInt64).toInt64) &&& (15 : Int64)) / (10 : Int64)) * (10 : Int64)).toInt32)))]))
  refine Gl.st (fun _ kq => XS.i2c X0.here hx rfl (hb hby d1_17) rfl kq) ?_
  show Gl p.tables e below _ (s₁.setTop (mkF m 18 #[.val (.long q), .second, .val (.int i)] [(.int (((48 : Int32) + (((((q.toUInt64 >>> (((4 : Int32) * i) &&& 0x3f).toInt64.toUInt64).toInt64) &&& (15 : Int64)) - ((((q.toUInt64 >>> (((4 : Int32) * i) &&& 0x3f).toInt64.toUInt64).toInt64) &&& (15 : Int64)) / (10 : Int64)) * (10 : Int64)).toInt32)).toUInt32.toUInt16.toUInt32.toInt32))]))
  exact Gl.retN X0 hx (t := .char) Bd.returns (by simp) (hb hby d1_18) hlk (by decide) (by decide) (by rw [e0]; exact ⟨(nar .char (((48 : Int32) + (((((q.toUInt64 >>> (((4 : Int32) * i) &&& 0x3f).toInt64.toUInt64).toInt64) &&& (15 : Int64)) - ((((q.toUInt64 >>> (((4 : Int32) * i) &&& 0x3f).toInt64.toUInt64).toInt64) &&& (15 : Int64)) / (10 : Int64)) * (10 : Int64)).toInt32)).toUInt32.toUInt16.toUInt32.toInt32)), rfl, N0, rfl, (own_dg _)⟩)
theorem d2_0 : decode method_3_code 0 = .ok (.iload_n 0, 1) := by decide +kernel
theorem d2_1 : decode method_3_code 1 = .ok (.iconst 1, 1) := by decide +kernel
theorem d2_2 : decode method_3_code 2 = .ok (.if_icmp .ne 18, 3) := by decide +kernel
theorem d2_5 : decode method_3_code 5 = .ok (.new 11, 3) := by decide +kernel
theorem d2_8 : decode method_3_code 8 = .ok (.dup, 1) := by decide +kernel
theorem d2_9 : decode method_3_code 9 = .ok (.iconst 1, 1) := by decide +kernel
theorem d2_10 : decode method_3_code 10 = .ok (.newarray .char, 2) := by decide +kernel
theorem d2_12 : decode method_3_code 12 = .ok (.dup, 1) := by decide +kernel
theorem d2_13 : decode method_3_code 13 = .ok (.iconst 0, 1) := by decide +kernel
theorem d2_14 : decode method_3_code 14 = .ok (.iload_n 1, 1) := by decide +kernel
theorem d2_15 : decode method_3_code 15 = .ok (.castore, 1) := by decide +kernel
theorem d2_16 : decode method_3_code 16 = .ok (.invokespecial 13, 3) := by decide +kernel
theorem d2_19 : decode method_3_code 19 = .ok (.areturn, 1) := by decide +kernel
theorem d2_20 : decode method_3_code 20 = .ok (.iload_n 0, 1) := by decide +kernel
theorem d2_21 : decode method_3_code 21 = .ok (.iconst 2, 1) := by decide +kernel
theorem d2_22 : decode method_3_code 22 = .ok (.if_icmp .ne 22, 3) := by decide +kernel
theorem d2_25 : decode method_3_code 25 = .ok (.new 11, 3) := by decide +kernel
theorem d2_28 : decode method_3_code 28 = .ok (.dup, 1) := by decide +kernel
theorem d2_29 : decode method_3_code 29 = .ok (.iconst 2, 1) := by decide +kernel
theorem d2_30 : decode method_3_code 30 = .ok (.newarray .char, 2) := by decide +kernel
theorem d2_32 : decode method_3_code 32 = .ok (.dup, 1) := by decide +kernel
theorem d2_33 : decode method_3_code 33 = .ok (.iconst 0, 1) := by decide +kernel
theorem d2_34 : decode method_3_code 34 = .ok (.iload_n 1, 1) := by decide +kernel
theorem d2_35 : decode method_3_code 35 = .ok (.castore, 1) := by decide +kernel
theorem d2_36 : decode method_3_code 36 = .ok (.dup, 1) := by decide +kernel
theorem d2_37 : decode method_3_code 37 = .ok (.iconst 1, 1) := by decide +kernel
theorem d2_38 : decode method_3_code 38 = .ok (.iload_n 2, 1) := by decide +kernel
theorem d2_39 : decode method_3_code 39 = .ok (.castore, 1) := by decide +kernel
theorem d2_40 : decode method_3_code 40 = .ok (.invokespecial 13, 3) := by decide +kernel
theorem d2_43 : decode method_3_code 43 = .ok (.areturn, 1) := by decide +kernel
theorem d2_44 : decode method_3_code 44 = .ok (.iload_n 0, 1) := by decide +kernel
theorem d2_45 : decode method_3_code 45 = .ok (.iconst 3, 1) := by decide +kernel
theorem d2_46 : decode method_3_code 46 = .ok (.if_icmp .ne 26, 3) := by decide +kernel
theorem d2_49 : decode method_3_code 49 = .ok (.new 11, 3) := by decide +kernel
theorem d2_52 : decode method_3_code 52 = .ok (.dup, 1) := by decide +kernel
theorem d2_53 : decode method_3_code 53 = .ok (.iconst 3, 1) := by decide +kernel
theorem d2_54 : decode method_3_code 54 = .ok (.newarray .char, 2) := by decide +kernel
theorem d2_56 : decode method_3_code 56 = .ok (.dup, 1) := by decide +kernel
theorem d2_57 : decode method_3_code 57 = .ok (.iconst 0, 1) := by decide +kernel
theorem d2_58 : decode method_3_code 58 = .ok (.iload_n 1, 1) := by decide +kernel
theorem d2_59 : decode method_3_code 59 = .ok (.castore, 1) := by decide +kernel
theorem d2_60 : decode method_3_code 60 = .ok (.dup, 1) := by decide +kernel
theorem d2_61 : decode method_3_code 61 = .ok (.iconst 1, 1) := by decide +kernel
theorem d2_62 : decode method_3_code 62 = .ok (.iload_n 2, 1) := by decide +kernel
theorem d2_63 : decode method_3_code 63 = .ok (.castore, 1) := by decide +kernel
theorem d2_64 : decode method_3_code 64 = .ok (.dup, 1) := by decide +kernel
theorem d2_65 : decode method_3_code 65 = .ok (.iconst 2, 1) := by decide +kernel
theorem d2_66 : decode method_3_code 66 = .ok (.iload_n 3, 1) := by decide +kernel
theorem d2_67 : decode method_3_code 67 = .ok (.castore, 1) := by decide +kernel
theorem d2_68 : decode method_3_code 68 = .ok (.invokespecial 13, 3) := by decide +kernel
theorem d2_71 : decode method_3_code 71 = .ok (.areturn, 1) := by decide +kernel
theorem d2_72 : decode method_3_code 72 = .ok (.new 11, 3) := by decide +kernel
theorem d2_75 : decode method_3_code 75 = .ok (.dup, 1) := by decide +kernel
theorem d2_76 : decode method_3_code 76 = .ok (.iconst 4, 1) := by decide +kernel
theorem d2_77 : decode method_3_code 77 = .ok (.newarray .char, 2) := by decide +kernel
theorem d2_79 : decode method_3_code 79 = .ok (.dup, 1) := by decide +kernel
theorem d2_80 : decode method_3_code 80 = .ok (.iconst 0, 1) := by decide +kernel
theorem d2_81 : decode method_3_code 81 = .ok (.iload_n 1, 1) := by decide +kernel
theorem d2_82 : decode method_3_code 82 = .ok (.castore, 1) := by decide +kernel
theorem d2_83 : decode method_3_code 83 = .ok (.dup, 1) := by decide +kernel
theorem d2_84 : decode method_3_code 84 = .ok (.iconst 1, 1) := by decide +kernel
theorem d2_85 : decode method_3_code 85 = .ok (.iload_n 2, 1) := by decide +kernel
theorem d2_86 : decode method_3_code 86 = .ok (.castore, 1) := by decide +kernel
theorem d2_87 : decode method_3_code 87 = .ok (.dup, 1) := by decide +kernel
theorem d2_88 : decode method_3_code 88 = .ok (.iconst 2, 1) := by decide +kernel
theorem d2_89 : decode method_3_code 89 = .ok (.iload_n 3, 1) := by decide +kernel
theorem d2_90 : decode method_3_code 90 = .ok (.castore, 1) := by decide +kernel
theorem d2_91 : decode method_3_code 91 = .ok (.dup, 1) := by decide +kernel
theorem d2_92 : decode method_3_code 92 = .ok (.iconst 3, 1) := by decide +kernel
theorem d2_93 : decode method_3_code 93 = .ok (.iload 4, 2) := by decide +kernel
theorem d2_95 : decode method_3_code 95 = .ok (.castore, 1) := by decide +kernel
theorem d2_96 : decode method_3_code 96 = .ok (.invokespecial 13, 3) := by decide +kernel
theorem d2_99 : decode method_3_code 99 = .ok (.areturn, 1) := by decide +kernel
theorem ef_tx (m : MethodId) (n : Int32) (c0 : Int32) (c1 : Int32) (c2 : Int32) (c3 : Int32) : entryFrame m #[(.int n), (.int c0), (.int c1), (.int c2), (.int c3)] 5 = mkF m 0 #[.val (.int n), .val (.int c0), .val (.int c1), .val (.int c2), .val (.int c3)] [] := by first | (simp [entryFrame, mkF, argsToLocals, Value.category]; done) | rfl
def Q_tx (Z : State) (n : Int32) (c0 : Int32) (c1 : Int32) (c2 : Int32) (c3 : Int32) (G1 : Int32) (h0 : Heap) (n0 : Nat) (v : Option Value) (h : Heap) (L : List Loc) : Prop := (∃ b : Addr, ∃ t : Addr, ∃ k : ClassId, ∃ cs : List Int32, v = some (.ref b) ∧ Fr n0 L ∧ Keep h0 h [] ∧ Exa Z h b "java/lang/String" ∧ Fld Z h b "java/lang/String" "coder" "B" (.int 0) ∧ Fld Z h b "java/lang/String" "value" "[B" (.ref t) ∧ Arv Z h t k .byte (Int32.ofNat cs.length) ((cs.map (fun c => c.toInt8.toInt32)).map Value.int) (.int 0) ∧ Fld Z h b "java/lang/String" "hash" "I" (.int 0) ∧ Fld Z h b "java/lang/String" "hashIsZero" "Z" (.int 0) ∧ (∀ c ∈ cs, own_cc c) ∧ (¬ cs.length = 0) ∧ (cs.length ≤ 4) ∧ (Z.vm.findClass "[B" = some k) ∧ (h0.size ≤ b) ∧ (h0.size ≤ t) ∧ (t ≠ b))
set_option maxRecDepth 65536 in
set_option maxHeartbeats 40000000 in
theorem rm_tx (l : Launch) (Z : State) (a0 : Array Value) (hw : ∀ d ∈ tables_1, d.before a0 Z = true) (ws : List Jvm.Cond) (n : Int32) (c0 : Int32) (c1 : Int32) (c2 : Int32) (c3 : Int32) (G1 : Int32) (h0 : Heap) (n0 : Nat) (Z0 : n0 ≤ h0.size) (pf0 : Old Z n0 h0) (hq0 : own_cc c0) (hq1 : own_cc c1) (hq2 : own_cc c2) (hq3 : own_cc c3) (O2 : Sta Z Z.heap "java/lang/String" "COMPACT_STRINGS" "Z" (.int G1)) (P5 : ¬ (G1 = (0 : Int32))) :
    MetFree l (⟨"com/example/groupwright/groupwright/core/ShareIdOfPinLaw", "make", "(ICCCC)Ljava/lang/String;"⟩ : MethodName) (head1 (Jvm.Cond.code (⟨"com/example/groupwright/groupwright/core/ShareIdOfPinLaw", "make", "(ICCCC)Ljava/lang/String;"⟩ : MethodName) method_3_code 5 (some (.object "java/lang/String")) :: ws) ({ frames := 4, cells := 3, slots := 12, locals := 66 } : Room)) (fun aa U => aa = #[(.int n), (.int c0), (.int c1), (.int c2), (.int c3)] ∧ Z.Warmed39 U.vm ∧ U.heap = h0) (fun _ _ _ _ _ => True) (fun _ U o U' => ∃ v L, o = .returned v ∧ Q_tx Z n c0 c1 c2 c3 G1 h0 n0 v U'.heap L ∧ FrameEnd U o U' L ({ frames := 4, cells := 3, slots := 12, locals := 66 } : Room).cells ({ frames := 4, cells := 3, slots := 12, locals := 66 } : Room).slots) := by
  refine MetFree.of_bodySF (plainFor_of_name pn_com_example_groupwright_groupwright_core_ShareIdOfPinLaw) hisR ?_
  intro p e s m args below meth c s₁ Bd hml0 hP hK
  obtain ⟨rfl, hZ, hh⟩ := hP
  have hx := Bd.exec
  have hby := Bd.bytes
  have hlk : meth.locks = false := BodyLoose.notSynchronized Bd
  have hml : c.maxLocals = 5 := hml0
  have hown : s.vm.findClass "com/example/groupwright/groupwright/core/ShareIdOfPinLaw" = some m.cls := findClass_of_methodNamed Bd.named
  have hnm := (name_of_methodNamed Bd.named Bd.method).1
  have X0 : Stand p l e ({ frames := 4, cells := 3, slots := 12, locals := 66 } : Room) s m #[(.int n), (.int c0), (.int c1), (.int c2), (.int c3)] below meth c s₁ [] 0 0 := Stand.of_body Bd
  have e0 : s₁.heap = h0 := by rw [← hh, Bd.state]; rfl
  have N0 := Fr.nil n0
  show Gl p.tables e below (EndN s (Q_tx Z n c0 c1 c2 c3 G1 h0 n0) ({ frames := 4, cells := 3, slots := 12, locals := 66 } : Room).cells ({ frames := 4, cells := 3, slots := 12, locals := 66 } : Room).slots) _
  refine Gl.cast (ef_tx m n c0 c1 c2 c3) ?_
  show Gl p.tables e below _ (s₁.setTop (mkF m 0 #[.val (.int n), .val (.int c0), .val (.int c1), .val (.int c2), .val (.int c3)] []))
  refine Gl.st (fun _ kq => XS.iloadN X0.here hx rfl (hb hby d2_0) rfl kq) ?_
  show Gl p.tables e below _ (s₁.setTop (mkF m 1 #[.val (.int n), .val (.int c0), .val (.int c1), .val (.int c2), .val (.int c3)] [(.int n)]))
  refine Gl.st (fun _ kq => XS.iconst X0.here hx rfl (hb hby d2_1) kq) ?_
  show Gl p.tables e below _ (s₁.setTop (mkF m 2 #[.val (.int n), .val (.int c0), .val (.int c1), .val (.int c2), .val (.int c3)] [(.int 1), (.int n)]))
  by_cases hc1 : n = (1 : Int32)
  · refine Gl.st (fun _ kq => XS.icmpNo X0.here hx rfl (hb hby d2_2) rfl (teq (hc1 : n = (1 : Int32))).2 kq) ?_
    show Gl p.tables e below _ (s₁.setTop (mkF m 5 #[.val (.int n), .val (.int c0), .val (.int c1), .val (.int c2), .val (.int c3)] []))
    obtain ⟨T2, h2, X2, e2, E2, A2, D2, U2, st2⟩ := newO X0 hx hZ hown (tw hw 9 rfl) (tw hw 10 rfl) (tw hw 11 rfl) e0 (g := (mkF m 5 #[.val (.int n), .val (.int c0), .val (.int c1), .val (.int c2), .val (.int c3)] [])) rfl (hb hby d2_5) (by decide) (by decide)
    obtain ⟨b2, g2⟩ : ∃ z, z = h0.size := ⟨_, rfl⟩
    rw [← g2] at A2 D2 U2 st2
    refine Gl.st st2 ?_
    have g3 : n0 ≤ b2 := Nat.le_trans Z0 (Nat.le_of_eq g2.symm)
    have s4 : h0.size ≤ b2 := Nat.le_trans (Nat.le_refl _) (Nat.le_of_eq g2.symm)
    have F2_36 : Fld Z h2 b2 "java/lang/String" "coder" "B" (.int 0) := D2 (Or.inr (tw hw 36 rfl)) (ty := .byte) (by decide)
    have F2_38 : Fld Z h2 b2 "java/lang/String" "value" "[B" .null := D2 (Or.inr (tw hw 38 rfl)) (ty := (.array .byte)) (by decide)
    have F2_122 : Fld Z h2 b2 "java/lang/String" "hash" "I" (.int 0) := D2 (Or.inl (tw hw 122 rfl)) (ty := .int) (by decide)
    have F2_124 : Fld Z h2 b2 "java/lang/String" "hashIsZero" "Z" (.int 0) := D2 (Or.inl (tw hw 124 rfl)) (ty := .boolean) (by decide)
    show Gl p.tables e below _ (T2.setTop (mkF m 8 #[.val (.int n), .val (.int c0), .val (.int c1), .val (.int c2), .val (.int c3)] [(.ref b2)]))
    refine Gl.st (fun _ kq => XS.dup X2.here hx rfl (hb hby d2_8) rfl rfl kq) ?_
    show Gl p.tables e below _ (T2.setTop (mkF m 9 #[.val (.int n), .val (.int c0), .val (.int c1), .val (.int c2), .val (.int c3)] [(.ref b2), (.ref b2)]))
    refine Gl.st (fun _ kq => XS.iconst X2.here hx rfl (hb hby d2_9) kq) ?_
    show Gl p.tables e below _ (T2.setTop (mkF m 10 #[.val (.int n), .val (.int c0), .val (.int c1), .val (.int c2), .val (.int c3)] [(.int 1), (.ref b2), (.ref b2)]))
    obtain ⟨T5, h5, k5, X5, e5, E5, A5, st5⟩ := newP X2 hx hZ (tw hw 12 rfl) e2 (g := (mkF m 10 #[.val (.int n), .val (.int c0), .val (.int c1), .val (.int c2), .val (.int c3)] [(.int 1), (.ref b2), (.ref b2)])) rfl (hb hby d2_10) rfl (by decide) (cap := 1) (by decide) (by decide) (by decide) (by decide)
    obtain ⟨b5, g5⟩ : ∃ z, z = h2.size := ⟨_, rfl⟩
    rw [← g5] at A5 st5
    refine Gl.st st5 ?_
    have g6 : n0 ≤ b5 := Nat.le_trans (Nat.le_trans Z0 E2.1) (Nat.le_of_eq g5.symm)
    have s7 : h0.size ≤ b5 := Nat.le_trans (Nat.le_trans (Nat.le_refl _) E2.1) (Nat.le_of_eq g5.symm)
    have V5 : Arv Z h5 b5 k5 .char (1 : Int32) [(.int 0)] (.int 0) := (Arv.new A5 (by decide)).pad (pad_rep [] (.int 0) 1)
    show Gl p.tables e below _ (T5.setTop (mkF m 12 #[.val (.int n), .val (.int c0), .val (.int c1), .val (.int c2), .val (.int c3)] [(.ref b5), (.ref b2), (.ref b2)]))
    refine Gl.st (fun _ kq => XS.dup X5.here hx rfl (hb hby d2_12) rfl rfl kq) ?_
    show Gl p.tables e below _ (T5.setTop (mkF m 13 #[.val (.int n), .val (.int c0), .val (.int c1), .val (.int c2), .val (.int c3)] [(.ref b5), (.ref b5), (.ref b2), (.ref b2)]))
    refine Gl.st (fun _ kq => XS.iconst X5.here hx rfl (hb hby d2_13) kq) ?_
    show Gl p.tables e below _ (T5.setTop (mkF m 14 #[.val (.int n), .val (.int c0), .val (.int c1), .val (.int c2), .val (.int c3)] [(.int 0), (.ref b5), (.ref b5), (.ref b2), (.ref b2)]))
    refine Gl.st (fun _ kq => XS.iloadN X5.here hx rfl (hb hby d2_14) rfl kq) ?_
    show Gl p.tables e below _ (T5.setTop (mkF m 15 #[.val (.int n), .val (.int c0), .val (.int c1), .val (.int c2), .val (.int c3)] [(.int c0), (.int 0), (.ref b5), (.ref b5), (.ref b2), (.ref b2)]))
    obtain ⟨c8, a8, q8, S8, M8, H8, G8⟩ := id V5
    obtain ⟨T8, h8, X8, e8, W8, st8⟩ := stC X5 hx hZ e5 a8 (j := (0 : Int32)) (inb_of S8 ⟨by decide, by decide⟩) (g := (mkF m 15 #[.val (.int n), .val (.int c0), .val (.int c1), .val (.int c2), .val (.int c3)] [(.int c0), (.int 0), (.ref b5), (.ref b5), (.ref b2), (.ref b2)])) rfl rfl (hb hby d2_15)
    refine Gl.st st8 ?_
    have V8 : Arv Z h8 b5 k5 .char (1 : Int32) [(.int (nar .char c0))] (.int 0) := Arv.set a8 q8 S8 M8 H8 G8 (fits_nar_char _) W8 0 rfl (Nat.le_of_ble_eq_true rfl)
    have N8 := Fr.snoc X8 N0 g6
    show Gl p.tables e below _ (T8.setTop (mkF m 16 #[.val (.int n), .val (.int c0), .val (.int c1), .val (.int c2), .val (.int c3)] [(.ref b5), (.ref b2), (.ref b2)]))
    have f9 : Exa Z h8 b2 "java/lang/String" := ((A2.ext E5).wr W8)
    have ne10 : b2 ≠ b5 := Nat.ne_of_lt (Nat.lt_of_lt_of_le A2.lt (Nat.le_of_eq g5.symm))
    have f11 : Fld Z h8 b2 "java/lang/String" "value" "[B" .null := ((F2_38.ext E5).other W8 (Or.inl ne10))
    have f12 : Fld Z h8 b2 "java/lang/String" "coder" "B" (.int 0) := ((F2_36.ext E5).other W8 (Or.inl ne10))
    have f13 : Old Z n0 h8 := (((pf0.ext E2).ext E5).wr W8 g6)
    have hp14 : ∀ c ∈ ([(nar .char c0)] : List Int32), ¬ c < 0 ∧ ¬ (255 : Int32) < c := (alcS (cc_rng (cc_nar hq0)) alc0)
    have f15 : Fld Z h8 b2 "java/lang/String" "hash" "I" (.int 0) := ((F2_122.ext E5).other W8 (Or.inl ne10))
    have f16 : Fld Z h8 b2 "java/lang/String" "hashIsZero" "Z" (.int 0) := ((F2_124.ext E5).other W8 (Or.inl ne10))
    obtain ⟨_, _, ⟨T17, L17, k17, n17⟩, -, X17, ⟨Lc17, hQ17, l17, y17, z17⟩, st17⟩ := X8.specialBack hx (y := (⟨"java/lang/String", "<init>", "([C)V"⟩ : MethodName)) rfl hown (mvT hZ (tw hw 13 rfl)) (mvT hZ (tw hw 14 rfl)) (mvT hZ (tw hw 15 rfl)) (by decide) (own_backH (W := 1) hZ (wdNew hw) (kI := 4) (tw hw 10 rfl) (cs := ([(nar .char c0)] : List Int32)) (bs := (([(nar .char c0)] : List Int32).map (fun c => c.toInt8.toInt32))) (n := 1) g3 (Nat.le_trans (Nat.le_trans (Nat.le_trans Z0 E2.1) E5.1) (Keep.of_wr W8).1) f9 f11 f12 V8 (O2.ext f13.2) P5 rfl rfl (by decide) (by decide) hp14 rfl (by decide) (by decide)) (g := (mkF m 16 #[.val (.int n), .val (.int c0), .val (.int c1), .val (.int c2), .val (.int c3)] [(.ref b5), (.ref b2), (.ref b2)])) rfl (by rw [hml]; rfl) (Steps.refl _) (a := b2) (argsL := [(.ref b5)]) (rest := [(.ref b2)]) (lenOf pd___C_V rfl) rfl (by show 2 * 0 + _ ≤ _; exact Nat.le_of_eq rfl) (hb hby d2_16) (fun _ _ => ⟨rfl, e8, (by decide : 2 + 1 ≤ _), (by decide : 5 + 1 ≤ _)⟩)
    dsimp only [Pt.U, Pt.locs, Pt.cells, Pt.slots] at X17 l17 y17 z17 st17 hQ17
    subst l17 y17 z17
    obtain ⟨rfl, N17, K17, q17_0, q17_1, t14, k14, y17_0, y17_1, y17_2, q17_2, q17_3, y17_3, o17⟩ := hQ17
    have M17 := Fr.app N8 N17
    have g18 : n0 ≤ t14 := Nat.le_trans (Nat.le_trans (Nat.le_trans (Nat.le_trans Z0 E2.1) E5.1) (Keep.of_wr W8).1) y17_1
    have s19 : h0.size ≤ t14 := Nat.le_trans (Nat.le_trans (Nat.le_trans (Nat.le_trans (Nat.le_refl _) E2.1) E5.1) (Keep.of_wr W8).1) y17_1
    refine Gl.to st17 ?_
    show Gl p.tables e below _ (T17.setTop (mkF m 19 #[.val (.int n), .val (.int c0), .val (.int c1), .val (.int c2), .val (.int c3)] [(.ref b2)]))
    show Gl p.tables e below _ (T17.setTop (mkF m 19 #[.val (.int n), .val (.int c0), .val (.int c1), .val (.int c2), .val (.int c3)] [(.ref b2)]))
    have K20 : Keep h0 T17.heap [] := (((((Keep.refl h0 []).ext E2).ext E5).wr W8 (Or.inr s7)).trans K17 (allS (Or.inr s4) all0))
    exact Gl.retA X17 hx Bd.returns rfl rfl (hb hby d2_19) hlk (by decide) (by decide) ⟨b2, t14, k14, ([(nar .char c0)] : List Int32), rfl, M17, K20, q17_0, q17_1, q17_2, q17_3, (o17 _ _ _ _ f15 (slot_ne (Or.inl (tw hw 122 rfl)) (Or.inr (tw hw 38 rfl)) (by decide) (t := .int) (t' := (.array .byte)) (by decide) (by decide)) (slot_ne (Or.inl (tw hw 122 rfl)) (Or.inr (tw hw 36 rfl)) (by decide) (t := .int) (t' := .byte) (by decide) (by decide))), (o17 _ _ _ _ f16 (slot_ne (Or.inl (tw hw 124 rfl)) (Or.inr (tw hw 38 rfl)) (by decide) (t := .boolean) (t' := (.array .byte)) (by decide) (by decide)) (slot_ne (Or.inl (tw hw 124 rfl)) (Or.inr (tw hw 36 rfl)) (by decide) (t := .boolean) (t' := .byte) (by decide) (by decide))), (alcS (cc_nar hq0) own_ccl0), (by simp), (Nat.le_of_ble_eq_true rfl), y17_3, s4, s19, y17_2⟩
  · refine Gl.st (fun _ kq => XS.icmpYes X0.here hx rfl (pc0 := 2) (pc' := 20) rfl (hb hby d2_2) rfl (feq (hc1 : ¬ (n = (1 : Int32)))).2 (by decide) (by decide) kq) ?_
    show Gl p.tables e below _ (s₁.setTop (mkF m 20 #[.val (.int n), .val (.int c0), .val (.int c1), .val (.int c2), .val (.int c3)] []))
    refine Gl.st (fun _ kq => XS.iloadN X0.here hx rfl (hb hby d2_20) rfl kq) ?_
    show Gl p.tables e below _ (s₁.setTop (mkF m 21 #[.val (.int n), .val (.int c0), .val (.int c1), .val (.int c2), .val (.int c3)] [(.int n)]))
    refine Gl.st (fun _ kq => XS.iconst X0.here hx rfl (hb hby d2_21) kq) ?_
    show Gl p.tables e below _ (s₁.setTop (mkF m 22 #[.val (.int n), .val (.int c0), .val (.int c1), .val (.int c2), .val (.int c3)] [(.int 2), (.int n)]))
    by_cases hc21 : n = (2 : Int32)
    · refine Gl.st (fun _ kq => XS.icmpNo X0.here hx rfl (hb hby d2_22) rfl (teq (hc21 : n = (2 : Int32))).2 kq) ?_
      show Gl p.tables e below _ (s₁.setTop (mkF m 25 #[.val (.int n), .val (.int c0), .val (.int c1), .val (.int c2), .val (.int c3)] []))
      obtain ⟨T22, h22, X22, e22, E22, A22, D22, U22, st22⟩ := newO X0 hx hZ hown (tw hw 9 rfl) (tw hw 10 rfl) (tw hw 11 rfl) e0 (g := (mkF m 25 #[.val (.int n), .val (.int c0), .val (.int c1), .val (.int c2), .val (.int c3)] [])) rfl (hb hby d2_25) (by decide) (by decide)
      obtain ⟨b22, g22⟩ : ∃ z, z = h0.size := ⟨_, rfl⟩
      rw [← g22] at A22 D22 U22 st22
      refine Gl.st st22 ?_
      have g23 : n0 ≤ b22 := Nat.le_trans Z0 (Nat.le_of_eq g22.symm)
      have s24 : h0.size ≤ b22 := Nat.le_trans (Nat.le_refl _) (Nat.le_of_eq g22.symm)
      have F22_36 : Fld Z h22 b22 "java/lang/String" "coder" "B" (.int 0) := D22 (Or.inr (tw hw 36 rfl)) (ty := .byte) (by decide)
      have F22_38 : Fld Z h22 b22 "java/lang/String" "value" "[B" .null := D22 (Or.inr (tw hw 38 rfl)) (ty := (.array .byte)) (by decide)
      have F22_122 : Fld Z h22 b22 "java/lang/String" "hash" "I" (.int 0) := D22 (Or.inl (tw hw 122 rfl)) (ty := .int) (by decide)
      have F22_124 : Fld Z h22 b22 "java/lang/String" "hashIsZero" "Z" (.int 0) := D22 (Or.inl (tw hw 124 rfl)) (ty := .boolean) (by decide)
      show Gl p.tables e below _ (T22.setTop (mkF m 28 #[.val (.int n), .val (.int c0), .val (.int c1), .val (.int c2), .val (.int c3)] [(.ref b22)]))
      refine Gl.st (fun _ kq => XS.dup X22.here hx rfl (hb hby d2_28) rfl rfl kq) ?_
      show Gl p.tables e below _ (T22.setTop (mkF m 29 #[.val (.int n), .val (.int c0), .val (.int c1), .val (.int c2), .val (.int c3)] [(.ref b22), (.ref b22)]))
      refine Gl.st (fun _ kq => XS.iconst X22.here hx rfl (hb hby d2_29) kq) ?_
      show Gl p.tables e below _ (T22.setTop (mkF m 30 #[.val (.int n), .val (.int c0), .val (.int c1), .val (.int c2), .val (.int c3)] [(.int 2), (.ref b22), (.ref b22)]))
      obtain ⟨T25, h25, k25, X25, e25, E25, A25, st25⟩ := newP X22 hx hZ (tw hw 12 rfl) e22 (g := (mkF m 30 #[.val (.int n), .val (.int c0), .val (.int c1), .val (.int c2), .val (.int c3)] [(.int 2), (.ref b22), (.ref b22)])) rfl (hb hby d2_30) rfl (by decide) (cap := 2) (by decide) (by decide) (by decide) (by decide)
      obtain ⟨b25, g25⟩ : ∃ z, z = h22.size := ⟨_, rfl⟩
      rw [← g25] at A25 st25
      refine Gl.st st25 ?_
      have g26 : n0 ≤ b25 := Nat.le_trans (Nat.le_trans Z0 E22.1) (Nat.le_of_eq g25.symm)
      have s27 : h0.size ≤ b25 := Nat.le_trans (Nat.le_trans (Nat.le_refl _) E22.1) (Nat.le_of_eq g25.symm)
      have V25 : Arv Z h25 b25 k25 .char (2 : Int32) [(.int 0), (.int 0)] (.int 0) := (Arv.new A25 (by decide)).pad (pad_rep [] (.int 0) 2)
      show Gl p.tables e below _ (T25.setTop (mkF m 32 #[.val (.int n), .val (.int c0), .val (.int c1), .val (.int c2), .val (.int c3)] [(.ref b25), (.ref b22), (.ref b22)]))
      refine Gl.st (fun _ kq => XS.dup X25.here hx rfl (hb hby d2_32) rfl rfl kq) ?_
      show Gl p.tables e below _ (T25.setTop (mkF m 33 #[.val (.int n), .val (.int c0), .val (.int c1), .val (.int c2), .val (.int c3)] [(.ref b25), (.ref b25), (.ref b22), (.ref b22)]))
      refine Gl.st (fun _ kq => XS.iconst X25.here hx rfl (hb hby d2_33) kq) ?_
      show Gl p.tables e below _ (T25.setTop (mkF m 34 #[.val (.int n), .val (.int c0), .val (.int c1), .val (.int c2), .val (.int c3)] [(.int 0), (.ref b25), (.ref b25), (.ref b22), (.ref b22)]))
      refine Gl.st (fun _ kq => XS.iloadN X25.here hx rfl (hb hby d2_34) rfl kq) ?_
      show Gl p.tables e below _ (T25.setTop (mkF m 35 #[.val (.int n), .val (.int c0), .val (.int c1), .val (.int c2), .val (.int c3)] [(.int c0), (.int 0), (.ref b25), (.ref b25), (.ref b22), (.ref b22)]))
      obtain ⟨c28, a28, q28, S28, M28, H28, G28⟩ := id V25
      obtain ⟨T28, h28, X28, e28, W28, st28⟩ := stC X25 hx hZ e25 a28 (j := (0 : Int32)) (inb_of S28 ⟨by decide, by decide⟩) (g := (mkF m 35 #[.val (.int n), .val (.int c0), .val (.int c1), .val (.int c2), .val (.int c3)] [(.int c0), (.int 0), (.ref b25), (.ref b25), (.ref b22), (.ref b22)])) rfl rfl (hb hby d2_35)
      refine Gl.st st28 ?_
      have V28 : Arv Z h28 b25 k25 .char (2 : Int32) [(.int (nar .char c0)), (.int 0)] (.int 0) := Arv.set a28 q28 S28 M28 H28 G28 (fits_nar_char _) W28 0 rfl (Nat.le_of_ble_eq_true rfl)
      have N28 := Fr.snoc X28 N0 g26
      show Gl p.tables e below _ (T28.setTop (mkF m 36 #[.val (.int n), .val (.int c0), .val (.int c1), .val (.int c2), .val (.int c3)] [(.ref b25), (.ref b22), (.ref b22)]))
      refine Gl.st (fun _ kq => XS.dup X28.here hx rfl (hb hby d2_36) rfl rfl kq) ?_
      show Gl p.tables e below _ (T28.setTop (mkF m 37 #[.val (.int n), .val (.int c0), .val (.int c1), .val (.int c2), .val (.int c3)] [(.ref b25), (.ref b25), (.ref b22), (.ref b22)]))
      refine Gl.st (fun _ kq => XS.iconst X28.here hx rfl (hb hby d2_37) kq) ?_
      show Gl p.tables e below _ (T28.setTop (mkF m 38 #[.val (.int n), .val (.int c0), .val (.int c1), .val (.int c2), .val (.int c3)] [(.int 1), (.ref b25), (.ref b25), (.ref b22), (.ref b22)]))
      refine Gl.st (fun _ kq => XS.iloadN X28.here hx rfl (hb hby d2_38) rfl kq) ?_
      show Gl p.tables e below _ (T28.setTop (mkF m 39 #[.val (.int n), .val (.int c0), .val (.int c1), .val (.int c2), .val (.int c3)] [(.int c1), (.int 1), (.ref b25), (.ref b25), (.ref b22), (.ref b22)]))
      obtain ⟨c29, a29, q29, S29, M29, H29, G29⟩ := id V28
      obtain ⟨T29, h29, X29, e29, W29, st29⟩ := stC X28 hx hZ e28 a29 (j := (1 : Int32)) (inb_of S29 ⟨by decide, by decide⟩) (g := (mkF m 39 #[.val (.int n), .val (.int c0), .val (.int c1), .val (.int c2), .val (.int c3)] [(.int c1), (.int 1), (.ref b25), (.ref b25), (.ref b22), (.ref b22)])) rfl rfl (hb hby d2_39)
      refine Gl.st st29 ?_
      have V29 : Arv Z h29 b25 k25 .char (2 : Int32) [(.int (nar .char c0)), (.int (nar .char c1))] (.int 0) := Arv.set a29 q29 S29 M29 H29 G29 (fits_nar_char _) W29 1 rfl (Nat.le_of_ble_eq_true rfl)
      have N29 := Fr.snoc X29 N28 g26
      show Gl p.tables e below _ (T29.setTop (mkF m 40 #[.val (.int n), .val (.int c0), .val (.int c1), .val (.int c2), .val (.int c3)] [(.ref b25), (.ref b22), (.ref b22)]))
      have f30 : Exa Z h29 b22 "java/lang/String" := (((A22.ext E25).wr W28).wr W29)
      have ne31 : b22 ≠ b25 := Nat.ne_of_lt (Nat.lt_of_lt_of_le A22.lt (Nat.le_of_eq g25.symm))
      have f32 : Fld Z h29 b22 "java/lang/String" "value" "[B" .null := (((F22_38.ext E25).other W28 (Or.inl ne31)).other W29 (Or.inl ne31))
      have f33 : Fld Z h29 b22 "java/lang/String" "coder" "B" (.int 0) := (((F22_36.ext E25).other W28 (Or.inl ne31)).other W29 (Or.inl ne31))
      have f34 : Old Z n0 h29 := ((((pf0.ext E22).ext E25).wr W28 g26).wr W29 g26)
      have hp35 : ∀ c ∈ ([(nar .char c0), (nar .char c1)] : List Int32), ¬ c < 0 ∧ ¬ (255 : Int32) < c := (alcS (cc_rng (cc_nar hq0)) (alcS (cc_rng (cc_nar hq1)) alc0))
      have f36 : Fld Z h29 b22 "java/lang/String" "hash" "I" (.int 0) := (((F22_122.ext E25).other W28 (Or.inl ne31)).other W29 (Or.inl ne31))
      have f37 : Fld Z h29 b22 "java/lang/String" "hashIsZero" "Z" (.int 0) := (((F22_124.ext E25).other W28 (Or.inl ne31)).other W29 (Or.inl ne31))
      obtain ⟨_, _, ⟨T38, L38, k38, n38⟩, -, X38, ⟨Lc38, hQ38, l38, y38, z38⟩, st38⟩ := X29.specialBack hx (y := (⟨"java/lang/String", "<init>", "([C)V"⟩ : MethodName)) rfl hown (mvT hZ (tw hw 13 rfl)) (mvT hZ (tw hw 14 rfl)) (mvT hZ (tw hw 15 rfl)) (by decide) (own_backH (W := 1) hZ (wdNew hw) (kI := 4) (tw hw 10 rfl) (cs := ([(nar .char c0), (nar .char c1)] : List Int32)) (bs := (([(nar .char c0), (nar .char c1)] : List Int32).map (fun c => c.toInt8.toInt32))) (n := 2) g23 (Nat.le_trans (Nat.le_trans (Nat.le_trans (Nat.le_trans Z0 E22.1) E25.1) (Keep.of_wr W28).1) (Keep.of_wr W29).1) f30 f32 f33 V29 (O2.ext f34.2) P5 rfl rfl (by decide) (by decide) hp35 rfl (by decide) (by decide)) (g := (mkF m 40 #[.val (.int n), .val (.int c0), .val (.int c1), .val (.int c2), .val (.int c3)] [(.ref b25), (.ref b22), (.ref b22)])) rfl (by rw [hml]; rfl) (Steps.refl _) (a := b22) (argsL := [(.ref b25)]) (rest := [(.ref b22)]) (lenOf pd___C_V rfl) rfl (by show 2 * 0 + _ ≤ _; exact Nat.le_of_eq rfl) (hb hby d2_40) (fun _ _ => ⟨rfl, e29, (by decide : 2 + 1 ≤ _), (by decide : 6 + 2 ≤ _)⟩)
      dsimp only [Pt.U, Pt.locs, Pt.cells, Pt.slots] at X38 l38 y38 z38 st38 hQ38
      subst l38 y38 z38
      obtain ⟨rfl, N38, K38, q38_0, q38_1, t35, k35, y38_0, y38_1, y38_2, q38_2, q38_3, y38_3, o38⟩ := hQ38
      have M38 := Fr.app N29 N38
      have g39 : n0 ≤ t35 := Nat.le_trans (Nat.le_trans (Nat.le_trans (Nat.le_trans (Nat.le_trans Z0 E22.1) E25.1) (Keep.of_wr W28).1) (Keep.of_wr W29).1) y38_1
      have s40 : h0.size ≤ t35 := Nat.le_trans (Nat.le_trans (Nat.le_trans (Nat.le_trans (Nat.le_trans (Nat.le_refl _) E22.1) E25.1) (Keep.of_wr W28).1) (Keep.of_wr W29).1) y38_1
      refine Gl.to st38 ?_
      show Gl p.tables e below _ (T38.setTop (mkF m 43 #[.val (.int n), .val (.int c0), .val (.int c1), .val (.int c2), .val (.int c3)] [(.ref b22)]))
      show Gl p.tables e below _ (T38.setTop (mkF m 43 #[.val (.int n), .val (.int c0), .val (.int c1), .val (.int c2), .val (.int c3)] [(.ref b22)]))
      have K41 : Keep h0 T38.heap [] := ((((((Keep.refl h0 []).ext E22).ext E25).wr W28 (Or.inr s27)).wr W29 (Or.inr s27)).trans K38 (allS (Or.inr s24) all0))
      exact Gl.retA X38 hx Bd.returns rfl rfl (hb hby d2_43) hlk (by decide) (by decide) ⟨b22, t35, k35, ([(nar .char c0), (nar .char c1)] : List Int32), rfl, M38, K41, q38_0, q38_1, q38_2, q38_3, (o38 _ _ _ _ f36 (slot_ne (Or.inl (tw hw 122 rfl)) (Or.inr (tw hw 38 rfl)) (by decide) (t := .int) (t' := (.array .byte)) (by decide) (by decide)) (slot_ne (Or.inl (tw hw 122 rfl)) (Or.inr (tw hw 36 rfl)) (by decide) (t := .int) (t' := .byte) (by decide) (by decide))), (o38 _ _ _ _ f37 (slot_ne (Or.inl (tw hw 124 rfl)) (Or.inr (tw hw 38 rfl)) (by decide) (t := .boolean) (t' := (.array .byte)) (by decide) (by decide)) (slot_ne (Or.inl (tw hw 124 rfl)) (Or.inr (tw hw 36 rfl)) (by decide) (t := .boolean) (t' := .byte) (by decide) (by decide))), (alcS (cc_nar hq0) (alcS (cc_nar hq1) own_ccl0)), (by simp), (Nat.le_of_ble_eq_true rfl), y38_3, s24, s40, y38_2⟩
    · refine Gl.st (fun _ kq => XS.icmpYes X0.here hx rfl (pc0 := 22) (pc' := 44) rfl (hb hby d2_22) rfl (feq (hc21 : ¬ (n = (2 : Int32)))).2 (by decide) (by decide) kq) ?_
      show Gl p.tables e below _ (s₁.setTop (mkF m 44 #[.val (.int n), .val (.int c0), .val (.int c1), .val (.int c2), .val (.int c3)] []))
      refine Gl.st (fun _ kq => XS.iloadN X0.here hx rfl (hb hby d2_44) rfl kq) ?_
      show Gl p.tables e below _ (s₁.setTop (mkF m 45 #[.val (.int n), .val (.int c0), .val (.int c1), .val (.int c2), .val (.int c3)] [(.int n)]))
      refine Gl.st (fun _ kq => XS.iconst X0.here hx rfl (hb hby d2_45) kq) ?_
      show Gl p.tables e below _ (s₁.setTop (mkF m 46 #[.val (.int n), .val (.int c0), .val (.int c1), .val (.int c2), .val (.int c3)] [(.int 3), (.int n)]))
      by_cases hc42 : n = (3 : Int32)
      · refine Gl.st (fun _ kq => XS.icmpNo X0.here hx rfl (hb hby d2_46) rfl (teq (hc42 : n = (3 : Int32))).2 kq) ?_
        show Gl p.tables e below _ (s₁.setTop (mkF m 49 #[.val (.int n), .val (.int c0), .val (.int c1), .val (.int c2), .val (.int c3)] []))
        obtain ⟨T43, h43, X43, e43, E43, A43, D43, U43, st43⟩ := newO X0 hx hZ hown (tw hw 9 rfl) (tw hw 10 rfl) (tw hw 11 rfl) e0 (g := (mkF m 49 #[.val (.int n), .val (.int c0), .val (.int c1), .val (.int c2), .val (.int c3)] [])) rfl (hb hby d2_49) (by decide) (by decide)
        obtain ⟨b43, g43⟩ : ∃ z, z = h0.size := ⟨_, rfl⟩
        rw [← g43] at A43 D43 U43 st43
        refine Gl.st st43 ?_
        have g44 : n0 ≤ b43 := Nat.le_trans Z0 (Nat.le_of_eq g43.symm)
        have s45 : h0.size ≤ b43 := Nat.le_trans (Nat.le_refl _) (Nat.le_of_eq g43.symm)
        have F43_36 : Fld Z h43 b43 "java/lang/String" "coder" "B" (.int 0) := D43 (Or.inr (tw hw 36 rfl)) (ty := .byte) (by decide)
        have F43_38 : Fld Z h43 b43 "java/lang/String" "value" "[B" .null := D43 (Or.inr (tw hw 38 rfl)) (ty := (.array .byte)) (by decide)
        have F43_122 : Fld Z h43 b43 "java/lang/String" "hash" "I" (.int 0) := D43 (Or.inl (tw hw 122 rfl)) (ty := .int) (by decide)
        have F43_124 : Fld Z h43 b43 "java/lang/String" "hashIsZero" "Z" (.int 0) := D43 (Or.inl (tw hw 124 rfl)) (ty := .boolean) (by decide)
        show Gl p.tables e below _ (T43.setTop (mkF m 52 #[.val (.int n), .val (.int c0), .val (.int c1), .val (.int c2), .val (.int c3)] [(.ref b43)]))
        refine Gl.st (fun _ kq => XS.dup X43.here hx rfl (hb hby d2_52) rfl rfl kq) ?_
        show Gl p.tables e below _ (T43.setTop (mkF m 53 #[.val (.int n), .val (.int c0), .val (.int c1), .val (.int c2), .val (.int c3)] [(.ref b43), (.ref b43)]))
        refine Gl.st (fun _ kq => XS.iconst X43.here hx rfl (hb hby d2_53) kq) ?_
        show Gl p.tables e below _ (T43.setTop (mkF m 54 #[.val (.int n), .val (.int c0), .val (.int c1), .val (.int c2), .val (.int c3)] [(.int 3), (.ref b43), (.ref b43)]))
        obtain ⟨T46, h46, k46, X46, e46, E46, A46, st46⟩ := newP X43 hx hZ (tw hw 12 rfl) e43 (g := (mkF m 54 #[.val (.int n), .val (.int c0), .val (.int c1), .val (.int c2), .val (.int c3)] [(.int 3), (.ref b43), (.ref b43)])) rfl (hb hby d2_54) rfl (by decide) (cap := 3) (by decide) (by decide) (by decide) (by decide)
        obtain ⟨b46, g46⟩ : ∃ z, z = h43.size := ⟨_, rfl⟩
        rw [← g46] at A46 st46
        refine Gl.st st46 ?_
        have g47 : n0 ≤ b46 := Nat.le_trans (Nat.le_trans Z0 E43.1) (Nat.le_of_eq g46.symm)
        have s48 : h0.size ≤ b46 := Nat.le_trans (Nat.le_trans (Nat.le_refl _) E43.1) (Nat.le_of_eq g46.symm)
        have V46 : Arv Z h46 b46 k46 .char (3 : Int32) [(.int 0), (.int 0), (.int 0)] (.int 0) := (Arv.new A46 (by decide)).pad (pad_rep [] (.int 0) 3)
        show Gl p.tables e below _ (T46.setTop (mkF m 56 #[.val (.int n), .val (.int c0), .val (.int c1), .val (.int c2), .val (.int c3)] [(.ref b46), (.ref b43), (.ref b43)]))
        refine Gl.st (fun _ kq => XS.dup X46.here hx rfl (hb hby d2_56) rfl rfl kq) ?_
        show Gl p.tables e below _ (T46.setTop (mkF m 57 #[.val (.int n), .val (.int c0), .val (.int c1), .val (.int c2), .val (.int c3)] [(.ref b46), (.ref b46), (.ref b43), (.ref b43)]))
        refine Gl.st (fun _ kq => XS.iconst X46.here hx rfl (hb hby d2_57) kq) ?_
        show Gl p.tables e below _ (T46.setTop (mkF m 58 #[.val (.int n), .val (.int c0), .val (.int c1), .val (.int c2), .val (.int c3)] [(.int 0), (.ref b46), (.ref b46), (.ref b43), (.ref b43)]))
        refine Gl.st (fun _ kq => XS.iloadN X46.here hx rfl (hb hby d2_58) rfl kq) ?_
        show Gl p.tables e below _ (T46.setTop (mkF m 59 #[.val (.int n), .val (.int c0), .val (.int c1), .val (.int c2), .val (.int c3)] [(.int c0), (.int 0), (.ref b46), (.ref b46), (.ref b43), (.ref b43)]))
        obtain ⟨c49, a49, q49, S49, M49, H49, G49⟩ := id V46
        obtain ⟨T49, h49, X49, e49, W49, st49⟩ := stC X46 hx hZ e46 a49 (j := (0 : Int32)) (inb_of S49 ⟨by decide, by decide⟩) (g := (mkF m 59 #[.val (.int n), .val (.int c0), .val (.int c1), .val (.int c2), .val (.int c3)] [(.int c0), (.int 0), (.ref b46), (.ref b46), (.ref b43), (.ref b43)])) rfl rfl (hb hby d2_59)
        refine Gl.st st49 ?_
        have V49 : Arv Z h49 b46 k46 .char (3 : Int32) [(.int (nar .char c0)), (.int 0), (.int 0)] (.int 0) := Arv.set a49 q49 S49 M49 H49 G49 (fits_nar_char _) W49 0 rfl (Nat.le_of_ble_eq_true rfl)
        have N49 := Fr.snoc X49 N0 g47
        show Gl p.tables e below _ (T49.setTop (mkF m 60 #[.val (.int n), .val (.int c0), .val (.int c1), .val (.int c2), .val (.int c3)] [(.ref b46), (.ref b43), (.ref b43)]))
        refine Gl.st (fun _ kq => XS.dup X49.here hx rfl (hb hby d2_60) rfl rfl kq) ?_
        show Gl p.tables e below _ (T49.setTop (mkF m 61 #[.val (.int n), .val (.int c0), .val (.int c1), .val (.int c2), .val (.int c3)] [(.ref b46), (.ref b46), (.ref b43), (.ref b43)]))
        refine Gl.st (fun _ kq => XS.iconst X49.here hx rfl (hb hby d2_61) kq) ?_
        show Gl p.tables e below _ (T49.setTop (mkF m 62 #[.val (.int n), .val (.int c0), .val (.int c1), .val (.int c2), .val (.int c3)] [(.int 1), (.ref b46), (.ref b46), (.ref b43), (.ref b43)]))
        refine Gl.st (fun _ kq => XS.iloadN X49.here hx rfl (hb hby d2_62) rfl kq) ?_
        show Gl p.tables e below _ (T49.setTop (mkF m 63 #[.val (.int n), .val (.int c0), .val (.int c1), .val (.int c2), .val (.int c3)] [(.int c1), (.int 1), (.ref b46), (.ref b46), (.ref b43), (.ref b43)]))
        obtain ⟨c50, a50, q50, S50, M50, H50, G50⟩ := id V49
        obtain ⟨T50, h50, X50, e50, W50, st50⟩ := stC X49 hx hZ e49 a50 (j := (1 : Int32)) (inb_of S50 ⟨by decide, by decide⟩) (g := (mkF m 63 #[.val (.int n), .val (.int c0), .val (.int c1), .val (.int c2), .val (.int c3)] [(.int c1), (.int 1), (.ref b46), (.ref b46), (.ref b43), (.ref b43)])) rfl rfl (hb hby d2_63)
        refine Gl.st st50 ?_
        have V50 : Arv Z h50 b46 k46 .char (3 : Int32) [(.int (nar .char c0)), (.int (nar .char c1)), (.int 0)] (.int 0) := Arv.set a50 q50 S50 M50 H50 G50 (fits_nar_char _) W50 1 rfl (Nat.le_of_ble_eq_true rfl)
        have N50 := Fr.snoc X50 N49 g47
        show Gl p.tables e below _ (T50.setTop (mkF m 64 #[.val (.int n), .val (.int c0), .val (.int c1), .val (.int c2), .val (.int c3)] [(.ref b46), (.ref b43), (.ref b43)]))
        refine Gl.st (fun _ kq => XS.dup X50.here hx rfl (hb hby d2_64) rfl rfl kq) ?_
        show Gl p.tables e below _ (T50.setTop (mkF m 65 #[.val (.int n), .val (.int c0), .val (.int c1), .val (.int c2), .val (.int c3)] [(.ref b46), (.ref b46), (.ref b43), (.ref b43)]))
        refine Gl.st (fun _ kq => XS.iconst X50.here hx rfl (hb hby d2_65) kq) ?_
        show Gl p.tables e below _ (T50.setTop (mkF m 66 #[.val (.int n), .val (.int c0), .val (.int c1), .val (.int c2), .val (.int c3)] [(.int 2), (.ref b46), (.ref b46), (.ref b43), (.ref b43)]))
        refine Gl.st (fun _ kq => XS.iloadN X50.here hx rfl (hb hby d2_66) rfl kq) ?_
        show Gl p.tables e below _ (T50.setTop (mkF m 67 #[.val (.int n), .val (.int c0), .val (.int c1), .val (.int c2), .val (.int c3)] [(.int c2), (.int 2), (.ref b46), (.ref b46), (.ref b43), (.ref b43)]))
        obtain ⟨c51, a51, q51, S51, M51, H51, G51⟩ := id V50
        obtain ⟨T51, h51, X51, e51, W51, st51⟩ := stC X50 hx hZ e50 a51 (j := (2 : Int32)) (inb_of S51 ⟨by decide, by decide⟩) (g := (mkF m 67 #[.val (.int n), .val (.int c0), .val (.int c1), .val (.int c2), .val (.int c3)] [(.int c2), (.int 2), (.ref b46), (.ref b46), (.ref b43), (.ref b43)])) rfl rfl (hb hby d2_67)
        refine Gl.st st51 ?_
        have V51 : Arv Z h51 b46 k46 .char (3 : Int32) [(.int (nar .char c0)), (.int (nar .char c1)), (.int (nar .char c2))] (.int 0) := Arv.set a51 q51 S51 M51 H51 G51 (fits_nar_char _) W51 2 rfl (Nat.le_of_ble_eq_true rfl)
        have N51 := Fr.snoc X51 N50 g47
        show Gl p.tables e below _ (T51.setTop (mkF m 68 #[.val (.int n), .val (.int c0), .val (.int c1), .val (.int c2), .val (.int c3)] [(.ref b46), (.ref b43), (.ref b43)]))
        have f52 : Exa Z h51 b43 "java/lang/String" := ((((A43.ext E46).wr W49).wr W50).wr W51)
        have ne53 : b43 ≠ b46 := Nat.ne_of_lt (Nat.lt_of_lt_of_le A43.lt (Nat.le_of_eq g46.symm))
        have f54 : Fld Z h51 b43 "java/lang/String" "value" "[B" .null := ((((F43_38.ext E46).other W49 (Or.inl ne53)).other W50 (Or.inl ne53)).other W51 (Or.inl ne53))
        have f55 : Fld Z h51 b43 "java/lang/String" "coder" "B" (.int 0) := ((((F43_36.ext E46).other W49 (Or.inl ne53)).other W50 (Or.inl ne53)).other W51 (Or.inl ne53))
        have f56 : Old Z n0 h51 := (((((pf0.ext E43).ext E46).wr W49 g47).wr W50 g47).wr W51 g47)
        have hp57 : ∀ c ∈ ([(nar .char c0), (nar .char c1), (nar .char c2)] : List Int32), ¬ c < 0 ∧ ¬ (255 : Int32) < c := (alcS (cc_rng (cc_nar hq0)) (alcS (cc_rng (cc_nar hq1)) (alcS (cc_rng (cc_nar hq2)) alc0)))
        have f58 : Fld Z h51 b43 "java/lang/String" "hash" "I" (.int 0) := ((((F43_122.ext E46).other W49 (Or.inl ne53)).other W50 (Or.inl ne53)).other W51 (Or.inl ne53))
        have f59 : Fld Z h51 b43 "java/lang/String" "hashIsZero" "Z" (.int 0) := ((((F43_124.ext E46).other W49 (Or.inl ne53)).other W50 (Or.inl ne53)).other W51 (Or.inl ne53))
        obtain ⟨_, _, ⟨T60, L60, k60, n60⟩, -, X60, ⟨Lc60, hQ60, l60, y60, z60⟩, st60⟩ := X51.specialBack hx (y := (⟨"java/lang/String", "<init>", "([C)V"⟩ : MethodName)) rfl hown (mvT hZ (tw hw 13 rfl)) (mvT hZ (tw hw 14 rfl)) (mvT hZ (tw hw 15 rfl)) (by decide) (own_backH (W := 1) hZ (wdNew hw) (kI := 4) (tw hw 10 rfl) (cs := ([(nar .char c0), (nar .char c1), (nar .char c2)] : List Int32)) (bs := (([(nar .char c0), (nar .char c1), (nar .char c2)] : List Int32).map (fun c => c.toInt8.toInt32))) (n := 3) g44 (Nat.le_trans (Nat.le_trans (Nat.le_trans (Nat.le_trans (Nat.le_trans Z0 E43.1) E46.1) (Keep.of_wr W49).1) (Keep.of_wr W50).1) (Keep.of_wr W51).1) f52 f54 f55 V51 (O2.ext f56.2) P5 rfl rfl (by decide) (by decide) hp57 rfl (by decide) (by decide)) (g := (mkF m 68 #[.val (.int n), .val (.int c0), .val (.int c1), .val (.int c2), .val (.int c3)] [(.ref b46), (.ref b43), (.ref b43)])) rfl (by rw [hml]; rfl) (Steps.refl _) (a := b43) (argsL := [(.ref b46)]) (rest := [(.ref b43)]) (lenOf pd___C_V rfl) rfl (by show 2 * 0 + _ ≤ _; exact Nat.le_of_eq rfl) (hb hby d2_68) (fun _ _ => ⟨rfl, e51, (by decide : 2 + 1 ≤ _), (by decide : 7 + 3 ≤ _)⟩)
        dsimp only [Pt.U, Pt.locs, Pt.cells, Pt.slots] at X60 l60 y60 z60 st60 hQ60
        subst l60 y60 z60
        obtain ⟨rfl, N60, K60, q60_0, q60_1, t57, k57, y60_0, y60_1, y60_2, q60_2, q60_3, y60_3, o60⟩ := hQ60
        have M60 := Fr.app N51 N60
        have g61 : n0 ≤ t57 := Nat.le_trans (Nat.le_trans (Nat.le_trans (Nat.le_trans (Nat.le_trans (Nat.le_trans Z0 E43.1) E46.1) (Keep.of_wr W49).1) (Keep.of_wr W50).1) (Keep.of_wr W51).1) y60_1
        have s62 : h0.size ≤ t57 := Nat.le_trans (Nat.le_trans (Nat.le_trans (Nat.le_trans (Nat.le_trans (Nat.le_trans (Nat.le_refl _) E43.1) E46.1) (Keep.of_wr W49).1) (Keep.of_wr W50).1) (Keep.of_wr W51).1) y60_1
        refine Gl.to st60 ?_
        show Gl p.tables e below _ (T60.setTop (mkF m 71 #[.val (.int n), .val (.int c0), .val (.int c1), .val (.int c2), .val (.int c3)] [(.ref b43)]))
        show Gl p.tables e below _ (T60.setTop (mkF m 71 #[.val (.int n), .val (.int c0), .val (.int c1), .val (.int c2), .val (.int c3)] [(.ref b43)]))
        have K63 : Keep h0 T60.heap [] := (((((((Keep.refl h0 []).ext E43).ext E46).wr W49 (Or.inr s48)).wr W50 (Or.inr s48)).wr W51 (Or.inr s48)).trans K60 (allS (Or.inr s45) all0))
        exact Gl.retA X60 hx Bd.returns rfl rfl (hb hby d2_71) hlk (by decide) (by decide) ⟨b43, t57, k57, ([(nar .char c0), (nar .char c1), (nar .char c2)] : List Int32), rfl, M60, K63, q60_0, q60_1, q60_2, q60_3, (o60 _ _ _ _ f58 (slot_ne (Or.inl (tw hw 122 rfl)) (Or.inr (tw hw 38 rfl)) (by decide) (t := .int) (t' := (.array .byte)) (by decide) (by decide)) (slot_ne (Or.inl (tw hw 122 rfl)) (Or.inr (tw hw 36 rfl)) (by decide) (t := .int) (t' := .byte) (by decide) (by decide))), (o60 _ _ _ _ f59 (slot_ne (Or.inl (tw hw 124 rfl)) (Or.inr (tw hw 38 rfl)) (by decide) (t := .boolean) (t' := (.array .byte)) (by decide) (by decide)) (slot_ne (Or.inl (tw hw 124 rfl)) (Or.inr (tw hw 36 rfl)) (by decide) (t := .boolean) (t' := .byte) (by decide) (by decide))), (alcS (cc_nar hq0) (alcS (cc_nar hq1) (alcS (cc_nar hq2) own_ccl0))), (by simp), (Nat.le_of_ble_eq_true rfl), y60_3, s45, s62, y60_2⟩
      · refine Gl.st (fun _ kq => XS.icmpYes X0.here hx rfl (pc0 := 46) (pc' := 72) rfl (hb hby d2_46) rfl (feq (hc42 : ¬ (n = (3 : Int32)))).2 (by decide) (by decide) kq) ?_
        show Gl p.tables e below _ (s₁.setTop (mkF m 72 #[.val (.int n), .val (.int c0), .val (.int c1), .val (.int c2), .val (.int c3)] []))
        obtain ⟨T64, h64, X64, e64, E64, A64, D64, U64, st64⟩ := newO X0 hx hZ hown (tw hw 9 rfl) (tw hw 10 rfl) (tw hw 11 rfl) e0 (g := (mkF m 72 #[.val (.int n), .val (.int c0), .val (.int c1), .val (.int c2), .val (.int c3)] [])) rfl (hb hby d2_72) (by decide) (by decide)
        obtain ⟨b64, g64⟩ : ∃ z, z = h0.size := ⟨_, rfl⟩
        rw [← g64] at A64 D64 U64 st64
        refine Gl.st st64 ?_
        have g65 : n0 ≤ b64 := Nat.le_trans Z0 (Nat.le_of_eq g64.symm)
        have s66 : h0.size ≤ b64 := Nat.le_trans (Nat.le_refl _) (Nat.le_of_eq g64.symm)
        have F64_36 : Fld Z h64 b64 "java/lang/String" "coder" "B" (.int 0) := D64 (Or.inr (tw hw 36 rfl)) (ty := .byte) (by decide)
        have F64_38 : Fld Z h64 b64 "java/lang/String" "value" "[B" .null := D64 (Or.inr (tw hw 38 rfl)) (ty := (.array .byte)) (by decide)
        have F64_122 : Fld Z h64 b64 "java/lang/String" "hash" "I" (.int 0) := D64 (Or.inl (tw hw 122 rfl)) (ty := .int) (by decide)
        have F64_124 : Fld Z h64 b64 "java/lang/String" "hashIsZero" "Z" (.int 0) := D64 (Or.inl (tw hw 124 rfl)) (ty := .boolean) (by decide)
        show Gl p.tables e below _ (T64.setTop (mkF m 75 #[.val (.int n), .val (.int c0), .val (.int c1), .val (.int c2), .val (.int c3)] [(.ref b64)]))
        refine Gl.st (fun _ kq => XS.dup X64.here hx rfl (hb hby d2_75) rfl rfl kq) ?_
        show Gl p.tables e below _ (T64.setTop (mkF m 76 #[.val (.int n), .val (.int c0), .val (.int c1), .val (.int c2), .val (.int c3)] [(.ref b64), (.ref b64)]))
        refine Gl.st (fun _ kq => XS.iconst X64.here hx rfl (hb hby d2_76) kq) ?_
        show Gl p.tables e below _ (T64.setTop (mkF m 77 #[.val (.int n), .val (.int c0), .val (.int c1), .val (.int c2), .val (.int c3)] [(.int 4), (.ref b64), (.ref b64)]))
        obtain ⟨T67, h67, k67, X67, e67, E67, A67, st67⟩ := newP X64 hx hZ (tw hw 12 rfl) e64 (g := (mkF m 77 #[.val (.int n), .val (.int c0), .val (.int c1), .val (.int c2), .val (.int c3)] [(.int 4), (.ref b64), (.ref b64)])) rfl (hb hby d2_77) rfl (by decide) (cap := 4) (by decide) (by decide) (by decide) (by decide)
        obtain ⟨b67, g67⟩ : ∃ z, z = h64.size := ⟨_, rfl⟩
        rw [← g67] at A67 st67
        refine Gl.st st67 ?_
        have g68 : n0 ≤ b67 := Nat.le_trans (Nat.le_trans Z0 E64.1) (Nat.le_of_eq g67.symm)
        have s69 : h0.size ≤ b67 := Nat.le_trans (Nat.le_trans (Nat.le_refl _) E64.1) (Nat.le_of_eq g67.symm)
        have V67 : Arv Z h67 b67 k67 .char (4 : Int32) [(.int 0), (.int 0), (.int 0), (.int 0)] (.int 0) := (Arv.new A67 (by decide)).pad (pad_rep [] (.int 0) 4)
        show Gl p.tables e below _ (T67.setTop (mkF m 79 #[.val (.int n), .val (.int c0), .val (.int c1), .val (.int c2), .val (.int c3)] [(.ref b67), (.ref b64), (.ref b64)]))
        refine Gl.st (fun _ kq => XS.dup X67.here hx rfl (hb hby d2_79) rfl rfl kq) ?_
        show Gl p.tables e below _ (T67.setTop (mkF m 80 #[.val (.int n), .val (.int c0), .val (.int c1), .val (.int c2), .val (.int c3)] [(.ref b67), (.ref b67), (.ref b64), (.ref b64)]))
        refine Gl.st (fun _ kq => XS.iconst X67.here hx rfl (hb hby d2_80) kq) ?_
        show Gl p.tables e below _ (T67.setTop (mkF m 81 #[.val (.int n), .val (.int c0), .val (.int c1), .val (.int c2), .val (.int c3)] [(.int 0), (.ref b67), (.ref b67), (.ref b64), (.ref b64)]))
        refine Gl.st (fun _ kq => XS.iloadN X67.here hx rfl (hb hby d2_81) rfl kq) ?_
        show Gl p.tables e below _ (T67.setTop (mkF m 82 #[.val (.int n), .val (.int c0), .val (.int c1), .val (.int c2), .val (.int c3)] [(.int c0), (.int 0), (.ref b67), (.ref b67), (.ref b64), (.ref b64)]))
        obtain ⟨c70, a70, q70, S70, M70, H70, G70⟩ := id V67
        obtain ⟨T70, h70, X70, e70, W70, st70⟩ := stC X67 hx hZ e67 a70 (j := (0 : Int32)) (inb_of S70 ⟨by decide, by decide⟩) (g := (mkF m 82 #[.val (.int n), .val (.int c0), .val (.int c1), .val (.int c2), .val (.int c3)] [(.int c0), (.int 0), (.ref b67), (.ref b67), (.ref b64), (.ref b64)])) rfl rfl (hb hby d2_82)
        refine Gl.st st70 ?_
        have V70 : Arv Z h70 b67 k67 .char (4 : Int32) [(.int (nar .char c0)), (.int 0), (.int 0), (.int 0)] (.int 0) := Arv.set a70 q70 S70 M70 H70 G70 (fits_nar_char _) W70 0 rfl (Nat.le_of_ble_eq_true rfl)
        have N70 := Fr.snoc X70 N0 g68
        show Gl p.tables e below _ (T70.setTop (mkF m 83 #[.val (.int n), .val (.int c0), .val (.int c1), .val (.int c2), .val (.int c3)] [(.ref b67), (.ref b64), (.ref b64)]))
        refine Gl.st (fun _ kq => XS.dup X70.here hx rfl (hb hby d2_83) rfl rfl kq) ?_
        show Gl p.tables e below _ (T70.setTop (mkF m 84 #[.val (.int n), .val (.int c0), .val (.int c1), .val (.int c2), .val (.int c3)] [(.ref b67), (.ref b67), (.ref b64), (.ref b64)]))
        refine Gl.st (fun _ kq => XS.iconst X70.here hx rfl (hb hby d2_84) kq) ?_
        show Gl p.tables e below _ (T70.setTop (mkF m 85 #[.val (.int n), .val (.int c0), .val (.int c1), .val (.int c2), .val (.int c3)] [(.int 1), (.ref b67), (.ref b67), (.ref b64), (.ref b64)]))
        refine Gl.st (fun _ kq => XS.iloadN X70.here hx rfl (hb hby d2_85) rfl kq) ?_
        show Gl p.tables e below _ (T70.setTop (mkF m 86 #[.val (.int n), .val (.int c0), .val (.int c1), .val (.int c2), .val (.int c3)] [(.int c1), (.int 1), (.ref b67), (.ref b67), (.ref b64), (.ref b64)]))
        obtain ⟨c71, a71, q71, S71, M71, H71, G71⟩ := id V70
        obtain ⟨T71, h71, X71, e71, W71, st71⟩ := stC X70 hx hZ e70 a71 (j := (1 : Int32)) (inb_of S71 ⟨by decide, by decide⟩) (g := (mkF m 86 #[.val (.int n), .val (.int c0), .val (.int c1), .val (.int c2), .val (.int c3)] [(.int c1), (.int 1), (.ref b67), (.ref b67), (.ref b64), (.ref b64)])) rfl rfl (hb hby d2_86)
        refine Gl.st st71 ?_
        have V71 : Arv Z h71 b67 k67 .char (4 : Int32) [(.int (nar .char c0)), (.int (nar .char c1)), (.int 0), (.int 0)] (.int 0) := Arv.set a71 q71 S71 M71 H71 G71 (fits_nar_char _) W71 1 rfl (Nat.le_of_ble_eq_true rfl)
        have N71 := Fr.snoc X71 N70 g68
        show Gl p.tables e below _ (T71.setTop (mkF m 87 #[.val (.int n), .val (.int c0), .val (.int c1), .val (.int c2), .val (.int c3)] [(.ref b67), (.ref b64), (.ref b64)]))
        refine Gl.st (fun _ kq => XS.dup X71.here hx rfl (hb hby d2_87) rfl rfl kq) ?_
        show Gl p.tables e below _ (T71.setTop (mkF m 88 #[.val (.int n), .val (.int c0), .val (.int c1), .val (.int c2), .val (.int c3)] [(.ref b67), (.ref b67), (.ref b64), (.ref b64)]))
        refine Gl.st (fun _ kq => XS.iconst X71.here hx rfl (hb hby d2_88) kq) ?_
        show Gl p.tables e below _ (T71.setTop (mkF m 89 #[.val (.int n), .val (.int c0), .val (.int c1), .val (.int c2), .val (.int c3)] [(.int 2), (.ref b67), (.ref b67), (.ref b64), (.ref b64)]))
        refine Gl.st (fun _ kq => XS.iloadN X71.here hx rfl (hb hby d2_89) rfl kq) ?_
        show Gl p.tables e below _ (T71.setTop (mkF m 90 #[.val (.int n), .val (.int c0), .val (.int c1), .val (.int c2), .val (.int c3)] [(.int c2), (.int 2), (.ref b67), (.ref b67), (.ref b64), (.ref b64)]))
        obtain ⟨c72, a72, q72, S72, M72, H72, G72⟩ := id V71
        obtain ⟨T72, h72, X72, e72, W72, st72⟩ := stC X71 hx hZ e71 a72 (j := (2 : Int32)) (inb_of S72 ⟨by decide, by decide⟩) (g := (mkF m 90 #[.val (.int n), .val (.int c0), .val (.int c1), .val (.int c2), .val (.int c3)] [(.int c2), (.int 2), (.ref b67), (.ref b67), (.ref b64), (.ref b64)])) rfl rfl (hb hby d2_90)
        refine Gl.st st72 ?_
        have V72 : Arv Z h72 b67 k67 .char (4 : Int32) [(.int (nar .char c0)), (.int (nar .char c1)), (.int (nar .char c2)), (.int 0)] (.int 0) := Arv.set a72 q72 S72 M72 H72 G72 (fits_nar_char _) W72 2 rfl (Nat.le_of_ble_eq_true rfl)
        have N72 := Fr.snoc X72 N71 g68
        show Gl p.tables e below _ (T72.setTop (mkF m 91 #[.val (.int n), .val (.int c0), .val (.int c1), .val (.int c2), .val (.int c3)] [(.ref b67), (.ref b64), (.ref b64)]))
        refine Gl.st (fun _ kq => XS.dup X72.here hx rfl (hb hby d2_91) rfl rfl kq) ?_
        show Gl p.tables e below _ (T72.setTop (mkF m 92 #[.val (.int n), .val (.int c0), .val (.int c1), .val (.int c2), .val (.int c3)] [(.ref b67), (.ref b67), (.ref b64), (.ref b64)]))
        refine Gl.st (fun _ kq => XS.iconst X72.here hx rfl (hb hby d2_92) kq) ?_
        show Gl p.tables e below _ (T72.setTop (mkF m 93 #[.val (.int n), .val (.int c0), .val (.int c1), .val (.int c2), .val (.int c3)] [(.int 3), (.ref b67), (.ref b67), (.ref b64), (.ref b64)]))
        refine Gl.st (fun _ kq => XS.iload X72.here hx rfl (hb hby d2_93) rfl kq) ?_
        show Gl p.tables e below _ (T72.setTop (mkF m 95 #[.val (.int n), .val (.int c0), .val (.int c1), .val (.int c2), .val (.int c3)] [(.int c3), (.int 3), (.ref b67), (.ref b67), (.ref b64), (.ref b64)]))
        obtain ⟨c73, a73, q73, S73, M73, H73, G73⟩ := id V72
        obtain ⟨T73, h73, X73, e73, W73, st73⟩ := stC X72 hx hZ e72 a73 (j := (3 : Int32)) (inb_of S73 ⟨by decide, by decide⟩) (g := (mkF m 95 #[.val (.int n), .val (.int c0), .val (.int c1), .val (.int c2), .val (.int c3)] [(.int c3), (.int 3), (.ref b67), (.ref b67), (.ref b64), (.ref b64)])) rfl rfl (hb hby d2_95)
        refine Gl.st st73 ?_
        have V73 : Arv Z h73 b67 k67 .char (4 : Int32) [(.int (nar .char c0)), (.int (nar .char c1)), (.int (nar .char c2)), (.int (nar .char c3))] (.int 0) := Arv.set a73 q73 S73 M73 H73 G73 (fits_nar_char _) W73 3 rfl (Nat.le_of_ble_eq_true rfl)
        have N73 := Fr.snoc X73 N72 g68
        show Gl p.tables e below _ (T73.setTop (mkF m 96 #[.val (.int n), .val (.int c0), .val (.int c1), .val (.int c2), .val (.int c3)] [(.ref b67), (.ref b64), (.ref b64)]))
        have f74 : Exa Z h73 b64 "java/lang/String" := (((((A64.ext E67).wr W70).wr W71).wr W72).wr W73)
        have ne75 : b64 ≠ b67 := Nat.ne_of_lt (Nat.lt_of_lt_of_le A64.lt (Nat.le_of_eq g67.symm))
        have f76 : Fld Z h73 b64 "java/lang/String" "value" "[B" .null := (((((F64_38.ext E67).other W70 (Or.inl ne75)).other W71 (Or.inl ne75)).other W72 (Or.inl ne75)).other W73 (Or.inl ne75))
        have f77 : Fld Z h73 b64 "java/lang/String" "coder" "B" (.int 0) := (((((F64_36.ext E67).other W70 (Or.inl ne75)).other W71 (Or.inl ne75)).other W72 (Or.inl ne75)).other W73 (Or.inl ne75))
        have f78 : Old Z n0 h73 := ((((((pf0.ext E64).ext E67).wr W70 g68).wr W71 g68).wr W72 g68).wr W73 g68)
        have hp79 : ∀ c ∈ ([(nar .char c0), (nar .char c1), (nar .char c2), (nar .char c3)] : List Int32), ¬ c < 0 ∧ ¬ (255 : Int32) < c := (alcS (cc_rng (cc_nar hq0)) (alcS (cc_rng (cc_nar hq1)) (alcS (cc_rng (cc_nar hq2)) (alcS (cc_rng (cc_nar hq3)) alc0))))
        have f80 : Fld Z h73 b64 "java/lang/String" "hash" "I" (.int 0) := (((((F64_122.ext E67).other W70 (Or.inl ne75)).other W71 (Or.inl ne75)).other W72 (Or.inl ne75)).other W73 (Or.inl ne75))
        have f81 : Fld Z h73 b64 "java/lang/String" "hashIsZero" "Z" (.int 0) := (((((F64_124.ext E67).other W70 (Or.inl ne75)).other W71 (Or.inl ne75)).other W72 (Or.inl ne75)).other W73 (Or.inl ne75))
        obtain ⟨_, _, ⟨T82, L82, k82, n82⟩, -, X82, ⟨Lc82, hQ82, l82, y82, z82⟩, st82⟩ := X73.specialBack hx (y := (⟨"java/lang/String", "<init>", "([C)V"⟩ : MethodName)) rfl hown (mvT hZ (tw hw 13 rfl)) (mvT hZ (tw hw 14 rfl)) (mvT hZ (tw hw 15 rfl)) (by decide) (own_backH (W := 1) hZ (wdNew hw) (kI := 4) (tw hw 10 rfl) (cs := ([(nar .char c0), (nar .char c1), (nar .char c2), (nar .char c3)] : List Int32)) (bs := (([(nar .char c0), (nar .char c1), (nar .char c2), (nar .char c3)] : List Int32).map (fun c => c.toInt8.toInt32))) (n := 4) g65 (Nat.le_trans (Nat.le_trans (Nat.le_trans (Nat.le_trans (Nat.le_trans (Nat.le_trans Z0 E64.1) E67.1) (Keep.of_wr W70).1) (Keep.of_wr W71).1) (Keep.of_wr W72).1) (Keep.of_wr W73).1) f74 f76 f77 V73 (O2.ext f78.2) P5 rfl rfl (by decide) (by decide) hp79 rfl (by decide) (by decide)) (g := (mkF m 96 #[.val (.int n), .val (.int c0), .val (.int c1), .val (.int c2), .val (.int c3)] [(.ref b67), (.ref b64), (.ref b64)])) rfl (by rw [hml]; rfl) (Steps.refl _) (a := b64) (argsL := [(.ref b67)]) (rest := [(.ref b64)]) (lenOf pd___C_V rfl) rfl (by show 2 * 0 + _ ≤ _; exact Nat.le_of_eq rfl) (hb hby d2_96) (fun _ _ => ⟨rfl, e73, (by decide : 2 + 1 ≤ _), (by decide : 8 + 4 ≤ _)⟩)
        dsimp only [Pt.U, Pt.locs, Pt.cells, Pt.slots] at X82 l82 y82 z82 st82 hQ82
        subst l82 y82 z82
        obtain ⟨rfl, N82, K82, q82_0, q82_1, t79, k79, y82_0, y82_1, y82_2, q82_2, q82_3, y82_3, o82⟩ := hQ82
        have M82 := Fr.app N73 N82
        have g83 : n0 ≤ t79 := Nat.le_trans (Nat.le_trans (Nat.le_trans (Nat.le_trans (Nat.le_trans (Nat.le_trans (Nat.le_trans Z0 E64.1) E67.1) (Keep.of_wr W70).1) (Keep.of_wr W71).1) (Keep.of_wr W72).1) (Keep.of_wr W73).1) y82_1
        have s84 : h0.size ≤ t79 := Nat.le_trans (Nat.le_trans (Nat.le_trans (Nat.le_trans (Nat.le_trans (Nat.le_trans (Nat.le_trans (Nat.le_refl _) E64.1) E67.1) (Keep.of_wr W70).1) (Keep.of_wr W71).1) (Keep.of_wr W72).1) (Keep.of_wr W73).1) y82_1
        refine Gl.to st82 ?_
        show Gl p.tables e below _ (T82.setTop (mkF m 99 #[.val (.int n), .val (.int c0), .val (.int c1), .val (.int c2), .val (.int c3)] [(.ref b64)]))
        show Gl p.tables e below _ (T82.setTop (mkF m 99 #[.val (.int n), .val (.int c0), .val (.int c1), .val (.int c2), .val (.int c3)] [(.ref b64)]))
        have K85 : Keep h0 T82.heap [] := ((((((((Keep.refl h0 []).ext E64).ext E67).wr W70 (Or.inr s69)).wr W71 (Or.inr s69)).wr W72 (Or.inr s69)).wr W73 (Or.inr s69)).trans K82 (allS (Or.inr s66) all0))
        exact Gl.retA X82 hx Bd.returns rfl rfl (hb hby d2_99) hlk (by decide) (by decide) ⟨b64, t79, k79, ([(nar .char c0), (nar .char c1), (nar .char c2), (nar .char c3)] : List Int32), rfl, M82, K85, q82_0, q82_1, q82_2, q82_3, (o82 _ _ _ _ f80 (slot_ne (Or.inl (tw hw 122 rfl)) (Or.inr (tw hw 38 rfl)) (by decide) (t := .int) (t' := (.array .byte)) (by decide) (by decide)) (slot_ne (Or.inl (tw hw 122 rfl)) (Or.inr (tw hw 36 rfl)) (by decide) (t := .int) (t' := .byte) (by decide) (by decide))), (o82 _ _ _ _ f81 (slot_ne (Or.inl (tw hw 124 rfl)) (Or.inr (tw hw 38 rfl)) (by decide) (t := .boolean) (t' := (.array .byte)) (by decide) (by decide)) (slot_ne (Or.inl (tw hw 124 rfl)) (Or.inr (tw hw 36 rfl)) (by decide) (t := .boolean) (t' := .byte) (by decide) (by decide))), (alcS (cc_nar hq0) (alcS (cc_nar hq1) (alcS (cc_nar hq2) (alcS (cc_nar hq3) own_ccl0)))), (by simp), (Nat.le_of_ble_eq_true rfl), y82_3, s66, s84, y82_2⟩
theorem d18_0 : decode prog_51_method_1_code 0 = .ok (.aload_n 0, 1) := by decide +kernel
theorem d18_1 : decode prog_51_method_1_code 1 = .ok (.invokespecial 1, 3) := by decide +kernel
theorem d18_4 : decode prog_51_method_1_code 4 = .ok (.aload_n 0, 1) := by decide +kernel
theorem d18_5 : decode prog_51_method_1_code 5 = .ok (.aload_n 1, 1) := by decide +kernel
theorem d18_6 : decode prog_51_method_1_code 6 = .ok (.putfield 7, 3) := by decide +kernel
theorem d18_9 : decode prog_51_method_1_code 9 = .ok (.return_, 1) := by decide +kernel
theorem ef_ini (m : MethodId) (a : Addr) (s0 : Addr) : entryFrame m #[(.ref a), (.ref s0)] 2 = mkF m 0 #[.val (.ref a), .val (.ref s0)] [] := by first | (simp [entryFrame, mkF, argsToLocals, Value.category]; done) | rfl
def Q_ini (Z : State) (a : Addr) (s0 : Addr) (o1 : Value) (h0 : Heap) (n0 : Nat) (v : Option Value) (h : Heap) (L : List Loc) : Prop := (v = none ∧ Fr n0 L ∧ Keep h0 h [a] ∧ Exa Z h a "com/example/groupwright/groupwright/core/ShareId" ∧ Fld Z h a "com/example/groupwright/groupwright/core/ShareId" "value" "Ljava/lang/String;" (.ref s0))
set_option maxRecDepth 65536 in
set_option maxHeartbeats 40000000 in
theorem rm_ini (l : Launch) (Z : State) (a0 : Array Value) (hw : ∀ d ∈ tables_1, d.before a0 Z = true) (ws : List Jvm.Cond) (a : Addr) (s0 : Addr) (o1 : Value) (h0 : Heap) (n0 : Nat) (Z0 : n0 ≤ h0.size) (pf0 : Exa Z h0 a "com/example/groupwright/groupwright/core/ShareId") (pf1 : Fld Z h0 a "com/example/groupwright/groupwright/core/ShareId" "value" "Ljava/lang/String;" o1) (ga : n0 ≤ a) :
    MetFree l (⟨"com/example/groupwright/groupwright/core/ShareId", "<init>", "(Ljava/lang/String;)V"⟩ : MethodName) (head1 (Jvm.Cond.code (⟨"com/example/groupwright/groupwright/core/ShareId", "<init>", "(Ljava/lang/String;)V"⟩ : MethodName) prog_51_method_1_code 2 none :: ws) ({ frames := 1, cells := 0, slots := 0, locals := 12 } : Room)) (fun aa U => aa = #[(.ref a), (.ref s0)] ∧ Z.Warmed39 U.vm ∧ U.heap = h0) (fun _ _ _ _ _ => True) (fun _ U o U' => ∃ v L, o = .returned v ∧ Q_ini Z a s0 o1 h0 n0 v U'.heap L ∧ FrameEnd U o U' L ({ frames := 1, cells := 0, slots := 0, locals := 12 } : Room).cells ({ frames := 1, cells := 0, slots := 0, locals := 12 } : Room).slots) := by
  refine MetFree.of_bodySF (plainFor_of_name pn_com_example_groupwright_groupwright_core_ShareId) hisR ?_
  intro p e s m args below meth c s₁ Bd hml0 hP hK
  obtain ⟨rfl, hZ, hh⟩ := hP
  have hx := Bd.exec
  have hby := Bd.bytes
  have hlk : meth.locks = false := BodyLoose.notSynchronized Bd
  have hml : c.maxLocals = 2 := hml0
  have hown : s.vm.findClass "com/example/groupwright/groupwright/core/ShareId" = some m.cls := findClass_of_methodNamed Bd.named
  have hnm := (name_of_methodNamed Bd.named Bd.method).1
  have X0 : Stand p l e ({ frames := 1, cells := 0, slots := 0, locals := 12 } : Room) s m #[(.ref a), (.ref s0)] below meth c s₁ [] 0 0 := Stand.of_body Bd
  have e0 : s₁.heap = h0 := by rw [← hh, Bd.state]; rfl
  have N0 := Fr.nil n0
  show Gl p.tables e below (EndN s (Q_ini Z a s0 o1 h0 n0) ({ frames := 1, cells := 0, slots := 0, locals := 12 } : Room).cells ({ frames := 1, cells := 0, slots := 0, locals := 12 } : Room).slots) _
  refine Gl.cast (ef_ini m a s0) ?_
  show Gl p.tables e below _ (s₁.setTop (mkF m 0 #[.val (.ref a), .val (.ref s0)] []))
  refine Gl.st (fun _ kq => XS.aloadN X0.here hx rfl (hb hby d18_0) rfl rfl kq) ?_
  show Gl p.tables e below _ (s₁.setTop (mkF m 1 #[.val (.ref a), .val (.ref s0)] [(.ref a)]))
  obtain ⟨T1, X1, e1, st1⟩ := initO X0 hx hZ hown (tw hw 85 rfl) (tw hw 21 rfl) (tw hw 22 rfl) e0 (g := (mkF m 1 #[.val (.ref a), .val (.ref s0)] [(.ref a)])) rfl (by rw [hml]; rfl) rfl (hb hby d18_1) (by decide) (W := 0) (by show 2 * 0 + _ ≤ _; exact Nat.le_of_eq rfl) (by decide)
  refine Gl.st st1 ?_
  show Gl p.tables e below _ (T1.setTop (mkF m 4 #[.val (.ref a), .val (.ref s0)] []))
  refine Gl.st (fun _ kq => XS.aloadN X1.here hx rfl (hb hby d18_4) rfl rfl kq) ?_
  show Gl p.tables e below _ (T1.setTop (mkF m 5 #[.val (.ref a), .val (.ref s0)] [(.ref a)]))
  refine Gl.st (fun _ kq => XS.aloadN X1.here hx rfl (hb hby d18_5) rfl rfl kq) ?_
  show Gl p.tables e below _ (T1.setTop (mkF m 6 #[.val (.ref a), .val (.ref s0)] [(.ref s0), (.ref a)]))
  obtain ⟨T2, h2, X2, e2, W2, st2⟩ := putF X1 hx hZ hown (host := "") (Or.inl (tw hw 86 rfl)) Via.refl e1 pf1 pf0 (Or.inr ⟨(tw hw 87 rfl), rfl, hnm⟩) (tw hw 81 rfl) (ty := (.object "java/lang/String")) (by decide) rfl rfl (g := (mkF m 6 #[.val (.ref a), .val (.ref s0)] [(.ref s0), (.ref a)])) rfl rfl (hb hby d18_6)
  refine Gl.st st2 ?_
  have F2 : Fld Z h2 a "com/example/groupwright/groupwright/core/ShareId" "value" "Ljava/lang/String;" (.ref s0) := Fld.same W2 pf1
  have N2 := Fr.snoc X2 N0 ga
  show Gl p.tables e below _ (T2.setTop (mkF m 9 #[.val (.ref a), .val (.ref s0)] []))
  have K3 : Keep h0 h2 [a] := ((Keep.refl h0 [a]).wr W2 (Or.inl (List.mem_of_getElem? (i := 0) rfl)))
  have f4 : Exa Z h2 a "com/example/groupwright/groupwright/core/ShareId" := (pf0.wr W2)
  exact Gl.ret0 X2 hx Bd.returns (hb hby d18_9) hlk (by decide) (by decide) (by rw [e2]; exact ⟨rfl, N2, K3, f4, F2⟩)
theorem d9_0 : decode prog_51_method_2_code 0 = .ok (.aload_n 0, 1) := by decide +kernel
theorem d9_1 : decode prog_51_method_2_code 1 = .ok (.invokevirtual 13, 3) := by decide +kernel
theorem d9_4 : decode prog_51_method_2_code 4 = .ok (.ifCond .ne 7, 3) := by decide +kernel
theorem d9_7 : decode prog_51_method_2_code 7 = .ok (.iconst 1, 1) := by decide +kernel
theorem d9_8 : decode prog_51_method_2_code 8 = .ok (.goto 4, 3) := by decide +kernel
theorem d9_12 : decode prog_51_method_2_code 12 = .ok (.istore_n 1, 1) := by decide +kernel
theorem d9_13 : decode prog_51_method_2_code 13 = .ok (.iconst 0, 1) := by decide +kernel
theorem d9_14 : decode prog_51_method_2_code 14 = .ok (.istore_n 2, 1) := by decide +kernel
theorem d9_15 : decode prog_51_method_2_code 15 = .ok (.iload_n 1, 1) := by decide +kernel
theorem d9_16 : decode prog_51_method_2_code 16 = .ok (.ifCond .eq 43, 3) := by decide +kernel
theorem d9_19 : decode prog_51_method_2_code 19 = .ok (.iload_n 2, 1) := by decide +kernel
theorem d9_20 : decode prog_51_method_2_code 20 = .ok (.aload_n 0, 1) := by decide +kernel
theorem d9_21 : decode prog_51_method_2_code 21 = .ok (.invokevirtual 19, 3) := by decide +kernel
theorem d9_24 : decode prog_51_method_2_code 24 = .ok (.if_icmp .ge 35, 3) := by decide +kernel
theorem d9_27 : decode prog_51_method_2_code 27 = .ok (.aload_n 0, 1) := by decide +kernel
theorem d9_28 : decode prog_51_method_2_code 28 = .ok (.iload_n 2, 1) := by decide +kernel
theorem d9_29 : decode prog_51_method_2_code 29 = .ok (.invokevirtual 23, 3) := by decide +kernel
theorem d9_32 : decode prog_51_method_2_code 32 = .ok (.bipush 48, 2) := by decide +kernel
theorem d9_34 : decode prog_51_method_2_code 34 = .ok (.if_icmp .lt 17, 3) := by decide +kernel
theorem d9_37 : decode prog_51_method_2_code 37 = .ok (.aload_n 0, 1) := by decide +kernel
theorem d9_38 : decode prog_51_method_2_code 38 = .ok (.iload_n 2, 1) := by decide +kernel
theorem d9_39 : decode prog_51_method_2_code 39 = .ok (.invokevirtual 23, 3) := by decide +kernel
theorem d9_42 : decode prog_51_method_2_code 42 = .ok (.bipush 57, 2) := by decide +kernel
theorem d9_44 : decode prog_51_method_2_code 44 = .ok (.if_icmp .gt 7, 3) := by decide +kernel
theorem d9_47 : decode prog_51_method_2_code 47 = .ok (.iconst 1, 1) := by decide +kernel
theorem d9_48 : decode prog_51_method_2_code 48 = .ok (.goto 4, 3) := by decide +kernel
theorem d9_52 : decode prog_51_method_2_code 52 = .ok (.istore_n 1, 1) := by decide +kernel
theorem d9_53 : decode prog_51_method_2_code 53 = .ok (.iinc 2 1, 3) := by decide +kernel
theorem d9_56 : decode prog_51_method_2_code 56 = .ok (.goto (-41), 3) := by decide +kernel
theorem d9_59 : decode prog_51_method_2_code 59 = .ok (.iload_n 1, 1) := by decide +kernel
theorem d9_60 : decode prog_51_method_2_code 60 = .ok (.ifCond .ne 17, 3) := by decide +kernel
theorem d9_77 : decode prog_51_method_2_code 77 = .ok (.new 8, 3) := by decide +kernel
theorem d9_80 : decode prog_51_method_2_code 80 = .ok (.dup, 1) := by decide +kernel
theorem d9_81 : decode prog_51_method_2_code 81 = .ok (.aload_n 0, 1) := by decide +kernel
theorem d9_82 : decode prog_51_method_2_code 82 = .ok (.invokespecial 36, 3) := by decide +kernel
theorem d9_85 : decode prog_51_method_2_code 85 = .ok (.areturn, 1) := by decide +kernel
theorem ef_of (m : MethodId) (b : Addr) : entryFrame m #[(.ref b)] 3 = mkF m 0 #[.val (.ref b), .unset, .unset] [] := by first | (simp [entryFrame, mkF, argsToLocals, Value.category]; done) | rfl
def Q_of (Z : State) (b : Addr) (t : Addr) (k : ClassId) (cs : List Int32) (G1 : Int32) (G3 : Value) (h0 : Heap) (n0 : Nat) (v : Option Value) (h : Heap) (L : List Loc) : Prop := (∃ a : Addr, v = some (.ref a) ∧ Fr n0 L ∧ Keep h0 h [] ∧ Exa Z h a "com/example/groupwright/groupwright/core/ShareId" ∧ Fld Z h a "com/example/groupwright/groupwright/core/ShareId" "value" "Ljava/lang/String;" (.ref b) ∧ (h0.size ≤ a))
set_option maxRecDepth 65536 in
set_option maxHeartbeats 40000000 in
theorem rm_of (l : Launch) (Z : State) (a0 : Array Value) (hw : ∀ d ∈ tables_1, d.before a0 Z = true) (ws : List Jvm.Cond) (b : Addr) (t : Addr) (k : ClassId) (cs : List Int32) (G1 : Int32) (G3 : Value) (h0 : Heap) (n0 : Nat) (Z0 : n0 ≤ h0.size) (pf0 : Exa Z h0 b "java/lang/String") (pf1 : Fld Z h0 b "java/lang/String" "coder" "B" (.int 0)) (pf2 : Fld Z h0 b "java/lang/String" "value" "[B" (.ref t)) (pf3 : Arv Z h0 t k .byte (Int32.ofNat cs.length) ((cs.map (fun c => c.toInt8.toInt32)).map Value.int) (.int 0)) (pf4 : Old Z n0 h0) (hA : ∀ c ∈ cs, own_cc c) (hB : ¬ cs.length = 0) (hC : cs.length ≤ 4) (O2 : Sta Z Z.heap "java/lang/String" "COMPACT_STRINGS" "Z" (.int G1)) (P5 : ¬ (G1 = (0 : Int32))) (O4 : Sta Z Z.heap "jdk/internal/util/Preconditions" "SIOOBE_FORMATTER" "Ljava/util/function/BiFunction;" G3) (rG3 : G3.isRef = true) :
    MetFree l (⟨"com/example/groupwright/groupwright/core/ShareId", "of", "(Ljava/lang/String;)Lcom/example/groupwright/groupwright/core/ShareId;"⟩ : MethodName) (head1 (Jvm.Cond.code (⟨"com/example/groupwright/groupwright/core/ShareId", "of", "(Ljava/lang/String;)Lcom/example/groupwright/groupwright/core/ShareId;"⟩ : MethodName) prog_51_method_2_code 3 (some (.object "com/example/groupwright/groupwright/core/ShareId")) :: ws) ({ frames := 4, cells := 1, slots := 1, locals := 53 } : Room)) (fun aa U => aa = #[(.ref b)] ∧ Z.Warmed39 U.vm ∧ U.heap = h0) (fun _ _ _ _ _ => True) (fun _ U o U' => ∃ v L, o = .returned v ∧ Q_of Z b t k cs G1 G3 h0 n0 v U'.heap L ∧ FrameEnd U o U' L ({ frames := 4, cells := 1, slots := 1, locals := 53 } : Room).cells ({ frames := 4, cells := 1, slots := 1, locals := 53 } : Room).slots) := by
  refine MetFree.of_bodySF (plainFor_of_name pn_com_example_groupwright_groupwright_core_ShareId) hisR ?_
  intro p e s m args below meth c s₁ Bd hml0 hP hK
  obtain ⟨rfl, hZ, hh⟩ := hP
  have hx := Bd.exec
  have hby := Bd.bytes
  have hlk : meth.locks = false := BodyLoose.notSynchronized Bd
  have hml : c.maxLocals = 3 := hml0
  have hown : s.vm.findClass "com/example/groupwright/groupwright/core/ShareId" = some m.cls := findClass_of_methodNamed Bd.named
  have hnm := (name_of_methodNamed Bd.named Bd.method).1
  have X0 : Stand p l e ({ frames := 4, cells := 1, slots := 1, locals := 53 } : Room) s m #[(.ref b)] below meth c s₁ [] 0 0 := Stand.of_body Bd
  have e0 : s₁.heap = h0 := by rw [← hh, Bd.state]; rfl
  have N0 := Fr.nil n0
  show Gl p.tables e below (EndN s (Q_of Z b t k cs G1 G3 h0 n0) ({ frames := 4, cells := 1, slots := 1, locals := 53 } : Room).cells ({ frames := 4, cells := 1, slots := 1, locals := 53 } : Room).slots) _
  refine Gl.cast (ef_of m b) ?_
  show Gl p.tables e below _ (s₁.setTop (mkF m 0 #[.val (.ref b), .unset, .unset] []))
  refine Gl.st (fun _ kq => XS.aloadN X0.here hx rfl (hb hby d9_0) rfl rfl kq) ?_
  show Gl p.tables e below _ (s₁.setTop (mkF m 1 #[.val (.ref b), .unset, .unset] [(.ref b)]))
  obtain ⟨cq1, kq1, q1a, q1b, q1c⟩ := isOf hZ e0 pf0
  obtain ⟨_, _, ⟨T1, L1, k1, n1⟩, -, X1, ⟨Lc1, hQ1, l1, y1, z1⟩, st1⟩ := X0.virtualBack hx (y := (⟨"java/lang/String", "isEmpty", "()Z"⟩ : MethodName)) (z := (⟨"java/lang/String", "isEmpty", "()Z"⟩ : MethodName)) hown (mvT hZ (tw hw 43 rfl)) (mvT hZ (tw hw 44 rfl)) (notFace_of_selects (args := #[]) (mvT hZ (tw hw 46 rfl))) (mvT hZ (tw hw 46 rfl)) (mvT hZ (tw hw 45 rfl)) (by decide) (StrChars.Road.empW (W := 0) hZ (wdEmp hw) (kI := 4) (tw hw 10 rfl) pf0 pf2 pf1 pf3 (StrChars.Road.codOf (cs := cs) rfl (fun x hx => ((fun c hc => cc_rng (hA c hc)) x hx).2)) (up255 _ (fun c hc => cc_rng (hA c hc))) (Nat.le_trans hC (by decide)) (by decide) (by decide)) q1a q1c (g := (mkF m 1 #[.val (.ref b), .unset, .unset] [(.ref b)])) rfl (by rw [hml]; rfl) (Steps.refl _) (argsL := []) (rest := []) (lenOf pd___Z rfl) rfl (by show 2 * 0 + _ ≤ _; exact Nat.le_of_eq rfl) (hb hby d9_1) (fun _ _ => ⟨rfl, e0, (by decide : 0 + 0 ≤ _), (by decide : 0 + 0 ≤ _)⟩)
  dsimp only [Pt.U, Pt.locs, Pt.cells, Pt.slots] at X1 l1 y1 z1 st1 hQ1
  subst l1 y1 z1
  obtain ⟨rfl, rfl, e1⟩ := hQ1
  have N1 : Fr n0 ([] : List Loc) := Fr.nil n0
  rw [if_neg hB] at st1
  have M1 := Fr.app N0 N1
  refine Gl.to st1 ?_
  show Gl p.tables e below _ (T1.setTop (mkF m 4 #[.val (.ref b), .unset, .unset] [(.int 0)]))
  show Gl p.tables e below _ (T1.setTop (mkF m 4 #[.val (.ref b), .unset, .unset] [(.int 0)]))
  refine Gl.st (fun _ kq => XS.ifNo X1.here hx rfl (hb hby d9_4) rfl ((if0 _ _).trans (teq ((by decide) : (0 : Int32) = (0 : Int32))).2) kq) ?_
  show Gl p.tables e below _ (T1.setTop (mkF m 7 #[.val (.ref b), .unset, .unset] []))
  refine Gl.st (fun _ kq => XS.iconst X1.here hx rfl (hb hby d9_7) kq) ?_
  show Gl p.tables e below _ (T1.setTop (mkF m 8 #[.val (.ref b), .unset, .unset] [(.int 1)]))
  refine Gl.st (fun _ kq => XS.goto X1.here hx rfl (pc0 := 8) (pc' := 12) rfl (hb hby d9_8) (by decide) (by decide) kq) ?_
  show Gl p.tables e below _ (T1.setTop (mkF m 12 #[.val (.ref b), .unset, .unset] [(.int 1)]))
  refine Gl.st (fun _ kq => XS.istoreN X1.here hx rfl (hb hby d9_12) rfl (l' := #[.val (.ref b), .val (.int 1), .unset]) rfl kq) ?_
  show Gl p.tables e below _ (T1.setTop (mkF m 13 #[.val (.ref b), .val (.int 1), .unset] []))
  refine Gl.st (fun _ kq => XS.iconst X1.here hx rfl (hb hby d9_13) kq) ?_
  show Gl p.tables e below _ (T1.setTop (mkF m 14 #[.val (.ref b), .val (.int 1), .unset] [(.int 0)]))
  refine Gl.st (fun _ kq => XS.istoreN X1.here hx rfl (hb hby d9_14) rfl (l' := #[.val (.ref b), .val (.int 1), .val (.int 0)]) rfl kq) ?_
  show Gl p.tables e below _ (T1.setTop (mkF m 15 #[.val (.ref b), .val (.int 1), .val (.int 0)] []))
  have loop : ∀ (k i : Nat) (Ti : State) (Li : List Loc) (Xi : Stand p l e ({ frames := 4, cells := 1, slots := 1, locals := 53 } : Room) s m #[(.ref b)] below meth c Ti Li 0 0) (ei : Ti.heap = h0) (Ni : Fr n0 Li) (hi : i + k = cs.length), Gl p.tables e below (EndN s (Q_of Z b t k cs G1 G3 h0 n0) ({ frames := 4, cells := 1, slots := 1, locals := 53 } : Room).cells ({ frames := 4, cells := 1, slots := 1, locals := 53 } : Room).slots) (Ti.setTop (mkF m 15 #[.val (.ref b), .val (.int 1), .val (.int (Int32.ofNat i))] [])) := by
    intro k
    induction k with
    | zero =>
      intro i Ti Li Xi ei Ni hi
      have hlt : ¬ (Int32.ofNat i < Int32.ofNat cs.length) := fun q => absurd ((own_len (by omega) hC).mp q) (by omega)
      show Gl p.tables e below _ (Ti.setTop (mkF m 15 #[.val (.ref b), .val (.int 1), .val (.int (Int32.ofNat i))] []))
      refine Gl.st (fun _ kq => XS.iloadN Xi.here hx rfl (hb hby d9_15) rfl kq) ?_
      show Gl p.tables e below _ (Ti.setTop (mkF m 16 #[.val (.ref b), .val (.int 1), .val (.int (Int32.ofNat i))] [(.int 1)]))
      refine Gl.st (fun _ kq => XS.ifNo Xi.here hx rfl (hb hby d9_16) rfl ((if0 _ _).trans (feq ((by decide) : ¬ ((1 : Int32) = (0 : Int32)))).1) kq) ?_
      show Gl p.tables e below _ (Ti.setTop (mkF m 19 #[.val (.ref b), .val (.int 1), .val (.int (Int32.ofNat i))] []))
      refine Gl.st (fun _ kq => XS.iloadN Xi.here hx rfl (hb hby d9_19) rfl kq) ?_
      show Gl p.tables e below _ (Ti.setTop (mkF m 20 #[.val (.ref b), .val (.int 1), .val (.int (Int32.ofNat i))] [(.int (Int32.ofNat i))]))
      refine Gl.st (fun _ kq => XS.aloadN Xi.here hx rfl (hb hby d9_20) rfl rfl kq) ?_
      show Gl p.tables e below _ (Ti.setTop (mkF m 21 #[.val (.ref b), .val (.int 1), .val (.int (Int32.ofNat i))] [(.ref b), (.int (Int32.ofNat i))]))
      obtain ⟨cq2, kq2, q2a, q2b, q2c⟩ := isOf hZ ei pf0
      obtain ⟨_, _, ⟨T2, L2, k2, n2⟩, -, X2, ⟨Lc2, hQ2, l2, y2, z2⟩, st2⟩ := Xi.virtualBack hx (y := (⟨"java/lang/String", "length", "()I"⟩ : MethodName)) (z := (⟨"java/lang/String", "length", "()I"⟩ : MethodName)) hown (mvT hZ (tw hw 48 rfl)) (mvT hZ (tw hw 49 rfl)) (notFace_of_selects (args := #[]) (mvT hZ (tw hw 51 rfl))) (mvT hZ (tw hw 51 rfl)) (mvT hZ (tw hw 50 rfl)) (by decide) (StrChars.Road.lenW (W := 1) hZ (wdLen hw) (kI := 4) (tw hw 10 rfl) pf0 pf2 pf1 pf3 (StrChars.Road.codOf (cs := cs) rfl (fun x hx => ((fun c hc => cc_rng (hA c hc)) x hx).2)) (up255 _ (fun c hc => cc_rng (hA c hc))) (O2.ext pf4.2) P5 (Nat.le_trans hC (by decide)) (by decide) (by decide)) q2a q2c (g := (mkF m 21 #[.val (.ref b), .val (.int 1), .val (.int (Int32.ofNat i))] [(.ref b), (.int (Int32.ofNat i))])) rfl (by rw [hml]; rfl) (Steps.refl _) (argsL := []) (rest := [(.int (Int32.ofNat i))]) (lenOf pd___I rfl) rfl (by show 2 * 0 + _ ≤ _; exact Nat.le_of_eq rfl) (hb hby d9_21) (fun _ _ => ⟨rfl, ei, (by decide : 0 + 0 ≤ _), (by decide : 0 + 0 ≤ _)⟩)
      dsimp only [Pt.U, Pt.locs, Pt.cells, Pt.slots] at X2 l2 y2 z2 st2 hQ2
      subst l2 y2 z2
      obtain ⟨rfl, rfl, e2⟩ := hQ2
      have N2 : Fr n0 ([] : List Loc) := Fr.nil n0
      have M2 := Fr.app Ni N2
      refine Gl.to st2 ?_
      show Gl p.tables e below _ (T2.setTop (mkF m 24 #[.val (.ref b), .val (.int 1), .val (.int (Int32.ofNat i))] [(.int (Int32.ofNat cs.length)), (.int (Int32.ofNat i))]))
      show Gl p.tables e below _ (T2.setTop (mkF m 24 #[.val (.ref b), .val (.int 1), .val (.int (Int32.ofNat i))] [(.int (Int32.ofNat cs.length)), (.int (Int32.ofNat i))]))
      refine Gl.st (fun _ kq => XS.icmpYes X2.here hx rfl (pc0 := 24) (pc' := 59) rfl (hb hby d9_24) rfl (flt (hlt : ¬ ((Int32.ofNat i) < (Int32.ofNat cs.length)))).2.1 (by decide) (by decide) kq) ?_
      show Gl p.tables e below _ (T2.setTop (mkF m 59 #[.val (.ref b), .val (.int 1), .val (.int (Int32.ofNat i))] []))
      refine Gl.st (fun _ kq => XS.iloadN X2.here hx rfl (hb hby d9_59) rfl kq) ?_
      show Gl p.tables e below _ (T2.setTop (mkF m 60 #[.val (.ref b), .val (.int 1), .val (.int (Int32.ofNat i))] [(.int 1)]))
      refine Gl.st (fun _ kq => XS.ifYes X2.here hx rfl (pc0 := 60) (pc' := 77) rfl (hb hby d9_60) rfl ((if0 _ _).trans (feq ((by decide) : ¬ ((1 : Int32) = (0 : Int32)))).2) (by decide) (by decide) kq) ?_
      show Gl p.tables e below _ (T2.setTop (mkF m 77 #[.val (.ref b), .val (.int 1), .val (.int (Int32.ofNat i))] []))
      obtain ⟨T3, h3, X3, e3, E3, A3, D3, U3, st3⟩ := newO X2 hx hZ hown (tw hw 80 rfl) (tw hw 81 rfl) (tw hw 41 rfl) e2 (g := (mkF m 77 #[.val (.ref b), .val (.int 1), .val (.int (Int32.ofNat i))] [])) rfl (hb hby d9_77) (by decide) (by decide)
      obtain ⟨b3, g3⟩ : ∃ z, z = h0.size := ⟨_, rfl⟩
      rw [← g3] at A3 D3 U3 st3
      refine Gl.st st3 ?_
      have g4 : n0 ≤ b3 := Nat.le_trans Z0 (Nat.le_of_eq g3.symm)
      have s5 : h0.size ≤ b3 := Nat.le_trans (Nat.le_refl _) (Nat.le_of_eq g3.symm)
      have F3_87 : Fld Z h3 b3 "com/example/groupwright/groupwright/core/ShareId" "value" "Ljava/lang/String;" .null := D3 (Or.inr (tw hw 87 rfl)) (ty := (.object "java/lang/String")) (by decide)
      show Gl p.tables e below _ (T3.setTop (mkF m 80 #[.val (.ref b), .val (.int 1), .val (.int (Int32.ofNat i))] [(.ref b3)]))
      refine Gl.st (fun _ kq => XS.dup X3.here hx rfl (hb hby d9_80) rfl rfl kq) ?_
      show Gl p.tables e below _ (T3.setTop (mkF m 81 #[.val (.ref b), .val (.int 1), .val (.int (Int32.ofNat i))] [(.ref b3), (.ref b3)]))
      refine Gl.st (fun _ kq => XS.aloadN X3.here hx rfl (hb hby d9_81) rfl rfl kq) ?_
      show Gl p.tables e below _ (T3.setTop (mkF m 82 #[.val (.ref b), .val (.int 1), .val (.int (Int32.ofNat i))] [(.ref b), (.ref b3), (.ref b3)]))
      obtain ⟨_, _, ⟨T6, L6, k6, n6⟩, -, X6, ⟨Lc6, hQ6, l6, y6, z6⟩, st6⟩ := X3.specialBack hx (y := (⟨"com/example/groupwright/groupwright/core/ShareId", "<init>", "(Ljava/lang/String;)V"⟩ : MethodName)) rfl hown (mvT hZ (tw hw 82 rfl)) (mvT hZ (tw hw 83 rfl)) (mvT hZ (tw hw 84 rfl)) (by decide) (backOf (W := 1) (rm_ini l Z a0 hw [] (b3) (b) (.null) h3 n0 (Nat.le_trans Z0 E3.1) A3 F3_87 g4) hZ (tw hw 84 rfl) (tw hw 41 rfl) (by decide) (by decide)) (g := (mkF m 82 #[.val (.ref b), .val (.int 1), .val (.int (Int32.ofNat i))] [(.ref b), (.ref b3), (.ref b3)])) rfl (by rw [hml]; rfl) (Steps.refl _) (a := b3) (argsL := [(.ref b)]) (rest := [(.ref b3)]) (lenOf pd__Ljava_lang_String__V rfl) rfl (by show 2 * 0 + _ ≤ _; exact Nat.le_of_eq rfl) (hb hby d9_82) (fun _ _ => ⟨rfl, e3, (by decide : 1 + 0 ≤ _), (by decide : 1 + 0 ≤ _)⟩)
      dsimp only [Pt.U, Pt.locs, Pt.cells, Pt.slots] at X6 l6 y6 z6 st6 hQ6
      subst l6 y6 z6
      obtain ⟨rfl, N6, K6, q6_0, q6_1⟩ := hQ6
      have M6 := Fr.app M2 N6
      refine Gl.to st6 ?_
      show Gl p.tables e below _ (T6.setTop (mkF m 85 #[.val (.ref b), .val (.int 1), .val (.int (Int32.ofNat i))] [(.ref b3)]))
      show Gl p.tables e below _ (T6.setTop (mkF m 85 #[.val (.ref b), .val (.int 1), .val (.int (Int32.ofNat i))] [(.ref b3)]))
      have K7 : Keep h0 T6.heap [] := (((Keep.refl h0 []).ext E3).trans K6 (allS (Or.inr s5) all0))
      exact Gl.retA X6 hx Bd.returns rfl rfl (hb hby d9_85) hlk (by decide) (by decide) ⟨b3, rfl, M6, K7, q6_0, q6_1, s5⟩
    | succ k ih =>
      intro i Ti Li Xi ei Ni hi
      have hlt : i < cs.length := by omega
      have hlt' : Int32.ofNat i < Int32.ofNat cs.length := (own_len (by omega) hC).mpr hlt
      show Gl p.tables e below _ (Ti.setTop (mkF m 15 #[.val (.ref b), .val (.int 1), .val (.int (Int32.ofNat i))] []))
      refine Gl.st (fun _ kq => XS.iloadN Xi.here hx rfl (hb hby d9_15) rfl kq) ?_
      show Gl p.tables e below _ (Ti.setTop (mkF m 16 #[.val (.ref b), .val (.int 1), .val (.int (Int32.ofNat i))] [(.int 1)]))
      refine Gl.st (fun _ kq => XS.ifNo Xi.here hx rfl (hb hby d9_16) rfl ((if0 _ _).trans (feq ((by decide) : ¬ ((1 : Int32) = (0 : Int32)))).1) kq) ?_
      show Gl p.tables e below _ (Ti.setTop (mkF m 19 #[.val (.ref b), .val (.int 1), .val (.int (Int32.ofNat i))] []))
      refine Gl.st (fun _ kq => XS.iloadN Xi.here hx rfl (hb hby d9_19) rfl kq) ?_
      show Gl p.tables e below _ (Ti.setTop (mkF m 20 #[.val (.ref b), .val (.int 1), .val (.int (Int32.ofNat i))] [(.int (Int32.ofNat i))]))
      refine Gl.st (fun _ kq => XS.aloadN Xi.here hx rfl (hb hby d9_20) rfl rfl kq) ?_
      show Gl p.tables e below _ (Ti.setTop (mkF m 21 #[.val (.ref b), .val (.int 1), .val (.int (Int32.ofNat i))] [(.ref b), (.int (Int32.ofNat i))]))
      obtain ⟨cq8, kq8, q8a, q8b, q8c⟩ := isOf hZ ei pf0
      obtain ⟨_, _, ⟨T8, L8, k8, n8⟩, -, X8, ⟨Lc8, hQ8, l8, y8, z8⟩, st8⟩ := Xi.virtualBack hx (y := (⟨"java/lang/String", "length", "()I"⟩ : MethodName)) (z := (⟨"java/lang/String", "length", "()I"⟩ : MethodName)) hown (mvT hZ (tw hw 48 rfl)) (mvT hZ (tw hw 49 rfl)) (notFace_of_selects (args := #[]) (mvT hZ (tw hw 51 rfl))) (mvT hZ (tw hw 51 rfl)) (mvT hZ (tw hw 50 rfl)) (by decide) (StrChars.Road.lenW (W := 1) hZ (wdLen hw) (kI := 4) (tw hw 10 rfl) pf0 pf2 pf1 pf3 (StrChars.Road.codOf (cs := cs) rfl (fun x hx => ((fun c hc => cc_rng (hA c hc)) x hx).2)) (up255 _ (fun c hc => cc_rng (hA c hc))) (O2.ext pf4.2) P5 (Nat.le_trans hC (by decide)) (by decide) (by decide)) q8a q8c (g := (mkF m 21 #[.val (.ref b), .val (.int 1), .val (.int (Int32.ofNat i))] [(.ref b), (.int (Int32.ofNat i))])) rfl (by rw [hml]; rfl) (Steps.refl _) (argsL := []) (rest := [(.int (Int32.ofNat i))]) (lenOf pd___I rfl) rfl (by show 2 * 0 + _ ≤ _; exact Nat.le_of_eq rfl) (hb hby d9_21) (fun _ _ => ⟨rfl, ei, (by decide : 0 + 0 ≤ _), (by decide : 0 + 0 ≤ _)⟩)
      dsimp only [Pt.U, Pt.locs, Pt.cells, Pt.slots] at X8 l8 y8 z8 st8 hQ8
      subst l8 y8 z8
      obtain ⟨rfl, rfl, e8⟩ := hQ8
      have N8 : Fr n0 ([] : List Loc) := Fr.nil n0
      have M8 := Fr.app Ni N8
      refine Gl.to st8 ?_
      show Gl p.tables e below _ (T8.setTop (mkF m 24 #[.val (.ref b), .val (.int 1), .val (.int (Int32.ofNat i))] [(.int (Int32.ofNat cs.length)), (.int (Int32.ofNat i))]))
      show Gl p.tables e below _ (T8.setTop (mkF m 24 #[.val (.ref b), .val (.int 1), .val (.int (Int32.ofNat i))] [(.int (Int32.ofNat cs.length)), (.int (Int32.ofNat i))]))
      refine Gl.st (fun _ kq => XS.icmpNo X8.here hx rfl (hb hby d9_24) rfl (tlt (hlt' : (Int32.ofNat i) < (Int32.ofNat cs.length))).2.1 kq) ?_
      show Gl p.tables e below _ (T8.setTop (mkF m 27 #[.val (.ref b), .val (.int 1), .val (.int (Int32.ofNat i))] []))
      refine Gl.st (fun _ kq => XS.aloadN X8.here hx rfl (hb hby d9_27) rfl rfl kq) ?_
      show Gl p.tables e below _ (T8.setTop (mkF m 28 #[.val (.ref b), .val (.int 1), .val (.int (Int32.ofNat i))] [(.ref b)]))
      refine Gl.st (fun _ kq => XS.iloadN X8.here hx rfl (hb hby d9_28) rfl kq) ?_
      show Gl p.tables e below _ (T8.setTop (mkF m 29 #[.val (.ref b), .val (.int 1), .val (.int (Int32.ofNat i))] [(.int (Int32.ofNat i)), (.ref b)]))
      obtain ⟨cq9, kq9, q9a, q9b, q9c⟩ := isOf hZ e8 pf0
      obtain ⟨_, _, ⟨T9, L9, k9, n9⟩, -, X9, ⟨Lc9, hQ9, l9, y9, z9⟩, st9⟩ := X8.virtualBack hx (y := (⟨"java/lang/String", "charAt", "(I)C"⟩ : MethodName)) (z := (⟨"java/lang/String", "charAt", "(I)C"⟩ : MethodName)) hown (mvT hZ (tw hw 58 rfl)) (mvT hZ (tw hw 59 rfl)) (notFace_of_selects (args := #[]) (mvT hZ (tw hw 61 rfl))) (mvT hZ (tw hw 61 rfl)) (mvT hZ (tw hw 60 rfl)) (by decide) (StrChars.Road.chN (W := 0) hZ (wdCh hw) (kI := 4) (tw hw 10 rfl) pf0 pf2 pf1 pf3 (StrChars.Road.codOf (cs := cs) rfl (fun x hx => ((fun c hc => cc_rng (hA c hc)) x hx).2)) (up255 _ (fun c hc => cc_rng (hA c hc))) (O2.ext pf4.2) P5 (O4.ext pf4.2) rG3 (Nat.le_trans hC (by decide)) (i := i) hlt (j := (Int32.ofNat i)) rfl (by decide) (by decide)) q9a q9c (g := (mkF m 29 #[.val (.ref b), .val (.int 1), .val (.int (Int32.ofNat i))] [(.int (Int32.ofNat i)), (.ref b)])) rfl (by rw [hml]; rfl) (Steps.refl _) (argsL := [(.int (Int32.ofNat i))]) (rest := []) (lenOf pd__I_C rfl) rfl (by show 2 * 0 + _ ≤ _; exact Nat.le_of_eq rfl) (hb hby d9_29) (fun _ _ => ⟨rfl, e8, (by decide : 0 + 0 ≤ _), (by decide : 0 + 0 ≤ _)⟩)
      dsimp only [Pt.U, Pt.locs, Pt.cells, Pt.slots] at X9 l9 y9 z9 st9 hQ9
      subst l9 y9 z9
      obtain ⟨rfl, rfl, e9⟩ := hQ9
      have N9 : Fr n0 ([] : List Loc) := Fr.nil n0
      have M9 := Fr.app M8 N9
      refine Gl.to st9 ?_
      show Gl p.tables e below _ (T9.setTop (mkF m 32 #[.val (.ref b), .val (.int 1), .val (.int (Int32.ofNat i))] [(.int (cs.getD i 0))]))
      show Gl p.tables e below _ (T9.setTop (mkF m 32 #[.val (.ref b), .val (.int 1), .val (.int (Int32.ofNat i))] [(.int (cs.getD i 0))]))
      refine Gl.st (fun _ kq => XS.bipush X9.here hx rfl (hb hby d9_32) kq) ?_
      show Gl p.tables e below _ (T9.setTop (mkF m 34 #[.val (.ref b), .val (.int 1), .val (.int (Int32.ofNat i))] [(.int 48), (.int (cs.getD i 0))]))
      refine Gl.st (fun _ kq => XS.icmpNo X9.here hx rfl (hb hby d9_34) rfl (flt ((own_get hA hlt).1 : ¬ ((cs.getD i 0) < (48 : Int32)))).1 kq) ?_
      show Gl p.tables e below _ (T9.setTop (mkF m 37 #[.val (.ref b), .val (.int 1), .val (.int (Int32.ofNat i))] []))
      refine Gl.st (fun _ kq => XS.aloadN X9.here hx rfl (hb hby d9_37) rfl rfl kq) ?_
      show Gl p.tables e below _ (T9.setTop (mkF m 38 #[.val (.ref b), .val (.int 1), .val (.int (Int32.ofNat i))] [(.ref b)]))
      refine Gl.st (fun _ kq => XS.iloadN X9.here hx rfl (hb hby d9_38) rfl kq) ?_
      show Gl p.tables e below _ (T9.setTop (mkF m 39 #[.val (.ref b), .val (.int 1), .val (.int (Int32.ofNat i))] [(.int (Int32.ofNat i)), (.ref b)]))
      obtain ⟨cq10, kq10, q10a, q10b, q10c⟩ := isOf hZ e9 pf0
      obtain ⟨_, _, ⟨T10, L10, k10, n10⟩, -, X10, ⟨Lc10, hQ10, l10, y10, z10⟩, st10⟩ := X9.virtualBack hx (y := (⟨"java/lang/String", "charAt", "(I)C"⟩ : MethodName)) (z := (⟨"java/lang/String", "charAt", "(I)C"⟩ : MethodName)) hown (mvT hZ (tw hw 58 rfl)) (mvT hZ (tw hw 59 rfl)) (notFace_of_selects (args := #[]) (mvT hZ (tw hw 61 rfl))) (mvT hZ (tw hw 61 rfl)) (mvT hZ (tw hw 60 rfl)) (by decide) (StrChars.Road.chN (W := 0) hZ (wdCh hw) (kI := 4) (tw hw 10 rfl) pf0 pf2 pf1 pf3 (StrChars.Road.codOf (cs := cs) rfl (fun x hx => ((fun c hc => cc_rng (hA c hc)) x hx).2)) (up255 _ (fun c hc => cc_rng (hA c hc))) (O2.ext pf4.2) P5 (O4.ext pf4.2) rG3 (Nat.le_trans hC (by decide)) (i := i) hlt (j := (Int32.ofNat i)) rfl (by decide) (by decide)) q10a q10c (g := (mkF m 39 #[.val (.ref b), .val (.int 1), .val (.int (Int32.ofNat i))] [(.int (Int32.ofNat i)), (.ref b)])) rfl (by rw [hml]; rfl) (Steps.refl _) (argsL := [(.int (Int32.ofNat i))]) (rest := []) (lenOf pd__I_C rfl) rfl (by show 2 * 0 + _ ≤ _; exact Nat.le_of_eq rfl) (hb hby d9_39) (fun _ _ => ⟨rfl, e9, (by decide : 0 + 0 ≤ _), (by decide : 0 + 0 ≤ _)⟩)
      dsimp only [Pt.U, Pt.locs, Pt.cells, Pt.slots] at X10 l10 y10 z10 st10 hQ10
      subst l10 y10 z10
      obtain ⟨rfl, rfl, e10⟩ := hQ10
      have N10 : Fr n0 ([] : List Loc) := Fr.nil n0
      have M10 := Fr.app M9 N10
      refine Gl.to st10 ?_
      show Gl p.tables e below _ (T10.setTop (mkF m 42 #[.val (.ref b), .val (.int 1), .val (.int (Int32.ofNat i))] [(.int (cs.getD i 0))]))
      show Gl p.tables e below _ (T10.setTop (mkF m 42 #[.val (.ref b), .val (.int 1), .val (.int (Int32.ofNat i))] [(.int (cs.getD i 0))]))
      refine Gl.st (fun _ kq => XS.bipush X10.here hx rfl (hb hby d9_42) kq) ?_
      show Gl p.tables e below _ (T10.setTop (mkF m 44 #[.val (.ref b), .val (.int 1), .val (.int (Int32.ofNat i))] [(.int 57), (.int (cs.getD i 0))]))
      refine Gl.st (fun _ kq => XS.icmpNo X10.here hx rfl (hb hby d9_44) rfl (flt ((own_get hA hlt).2 : ¬ ((57 : Int32) < (cs.getD i 0)))).2.2.1 kq) ?_
      show Gl p.tables e below _ (T10.setTop (mkF m 47 #[.val (.ref b), .val (.int 1), .val (.int (Int32.ofNat i))] []))
      refine Gl.st (fun _ kq => XS.iconst X10.here hx rfl (hb hby d9_47) kq) ?_
      show Gl p.tables e below _ (T10.setTop (mkF m 48 #[.val (.ref b), .val (.int 1), .val (.int (Int32.ofNat i))] [(.int 1)]))
      refine Gl.st (fun _ kq => XS.goto X10.here hx rfl (pc0 := 48) (pc' := 52) rfl (hb hby d9_48) (by decide) (by decide) kq) ?_
      show Gl p.tables e below _ (T10.setTop (mkF m 52 #[.val (.ref b), .val (.int 1), .val (.int (Int32.ofNat i))] [(.int 1)]))
      refine Gl.st (fun _ kq => XS.istoreN X10.here hx rfl (hb hby d9_52) rfl (l' := #[.val (.ref b), .val (.int 1), .val (.int (Int32.ofNat i))]) rfl kq) ?_
      show Gl p.tables e below _ (T10.setTop (mkF m 53 #[.val (.ref b), .val (.int 1), .val (.int (Int32.ofNat i))] []))
      refine Gl.st (fun _ kq => XS.iinc X10.here hx rfl (hb hby d9_53) rfl (l' := #[.val (.ref b), .val (.int 1), .val (.int ((Int32.ofNat i) + (1 : Int32)))]) rfl kq) ?_
      show Gl p.tables e below _ (T10.setTop (mkF m 56 #[.val (.ref b), .val (.int 1), .val (.int ((Int32.ofNat i) + (1 : Int32)))] []))
      refine Gl.st (fun _ kq => XS.goto X10.here hx rfl (pc0 := 56) (pc' := 15) rfl (hb hby d9_56) (by decide) (by decide) kq) ?_
      show Gl p.tables e below _ (T10.setTop (mkF m 15 #[.val (.ref b), .val (.int 1), .val (.int ((Int32.ofNat i) + (1 : Int32)))] []))
      rw [n32_inc i]
      exact ih (i + 1) _ _ X10 e10 M10 (by omega)
  exact loop cs.length 0 _ _ (X1.more (by decide) (by decide)) e1 M1 (by omega)
theorem d21_0 : decode prog_51_method_5_code 0 = .ok (.aload_n 0, 1) := by decide +kernel
theorem d21_1 : decode prog_51_method_5_code 1 = .ok (.getfield 7, 3) := by decide +kernel
theorem d21_4 : decode prog_51_method_5_code 4 = .ok (.areturn, 1) := by decide +kernel
theorem ef_ts (m : MethodId) (a : Addr) : entryFrame m #[(.ref a)] 1 = mkF m 0 #[.val (.ref a)] [] := by first | (simp [entryFrame, mkF, argsToLocals, Value.category]; done) | rfl
def Q_ts (Z : State) (a : Addr) (s0 : Addr) (h0 : Heap) (n0 : Nat) (v : Option Value) (h : Heap) (L : List Loc) : Prop := (v = some (.ref s0) ∧ Fr n0 L ∧ h = h0)
set_option maxRecDepth 65536 in
set_option maxHeartbeats 40000000 in
theorem rm_ts (l : Launch) (Z : State) (a0 : Array Value) (hw : ∀ d ∈ tables_1, d.before a0 Z = true) (ws : List Jvm.Cond) (a : Addr) (s0 : Addr) (h0 : Heap) (n0 : Nat) (Z0 : n0 ≤ h0.size) (pf0 : Fld Z h0 a "com/example/groupwright/groupwright/core/ShareId" "value" "Ljava/lang/String;" (.ref s0)) :
    MetFree l (⟨"com/example/groupwright/groupwright/core/ShareId", "toString", "()Ljava/lang/String;"⟩ : MethodName) (head1 (Jvm.Cond.code (⟨"com/example/groupwright/groupwright/core/ShareId", "toString", "()Ljava/lang/String;"⟩ : MethodName) prog_51_method_5_code 1 (some (.object "java/lang/String")) :: ws) ({ frames := 0, cells := 0, slots := 0, locals := 0 } : Room)) (fun aa U => aa = #[(.ref a)] ∧ Z.Warmed39 U.vm ∧ U.heap = h0) (fun _ _ _ _ _ => True) (fun _ U o U' => ∃ v L, o = .returned v ∧ Q_ts Z a s0 h0 n0 v U'.heap L ∧ FrameEnd U o U' L ({ frames := 0, cells := 0, slots := 0, locals := 0 } : Room).cells ({ frames := 0, cells := 0, slots := 0, locals := 0 } : Room).slots) := by
  refine MetFree.of_bodySF (plainFor_of_name pn_com_example_groupwright_groupwright_core_ShareId) hisR ?_
  intro p e s m args below meth c s₁ Bd hml0 hP hK
  obtain ⟨rfl, hZ, hh⟩ := hP
  have hx := Bd.exec
  have hby := Bd.bytes
  have hlk : meth.locks = false := BodyLoose.notSynchronized Bd
  have hml : c.maxLocals = 1 := hml0
  have hown : s.vm.findClass "com/example/groupwright/groupwright/core/ShareId" = some m.cls := findClass_of_methodNamed Bd.named
  have hnm := (name_of_methodNamed Bd.named Bd.method).1
  have X0 : Stand p l e ({ frames := 0, cells := 0, slots := 0, locals := 0 } : Room) s m #[(.ref a)] below meth c s₁ [] 0 0 := Stand.of_body Bd
  have e0 : s₁.heap = h0 := by rw [← hh, Bd.state]; rfl
  have N0 := Fr.nil n0
  show Gl p.tables e below (EndN s (Q_ts Z a s0 h0 n0) ({ frames := 0, cells := 0, slots := 0, locals := 0 } : Room).cells ({ frames := 0, cells := 0, slots := 0, locals := 0 } : Room).slots) _
  refine Gl.cast (ef_ts m a) ?_
  show Gl p.tables e below _ (s₁.setTop (mkF m 0 #[.val (.ref a)] []))
  refine Gl.st (fun _ kq => XS.aloadN X0.here hx rfl (hb hby d21_0) rfl rfl kq) ?_
  show Gl p.tables e below _ (s₁.setTop (mkF m 1 #[.val (.ref a)] [(.ref a)]))
  obtain ⟨T1, X1, e1, st1⟩ := getF X0 hx hZ hown (host := "") (Or.inl (tw hw 86 rfl)) Via.refl e0 pf0 (g := (mkF m 1 #[.val (.ref a)] [(.ref a)])) rfl rfl (hb hby d21_1)
  refine Gl.st st1 ?_
  show Gl p.tables e below _ (T1.setTop (mkF m 4 #[.val (.ref a)] [(.ref s0)]))
  exact Gl.retA X1 hx Bd.returns rfl rfl (hb hby d21_4) hlk (by decide) (by decide) (by rw [e1]; exact ⟨rfl, N0, rfl⟩)
theorem d22_0 : decode prog_51_method_3_code 0 = .ok (.aload_n 1, 1) := by decide +kernel
theorem d22_1 : decode prog_51_method_3_code 1 = .ok (.instanceof 8, 3) := by decide +kernel
theorem d22_4 : decode prog_51_method_3_code 4 = .ok (.ifCond .eq 26, 3) := by decide +kernel
theorem d22_7 : decode prog_51_method_3_code 7 = .ok (.aload_n 1, 1) := by decide +kernel
theorem d22_8 : decode prog_51_method_3_code 8 = .ok (.checkcast 8, 3) := by decide +kernel
theorem d22_11 : decode prog_51_method_3_code 11 = .ok (.astore_n 2, 1) := by decide +kernel
theorem d22_12 : decode prog_51_method_3_code 12 = .ok (.aload_n 2, 1) := by decide +kernel
theorem d22_13 : decode prog_51_method_3_code 13 = .ok (.getfield 7, 3) := by decide +kernel
theorem d22_16 : decode prog_51_method_3_code 16 = .ok (.aload_n 0, 1) := by decide +kernel
theorem d22_17 : decode prog_51_method_3_code 17 = .ok (.getfield 7, 3) := by decide +kernel
theorem d22_20 : decode prog_51_method_3_code 20 = .ok (.invokevirtual 37, 3) := by decide +kernel
theorem d22_23 : decode prog_51_method_3_code 23 = .ok (.ifCond .eq 7, 3) := by decide +kernel
theorem d22_26 : decode prog_51_method_3_code 26 = .ok (.iconst 1, 1) := by decide +kernel
theorem d22_27 : decode prog_51_method_3_code 27 = .ok (.goto 4, 3) := by decide +kernel
theorem d22_30 : decode prog_51_method_3_code 30 = .ok (.iconst 0, 1) := by decide +kernel
theorem d22_31 : decode prog_51_method_3_code 31 = .ok (.ireturn, 1) := by decide +kernel
theorem ef_eq (m : MethodId) (a : Addr) (b : Addr) : entryFrame m #[(.ref a), (.ref b)] 3 = mkF m 0 #[.val (.ref a), .val (.ref b), .unset] [] := by first | (simp [entryFrame, mkF, argsToLocals, Value.category]; done) | rfl
def Q_eq (Z : State) (a : Addr) (b : Addr) (b1 : Addr) (t1 : Addr) (k1 : ClassId) (cs : List Int32) (b2 : Addr) (t2 : Addr) (k2 : ClassId) (ds : List Int32) (G1 : Int32) (h0 : Heap) (n0 : Nat) (v : Option Value) (h : Heap) (L : List Loc) : Prop := (v = some (.int 1) ∧ Fr n0 L ∧ h = h0 ∧ (ds = cs)) ∨ (v = some (.int 0) ∧ Fr n0 L ∧ h = h0 ∧ (¬ (ds = cs)))
set_option maxRecDepth 65536 in
set_option maxHeartbeats 40000000 in
theorem rm_eq (l : Launch) (Z : State) (a0 : Array Value) (hw : ∀ d ∈ tables_1, d.before a0 Z = true) (ws : List Jvm.Cond) (a : Addr) (b : Addr) (b1 : Addr) (t1 : Addr) (k1 : ClassId) (cs : List Int32) (b2 : Addr) (t2 : Addr) (k2 : ClassId) (ds : List Int32) (G1 : Int32) (h0 : Heap) (n0 : Nat) (Z0 : n0 ≤ h0.size) (pf0 : Exa Z h0 b "com/example/groupwright/groupwright/core/ShareId") (pf1 : Fld Z h0 a "com/example/groupwright/groupwright/core/ShareId" "value" "Ljava/lang/String;" (.ref b1)) (pf2 : Fld Z h0 b "com/example/groupwright/groupwright/core/ShareId" "value" "Ljava/lang/String;" (.ref b2)) (pf3 : Exa Z h0 b1 "java/lang/String") (pf4 : Fld Z h0 b1 "java/lang/String" "coder" "B" (.int 0)) (pf5 : Fld Z h0 b1 "java/lang/String" "value" "[B" (.ref t1)) (pf6 : Arv Z h0 t1 k1 .byte (Int32.ofNat cs.length) ((cs.map (fun c => c.toInt8.toInt32)).map Value.int) (.int 0)) (pf7 : Exa Z h0 b2 "java/lang/String") (pf8 : Fld Z h0 b2 "java/lang/String" "coder" "B" (.int 0)) (pf9 : Fld Z h0 b2 "java/lang/String" "value" "[B" (.ref t2)) (pf10 : Arv Z h0 t2 k2 .byte (Int32.ofNat ds.length) ((ds.map (fun c => c.toInt8.toInt32)).map Value.int) (.int 0)) (pf11 : Old Z n0 h0) (hA : ∀ c ∈ cs, own_cc c) (hC : cs.length ≤ 4) (hA2 : ∀ c ∈ ds, own_cc c) (hC2 : ds.length ≤ 4) (O2 : Sta Z Z.heap "java/lang/String" "COMPACT_STRINGS" "Z" (.int G1)) (P5 : ¬ (G1 = (0 : Int32))) :
    MetFree l (⟨"com/example/groupwright/groupwright/core/ShareId", "equals", "(Ljava/lang/Object;)Z"⟩ : MethodName) (head1 (Jvm.Cond.code (⟨"com/example/groupwright/groupwright/core/ShareId", "equals", "(Ljava/lang/Object;)Z"⟩ : MethodName) prog_51_method_3_code 3 (some .boolean) :: ws) ({ frames := 2, cells := 0, slots := 0, locals := 28 } : Room)) (fun aa U => aa = #[(.ref a), (.ref b)] ∧ Z.Warmed39 U.vm ∧ U.heap = h0) (fun _ _ _ _ _ => True) (fun _ U o U' => ∃ v L, o = .returned v ∧ Q_eq Z a b b1 t1 k1 cs b2 t2 k2 ds G1 h0 n0 v U'.heap L ∧ FrameEnd U o U' L ({ frames := 2, cells := 0, slots := 0, locals := 28 } : Room).cells ({ frames := 2, cells := 0, slots := 0, locals := 28 } : Room).slots) := by
  refine MetFree.of_bodySF (plainFor_of_name pn_com_example_groupwright_groupwright_core_ShareId) hisR ?_
  intro p e s m args below meth c s₁ Bd hml0 hP hK
  obtain ⟨rfl, hZ, hh⟩ := hP
  have hx := Bd.exec
  have hby := Bd.bytes
  have hlk : meth.locks = false := BodyLoose.notSynchronized Bd
  have hml : c.maxLocals = 3 := hml0
  have hown : s.vm.findClass "com/example/groupwright/groupwright/core/ShareId" = some m.cls := findClass_of_methodNamed Bd.named
  have hnm := (name_of_methodNamed Bd.named Bd.method).1
  have X0 : Stand p l e ({ frames := 2, cells := 0, slots := 0, locals := 28 } : Room) s m #[(.ref a), (.ref b)] below meth c s₁ [] 0 0 := Stand.of_body Bd
  have e0 : s₁.heap = h0 := by rw [← hh, Bd.state]; rfl
  have N0 := Fr.nil n0
  show Gl p.tables e below (EndN s (Q_eq Z a b b1 t1 k1 cs b2 t2 k2 ds G1 h0 n0) ({ frames := 2, cells := 0, slots := 0, locals := 28 } : Room).cells ({ frames := 2, cells := 0, slots := 0, locals := 28 } : Room).slots) _
  refine Gl.cast (ef_eq m a b) ?_
  show Gl p.tables e below _ (s₁.setTop (mkF m 0 #[.val (.ref a), .val (.ref b), .unset] []))
  refine Gl.st (fun _ kq => XS.aloadN X0.here hx rfl (hb hby d22_0) rfl rfl kq) ?_
  show Gl p.tables e below _ (s₁.setTop (mkF m 1 #[.val (.ref a), .val (.ref b), .unset] [(.ref b)]))
  obtain ⟨T1, X1, e1, st1⟩ := instY X0 hx hZ hown (tw hw 80 rfl) e0 (Ins.self pf0) (g := (mkF m 1 #[.val (.ref a), .val (.ref b), .unset] [(.ref b)])) rfl rfl (hb hby d22_1)
  refine Gl.st st1 ?_
  show Gl p.tables e below _ (T1.setTop (mkF m 4 #[.val (.ref a), .val (.ref b), .unset] [(.int 1)]))
  refine Gl.st (fun _ kq => XS.ifNo X1.here hx rfl (hb hby d22_4) rfl ((if0 _ _).trans (feq ((by decide) : ¬ ((1 : Int32) = (0 : Int32)))).1) kq) ?_
  show Gl p.tables e below _ (T1.setTop (mkF m 7 #[.val (.ref a), .val (.ref b), .unset] []))
  refine Gl.st (fun _ kq => XS.aloadN X1.here hx rfl (hb hby d22_7) rfl rfl kq) ?_
  show Gl p.tables e below _ (T1.setTop (mkF m 8 #[.val (.ref a), .val (.ref b), .unset] [(.ref b)]))
  obtain ⟨T2, X2, e2, st2⟩ := castY X1 hx hZ hown (tw hw 80 rfl) e1 (Ins.self pf0) (g := (mkF m 8 #[.val (.ref a), .val (.ref b), .unset] [(.ref b)])) rfl rfl (hb hby d22_8)
  refine Gl.st st2 ?_
  show Gl p.tables e below _ (T2.setTop (mkF m 11 #[.val (.ref a), .val (.ref b), .unset] [(.ref b)]))
  refine Gl.st (fun _ kq => XS.astoreN X2.here hx rfl (hb hby d22_11) rfl rfl (l' := #[.val (.ref a), .val (.ref b), .val (.ref b)]) rfl kq) ?_
  show Gl p.tables e below _ (T2.setTop (mkF m 12 #[.val (.ref a), .val (.ref b), .val (.ref b)] []))
  refine Gl.st (fun _ kq => XS.aloadN X2.here hx rfl (hb hby d22_12) rfl rfl kq) ?_
  show Gl p.tables e below _ (T2.setTop (mkF m 13 #[.val (.ref a), .val (.ref b), .val (.ref b)] [(.ref b)]))
  obtain ⟨T3, X3, e3, st3⟩ := getF X2 hx hZ hown (host := "") (Or.inl (tw hw 86 rfl)) Via.refl e2 pf2 (g := (mkF m 13 #[.val (.ref a), .val (.ref b), .val (.ref b)] [(.ref b)])) rfl rfl (hb hby d22_13)
  refine Gl.st st3 ?_
  show Gl p.tables e below _ (T3.setTop (mkF m 16 #[.val (.ref a), .val (.ref b), .val (.ref b)] [(.ref b2)]))
  refine Gl.st (fun _ kq => XS.aloadN X3.here hx rfl (hb hby d22_16) rfl rfl kq) ?_
  show Gl p.tables e below _ (T3.setTop (mkF m 17 #[.val (.ref a), .val (.ref b), .val (.ref b)] [(.ref a), (.ref b2)]))
  obtain ⟨T4, X4, e4, st4⟩ := getF X3 hx hZ hown (host := "") (Or.inl (tw hw 86 rfl)) Via.refl e3 pf1 (g := (mkF m 17 #[.val (.ref a), .val (.ref b), .val (.ref b)] [(.ref a), (.ref b2)])) rfl rfl (hb hby d22_17)
  refine Gl.st st4 ?_
  show Gl p.tables e below _ (T4.setTop (mkF m 20 #[.val (.ref a), .val (.ref b), .val (.ref b)] [(.ref b1), (.ref b2)]))
  obtain ⟨cq5, kq5, q5a, q5b, q5c⟩ := isOf hZ e4 pf7
  obtain ⟨_, _, ⟨T5, L5, k5, n5⟩, -, X5, ⟨Lc5, hQ5, l5, y5, z5⟩, st5⟩ := X4.virtualBack hx (y := (⟨"java/lang/String", "equals", "(Ljava/lang/Object;)Z"⟩ : MethodName)) (z := (⟨"java/lang/String", "equals", "(Ljava/lang/Object;)Z"⟩ : MethodName)) hown (mvT hZ (tw hw 108 rfl)) (mvT hZ (tw hw 89 rfl)) (notFace_of_selects (args := #[]) (mvT hZ (tw hw 91 rfl))) (mvT hZ (tw hw 91 rfl)) (mvT hZ (tw hw 90 rfl)) (by decide) (StrChars.Road.eqW (W := 0) hZ (wdEq hw) (kI := 4) (tw hw 10 rfl) pf7 pf9 pf8 pf10 (StrChars.Road.codOf (cs := ds) rfl (fun x hx => ((fun c hc => cc_rng (hA2 c hc)) x hx).2)) (up255 _ (fun c hc => cc_rng (hA2 c hc))) (Nat.le_trans hC2 (by decide)) pf3 pf5 pf4 pf6 (StrChars.Road.codOf (cs := cs) rfl (fun x hx => ((fun c hc => cc_rng (hA c hc)) x hx).2)) (up255 _ (fun c hc => cc_rng (hA c hc))) (Nat.le_trans hC (by decide)) (O2.ext pf11.2) P5 (by decide) (by decide)) q5a q5c (g := (mkF m 20 #[.val (.ref a), .val (.ref b), .val (.ref b)] [(.ref b1), (.ref b2)])) rfl (by rw [hml]; rfl) (Steps.refl _) (argsL := [(.ref b1)]) (rest := []) (lenOf pd__Ljava_lang_Object__Z rfl) rfl (by show 2 * 0 + _ ≤ _; exact Nat.le_of_eq rfl) (hb hby d22_20) (fun _ _ => ⟨rfl, e4, (by decide : 0 + 0 ≤ _), (by decide : 0 + 0 ≤ _)⟩)
  dsimp only [Pt.U, Pt.locs, Pt.cells, Pt.slots] at X5 l5 y5 z5 st5 hQ5
  subst l5 y5 z5
  obtain ⟨⟨rfl, y5_0⟩ | ⟨rfl, y5_0⟩, rfl, e5⟩ := hQ5
  · have N5 : Fr n0 ([] : List Loc) := Fr.nil n0
    have M5 := Fr.app N0 N5
    refine Gl.to st5 ?_
    show Gl p.tables e below _ (T5.setTop (mkF m 23 #[.val (.ref a), .val (.ref b), .val (.ref b)] [(.int 1)]))
    refine Gl.st (fun _ kq => XS.ifNo X5.here hx rfl (hb hby d22_23) rfl ((if0 _ _).trans (feq ((by decide) : ¬ ((1 : Int32) = (0 : Int32)))).1) kq) ?_
    show Gl p.tables e below _ (T5.setTop (mkF m 26 #[.val (.ref a), .val (.ref b), .val (.ref b)] []))
    refine Gl.st (fun _ kq => XS.iconst X5.here hx rfl (hb hby d22_26) kq) ?_
    show Gl p.tables e below _ (T5.setTop (mkF m 27 #[.val (.ref a), .val (.ref b), .val (.ref b)] [(.int 1)]))
    refine Gl.st (fun _ kq => XS.goto X5.here hx rfl (pc0 := 27) (pc' := 31) rfl (hb hby d22_27) (by decide) (by decide) kq) ?_
    show Gl p.tables e below _ (T5.setTop (mkF m 31 #[.val (.ref a), .val (.ref b), .val (.ref b)] [(.int 1)]))
    exact Gl.retN X5 hx (t := .boolean) Bd.returns (by simp) (hb hby d22_31) hlk (by decide) (by decide) (by rw [e5]; exact (Or.inl ⟨rfl, M5, rfl, y5_0⟩))
  · have N5 : Fr n0 ([] : List Loc) := Fr.nil n0
    have M5 := Fr.app N0 N5
    refine Gl.to st5 ?_
    show Gl p.tables e below _ (T5.setTop (mkF m 23 #[.val (.ref a), .val (.ref b), .val (.ref b)] [(.int 0)]))
    refine Gl.st (fun _ kq => XS.ifYes X5.here hx rfl (pc0 := 23) (pc' := 30) rfl (hb hby d22_23) rfl ((if0 _ _).trans (teq ((by decide) : (0 : Int32) = (0 : Int32))).1) (by decide) (by decide) kq) ?_
    show Gl p.tables e below _ (T5.setTop (mkF m 30 #[.val (.ref a), .val (.ref b), .val (.ref b)] []))
    refine Gl.st (fun _ kq => XS.iconst X5.here hx rfl (hb hby d22_30) kq) ?_
    show Gl p.tables e below _ (T5.setTop (mkF m 31 #[.val (.ref a), .val (.ref b), .val (.ref b)] [(.int 0)]))
    exact Gl.retN X5 hx (t := .boolean) Bd.returns (by simp) (hb hby d22_31) hlk (by decide) (by decide) (by rw [e5]; exact (Or.inr (⟨rfl, M5, rfl, y5_0⟩)))
theorem ef_eqs (m : MethodId) (a : Addr) (b : Addr) : entryFrame m #[(.ref a), (.ref b)] 3 = mkF m 0 #[.val (.ref a), .val (.ref b), .unset] [] := by first | (simp [entryFrame, mkF, argsToLocals, Value.category]; done) | rfl
def Q_eqs (Z : State) (a : Addr) (b : Addr) (h0 : Heap) (n0 : Nat) (v : Option Value) (h : Heap) (L : List Loc) : Prop := (v = some (.int 0) ∧ Fr n0 L ∧ h = h0)
set_option maxRecDepth 65536 in
set_option maxHeartbeats 40000000 in
theorem rm_eqs (l : Launch) (Z : State) (a0 : Array Value) (hw : ∀ d ∈ tables_1, d.before a0 Z = true) (ws : List Jvm.Cond) (a : Addr) (b : Addr) (h0 : Heap) (n0 : Nat) (Z0 : n0 ≤ h0.size) (pf0 : Exa Z h0 b "java/lang/String") :
    MetFree l (⟨"com/example/groupwright/groupwright/core/ShareId", "equals", "(Ljava/lang/Object;)Z"⟩ : MethodName) (head1 (Jvm.Cond.code (⟨"com/example/groupwright/groupwright/core/ShareId", "equals", "(Ljava/lang/Object;)Z"⟩ : MethodName) prog_51_method_3_code 3 (some .boolean) :: ws) ({ frames := 0, cells := 0, slots := 0, locals := 0 } : Room)) (fun aa U => aa = #[(.ref a), (.ref b)] ∧ Z.Warmed39 U.vm ∧ U.heap = h0) (fun _ _ _ _ _ => True) (fun _ U o U' => ∃ v L, o = .returned v ∧ Q_eqs Z a b h0 n0 v U'.heap L ∧ FrameEnd U o U' L ({ frames := 0, cells := 0, slots := 0, locals := 0 } : Room).cells ({ frames := 0, cells := 0, slots := 0, locals := 0 } : Room).slots) := by
  refine MetFree.of_bodySF (plainFor_of_name pn_com_example_groupwright_groupwright_core_ShareId) hisR ?_
  intro p e s m args below meth c s₁ Bd hml0 hP hK
  obtain ⟨rfl, hZ, hh⟩ := hP
  have hx := Bd.exec
  have hby := Bd.bytes
  have hlk : meth.locks = false := BodyLoose.notSynchronized Bd
  have hml : c.maxLocals = 3 := hml0
  have hown : s.vm.findClass "com/example/groupwright/groupwright/core/ShareId" = some m.cls := findClass_of_methodNamed Bd.named
  have hnm := (name_of_methodNamed Bd.named Bd.method).1
  have X0 : Stand p l e ({ frames := 0, cells := 0, slots := 0, locals := 0 } : Room) s m #[(.ref a), (.ref b)] below meth c s₁ [] 0 0 := Stand.of_body Bd
  have e0 : s₁.heap = h0 := by rw [← hh, Bd.state]; rfl
  have N0 := Fr.nil n0
  show Gl p.tables e below (EndN s (Q_eqs Z a b h0 n0) ({ frames := 0, cells := 0, slots := 0, locals := 0 } : Room).cells ({ frames := 0, cells := 0, slots := 0, locals := 0 } : Room).slots) _
  refine Gl.cast (ef_eqs m a b) ?_
  show Gl p.tables e below _ (s₁.setTop (mkF m 0 #[.val (.ref a), .val (.ref b), .unset] []))
  refine Gl.st (fun _ kq => XS.aloadN X0.here hx rfl (hb hby d22_0) rfl rfl kq) ?_
  show Gl p.tables e below _ (s₁.setTop (mkF m 1 #[.val (.ref a), .val (.ref b), .unset] [(.ref b)]))
  obtain ⟨T1, X1, e1, st1⟩ := instNo X0 hx hZ hown (tw hw 80 rfl) e0 pf0 (not_root (tw hw 109 rfl) (tw hw 110 rfl) (tw hw 81 rfl) (by decide) (by decide)) (g := (mkF m 1 #[.val (.ref a), .val (.ref b), .unset] [(.ref b)])) rfl rfl (hb hby d22_1)
  refine Gl.st st1 ?_
  show Gl p.tables e below _ (T1.setTop (mkF m 4 #[.val (.ref a), .val (.ref b), .unset] [(.int 0)]))
  refine Gl.st (fun _ kq => XS.ifYes X1.here hx rfl (pc0 := 4) (pc' := 30) rfl (hb hby d22_4) rfl ((if0 _ _).trans (teq ((by decide) : (0 : Int32) = (0 : Int32))).1) (by decide) (by decide) kq) ?_
  show Gl p.tables e below _ (T1.setTop (mkF m 30 #[.val (.ref a), .val (.ref b), .unset] []))
  refine Gl.st (fun _ kq => XS.iconst X1.here hx rfl (hb hby d22_30) kq) ?_
  show Gl p.tables e below _ (T1.setTop (mkF m 31 #[.val (.ref a), .val (.ref b), .unset] [(.int 0)]))
  exact Gl.retN X1 hx (t := .boolean) Bd.returns (by simp) (hb hby d22_31) hlk (by decide) (by decide) (by rw [e1]; exact ⟨rfl, N0, rfl⟩)
theorem d14_0 : decode jdk_42_method_154_code 0 = .ok (.getstatic 38, 3) := by decide +kernel
theorem d14_3 : decode jdk_42_method_154_code 3 = .ok (.ifCond .eq 14, 3) := by decide +kernel
theorem d14_6 : decode jdk_42_method_154_code 6 = .ok (.aload_n 0, 1) := by decide +kernel
theorem d14_7 : decode jdk_42_method_154_code 7 = .ok (.getfield 15, 3) := by decide +kernel
theorem d14_10 : decode jdk_42_method_154_code 10 = .ok (.ifCond .ne 7, 3) := by decide +kernel
theorem d14_13 : decode jdk_42_method_154_code 13 = .ok (.iconst 1, 1) := by decide +kernel
theorem d14_14 : decode jdk_42_method_154_code 14 = .ok (.goto 4, 3) := by decide +kernel
theorem d14_18 : decode jdk_42_method_154_code 18 = .ok (.ireturn, 1) := by decide +kernel
theorem ef_isl (m : MethodId) (b : Addr) : entryFrame m #[(.ref b)] 1 = mkF m 0 #[.val (.ref b)] [] := by first | (simp [entryFrame, mkF, argsToLocals, Value.category]; done) | rfl
def Q_isl (Z : State) (b : Addr) (G1 : Int32) (h0 : Heap) (n0 : Nat) (v : Option Value) (h : Heap) (L : List Loc) : Prop := (v = some (.int 1) ∧ Fr n0 L ∧ h = h0)
set_option maxRecDepth 65536 in
set_option maxHeartbeats 40000000 in
theorem rm_isl (l : Launch) (Z : State) (a0 : Array Value) (hw : ∀ d ∈ tables_1, d.before a0 Z = true) (ws : List Jvm.Cond) (b : Addr) (G1 : Int32) (h0 : Heap) (n0 : Nat) (Z0 : n0 ≤ h0.size) (pf0 : Fld Z h0 b "java/lang/String" "coder" "B" (.int 0)) (pf1 : Old Z n0 h0) (O2 : Sta Z Z.heap "java/lang/String" "COMPACT_STRINGS" "Z" (.int G1)) (P5 : ¬ (G1 = (0 : Int32))) :
    MetFree l (⟨"java/lang/String", "isLatin1", "()Z"⟩ : MethodName) (head1 (Jvm.Cond.code (⟨"java/lang/String", "isLatin1", "()Z"⟩ : MethodName) jdk_42_method_154_code 1 (some .boolean) :: ws) ({ frames := 0, cells := 0, slots := 0, locals := 0 } : Room)) (fun aa U => aa = #[(.ref b)] ∧ Z.Warmed39 U.vm ∧ U.heap = h0) (fun _ _ _ _ _ => True) (fun _ U o U' => ∃ v L, o = .returned v ∧ Q_isl Z b G1 h0 n0 v U'.heap L ∧ FrameEnd U o U' L ({ frames := 0, cells := 0, slots := 0, locals := 0 } : Room).cells ({ frames := 0, cells := 0, slots := 0, locals := 0 } : Room).slots) := by
  refine MetFree.of_bodySF (plainFor_of_name pn_java_lang_String) hisR ?_
  intro p e s m args below meth c s₁ Bd hml0 hP hK
  obtain ⟨rfl, hZ, hh⟩ := hP
  have hx := Bd.exec
  have hby := Bd.bytes
  have hlk : meth.locks = false := BodyLoose.notSynchronized Bd
  have hml : c.maxLocals = 1 := hml0
  have hown : s.vm.findClass "java/lang/String" = some m.cls := findClass_of_methodNamed Bd.named
  have hnm := (name_of_methodNamed Bd.named Bd.method).1
  have X0 : Stand p l e ({ frames := 0, cells := 0, slots := 0, locals := 0 } : Room) s m #[(.ref b)] below meth c s₁ [] 0 0 := Stand.of_body Bd
  have e0 : s₁.heap = h0 := by rw [← hh, Bd.state]; rfl
  have N0 := Fr.nil n0
  show Gl p.tables e below (EndN s (Q_isl Z b G1 h0 n0) ({ frames := 0, cells := 0, slots := 0, locals := 0 } : Room).cells ({ frames := 0, cells := 0, slots := 0, locals := 0 } : Room).slots) _
  refine Gl.cast (ef_isl m b) ?_
  show Gl p.tables e below _ (s₁.setTop (mkF m 0 #[.val (.ref b)] []))
  obtain ⟨T1, X1, e1, st1⟩ := getS2 X0 hx hZ hown (host := "") (Or.inl (tw hw 23 rfl)) Via.refl e0 (O2.ext pf1.2) (g := (mkF m 0 #[.val (.ref b)] [])) rfl (hb hby d14_0)
  refine Gl.st st1 ?_
  show Gl p.tables e below _ (T1.setTop (mkF m 3 #[.val (.ref b)] [(.int G1)]))
  refine Gl.st (fun _ kq => XS.ifNo X1.here hx rfl (hb hby d14_3) rfl ((if0 _ _).trans (feq (P5 : ¬ (G1 = (0 : Int32)))).1) kq) ?_
  show Gl p.tables e below _ (T1.setTop (mkF m 6 #[.val (.ref b)] []))
  refine Gl.st (fun _ kq => XS.aloadN X1.here hx rfl (hb hby d14_6) rfl rfl kq) ?_
  show Gl p.tables e below _ (T1.setTop (mkF m 7 #[.val (.ref b)] [(.ref b)]))
  obtain ⟨T2, X2, e2, st2⟩ := getF X1 hx hZ hown (host := "") (Or.inl (tw hw 35 rfl)) Via.refl e1 pf0 (g := (mkF m 7 #[.val (.ref b)] [(.ref b)])) rfl rfl (hb hby d14_7)
  refine Gl.st st2 ?_
  show Gl p.tables e below _ (T2.setTop (mkF m 10 #[.val (.ref b)] [(.int 0)]))
  refine Gl.st (fun _ kq => XS.ifNo X2.here hx rfl (hb hby d14_10) rfl ((if0 _ _).trans (teq ((by decide) : (0 : Int32) = (0 : Int32))).2) kq) ?_
  show Gl p.tables e below _ (T2.setTop (mkF m 13 #[.val (.ref b)] []))
  refine Gl.st (fun _ kq => XS.iconst X2.here hx rfl (hb hby d14_13) kq) ?_
  show Gl p.tables e below _ (T2.setTop (mkF m 14 #[.val (.ref b)] [(.int 1)]))
  refine Gl.st (fun _ kq => XS.goto X2.here hx rfl (pc0 := 14) (pc' := 18) rfl (hb hby d14_14) (by decide) (by decide) kq) ?_
  show Gl p.tables e below _ (T2.setTop (mkF m 18 #[.val (.ref b)] [(.int 1)]))
  exact Gl.retN X2 hx (t := .boolean) Bd.returns (by simp) (hb hby d14_18) hlk (by decide) (by decide) (by rw [e2]; exact ⟨rfl, N0, rfl⟩)
theorem d27_0 : decode jdk_48_method_5_code 0 = .ok (.iload_n 2, 1) := by decide +kernel
theorem d27_1 : decode jdk_48_method_5_code 1 = .ok (.iload_n 3, 1) := by decide +kernel
theorem d27_2 : decode jdk_48_method_5_code 2 = .ok (.iadd, 1) := by decide +kernel
theorem d27_3 : decode jdk_48_method_5_code 3 = .ok (.istore 4, 2) := by decide +kernel
theorem d27_5 : decode jdk_48_method_5_code 5 = .ok (.iload_n 2, 1) := by decide +kernel
theorem d27_6 : decode jdk_48_method_5_code 6 = .ok (.istore 5, 2) := by decide +kernel
theorem d27_8 : decode jdk_48_method_5_code 8 = .ok (.iload 5, 2) := by decide +kernel
theorem d27_10 : decode jdk_48_method_5_code 10 = .ok (.iload 4, 2) := by decide +kernel
theorem d27_12 : decode jdk_48_method_5_code 12 = .ok (.if_icmp .ge 23, 3) := by decide +kernel
theorem d27_15 : decode jdk_48_method_5_code 15 = .ok (.bipush 31, 2) := by decide +kernel
theorem d27_17 : decode jdk_48_method_5_code 17 = .ok (.iload_n 0, 1) := by decide +kernel
theorem d27_18 : decode jdk_48_method_5_code 18 = .ok (.imul, 1) := by decide +kernel
theorem d27_19 : decode jdk_48_method_5_code 19 = .ok (.aload_n 1, 1) := by decide +kernel
theorem d27_20 : decode jdk_48_method_5_code 20 = .ok (.iload 5, 2) := by decide +kernel
theorem d27_22 : decode jdk_48_method_5_code 22 = .ok (.baload, 1) := by decide +kernel
theorem d27_23 : decode jdk_48_method_5_code 23 = .ok (.sipush 255, 3) := by decide +kernel
theorem d27_26 : decode jdk_48_method_5_code 26 = .ok (.iand, 1) := by decide +kernel
theorem d27_27 : decode jdk_48_method_5_code 27 = .ok (.iadd, 1) := by decide +kernel
theorem d27_28 : decode jdk_48_method_5_code 28 = .ok (.istore_n 0, 1) := by decide +kernel
theorem d27_29 : decode jdk_48_method_5_code 29 = .ok (.iinc 5 1, 3) := by decide +kernel
theorem d27_32 : decode jdk_48_method_5_code 32 = .ok (.goto (-24), 3) := by decide +kernel
theorem d27_35 : decode jdk_48_method_5_code 35 = .ok (.iload_n 0, 1) := by decide +kernel
theorem d27_36 : decode jdk_48_method_5_code 36 = .ok (.ireturn, 1) := by decide +kernel
theorem ef_shc (m : MethodId) (r : Int32) (t : Addr) (cs : List Int32) : entryFrame m #[(.int r), (.ref t), (.int 0), (.int (Int32.ofNat cs.length))] 6 = mkF m 0 #[.val (.int r), .val (.ref t), .val (.int 0), .val (.int (Int32.ofNat cs.length)), .unset, .unset] [] := by first | (simp [entryFrame, mkF, argsToLocals, Value.category]; done) | rfl
def Q_shc (Z : State) (r : Int32) (t : Addr) (k : ClassId) (cs : List Int32) (h0 : Heap) (n0 : Nat) (v : Option Value) (h : Heap) (L : List Loc) : Prop := (v = some (.int (own_hs r cs)) ∧ Fr n0 L ∧ h = h0)
set_option maxRecDepth 65536 in
set_option maxHeartbeats 40000000 in
theorem rm_shc (l : Launch) (Z : State) (a0 : Array Value) (hw : ∀ d ∈ tables_1, d.before a0 Z = true) (ws : List Jvm.Cond) (r : Int32) (t : Addr) (k : ClassId) (cs : List Int32) (h0 : Heap) (n0 : Nat) (Z0 : n0 ≤ h0.size) (pf0 : Arv Z h0 t k .byte (Int32.ofNat cs.length) ((cs.map (fun c => c.toInt8.toInt32)).map Value.int) (.int 0)) (hl : cs.length ≤ 4) :
    MetFree l (⟨"jdk/internal/util/ArraysSupport", "signedHashCode", "(I[BII)I"⟩ : MethodName) (head1 (Jvm.Cond.code (⟨"jdk/internal/util/ArraysSupport", "signedHashCode", "(I[BII)I"⟩ : MethodName) jdk_48_method_5_code 6 (some .int) :: ws) ({ frames := 0, cells := 0, slots := 0, locals := 0 } : Room)) (fun aa U => aa = #[(.int r), (.ref t), (.int 0), (.int (Int32.ofNat cs.length))] ∧ Z.Warmed39 U.vm ∧ U.heap = h0) (fun _ _ _ _ _ => True) (fun _ U o U' => ∃ v L, o = .returned v ∧ Q_shc Z r t k cs h0 n0 v U'.heap L ∧ FrameEnd U o U' L ({ frames := 0, cells := 0, slots := 0, locals := 0 } : Room).cells ({ frames := 0, cells := 0, slots := 0, locals := 0 } : Room).slots) := by
  refine MetFree.of_bodySF (plainFor_of_name pn_jdk_internal_util_ArraysSupport) hisR ?_
  intro p e s m args below meth c s₁ Bd hml0 hP hK
  obtain ⟨rfl, hZ, hh⟩ := hP
  have hx := Bd.exec
  have hby := Bd.bytes
  have hlk : meth.locks = false := BodyLoose.notSynchronized Bd
  have hml : c.maxLocals = 6 := hml0
  have hown : s.vm.findClass "jdk/internal/util/ArraysSupport" = some m.cls := findClass_of_methodNamed Bd.named
  have hnm := (name_of_methodNamed Bd.named Bd.method).1
  have X0 : Stand p l e ({ frames := 0, cells := 0, slots := 0, locals := 0 } : Room) s m #[(.int r), (.ref t), (.int 0), (.int (Int32.ofNat cs.length))] below meth c s₁ [] 0 0 := Stand.of_body Bd
  have e0 : s₁.heap = h0 := by rw [← hh, Bd.state]; rfl
  have N0 := Fr.nil n0
  show Gl p.tables e below (EndN s (Q_shc Z r t k cs h0 n0) ({ frames := 0, cells := 0, slots := 0, locals := 0 } : Room).cells ({ frames := 0, cells := 0, slots := 0, locals := 0 } : Room).slots) _
  refine Gl.cast (ef_shc m r t cs) ?_
  show Gl p.tables e below _ (s₁.setTop (mkF m 0 #[.val (.int r), .val (.ref t), .val (.int 0), .val (.int (Int32.ofNat cs.length)), .unset, .unset] []))
  refine Gl.st (fun _ kq => XS.iloadN X0.here hx rfl (hb hby d27_0) rfl kq) ?_
  show Gl p.tables e below _ (s₁.setTop (mkF m 1 #[.val (.int r), .val (.ref t), .val (.int 0), .val (.int (Int32.ofNat cs.length)), .unset, .unset] [(.int 0)]))
  refine Gl.st (fun _ kq => XS.iloadN X0.here hx rfl (hb hby d27_1) rfl kq) ?_
  show Gl p.tables e below _ (s₁.setTop (mkF m 2 #[.val (.int r), .val (.ref t), .val (.int 0), .val (.int (Int32.ofNat cs.length)), .unset, .unset] [(.int (Int32.ofNat cs.length)), (.int 0)]))
  refine Gl.st (fun _ kq => XS.iadd X0.here hx rfl (hb hby d27_2) rfl kq) ?_
  show Gl p.tables e below _ (s₁.setTop (mkF m 3 #[.val (.int r), .val (.ref t), .val (.int 0), .val (.int (Int32.ofNat cs.length)), .unset, .unset] [(.int ((0 : Int32) + (Int32.ofNat cs.length)))]))
  rw [Int32.zero_add]
  show Gl p.tables e below _ (s₁.setTop (mkF m 3 #[.val (.int r), .val (.ref t), .val (.int 0), .val (.int (Int32.ofNat cs.length)), .unset, .unset] [(.int (Int32.ofNat cs.length))]))
  refine Gl.st (fun _ kq => XS.istore X0.here hx rfl (hb hby d27_3) rfl (l' := #[.val (.int r), .val (.ref t), .val (.int 0), .val (.int (Int32.ofNat cs.length)), .val (.int (Int32.ofNat cs.length)), .unset]) rfl kq) ?_
  show Gl p.tables e below _ (s₁.setTop (mkF m 5 #[.val (.int r), .val (.ref t), .val (.int 0), .val (.int (Int32.ofNat cs.length)), .val (.int (Int32.ofNat cs.length)), .unset] []))
  refine Gl.st (fun _ kq => XS.iloadN X0.here hx rfl (hb hby d27_5) rfl kq) ?_
  show Gl p.tables e below _ (s₁.setTop (mkF m 6 #[.val (.int r), .val (.ref t), .val (.int 0), .val (.int (Int32.ofNat cs.length)), .val (.int (Int32.ofNat cs.length)), .unset] [(.int 0)]))
  refine Gl.st (fun _ kq => XS.istore X0.here hx rfl (hb hby d27_6) rfl (l' := #[.val (.int r), .val (.ref t), .val (.int 0), .val (.int (Int32.ofNat cs.length)), .val (.int (Int32.ofNat cs.length)), .val (.int 0)]) rfl kq) ?_
  show Gl p.tables e below _ (s₁.setTop (mkF m 8 #[.val (.int r), .val (.ref t), .val (.int 0), .val (.int (Int32.ofNat cs.length)), .val (.int (Int32.ofNat cs.length)), .val (.int 0)] []))
  have loop : ∀ (d j : Nat) (rr : Int32) (Ti : State) (Li : List Loc) (Xi : Stand p l e ({ frames := 0, cells := 0, slots := 0, locals := 0 } : Room) s m #[(.int r), (.ref t), (.int 0), (.int (Int32.ofNat cs.length))] below meth c Ti Li 0 0) (ei : Ti.heap = h0) (Ni : Fr n0 Li) (hj : j + d = cs.length) (hv : own_hs rr (cs.drop j) = own_hs r cs), Gl p.tables e below (EndN s (Q_shc Z r t k cs h0 n0) ({ frames := 0, cells := 0, slots := 0, locals := 0 } : Room).cells ({ frames := 0, cells := 0, slots := 0, locals := 0 } : Room).slots) (Ti.setTop (mkF m 8 #[.val (.int rr), .val (.ref t), .val (.int 0), .val (.int (Int32.ofNat cs.length)), .val (.int (Int32.ofNat cs.length)), .val (.int (Int32.ofNat j))] [])) := by
    intro d
    induction d with
    | zero =>
      intro j rr Ti Li Xi ei Ni hj hv
      have hlt := n32_nlt (i := j) (j := cs.length) (by omega) (by omega) (by omega)
      have hr : rr = own_hs r cs := (own_hs_nil (by omega)).symm.trans hv
      subst hr
      show Gl p.tables e below _ (Ti.setTop (mkF m 8 #[.val (.int (own_hs r cs)), .val (.ref t), .val (.int 0), .val (.int (Int32.ofNat cs.length)), .val (.int (Int32.ofNat cs.length)), .val (.int (Int32.ofNat j))] []))
      refine Gl.st (fun _ kq => XS.iload Xi.here hx rfl (hb hby d27_8) rfl kq) ?_
      show Gl p.tables e below _ (Ti.setTop (mkF m 10 #[.val (.int (own_hs r cs)), .val (.ref t), .val (.int 0), .val (.int (Int32.ofNat cs.length)), .val (.int (Int32.ofNat cs.length)), .val (.int (Int32.ofNat j))] [(.int (Int32.ofNat j))]))
      refine Gl.st (fun _ kq => XS.iload Xi.here hx rfl (hb hby d27_10) rfl kq) ?_
      show Gl p.tables e below _ (Ti.setTop (mkF m 12 #[.val (.int (own_hs r cs)), .val (.ref t), .val (.int 0), .val (.int (Int32.ofNat cs.length)), .val (.int (Int32.ofNat cs.length)), .val (.int (Int32.ofNat j))] [(.int (Int32.ofNat cs.length)), (.int (Int32.ofNat j))]))
      refine Gl.st (fun _ kq => XS.icmpYes Xi.here hx rfl (pc0 := 12) (pc' := 35) rfl (hb hby d27_12) rfl (flt (hlt : ¬ ((Int32.ofNat j) < (Int32.ofNat cs.length)))).2.1 (by decide) (by decide) kq) ?_
      show Gl p.tables e below _ (Ti.setTop (mkF m 35 #[.val (.int (own_hs r cs)), .val (.ref t), .val (.int 0), .val (.int (Int32.ofNat cs.length)), .val (.int (Int32.ofNat cs.length)), .val (.int (Int32.ofNat j))] []))
      refine Gl.st (fun _ kq => XS.iloadN Xi.here hx rfl (hb hby d27_35) rfl kq) ?_
      show Gl p.tables e below _ (Ti.setTop (mkF m 36 #[.val (.int (own_hs r cs)), .val (.ref t), .val (.int 0), .val (.int (Int32.ofNat cs.length)), .val (.int (Int32.ofNat cs.length)), .val (.int (Int32.ofNat j))] [(.int (own_hs r cs))]))
      exact Gl.retI Xi hx Bd.returns (hb hby d27_36) hlk (by decide) (by decide) (by rw [ei]; exact ⟨rfl, Ni, rfl⟩)
    | succ d ih =>
      intro j rr Ti Li Xi ei Ni hj hv
      have hjl : j < cs.length := by omega
      have hlt := n32_plt (i := j) (j := cs.length) (by omega) (by omega)
      show Gl p.tables e below _ (Ti.setTop (mkF m 8 #[.val (.int rr), .val (.ref t), .val (.int 0), .val (.int (Int32.ofNat cs.length)), .val (.int (Int32.ofNat cs.length)), .val (.int (Int32.ofNat j))] []))
      refine Gl.st (fun _ kq => XS.iload Xi.here hx rfl (hb hby d27_8) rfl kq) ?_
      show Gl p.tables e below _ (Ti.setTop (mkF m 10 #[.val (.int rr), .val (.ref t), .val (.int 0), .val (.int (Int32.ofNat cs.length)), .val (.int (Int32.ofNat cs.length)), .val (.int (Int32.ofNat j))] [(.int (Int32.ofNat j))]))
      refine Gl.st (fun _ kq => XS.iload Xi.here hx rfl (hb hby d27_10) rfl kq) ?_
      show Gl p.tables e below _ (Ti.setTop (mkF m 12 #[.val (.int rr), .val (.ref t), .val (.int 0), .val (.int (Int32.ofNat cs.length)), .val (.int (Int32.ofNat cs.length)), .val (.int (Int32.ofNat j))] [(.int (Int32.ofNat cs.length)), (.int (Int32.ofNat j))]))
      refine Gl.st (fun _ kq => XS.icmpNo Xi.here hx rfl (hb hby d27_12) rfl (tlt (hlt : (Int32.ofNat j) < (Int32.ofNat cs.length))).2.1 kq) ?_
      show Gl p.tables e below _ (Ti.setTop (mkF m 15 #[.val (.int rr), .val (.ref t), .val (.int 0), .val (.int (Int32.ofNat cs.length)), .val (.int (Int32.ofNat cs.length)), .val (.int (Int32.ofNat j))] []))
      refine Gl.st (fun _ kq => XS.bipush Xi.here hx rfl (hb hby d27_15) kq) ?_
      show Gl p.tables e below _ (Ti.setTop (mkF m 17 #[.val (.int rr), .val (.ref t), .val (.int 0), .val (.int (Int32.ofNat cs.length)), .val (.int (Int32.ofNat cs.length)), .val (.int (Int32.ofNat j))] [(.int 31)]))
      refine Gl.st (fun _ kq => XS.iloadN Xi.here hx rfl (hb hby d27_17) rfl kq) ?_
      show Gl p.tables e below _ (Ti.setTop (mkF m 18 #[.val (.int rr), .val (.ref t), .val (.int 0), .val (.int (Int32.ofNat cs.length)), .val (.int (Int32.ofNat cs.length)), .val (.int (Int32.ofNat j))] [(.int rr), (.int 31)]))
      refine Gl.st (fun _ kq => XS.imul Xi.here hx rfl (hb hby d27_18) rfl kq) ?_
      show Gl p.tables e below _ (Ti.setTop (mkF m 19 #[.val (.int rr), .val (.ref t), .val (.int 0), .val (.int (Int32.ofNat cs.length)), .val (.int (Int32.ofNat cs.length)), .val (.int (Int32.ofNat j))] [(.int ((31 : Int32) * rr))]))
      refine Gl.st (fun _ kq => XS.aloadN Xi.here hx rfl (hb hby d27_19) rfl rfl kq) ?_
      show Gl p.tables e below _ (Ti.setTop (mkF m 20 #[.val (.int rr), .val (.ref t), .val (.int 0), .val (.int (Int32.ofNat cs.length)), .val (.int (Int32.ofNat cs.length)), .val (.int (Int32.ofNat j))] [(.ref t), (.int ((31 : Int32) * rr))]))
      refine Gl.st (fun _ kq => XS.iload Xi.here hx rfl (hb hby d27_20) rfl kq) ?_
      show Gl p.tables e below _ (Ti.setTop (mkF m 22 #[.val (.int rr), .val (.ref t), .val (.int 0), .val (.int (Int32.ofNat cs.length)), .val (.int (Int32.ofNat cs.length)), .val (.int (Int32.ofNat j))] [(.int (Int32.ofNat j)), (.ref t), (.int ((31 : Int32) * rr))]))
      obtain ⟨c1, a1, q1, S1, M1, H1, G1⟩ := id pf0
      refine Gl.st (fun _ kq => Xi.baloadBytes hx (j := (Int32.ofNat j)) (v := (.int ((cs.getD j 0).toInt8.toInt32))) (by rw [ei]; exact a1.1) (State.isArrayOf_alike hZ.alike a1.2.1) a1.2.2 (inb_of S1 ⟨n32_nn (by omega), n32_plt hjl (by omega)⟩) (Has.at H1 (inb_of S1 ⟨n32_nn (by omega), n32_plt hjl (by omega)⟩) (by rw [n32_cl (by omega)]; exact lo_get hjl)) (g := (mkF m 22 #[.val (.int rr), .val (.ref t), .val (.int 0), .val (.int (Int32.ofNat cs.length)), .val (.int (Int32.ofNat cs.length)), .val (.int (Int32.ofNat j))] [(.int (Int32.ofNat j)), (.ref t), (.int ((31 : Int32) * rr))])) rfl rfl (hb hby d27_22) _ kq) ?_
      show Gl p.tables e below _ (Ti.setTop (mkF m 23 #[.val (.int rr), .val (.ref t), .val (.int 0), .val (.int (Int32.ofNat cs.length)), .val (.int (Int32.ofNat cs.length)), .val (.int (Int32.ofNat j))] [(.int ((cs.getD j 0).toInt8.toInt32)), (.int ((31 : Int32) * rr))]))
      refine Gl.st (fun _ kq => XS.sipush Xi.here hx rfl (hb hby d27_23) kq) ?_
      show Gl p.tables e below _ (Ti.setTop (mkF m 26 #[.val (.int rr), .val (.ref t), .val (.int 0), .val (.int (Int32.ofNat cs.length)), .val (.int (Int32.ofNat cs.length)), .val (.int (Int32.ofNat j))] [(.int 255), (.int ((cs.getD j 0).toInt8.toInt32)), (.int ((31 : Int32) * rr))]))
      refine Gl.st (fun _ kq => XS.iand Xi.here hx rfl (hb hby d27_26) rfl kq) ?_
      show Gl p.tables e below _ (Ti.setTop (mkF m 27 #[.val (.int rr), .val (.ref t), .val (.int 0), .val (.int (Int32.ofNat cs.length)), .val (.int (Int32.ofNat cs.length)), .val (.int (Int32.ofNat j))] [(.int (((cs.getD j 0).toInt8.toInt32) &&& (255 : Int32))), (.int ((31 : Int32) * rr))]))
      refine Gl.st (fun _ kq => XS.iadd Xi.here hx rfl (hb hby d27_27) rfl kq) ?_
      show Gl p.tables e below _ (Ti.setTop (mkF m 28 #[.val (.int rr), .val (.ref t), .val (.int 0), .val (.int (Int32.ofNat cs.length)), .val (.int (Int32.ofNat cs.length)), .val (.int (Int32.ofNat j))] [(.int (((31 : Int32) * rr) + (((cs.getD j 0).toInt8.toInt32) &&& (255 : Int32))))]))
      refine Gl.st (fun _ kq => XS.istoreN Xi.here hx rfl (hb hby d27_28) rfl (l' := #[.val (.int (((31 : Int32) * rr) + (((cs.getD j 0).toInt8.toInt32) &&& (255 : Int32)))), .val (.ref t), .val (.int 0), .val (.int (Int32.ofNat cs.length)), .val (.int (Int32.ofNat cs.length)), .val (.int (Int32.ofNat j))]) rfl kq) ?_
      show Gl p.tables e below _ (Ti.setTop (mkF m 29 #[.val (.int (((31 : Int32) * rr) + (((cs.getD j 0).toInt8.toInt32) &&& (255 : Int32)))), .val (.ref t), .val (.int 0), .val (.int (Int32.ofNat cs.length)), .val (.int (Int32.ofNat cs.length)), .val (.int (Int32.ofNat j))] []))
      refine Gl.st (fun _ kq => XS.iinc Xi.here hx rfl (hb hby d27_29) rfl (l' := #[.val (.int (((31 : Int32) * rr) + (((cs.getD j 0).toInt8.toInt32) &&& (255 : Int32)))), .val (.ref t), .val (.int 0), .val (.int (Int32.ofNat cs.length)), .val (.int (Int32.ofNat cs.length)), .val (.int ((Int32.ofNat j) + (1 : Int32)))]) rfl kq) ?_
      show Gl p.tables e below _ (Ti.setTop (mkF m 32 #[.val (.int (((31 : Int32) * rr) + (((cs.getD j 0).toInt8.toInt32) &&& (255 : Int32)))), .val (.ref t), .val (.int 0), .val (.int (Int32.ofNat cs.length)), .val (.int (Int32.ofNat cs.length)), .val (.int ((Int32.ofNat j) + (1 : Int32)))] []))
      refine Gl.st (fun _ kq => XS.goto Xi.here hx rfl (pc0 := 32) (pc' := 8) rfl (hb hby d27_32) (by decide) (by decide) kq) ?_
      show Gl p.tables e below _ (Ti.setTop (mkF m 8 #[.val (.int (((31 : Int32) * rr) + (((cs.getD j 0).toInt8.toInt32) &&& (255 : Int32)))), .val (.ref t), .val (.int 0), .val (.int (Int32.ofNat cs.length)), .val (.int (Int32.ofNat cs.length)), .val (.int ((Int32.ofNat j) + (1 : Int32)))] []))
      rw [n32_inc j]
      exact ih (j + 1) _ _ _ Xi ei Ni (by omega) ((own_hs_cons hjl).symm.trans hv)
  exact loop cs.length 0 r _ _ (X0.more (by decide) (by decide)) e0 N0 (by omega) rfl
theorem d26_0 : decode jdk_48_method_4_code 0 = .ok (.iload 4, 2) := by decide +kernel
theorem d26_2 : decode jdk_48_method_4_code 2 = .ok (.tableswitch 127 4 10 #[42, 55, 127, 127, 88, 101, 114], 42) := by decide +kernel
theorem d26_44 : decode jdk_48_method_4_code 44 = .ok (.iload_n 3, 1) := by decide +kernel
theorem d26_45 : decode jdk_48_method_4_code 45 = .ok (.aload_n 0, 1) := by decide +kernel
theorem d26_46 : decode jdk_48_method_4_code 46 = .ok (.checkcast 60, 3) := by decide +kernel
theorem d26_49 : decode jdk_48_method_4_code 49 = .ok (.iload_n 1, 1) := by decide +kernel
theorem d26_50 : decode jdk_48_method_4_code 50 = .ok (.iload_n 2, 1) := by decide +kernel
theorem d26_51 : decode jdk_48_method_4_code 51 = .ok (.invokestatic 62, 3) := by decide +kernel
theorem d26_54 : decode jdk_48_method_4_code 54 = .ok (.goto 103, 3) := by decide +kernel
theorem d26_157 : decode jdk_48_method_4_code 157 = .ok (.ireturn, 1) := by decide +kernel
theorem ef_vhc (m : MethodId) (r : Int32) (t : Addr) (cs : List Int32) : entryFrame m #[(.ref t), (.int 0), (.int (Int32.ofNat cs.length)), (.int r), (.int 4)] 5 = mkF m 0 #[.val (.ref t), .val (.int 0), .val (.int (Int32.ofNat cs.length)), .val (.int r), .val (.int 4)] [] := by first | (simp [entryFrame, mkF, argsToLocals, Value.category]; done) | rfl
def Q_vhc (Z : State) (r : Int32) (t : Addr) (k : ClassId) (cs : List Int32) (h0 : Heap) (n0 : Nat) (v : Option Value) (h : Heap) (L : List Loc) : Prop := (v = some (.int (own_hs r cs)) ∧ Fr n0 L ∧ h = h0)
set_option maxRecDepth 65536 in
set_option maxHeartbeats 40000000 in
theorem rm_vhc (l : Launch) (Z : State) (a0 : Array Value) (hw : ∀ d ∈ tables_1, d.before a0 Z = true) (ws : List Jvm.Cond) (r : Int32) (t : Addr) (k : ClassId) (cs : List Int32) (h0 : Heap) (n0 : Nat) (Z0 : n0 ≤ h0.size) (pf0 : Arv Z h0 t k .byte (Int32.ofNat cs.length) ((cs.map (fun c => c.toInt8.toInt32)).map Value.int) (.int 0)) (hl : cs.length ≤ 4) (hfb : Z.vm.findClass "[B" = some k) :
    MetFree l (⟨"jdk/internal/util/ArraysSupport", "vectorizedHashCode", "(Ljava/lang/Object;IIII)I"⟩ : MethodName) (head1 (Jvm.Cond.code (⟨"jdk/internal/util/ArraysSupport", "vectorizedHashCode", "(Ljava/lang/Object;IIII)I"⟩ : MethodName) jdk_48_method_4_code 5 (some .int) :: ws) ({ frames := 1, cells := 0, slots := 0, locals := 17 } : Room)) (fun aa U => aa = #[(.ref t), (.int 0), (.int (Int32.ofNat cs.length)), (.int r), (.int 4)] ∧ Z.Warmed39 U.vm ∧ U.heap = h0) (fun _ _ _ _ _ => True) (fun _ U o U' => ∃ v L, o = .returned v ∧ Q_vhc Z r t k cs h0 n0 v U'.heap L ∧ FrameEnd U o U' L ({ frames := 1, cells := 0, slots := 0, locals := 17 } : Room).cells ({ frames := 1, cells := 0, slots := 0, locals := 17 } : Room).slots) := by
  refine MetFree.of_bodySF (plainFor_of_name pn_jdk_internal_util_ArraysSupport) hisR ?_
  intro p e s m args below meth c s₁ Bd hml0 hP hK
  obtain ⟨rfl, hZ, hh⟩ := hP
  have hx := Bd.exec
  have hby := Bd.bytes
  have hlk : meth.locks = false := BodyLoose.notSynchronized Bd
  have hml : c.maxLocals = 5 := hml0
  have hown : s.vm.findClass "jdk/internal/util/ArraysSupport" = some m.cls := findClass_of_methodNamed Bd.named
  have hnm := (name_of_methodNamed Bd.named Bd.method).1
  have X0 : Stand p l e ({ frames := 1, cells := 0, slots := 0, locals := 17 } : Room) s m #[(.ref t), (.int 0), (.int (Int32.ofNat cs.length)), (.int r), (.int 4)] below meth c s₁ [] 0 0 := Stand.of_body Bd
  have e0 : s₁.heap = h0 := by rw [← hh, Bd.state]; rfl
  have N0 := Fr.nil n0
  show Gl p.tables e below (EndN s (Q_vhc Z r t k cs h0 n0) ({ frames := 1, cells := 0, slots := 0, locals := 17 } : Room).cells ({ frames := 1, cells := 0, slots := 0, locals := 17 } : Room).slots) _
  refine Gl.cast (ef_vhc m r t cs) ?_
  show Gl p.tables e below _ (s₁.setTop (mkF m 0 #[.val (.ref t), .val (.int 0), .val (.int (Int32.ofNat cs.length)), .val (.int r), .val (.int 4)] []))
  refine Gl.st (fun _ kq => XS.iload X0.here hx rfl (hb hby d26_0) rfl kq) ?_
  show Gl p.tables e below _ (s₁.setTop (mkF m 2 #[.val (.ref t), .val (.int 0), .val (.int (Int32.ofNat cs.length)), .val (.int r), .val (.int 4)] [(.int 4)]))
  refine Gl.st (fun _ kq => XS.tswIn X0.here hx rfl (pc0 := 2) (pc' := 44) rfl (hb hby d26_2) rfl (by decide) (o := 42) rfl (by decide) (by decide) kq) ?_
  show Gl p.tables e below _ (s₁.setTop (mkF m 44 #[.val (.ref t), .val (.int 0), .val (.int (Int32.ofNat cs.length)), .val (.int r), .val (.int 4)] []))
  refine Gl.st (fun _ kq => XS.iloadN X0.here hx rfl (hb hby d26_44) rfl kq) ?_
  show Gl p.tables e below _ (s₁.setTop (mkF m 45 #[.val (.ref t), .val (.int 0), .val (.int (Int32.ofNat cs.length)), .val (.int r), .val (.int 4)] [(.int r)]))
  refine Gl.st (fun _ kq => XS.aloadN X0.here hx rfl (hb hby d26_45) rfl rfl kq) ?_
  show Gl p.tables e below _ (s₁.setTop (mkF m 46 #[.val (.ref t), .val (.int 0), .val (.int (Int32.ofNat cs.length)), .val (.int r), .val (.int 4)] [(.ref t), (.int r)]))
  have IB : Ins Z h0 t "[B" true := own_insB pf0 hfb
  obtain ⟨T1, X1, e1, st1⟩ := castY X0 hx hZ hown (tw hw 132 rfl) e0 IB (g := (mkF m 46 #[.val (.ref t), .val (.int 0), .val (.int (Int32.ofNat cs.length)), .val (.int r), .val (.int 4)] [(.ref t), (.int r)])) rfl rfl (hb hby d26_46)
  refine Gl.st st1 ?_
  show Gl p.tables e below _ (T1.setTop (mkF m 49 #[.val (.ref t), .val (.int 0), .val (.int (Int32.ofNat cs.length)), .val (.int r), .val (.int 4)] [(.ref t), (.int r)]))
  refine Gl.st (fun _ kq => XS.iloadN X1.here hx rfl (hb hby d26_49) rfl kq) ?_
  show Gl p.tables e below _ (T1.setTop (mkF m 50 #[.val (.ref t), .val (.int 0), .val (.int (Int32.ofNat cs.length)), .val (.int r), .val (.int 4)] [(.int 0), (.ref t), (.int r)]))
  refine Gl.st (fun _ kq => XS.iloadN X1.here hx rfl (hb hby d26_50) rfl kq) ?_
  show Gl p.tables e below _ (T1.setTop (mkF m 51 #[.val (.ref t), .val (.int 0), .val (.int (Int32.ofNat cs.length)), .val (.int r), .val (.int 4)] [(.int (Int32.ofNat cs.length)), (.int 0), (.ref t), (.int r)]))
  obtain ⟨_, _, ⟨T2, L2, k2, n2⟩, -, X2, ⟨Lc2, hQ2, l2, y2, z2⟩, st2⟩ := Jvm.LawKit.callS X1 hx (y := (⟨"jdk/internal/util/ArraysSupport", "signedHashCode", "(I[BII)I"⟩ : MethodName)) hown (mvT hZ (tw hw 134 rfl)) (mvT hZ (tw hw 135 rfl)) (mvT hZ (tw hw 130 rfl)) (mvT hZ (tw hw 136 rfl)) (by decide) (backOf (W := 0) (rm_shc l Z a0 hw [] (r) (t) (k) (cs) h0 n0 Z0 pf0 hl) hZ (tw hw 136 rfl) (tw hw 130 rfl) (by decide) (by decide)) (g := (mkF m 51 #[.val (.ref t), .val (.int 0), .val (.int (Int32.ofNat cs.length)), .val (.int r), .val (.int 4)] [(.int (Int32.ofNat cs.length)), (.int 0), (.ref t), (.int r)])) rfl (by rw [hml]; rfl) (argsL := [(.int r), (.ref t), (.int 0), (.int (Int32.ofNat cs.length))]) (rest := []) (lenOf pd__I_BII_I rfl) rfl (by show 2 * 0 + _ ≤ _; exact Nat.le_of_eq rfl) (hb hby d26_51) (fun _ _ => ⟨rfl, e1, (by decide : 0 + 0 ≤ _), (by decide : 0 + 0 ≤ _)⟩)
  dsimp only [Pt.U, Pt.locs, Pt.cells, Pt.slots] at X2 l2 y2 z2 st2 hQ2
  subst l2 y2 z2
  obtain ⟨rfl, N2, e2⟩ := hQ2
  have M2 := Fr.app N0 N2
  refine Gl.st st2 ?_
  show Gl p.tables e below _ (T2.setTop (mkF m 54 #[.val (.ref t), .val (.int 0), .val (.int (Int32.ofNat cs.length)), .val (.int r), .val (.int 4)] [(.int (own_hs r cs))]))
  show Gl p.tables e below _ (T2.setTop (mkF m 54 #[.val (.ref t), .val (.int 0), .val (.int (Int32.ofNat cs.length)), .val (.int r), .val (.int 4)] [(.int (own_hs r cs))]))
  refine Gl.st (fun _ kq => XS.goto X2.here hx rfl (pc0 := 54) (pc' := 157) rfl (hb hby d26_54) (by decide) (by decide) kq) ?_
  show Gl p.tables e below _ (T2.setTop (mkF m 157 #[.val (.ref t), .val (.int 0), .val (.int (Int32.ofNat cs.length)), .val (.int r), .val (.int 4)] [(.int (own_hs r cs))]))
  exact Gl.retI X2 hx Bd.returns (hb hby d26_157) hlk (by decide) (by decide) (by rw [e2]; exact ⟨rfl, M2, rfl⟩)
theorem d25_0 : decode jdk_43_method_21_code 0 = .ok (.aload_n 0, 1) := by decide +kernel
theorem d25_1 : decode jdk_43_method_21_code 1 = .ok (.arraylength, 1) := by decide +kernel
theorem d25_2 : decode jdk_43_method_21_code 2 = .ok (.lookupswitch 40 #[(0, 26), (1, 30)], 26) := by decide +kernel
theorem d25_32 : decode jdk_43_method_21_code 32 = .ok (.aload_n 0, 1) := by decide +kernel
theorem d25_33 : decode jdk_43_method_21_code 33 = .ok (.iconst 0, 1) := by decide +kernel
theorem d25_34 : decode jdk_43_method_21_code 34 = .ok (.baload, 1) := by decide +kernel
theorem d25_35 : decode jdk_43_method_21_code 35 = .ok (.sipush 255, 3) := by decide +kernel
theorem d25_38 : decode jdk_43_method_21_code 38 = .ok (.iand, 1) := by decide +kernel
theorem d25_39 : decode jdk_43_method_21_code 39 = .ok (.goto 12, 3) := by decide +kernel
theorem d25_42 : decode jdk_43_method_21_code 42 = .ok (.aload_n 0, 1) := by decide +kernel
theorem d25_43 : decode jdk_43_method_21_code 43 = .ok (.iconst 0, 1) := by decide +kernel
theorem d25_44 : decode jdk_43_method_21_code 44 = .ok (.aload_n 0, 1) := by decide +kernel
theorem d25_45 : decode jdk_43_method_21_code 45 = .ok (.arraylength, 1) := by decide +kernel
theorem d25_46 : decode jdk_43_method_21_code 46 = .ok (.iconst 0, 1) := by decide +kernel
theorem d25_47 : decode jdk_43_method_21_code 47 = .ok (.iconst 4, 1) := by decide +kernel
theorem d25_48 : decode jdk_43_method_21_code 48 = .ok (.invokestatic 84, 3) := by decide +kernel
theorem d25_51 : decode jdk_43_method_21_code 51 = .ok (.ireturn, 1) := by decide +kernel
theorem ef_lhc (m : MethodId) (t : Addr) : entryFrame m #[(.ref t)] 1 = mkF m 0 #[.val (.ref t)] [] := by first | (simp [entryFrame, mkF, argsToLocals, Value.category]; done) | rfl
def Q_lhc (Z : State) (t : Addr) (k : ClassId) (cs : List Int32) (h0 : Heap) (n0 : Nat) (v : Option Value) (h : Heap) (L : List Loc) : Prop := (v = some (.int (own_hc cs)) ∧ Fr n0 L ∧ h = h0)
set_option maxRecDepth 65536 in
set_option maxHeartbeats 40000000 in
theorem rm_lhc (l : Launch) (Z : State) (a0 : Array Value) (hw : ∀ d ∈ tables_1, d.before a0 Z = true) (ws : List Jvm.Cond) (t : Addr) (k : ClassId) (cs : List Int32) (h0 : Heap) (n0 : Nat) (Z0 : n0 ≤ h0.size) (pf0 : Arv Z h0 t k .byte (Int32.ofNat cs.length) ((cs.map (fun c => c.toInt8.toInt32)).map Value.int) (.int 0)) (hl : cs.length ≤ 4) (hfb : Z.vm.findClass "[B" = some k) (hne : ¬ cs.length = 0) :
    MetFree l (⟨"java/lang/StringLatin1", "hashCode", "([B)I"⟩ : MethodName) (head1 (Jvm.Cond.code (⟨"java/lang/StringLatin1", "hashCode", "([B)I"⟩ : MethodName) jdk_43_method_21_code 1 (some .int) :: ws) ({ frames := 2, cells := 0, slots := 0, locals := 33 } : Room)) (fun aa U => aa = #[(.ref t)] ∧ Z.Warmed39 U.vm ∧ U.heap = h0) (fun _ _ _ _ _ => True) (fun _ U o U' => ∃ v L, o = .returned v ∧ Q_lhc Z t k cs h0 n0 v U'.heap L ∧ FrameEnd U o U' L ({ frames := 2, cells := 0, slots := 0, locals := 33 } : Room).cells ({ frames := 2, cells := 0, slots := 0, locals := 33 } : Room).slots) := by
  refine MetFree.of_bodySF (plainFor_of_name pn_java_lang_StringLatin1) hisR ?_
  intro p e s m args below meth c s₁ Bd hml0 hP hK
  obtain ⟨rfl, hZ, hh⟩ := hP
  have hx := Bd.exec
  have hby := Bd.bytes
  have hlk : meth.locks = false := BodyLoose.notSynchronized Bd
  have hml : c.maxLocals = 1 := hml0
  have hown : s.vm.findClass "java/lang/StringLatin1" = some m.cls := findClass_of_methodNamed Bd.named
  have hnm := (name_of_methodNamed Bd.named Bd.method).1
  have X0 : Stand p l e ({ frames := 2, cells := 0, slots := 0, locals := 33 } : Room) s m #[(.ref t)] below meth c s₁ [] 0 0 := Stand.of_body Bd
  have e0 : s₁.heap = h0 := by rw [← hh, Bd.state]; rfl
  have N0 := Fr.nil n0
  show Gl p.tables e below (EndN s (Q_lhc Z t k cs h0 n0) ({ frames := 2, cells := 0, slots := 0, locals := 33 } : Room).cells ({ frames := 2, cells := 0, slots := 0, locals := 33 } : Room).slots) _
  refine Gl.cast (ef_lhc m t) ?_
  show Gl p.tables e below _ (s₁.setTop (mkF m 0 #[.val (.ref t)] []))
  refine Gl.st (fun _ kq => XS.aloadN X0.here hx rfl (hb hby d25_0) rfl rfl kq) ?_
  show Gl p.tables e below _ (s₁.setTop (mkF m 1 #[.val (.ref t)] [(.ref t)]))
  obtain ⟨c1, a1, q1, S1, M1, H1, G1⟩ := id pf0
  refine Gl.st (fun _ kq => X0.arraylength hx (by rw [e0]; exact a1.1) (State.isArrayOf_alike hZ.alike a1.2.1) (g := (mkF m 1 #[.val (.ref t)] [(.ref t)])) rfl rfl (hb hby d25_1) _ kq) ?_
  rw [len_of S1 M1]
  show Gl p.tables e below _ (s₁.setTop (mkF m 2 #[.val (.ref t)] [(.int (Int32.ofNat cs.length))]))
  by_cases h1 : cs.length = 1
  · refine Gl.st (fun _ kq => X0.lookupswitchHit hx (g := (mkF m 2 #[.val (.ref t)] [(.int (Int32.ofNat cs.length))])) rfl rfl (hb hby d25_2) (by first | decide | (show (0 : Int) ≤ ((2 : Nat) : Int) + _; decide)) (own_sw1 h1) (by first | decide | (show (0 : Int) ≤ ((2 : Nat) : Int) + _; decide)) _ kq) ?_
    have hh1 : ((cs.getD 0 0).toInt8.toInt32 &&& (255 : Int32)) = own_hc cs := (if_pos h1).symm
    show Gl p.tables e below _ (s₁.setTop (mkF m 32 #[.val (.ref t)] []))
    refine Gl.st (fun _ kq => XS.aloadN X0.here hx rfl (hb hby d25_32) rfl rfl kq) ?_
    show Gl p.tables e below _ (s₁.setTop (mkF m 33 #[.val (.ref t)] [(.ref t)]))
    refine Gl.st (fun _ kq => XS.iconst X0.here hx rfl (hb hby d25_33) kq) ?_
    show Gl p.tables e below _ (s₁.setTop (mkF m 34 #[.val (.ref t)] [(.int 0), (.ref t)]))
    obtain ⟨c2, a2, q2, S2, M2, H2, G2⟩ := id pf0
    refine Gl.st (fun _ kq => X0.baloadBytes hx (j := (0 : Int32)) (v := (.int ((cs.getD 0 0).toInt8.toInt32))) (by rw [e0]; exact a2.1) (State.isArrayOf_alike hZ.alike a2.2.1) a2.2.2 (inb_of S2 ⟨by decide, n32_plt (i := 0) (by omega) (by omega)⟩) (Has.at H2 (inb_of S2 ⟨by decide, n32_plt (i := 0) (by omega) (by omega)⟩) (lo_get (i := 0) (by omega))) (g := (mkF m 34 #[.val (.ref t)] [(.int 0), (.ref t)])) rfl rfl (hb hby d25_34) _ kq) ?_
    show Gl p.tables e below _ (s₁.setTop (mkF m 35 #[.val (.ref t)] [(.int ((cs.getD 0 0).toInt8.toInt32))]))
    refine Gl.st (fun _ kq => XS.sipush X0.here hx rfl (hb hby d25_35) kq) ?_
    show Gl p.tables e below _ (s₁.setTop (mkF m 38 #[.val (.ref t)] [(.int 255), (.int ((cs.getD 0 0).toInt8.toInt32))]))
    refine Gl.st (fun _ kq => XS.iand X0.here hx rfl (hb hby d25_38) rfl kq) ?_
    show Gl p.tables e below _ (s₁.setTop (mkF m 39 #[.val (.ref t)] [(.int (((cs.getD 0 0).toInt8.toInt32) &&& (255 : Int32)))]))
    refine Gl.st (fun _ kq => XS.goto X0.here hx rfl (pc0 := 39) (pc' := 51) rfl (hb hby d25_39) (by decide) (by decide) kq) ?_
    show Gl p.tables e below _ (s₁.setTop (mkF m 51 #[.val (.ref t)] [(.int (((cs.getD 0 0).toInt8.toInt32) &&& (255 : Int32)))]))
    rw [hh1]
    show Gl p.tables e below _ (s₁.setTop (mkF m 51 #[.val (.ref t)] [(.int (own_hc cs))]))
    exact Gl.retI X0 hx Bd.returns (hb hby d25_51) hlk (by decide) (by decide) (by rw [e0]; exact ⟨rfl, N0, rfl⟩)
  · refine Gl.st (fun _ kq => X0.lookupswitchMiss hx (g := (mkF m 2 #[.val (.ref t)] [(.int (Int32.ofNat cs.length))])) rfl rfl (hb hby d25_2) (by first | decide | (show (0 : Int) ≤ ((2 : Nat) : Int) + _; decide)) (own_sw2 hne h1 (by omega)) (by first | decide | (show (0 : Int) ≤ ((2 : Nat) : Int) + _; decide)) _ kq) ?_
    have hh2 : own_hs (0 : Int32) cs = own_hc cs := (if_neg h1).symm
    show Gl p.tables e below _ (s₁.setTop (mkF m 42 #[.val (.ref t)] []))
    refine Gl.st (fun _ kq => XS.aloadN X0.here hx rfl (hb hby d25_42) rfl rfl kq) ?_
    show Gl p.tables e below _ (s₁.setTop (mkF m 43 #[.val (.ref t)] [(.ref t)]))
    refine Gl.st (fun _ kq => XS.iconst X0.here hx rfl (hb hby d25_43) kq) ?_
    show Gl p.tables e below _ (s₁.setTop (mkF m 44 #[.val (.ref t)] [(.int 0), (.ref t)]))
    refine Gl.st (fun _ kq => XS.aloadN X0.here hx rfl (hb hby d25_44) rfl rfl kq) ?_
    show Gl p.tables e below _ (s₁.setTop (mkF m 45 #[.val (.ref t)] [(.ref t), (.int 0), (.ref t)]))
    obtain ⟨c3, a3, q3, S3, M3, H3, G3⟩ := id pf0
    refine Gl.st (fun _ kq => X0.arraylength hx (by rw [e0]; exact a3.1) (State.isArrayOf_alike hZ.alike a3.2.1) (g := (mkF m 45 #[.val (.ref t)] [(.ref t), (.int 0), (.ref t)])) rfl rfl (hb hby d25_45) _ kq) ?_
    rw [len_of S3 M3]
    show Gl p.tables e below _ (s₁.setTop (mkF m 46 #[.val (.ref t)] [(.int (Int32.ofNat cs.length)), (.int 0), (.ref t)]))
    refine Gl.st (fun _ kq => XS.iconst X0.here hx rfl (hb hby d25_46) kq) ?_
    show Gl p.tables e below _ (s₁.setTop (mkF m 47 #[.val (.ref t)] [(.int 0), (.int (Int32.ofNat cs.length)), (.int 0), (.ref t)]))
    refine Gl.st (fun _ kq => XS.iconst X0.here hx rfl (hb hby d25_47) kq) ?_
    show Gl p.tables e below _ (s₁.setTop (mkF m 48 #[.val (.ref t)] [(.int 4), (.int 0), (.int (Int32.ofNat cs.length)), (.int 0), (.ref t)]))
    obtain ⟨_, _, ⟨T4, L4, k4, n4⟩, -, X4, ⟨Lc4, hQ4, l4, y4, z4⟩, st4⟩ := Jvm.LawKit.callS X0 hx (y := (⟨"jdk/internal/util/ArraysSupport", "vectorizedHashCode", "(Ljava/lang/Object;IIII)I"⟩ : MethodName)) hown (mvT hZ (tw hw 128 rfl)) (mvT hZ (tw hw 129 rfl)) (mvT hZ (tw hw 130 rfl)) (mvT hZ (tw hw 131 rfl)) (by decide) (backOf (W := 0) (rm_vhc l Z a0 hw [] ((0 : Int32)) (t) (k) (cs) h0 n0 Z0 pf0 hl hfb) hZ (tw hw 131 rfl) (tw hw 130 rfl) (by decide) (by decide)) (g := (mkF m 48 #[.val (.ref t)] [(.int 4), (.int 0), (.int (Int32.ofNat cs.length)), (.int 0), (.ref t)])) rfl (by rw [hml]; rfl) (argsL := [(.ref t), (.int 0), (.int (Int32.ofNat cs.length)), (.int 0), (.int 4)]) (rest := []) (lenOf pd__Ljava_lang_Object_IIII_I rfl) rfl (by show 2 * 0 + _ ≤ _; exact Nat.le_of_eq rfl) (hb hby d25_48) (fun _ _ => ⟨rfl, e0, (by decide : 0 + 0 ≤ _), (by decide : 0 + 0 ≤ _)⟩)
    dsimp only [Pt.U, Pt.locs, Pt.cells, Pt.slots] at X4 l4 y4 z4 st4 hQ4
    subst l4 y4 z4
    obtain ⟨rfl, N4, e4⟩ := hQ4
    have M4 := Fr.app N0 N4
    refine Gl.st st4 ?_
    show Gl p.tables e below _ (T4.setTop (mkF m 51 #[.val (.ref t)] [(.int (own_hs (0 : Int32) cs))]))
    show Gl p.tables e below _ (T4.setTop (mkF m 51 #[.val (.ref t)] [(.int (own_hs (0 : Int32) cs))]))
    rw [hh2]
    show Gl p.tables e below _ (T4.setTop (mkF m 51 #[.val (.ref t)] [(.int (own_hc cs))]))
    exact Gl.retI X4 hx Bd.returns (hb hby d25_51) hlk (by decide) (by decide) (by rw [e4]; exact ⟨rfl, M4, rfl⟩)
theorem d24_0 : decode jdk_42_method_78_code 0 = .ok (.aload_n 0, 1) := by decide +kernel
theorem d24_1 : decode jdk_42_method_78_code 1 = .ok (.getfield 19, 3) := by decide +kernel
theorem d24_4 : decode jdk_42_method_78_code 4 = .ok (.istore_n 1, 1) := by decide +kernel
theorem d24_5 : decode jdk_42_method_78_code 5 = .ok (.iload_n 1, 1) := by decide +kernel
theorem d24_6 : decode jdk_42_method_78_code 6 = .ok (.ifCond .ne 52, 3) := by decide +kernel
theorem d24_9 : decode jdk_42_method_78_code 9 = .ok (.aload_n 0, 1) := by decide +kernel
theorem d24_10 : decode jdk_42_method_78_code 10 = .ok (.getfield 23, 3) := by decide +kernel
theorem d24_13 : decode jdk_42_method_78_code 13 = .ok (.ifCond .ne 45, 3) := by decide +kernel
theorem d24_16 : decode jdk_42_method_78_code 16 = .ok (.aload_n 0, 1) := by decide +kernel
theorem d24_17 : decode jdk_42_method_78_code 17 = .ok (.invokevirtual 492, 3) := by decide +kernel
theorem d24_20 : decode jdk_42_method_78_code 20 = .ok (.ifCond .eq 13, 3) := by decide +kernel
theorem d24_23 : decode jdk_42_method_78_code 23 = .ok (.aload_n 0, 1) := by decide +kernel
theorem d24_24 : decode jdk_42_method_78_code 24 = .ok (.getfield 9, 3) := by decide +kernel
theorem d24_27 : decode jdk_42_method_78_code 27 = .ok (.invokestatic 628, 3) := by decide +kernel
theorem d24_30 : decode jdk_42_method_78_code 30 = .ok (.goto 10, 3) := by decide +kernel
theorem d24_40 : decode jdk_42_method_78_code 40 = .ok (.istore_n 1, 1) := by decide +kernel
theorem d24_41 : decode jdk_42_method_78_code 41 = .ok (.iload_n 1, 1) := by decide +kernel
theorem d24_42 : decode jdk_42_method_78_code 42 = .ok (.ifCond .ne 11, 3) := by decide +kernel
theorem d24_45 : decode jdk_42_method_78_code 45 = .ok (.aload_n 0, 1) := by decide +kernel
theorem d24_46 : decode jdk_42_method_78_code 46 = .ok (.iconst 1, 1) := by decide +kernel
theorem d24_47 : decode jdk_42_method_78_code 47 = .ok (.putfield 23, 3) := by decide +kernel
theorem d24_50 : decode jdk_42_method_78_code 50 = .ok (.goto 8, 3) := by decide +kernel
theorem d24_53 : decode jdk_42_method_78_code 53 = .ok (.aload_n 0, 1) := by decide +kernel
theorem d24_54 : decode jdk_42_method_78_code 54 = .ok (.iload_n 1, 1) := by decide +kernel
theorem d24_55 : decode jdk_42_method_78_code 55 = .ok (.putfield 19, 3) := by decide +kernel
theorem d24_58 : decode jdk_42_method_78_code 58 = .ok (.iload_n 1, 1) := by decide +kernel
theorem d24_59 : decode jdk_42_method_78_code 59 = .ok (.ireturn, 1) := by decide +kernel
theorem ef_hc (m : MethodId) (b : Addr) : entryFrame m #[(.ref b)] 2 = mkF m 0 #[.val (.ref b), .unset] [] := by first | (simp [entryFrame, mkF, argsToLocals, Value.category]; done) | rfl
def Q_hc (Z : State) (b : Addr) (t : Addr) (k : ClassId) (cs : List Int32) (G1 : Int32) (h0 : Heap) (n0 : Nat) (v : Option Value) (h : Heap) (L : List Loc) : Prop := (v = some (.int (own_hc cs)) ∧ Fr n0 L ∧ Keep h0 h [b])
set_option maxRecDepth 65536 in
set_option maxHeartbeats 40000000 in
theorem rm_hc (l : Launch) (Z : State) (a0 : Array Value) (hw : ∀ d ∈ tables_1, d.before a0 Z = true) (ws : List Jvm.Cond) (b : Addr) (t : Addr) (k : ClassId) (cs : List Int32) (G1 : Int32) (h0 : Heap) (n0 : Nat) (Z0 : n0 ≤ h0.size) (pf0 : Exa Z h0 b "java/lang/String") (pf1 : Fld Z h0 b "java/lang/String" "coder" "B" (.int 0)) (pf2 : Fld Z h0 b "java/lang/String" "value" "[B" (.ref t)) (pf3 : Arv Z h0 t k .byte (Int32.ofNat cs.length) ((cs.map (fun c => c.toInt8.toInt32)).map Value.int) (.int 0)) (pf4 : Fld Z h0 b "java/lang/String" "hash" "I" (.int 0)) (pf5 : Fld Z h0 b "java/lang/String" "hashIsZero" "Z" (.int 0)) (pf6 : Old Z n0 h0) (hl : cs.length ≤ 4) (hfb : Z.vm.findClass "[B" = some k) (hne : ¬ cs.length = 0) (gb : n0 ≤ b) (O2 : Sta Z Z.heap "java/lang/String" "COMPACT_STRINGS" "Z" (.int G1)) (P5 : ¬ (G1 = (0 : Int32))) :
    MetFree l (⟨"java/lang/String", "hashCode", "()I"⟩ : MethodName) (head1 (Jvm.Cond.code (⟨"java/lang/String", "hashCode", "()I"⟩ : MethodName) jdk_42_method_78_code 2 (some .int) :: ws) ({ frames := 3, cells := 0, slots := 0, locals := 45 } : Room)) (fun aa U => aa = #[(.ref b)] ∧ Z.Warmed39 U.vm ∧ U.heap = h0) (fun _ _ _ _ _ => True) (fun _ U o U' => ∃ v L, o = .returned v ∧ Q_hc Z b t k cs G1 h0 n0 v U'.heap L ∧ FrameEnd U o U' L ({ frames := 3, cells := 0, slots := 0, locals := 45 } : Room).cells ({ frames := 3, cells := 0, slots := 0, locals := 45 } : Room).slots) := by
  refine MetFree.of_bodySF (plainFor_of_name pn_java_lang_String) hisR ?_
  intro p e s m args below meth c s₁ Bd hml0 hP hK
  obtain ⟨rfl, hZ, hh⟩ := hP
  have hx := Bd.exec
  have hby := Bd.bytes
  have hlk : meth.locks = false := BodyLoose.notSynchronized Bd
  have hml : c.maxLocals = 2 := hml0
  have hown : s.vm.findClass "java/lang/String" = some m.cls := findClass_of_methodNamed Bd.named
  have hnm := (name_of_methodNamed Bd.named Bd.method).1
  have X0 : Stand p l e ({ frames := 3, cells := 0, slots := 0, locals := 45 } : Room) s m #[(.ref b)] below meth c s₁ [] 0 0 := Stand.of_body Bd
  have e0 : s₁.heap = h0 := by rw [← hh, Bd.state]; rfl
  have N0 := Fr.nil n0
  show Gl p.tables e below (EndN s (Q_hc Z b t k cs G1 h0 n0) ({ frames := 3, cells := 0, slots := 0, locals := 45 } : Room).cells ({ frames := 3, cells := 0, slots := 0, locals := 45 } : Room).slots) _
  refine Gl.cast (ef_hc m b) ?_
  show Gl p.tables e below _ (s₁.setTop (mkF m 0 #[.val (.ref b), .unset] []))
  refine Gl.st (fun _ kq => XS.aloadN X0.here hx rfl (hb hby d24_0) rfl rfl kq) ?_
  show Gl p.tables e below _ (s₁.setTop (mkF m 1 #[.val (.ref b), .unset] [(.ref b)]))
  obtain ⟨T1, X1, e1, st1⟩ := getF X0 hx hZ hown (host := "") (Or.inl (tw hw 121 rfl)) Via.refl e0 pf4 (g := (mkF m 1 #[.val (.ref b), .unset] [(.ref b)])) rfl rfl (hb hby d24_1)
  refine Gl.st st1 ?_
  show Gl p.tables e below _ (T1.setTop (mkF m 4 #[.val (.ref b), .unset] [(.int 0)]))
  refine Gl.st (fun _ kq => XS.istoreN X1.here hx rfl (hb hby d24_4) rfl (l' := #[.val (.ref b), .val (.int 0)]) rfl kq) ?_
  show Gl p.tables e below _ (T1.setTop (mkF m 5 #[.val (.ref b), .val (.int 0)] []))
  refine Gl.st (fun _ kq => XS.iloadN X1.here hx rfl (hb hby d24_5) rfl kq) ?_
  show Gl p.tables e below _ (T1.setTop (mkF m 6 #[.val (.ref b), .val (.int 0)] [(.int 0)]))
  refine Gl.st (fun _ kq => XS.ifNo X1.here hx rfl (hb hby d24_6) rfl ((if0 _ _).trans (teq ((by decide) : (0 : Int32) = (0 : Int32))).2) kq) ?_
  show Gl p.tables e below _ (T1.setTop (mkF m 9 #[.val (.ref b), .val (.int 0)] []))
  refine Gl.st (fun _ kq => XS.aloadN X1.here hx rfl (hb hby d24_9) rfl rfl kq) ?_
  show Gl p.tables e below _ (T1.setTop (mkF m 10 #[.val (.ref b), .val (.int 0)] [(.ref b)]))
  obtain ⟨T2, X2, e2, st2⟩ := getF X1 hx hZ hown (host := "") (Or.inl (tw hw 123 rfl)) Via.refl e1 pf5 (g := (mkF m 10 #[.val (.ref b), .val (.int 0)] [(.ref b)])) rfl rfl (hb hby d24_10)
  refine Gl.st st2 ?_
  show Gl p.tables e below _ (T2.setTop (mkF m 13 #[.val (.ref b), .val (.int 0)] [(.int 0)]))
  refine Gl.st (fun _ kq => XS.ifNo X2.here hx rfl (hb hby d24_13) rfl ((if0 _ _).trans (teq ((by decide) : (0 : Int32) = (0 : Int32))).2) kq) ?_
  show Gl p.tables e below _ (T2.setTop (mkF m 16 #[.val (.ref b), .val (.int 0)] []))
  refine Gl.st (fun _ kq => XS.aloadN X2.here hx rfl (hb hby d24_16) rfl rfl kq) ?_
  show Gl p.tables e below _ (T2.setTop (mkF m 17 #[.val (.ref b), .val (.int 0)] [(.ref b)]))
  obtain ⟨cq3, kq3, q3a, q3b, q3c⟩ := isOf hZ e2 pf0
  obtain ⟨_, _, ⟨T3, L3, k3, n3⟩, -, X3, ⟨Lc3, hQ3, l3, y3, z3⟩, st3⟩ := X2.virtualBack hx (y := (⟨"java/lang/String", "isLatin1", "()Z"⟩ : MethodName)) (z := (⟨"java/lang/String", "isLatin1", "()Z"⟩ : MethodName)) hown (mvT hZ (tw hw 63 rfl)) (mvT hZ (tw hw 64 rfl)) (notFace_of_selects (args := #[]) (mvT hZ (tw hw 66 rfl))) (mvT hZ (tw hw 66 rfl)) (mvT hZ (tw hw 65 rfl)) (by decide) (backOf (W := 0) (rm_isl l Z a0 hw [] (b) (G1) h0 n0 Z0 pf1 pf6 O2 P5) hZ (tw hw 67 rfl) (tw hw 11 rfl) (by decide) (by decide)) q3a q3c (g := (mkF m 17 #[.val (.ref b), .val (.int 0)] [(.ref b)])) rfl (by rw [hml]; rfl) (Steps.refl _) (argsL := []) (rest := []) (lenOf pd___Z rfl) rfl (by show 2 * 0 + _ ≤ _; exact Nat.le_of_eq rfl) (hb hby d24_17) (fun _ _ => ⟨rfl, e2, (by decide : 0 + 0 ≤ _), (by decide : 0 + 0 ≤ _)⟩)
  dsimp only [Pt.U, Pt.locs, Pt.cells, Pt.slots] at X3 l3 y3 z3 st3 hQ3
  subst l3 y3 z3
  obtain ⟨rfl, N3, e3⟩ := hQ3
  have M3 := Fr.app N0 N3
  refine Gl.to st3 ?_
  show Gl p.tables e below _ (T3.setTop (mkF m 20 #[.val (.ref b), .val (.int 0)] [(.int 1)]))
  show Gl p.tables e below _ (T3.setTop (mkF m 20 #[.val (.ref b), .val (.int 0)] [(.int 1)]))
  refine Gl.st (fun _ kq => XS.ifNo X3.here hx rfl (hb hby d24_20) rfl ((if0 _ _).trans (feq ((by decide) : ¬ ((1 : Int32) = (0 : Int32)))).1) kq) ?_
  show Gl p.tables e below _ (T3.setTop (mkF m 23 #[.val (.ref b), .val (.int 0)] []))
  refine Gl.st (fun _ kq => XS.aloadN X3.here hx rfl (hb hby d24_23) rfl rfl kq) ?_
  show Gl p.tables e below _ (T3.setTop (mkF m 24 #[.val (.ref b), .val (.int 0)] [(.ref b)]))
  obtain ⟨T4, X4, e4, st4⟩ := getF X3 hx hZ hown (host := "") (Or.inl (tw hw 37 rfl)) Via.refl e3 pf2 (g := (mkF m 24 #[.val (.ref b), .val (.int 0)] [(.ref b)])) rfl rfl (hb hby d24_24)
  refine Gl.st st4 ?_
  show Gl p.tables e below _ (T4.setTop (mkF m 27 #[.val (.ref b), .val (.int 0)] [(.ref t)]))
  obtain ⟨_, _, ⟨T5, L5, k5, n5⟩, -, X5, ⟨Lc5, hQ5, l5, y5, z5⟩, st5⟩ := Jvm.LawKit.callS X4 hx (y := (⟨"java/lang/StringLatin1", "hashCode", "([B)I"⟩ : MethodName)) hown (mvT hZ (tw hw 125 rfl)) (mvT hZ (tw hw 126 rfl)) (mvT hZ (tw hw 70 rfl)) (mvT hZ (tw hw 127 rfl)) (by decide) (backOf (W := 0) (rm_lhc l Z a0 hw [] (t) (k) (cs) h0 n0 Z0 pf3 hl hfb hne) hZ (tw hw 127 rfl) (tw hw 70 rfl) (by decide) (by decide)) (g := (mkF m 27 #[.val (.ref b), .val (.int 0)] [(.ref t)])) rfl (by rw [hml]; rfl) (argsL := [(.ref t)]) (rest := []) (lenOf pd___B_I rfl) rfl (by show 2 * 0 + _ ≤ _; exact Nat.le_of_eq rfl) (hb hby d24_27) (fun _ _ => ⟨rfl, e4, (by decide : 0 + 0 ≤ _), (by decide : 0 + 0 ≤ _)⟩)
  dsimp only [Pt.U, Pt.locs, Pt.cells, Pt.slots] at X5 l5 y5 z5 st5 hQ5
  subst l5 y5 z5
  obtain ⟨rfl, N5, e5⟩ := hQ5
  have M5 := Fr.app M3 N5
  refine Gl.st st5 ?_
  show Gl p.tables e below _ (T5.setTop (mkF m 30 #[.val (.ref b), .val (.int 0)] [(.int (own_hc cs))]))
  show Gl p.tables e below _ (T5.setTop (mkF m 30 #[.val (.ref b), .val (.int 0)] [(.int (own_hc cs))]))
  refine Gl.st (fun _ kq => XS.goto X5.here hx rfl (pc0 := 30) (pc' := 40) rfl (hb hby d24_30) (by decide) (by decide) kq) ?_
  show Gl p.tables e below _ (T5.setTop (mkF m 40 #[.val (.ref b), .val (.int 0)] [(.int (own_hc cs))]))
  refine Gl.st (fun _ kq => XS.istoreN X5.here hx rfl (hb hby d24_40) rfl (l' := #[.val (.ref b), .val (.int (own_hc cs))]) rfl kq) ?_
  show Gl p.tables e below _ (T5.setTop (mkF m 41 #[.val (.ref b), .val (.int (own_hc cs))] []))
  refine Gl.st (fun _ kq => XS.iloadN X5.here hx rfl (hb hby d24_41) rfl kq) ?_
  show Gl p.tables e below _ (T5.setTop (mkF m 42 #[.val (.ref b), .val (.int (own_hc cs))] [(.int (own_hc cs))]))
  by_cases hc6 : (own_hc cs) = (0 : Int32)
  · refine Gl.st (fun _ kq => XS.ifNo X5.here hx rfl (hb hby d24_42) rfl ((if0 _ _).trans (teq (hc6 : (own_hc cs) = (0 : Int32))).2) kq) ?_
    show Gl p.tables e below _ (T5.setTop (mkF m 45 #[.val (.ref b), .val (.int (own_hc cs))] []))
    refine Gl.st (fun _ kq => XS.aloadN X5.here hx rfl (hb hby d24_45) rfl rfl kq) ?_
    show Gl p.tables e below _ (T5.setTop (mkF m 46 #[.val (.ref b), .val (.int (own_hc cs))] [(.ref b)]))
    refine Gl.st (fun _ kq => XS.iconst X5.here hx rfl (hb hby d24_46) kq) ?_
    show Gl p.tables e below _ (T5.setTop (mkF m 47 #[.val (.ref b), .val (.int (own_hc cs))] [(.int 1), (.ref b)]))
    obtain ⟨T7, h7, X7, e7, W7, st7⟩ := putFN X5 hx hZ hown (tw hw 123 rfl) Via.refl e5 pf5 pf0 (Or.inl (tw hw 124 rfl)) (tw hw 10 rfl) (ty := .boolean) (v' := (.int 1)) (by decide) rfl (by decide) (g := (mkF m 47 #[.val (.ref b), .val (.int (own_hc cs))] [(.int 1), (.ref b)])) rfl rfl (hb hby d24_47)
    refine Gl.st st7 ?_
    have F7 : Fld Z h7 b "java/lang/String" "hashIsZero" "Z" (.int 1) := Fld.same W7 pf5
    have N7 := Fr.snoc X7 M5 gb
    show Gl p.tables e below _ (T7.setTop (mkF m 50 #[.val (.ref b), .val (.int (own_hc cs))] []))
    refine Gl.st (fun _ kq => XS.goto X7.here hx rfl (pc0 := 50) (pc' := 58) rfl (hb hby d24_50) (by decide) (by decide) kq) ?_
    show Gl p.tables e below _ (T7.setTop (mkF m 58 #[.val (.ref b), .val (.int (own_hc cs))] []))
    refine Gl.st (fun _ kq => XS.iloadN X7.here hx rfl (hb hby d24_58) rfl kq) ?_
    show Gl p.tables e below _ (T7.setTop (mkF m 59 #[.val (.ref b), .val (.int (own_hc cs))] [(.int (own_hc cs))]))
    have K8 : Keep h0 h7 [b] := ((Keep.refl h0 [b]).wr W7 (Or.inl (List.mem_of_getElem? (i := 0) rfl)))
    exact Gl.retI X7 hx Bd.returns (hb hby d24_59) hlk (by decide) (by decide) (by rw [e7]; exact ⟨rfl, N7, K8⟩)
  · refine Gl.st (fun _ kq => XS.ifYes X5.here hx rfl (pc0 := 42) (pc' := 53) rfl (hb hby d24_42) rfl ((if0 _ _).trans (feq (hc6 : ¬ ((own_hc cs) = (0 : Int32)))).2) (by decide) (by decide) kq) ?_
    show Gl p.tables e below _ (T5.setTop (mkF m 53 #[.val (.ref b), .val (.int (own_hc cs))] []))
    refine Gl.st (fun _ kq => XS.aloadN X5.here hx rfl (hb hby d24_53) rfl rfl kq) ?_
    show Gl p.tables e below _ (T5.setTop (mkF m 54 #[.val (.ref b), .val (.int (own_hc cs))] [(.ref b)]))
    refine Gl.st (fun _ kq => XS.iloadN X5.here hx rfl (hb hby d24_54) rfl kq) ?_
    show Gl p.tables e below _ (T5.setTop (mkF m 55 #[.val (.ref b), .val (.int (own_hc cs))] [(.int (own_hc cs)), (.ref b)]))
    obtain ⟨T9, h9, X9, e9, W9, st9⟩ := putF X5 hx hZ hown (host := "") (Or.inl (tw hw 121 rfl)) Via.refl e5 pf4 pf0 (Or.inl (tw hw 122 rfl)) (tw hw 10 rfl) (ty := .int) (by decide) rfl rfl (g := (mkF m 55 #[.val (.ref b), .val (.int (own_hc cs))] [(.int (own_hc cs)), (.ref b)])) rfl rfl (hb hby d24_55)
    refine Gl.st st9 ?_
    have F9 : Fld Z h9 b "java/lang/String" "hash" "I" (.int (own_hc cs)) := Fld.same W9 pf4
    have N9 := Fr.snoc X9 M5 gb
    show Gl p.tables e below _ (T9.setTop (mkF m 58 #[.val (.ref b), .val (.int (own_hc cs))] []))
    refine Gl.st (fun _ kq => XS.iloadN X9.here hx rfl (hb hby d24_58) rfl kq) ?_
    show Gl p.tables e below _ (T9.setTop (mkF m 59 #[.val (.ref b), .val (.int (own_hc cs))] [(.int (own_hc cs))]))
    have K10 : Keep h0 h9 [b] := ((Keep.refl h0 [b]).wr W9 (Or.inl (List.mem_of_getElem? (i := 0) rfl)))
    exact Gl.retI X9 hx Bd.returns (hb hby d24_59) hlk (by decide) (by decide) (by rw [e9]; exact ⟨rfl, N9, K10⟩)
theorem d23_0 : decode prog_51_method_4_code 0 = .ok (.aload_n 0, 1) := by decide +kernel
theorem d23_1 : decode prog_51_method_4_code 1 = .ok (.getfield 7, 3) := by decide +kernel
theorem d23_4 : decode prog_51_method_4_code 4 = .ok (.invokevirtual 41, 3) := by decide +kernel
theorem d23_7 : decode prog_51_method_4_code 7 = .ok (.ireturn, 1) := by decide +kernel
theorem ef_xhc (m : MethodId) (a : Addr) : entryFrame m #[(.ref a)] 1 = mkF m 0 #[.val (.ref a)] [] := by first | (simp [entryFrame, mkF, argsToLocals, Value.category]; done) | rfl
def Q_xhc (Z : State) (a : Addr) (b : Addr) (t : Addr) (k : ClassId) (cs : List Int32) (G1 : Int32) (h0 : Heap) (n0 : Nat) (v : Option Value) (h : Heap) (L : List Loc) : Prop := (v = some (.int (own_hc cs)) ∧ Fr n0 L ∧ Keep h0 h [b])
set_option maxRecDepth 65536 in
set_option maxHeartbeats 40000000 in
theorem rm_xhc (l : Launch) (Z : State) (a0 : Array Value) (hw : ∀ d ∈ tables_1, d.before a0 Z = true) (ws : List Jvm.Cond) (a : Addr) (b : Addr) (t : Addr) (k : ClassId) (cs : List Int32) (G1 : Int32) (h0 : Heap) (n0 : Nat) (Z0 : n0 ≤ h0.size) (pf0 : Fld Z h0 a "com/example/groupwright/groupwright/core/ShareId" "value" "Ljava/lang/String;" (.ref b)) (pf1 : Exa Z h0 b "java/lang/String") (pf2 : Fld Z h0 b "java/lang/String" "coder" "B" (.int 0)) (pf3 : Fld Z h0 b "java/lang/String" "value" "[B" (.ref t)) (pf4 : Arv Z h0 t k .byte (Int32.ofNat cs.length) ((cs.map (fun c => c.toInt8.toInt32)).map Value.int) (.int 0)) (pf5 : Fld Z h0 b "java/lang/String" "hash" "I" (.int 0)) (pf6 : Fld Z h0 b "java/lang/String" "hashIsZero" "Z" (.int 0)) (pf7 : Old Z n0 h0) (hl : cs.length ≤ 4) (hfb : Z.vm.findClass "[B" = some k) (hne : ¬ cs.length = 0) (gb : n0 ≤ b) (O2 : Sta Z Z.heap "java/lang/String" "COMPACT_STRINGS" "Z" (.int G1)) (P5 : ¬ (G1 = (0 : Int32))) :
    MetFree l (⟨"com/example/groupwright/groupwright/core/ShareId", "hashCode", "()I"⟩ : MethodName) (head1 (Jvm.Cond.code (⟨"com/example/groupwright/groupwright/core/ShareId", "hashCode", "()I"⟩ : MethodName) prog_51_method_4_code 1 (some .int) :: ws) ({ frames := 4, cells := 0, slots := 0, locals := 58 } : Room)) (fun aa U => aa = #[(.ref a)] ∧ Z.Warmed39 U.vm ∧ U.heap = h0) (fun _ _ _ _ _ => True) (fun _ U o U' => ∃ v L, o = .returned v ∧ Q_xhc Z a b t k cs G1 h0 n0 v U'.heap L ∧ FrameEnd U o U' L ({ frames := 4, cells := 0, slots := 0, locals := 58 } : Room).cells ({ frames := 4, cells := 0, slots := 0, locals := 58 } : Room).slots) := by
  refine MetFree.of_bodySF (plainFor_of_name pn_com_example_groupwright_groupwright_core_ShareId) hisR ?_
  intro p e s m args below meth c s₁ Bd hml0 hP hK
  obtain ⟨rfl, hZ, hh⟩ := hP
  have hx := Bd.exec
  have hby := Bd.bytes
  have hlk : meth.locks = false := BodyLoose.notSynchronized Bd
  have hml : c.maxLocals = 1 := hml0
  have hown : s.vm.findClass "com/example/groupwright/groupwright/core/ShareId" = some m.cls := findClass_of_methodNamed Bd.named
  have hnm := (name_of_methodNamed Bd.named Bd.method).1
  have X0 : Stand p l e ({ frames := 4, cells := 0, slots := 0, locals := 58 } : Room) s m #[(.ref a)] below meth c s₁ [] 0 0 := Stand.of_body Bd
  have e0 : s₁.heap = h0 := by rw [← hh, Bd.state]; rfl
  have N0 := Fr.nil n0
  show Gl p.tables e below (EndN s (Q_xhc Z a b t k cs G1 h0 n0) ({ frames := 4, cells := 0, slots := 0, locals := 58 } : Room).cells ({ frames := 4, cells := 0, slots := 0, locals := 58 } : Room).slots) _
  refine Gl.cast (ef_xhc m a) ?_
  show Gl p.tables e below _ (s₁.setTop (mkF m 0 #[.val (.ref a)] []))
  refine Gl.st (fun _ kq => XS.aloadN X0.here hx rfl (hb hby d23_0) rfl rfl kq) ?_
  show Gl p.tables e below _ (s₁.setTop (mkF m 1 #[.val (.ref a)] [(.ref a)]))
  obtain ⟨T1, X1, e1, st1⟩ := getF X0 hx hZ hown (host := "") (Or.inl (tw hw 86 rfl)) Via.refl e0 pf0 (g := (mkF m 1 #[.val (.ref a)] [(.ref a)])) rfl rfl (hb hby d23_1)
  refine Gl.st st1 ?_
  show Gl p.tables e below _ (T1.setTop (mkF m 4 #[.val (.ref a)] [(.ref b)]))
  obtain ⟨cq2, kq2, q2a, q2b, q2c⟩ := isOf hZ e1 pf1
  obtain ⟨_, _, ⟨T2, L2, k2, n2⟩, -, X2, ⟨Lc2, hQ2, l2, y2, z2⟩, st2⟩ := X1.virtualBack hx (y := (⟨"java/lang/String", "hashCode", "()I"⟩ : MethodName)) (z := (⟨"java/lang/String", "hashCode", "()I"⟩ : MethodName)) hown (mvT hZ (tw hw 116 rfl)) (mvT hZ (tw hw 117 rfl)) (notFace_of_selects (args := #[]) (mvT hZ (tw hw 119 rfl))) (mvT hZ (tw hw 119 rfl)) (mvT hZ (tw hw 118 rfl)) (by decide) (backOf (W := 0) (rm_hc l Z a0 hw [] (b) (t) (k) (cs) (G1) h0 n0 Z0 pf1 pf2 pf3 pf4 pf5 pf6 pf7 hl hfb hne gb O2 P5) hZ (tw hw 120 rfl) (tw hw 11 rfl) (by decide) (by decide)) q2a q2c (g := (mkF m 4 #[.val (.ref a)] [(.ref b)])) rfl (by rw [hml]; rfl) (Steps.refl _) (argsL := []) (rest := []) (lenOf pd___I rfl) rfl (by show 2 * 0 + _ ≤ _; exact Nat.le_of_eq rfl) (hb hby d23_4) (fun _ _ => ⟨rfl, e1, (by decide : 0 + 0 ≤ _), (by decide : 0 + 0 ≤ _)⟩)
  dsimp only [Pt.U, Pt.locs, Pt.cells, Pt.slots] at X2 l2 y2 z2 st2 hQ2
  subst l2 y2 z2
  obtain ⟨rfl, N2, K2⟩ := hQ2
  have M2 := Fr.app N0 N2
  refine Gl.to st2 ?_
  show Gl p.tables e below _ (T2.setTop (mkF m 7 #[.val (.ref a)] [(.int (own_hc cs))]))
  show Gl p.tables e below _ (T2.setTop (mkF m 7 #[.val (.ref a)] [(.int (own_hc cs))]))
  have K3 : Keep h0 T2.heap [b] := ((Keep.refl h0 [b]).trans K2 (allS (Or.inl (List.mem_of_getElem? (i := 0) rfl)) all0))
  exact Gl.retI X2 hx Bd.returns (hb hby d23_7) hlk (by decide) (by decide) ⟨rfl, M2, K3⟩
theorem ef_law (m : MethodId) (mm : Int32) (pp : Int64) (qq : Int64) : entryFrame m #[(.int mm), (.long pp), (.long qq)] maxLocals = mkF m 0 #[.val (.int mm), .val (.long pp), .second, .val (.long qq), .second, .unset, .unset, .unset, .unset, .unset, .unset, .unset, .unset, .unset, .unset, .unset, .unset, .unset, .unset, .unset, .unset] [] := by first | (simp [entryFrame, mkF, argsToLocals, Value.category, maxLocals]; done) | rfl
def Q_law (Z : State) (mm : Int32) (pp : Int64) (qq : Int64) (G1 : Int32) (G3 : Value) (h0 : Heap) (n0 : Nat) (v : Option Value) (h : Heap) (L : List Loc) : Prop := (v = some (.int 1) ∧ Fr n0 L)
set_option maxRecDepth 65536 in
set_option maxHeartbeats 40000000 in
theorem rm_law (l : Launch) (Z : State) (a0 : Array Value) (hw : ∀ d ∈ tables_1, d.before a0 Z = true) (ws : List Jvm.Cond) (mm : Int32) (pp : Int64) (qq : Int64) (G1 : Int32) (G3 : Value) (h0 : Heap) (n0 : Nat) (Z0 : n0 ≤ h0.size) (pf0 : Old Z n0 h0) (O2 : Sta Z Z.heap "java/lang/String" "COMPACT_STRINGS" "Z" (.int G1)) (P5 : ¬ (G1 = (0 : Int32))) (O4 : Sta Z Z.heap "jdk/internal/util/Preconditions" "SIOOBE_FORMATTER" "Ljava/util/function/BiFunction;" G3) (rG3 : G3.isRef = true) :
    MetFree l x (head1 (Jvm.Cond.code x code maxLocals ret :: ws) room_1) (fun aa U => aa = #[(.int mm), (.long pp), (.long qq)] ∧ Z.Warmed39 U.vm ∧ U.heap = h0) (fun _ _ _ _ _ => True) (fun _ U o U' => ∃ v L, o = .returned v ∧ Q_law Z mm pp qq G1 G3 h0 n0 v U'.heap L ∧ FrameEnd U o U' L room_1.cells room_1.slots) := by
  refine MetFree.of_bodySF (plainFor_of_name pn_com_example_groupwright_groupwright_core_ShareIdOfPinLaw) hisR ?_
  intro p e s m args below meth c s₁ Bd hml0 hP hK
  obtain ⟨rfl, hZ, hh⟩ := hP
  have hx := Bd.exec
  have hby := Bd.bytes
  have hlk : meth.locks = false := BodyLoose.notSynchronized Bd
  have hml : c.maxLocals = 21 := hml0
  have hown : s.vm.findClass "com/example/groupwright/groupwright/core/ShareIdOfPinLaw" = some m.cls := findClass_of_methodNamed Bd.named
  have hnm := (name_of_methodNamed Bd.named Bd.method).1
  have X0 : Stand p l e room_1 s m #[(.int mm), (.long pp), (.long qq)] below meth c s₁ [] 0 0 := Stand.of_body Bd
  have e0 : s₁.heap = h0 := by rw [← hh, Bd.state]; rfl
  have N0 := Fr.nil n0
  show Gl p.tables e below (EndN s (Q_law Z mm pp qq G1 G3 h0 n0) room_1.cells room_1.slots) _
  refine Gl.cast (ef_law m mm pp qq) ?_
  show Gl p.tables e below _ (s₁.setTop (mkF m 0 #[.val (.int mm), .val (.long pp), .second, .val (.long qq), .second, .unset, .unset, .unset, .unset, .unset, .unset, .unset, .unset, .unset, .unset, .unset, .unset, .unset, .unset, .unset, .unset] []))
  refine Gl.st (fun _ kq => XS.iconst X0.here hx rfl (hb hby at_0) kq) ?_
  show Gl p.tables e below _ (s₁.setTop (mkF m 1 #[.val (.int mm), .val (.long pp), .second, .val (.long qq), .second, .unset, .unset, .unset, .unset, .unset, .unset, .unset, .unset, .unset, .unset, .unset, .unset, .unset, .unset, .unset, .unset] [(.int 1)]))
  refine Gl.st (fun _ kq => XS.iloadN X0.here hx rfl (hb hby at_1) rfl kq) ?_
  show Gl p.tables e below _ (s₁.setTop (mkF m 2 #[.val (.int mm), .val (.long pp), .second, .val (.long qq), .second, .unset, .unset, .unset, .unset, .unset, .unset, .unset, .unset, .unset, .unset, .unset, .unset, .unset, .unset, .unset, .unset] [(.int mm), (.int 1)]))
  refine Gl.st (fun _ kq => XS.iconst X0.here hx rfl (hb hby at_2) kq) ?_
  show Gl p.tables e below _ (s₁.setTop (mkF m 3 #[.val (.int mm), .val (.long pp), .second, .val (.long qq), .second, .unset, .unset, .unset, .unset, .unset, .unset, .unset, .unset, .unset, .unset, .unset, .unset, .unset, .unset, .unset, .unset] [(.int 3), (.int mm), (.int 1)]))
  refine Gl.st (fun _ kq => XS.iand X0.here hx rfl (hb hby at_3) rfl kq) ?_
  show Gl p.tables e below _ (s₁.setTop (mkF m 4 #[.val (.int mm), .val (.long pp), .second, .val (.long qq), .second, .unset, .unset, .unset, .unset, .unset, .unset, .unset, .unset, .unset, .unset, .unset, .unset, .unset, .unset, .unset, .unset] [(.int (mm &&& (3 : Int32))), (.int 1)]))
  refine Gl.st (fun _ kq => XS.iadd X0.here hx rfl (hb hby at_4) rfl kq) ?_
  show Gl p.tables e below _ (s₁.setTop (mkF m 5 #[.val (.int mm), .val (.long pp), .second, .val (.long qq), .second, .unset, .unset, .unset, .unset, .unset, .unset, .unset, .unset, .unset, .unset, .unset, .unset, .unset, .unset, .unset, .unset] [(.int ((1 : Int32) + (mm &&& (3 : Int32))))]))
  refine Gl.st (fun _ kq => XS.istore X0.here hx rfl (hb hby at_5) rfl (l' := #[.val (.int mm), .val (.long pp), .second, .val (.long qq), .second, .val (.int ((1 : Int32) + (mm &&& (3 : Int32)))), .unset, .unset, .unset, .unset, .unset, .unset, .unset, .unset, .unset, .unset, .unset, .unset, .unset, .unset, .unset]) rfl kq) ?_
  show Gl p.tables e below _ (s₁.setTop (mkF m 7 #[.val (.int mm), .val (.long pp), .second, .val (.long qq), .second, .val (.int ((1 : Int32) + (mm &&& (3 : Int32)))), .unset, .unset, .unset, .unset, .unset, .unset, .unset, .unset, .unset, .unset, .unset, .unset, .unset, .unset, .unset] []))
  have Jn : ∀ (Tn : State) (Ln : List Loc) (Xn : Stand p l e room_1 s m #[(.int mm), (.long pp), (.long qq)] below meth c Tn Ln 0 0) (en : Tn.heap = h0) (Nn : Fr n0 Ln) (nt : Int32), Gl p.tables e below (EndN s (Q_law Z mm pp qq G1 G3 h0 n0) room_1.cells room_1.slots) (Tn.setTop (mkF m 29 #[.val (.int mm), .val (.long pp), .second, .val (.long qq), .second, .val (.int ((1 : Int32) + (mm &&& (3 : Int32)))), .val (.int nt), .unset, .unset, .unset, .unset, .unset, .unset, .unset, .unset, .unset, .unset, .unset, .unset, .unset, .unset] [])) := by
    intro Tn Ln Xn en Nn nt
    show Gl p.tables e below _ (Tn.setTop (mkF m 29 #[.val (.int mm), .val (.long pp), .second, .val (.long qq), .second, .val (.int ((1 : Int32) + (mm &&& (3 : Int32)))), .val (.int nt), .unset, .unset, .unset, .unset, .unset, .unset, .unset, .unset, .unset, .unset, .unset, .unset, .unset, .unset] []))
    refine Gl.st (fun _ kq => XS.iloadN Xn.here hx rfl (hb hby at_29) rfl kq) ?_
    show Gl p.tables e below _ (Tn.setTop (mkF m 30 #[.val (.int mm), .val (.long pp), .second, .val (.long qq), .second, .val (.int ((1 : Int32) + (mm &&& (3 : Int32)))), .val (.int nt), .unset, .unset, .unset, .unset, .unset, .unset, .unset, .unset, .unset, .unset, .unset, .unset, .unset, .unset] [(.int mm)]))
    refine Gl.st (fun _ kq => XS.iconst Xn.here hx rfl (hb hby at_30) kq) ?_
    show Gl p.tables e below _ (Tn.setTop (mkF m 31 #[.val (.int mm), .val (.long pp), .second, .val (.long qq), .second, .val (.int ((1 : Int32) + (mm &&& (3 : Int32)))), .val (.int nt), .unset, .unset, .unset, .unset, .unset, .unset, .unset, .unset, .unset, .unset, .unset, .unset, .unset, .unset] [(.int 5), (.int mm)]))
    refine Gl.st (fun _ kq => XS.iushr Xn.here hx rfl (hb hby at_31) rfl kq) ?_
    show Gl p.tables e below _ (Tn.setTop (mkF m 32 #[.val (.int mm), .val (.long pp), .second, .val (.long qq), .second, .val (.int ((1 : Int32) + (mm &&& (3 : Int32)))), .val (.int nt), .unset, .unset, .unset, .unset, .unset, .unset, .unset, .unset, .unset, .unset, .unset, .unset, .unset, .unset] [(.int ((mm.toUInt32 >>> ((5 : Int32) &&& 31).toUInt32).toInt32))]))
    refine Gl.st (fun _ kq => XS.iconst Xn.here hx rfl (hb hby at_32) kq) ?_
    show Gl p.tables e below _ (Tn.setTop (mkF m 33 #[.val (.int mm), .val (.long pp), .second, .val (.long qq), .second, .val (.int ((1 : Int32) + (mm &&& (3 : Int32)))), .val (.int nt), .unset, .unset, .unset, .unset, .unset, .unset, .unset, .unset, .unset, .unset, .unset, .unset, .unset, .unset] [(.int 1), (.int ((mm.toUInt32 >>> ((5 : Int32) &&& 31).toUInt32).toInt32))]))
    refine Gl.st (fun _ kq => XS.iand Xn.here hx rfl (hb hby at_33) rfl kq) ?_
    show Gl p.tables e below _ (Tn.setTop (mkF m 34 #[.val (.int mm), .val (.long pp), .second, .val (.long qq), .second, .val (.int ((1 : Int32) + (mm &&& (3 : Int32)))), .val (.int nt), .unset, .unset, .unset, .unset, .unset, .unset, .unset, .unset, .unset, .unset, .unset, .unset, .unset, .unset] [(.int (((mm.toUInt32 >>> ((5 : Int32) &&& 31).toUInt32).toInt32) &&& (1 : Int32)))]))
    have Jd : ∀ (Td : State) (Ld : List Loc) (Xd : Stand p l e room_1 s m #[(.int mm), (.long pp), (.long qq)] below meth c Td Ld 0 0) (ed : Td.heap = h0) (Nd : Fr n0 Ld) (zz : Int32) (s0 : Int32) (s1 : Int32) (s2 : Int32) (s3 : Int32) (t0 : Int32) (t1 : Int32) (t2 : Int32) (t3 : Int32) (yd_0 : own_cc s0) (yd_1 : own_cc s1) (yd_2 : own_cc s2) (yd_3 : own_cc s3) (yd_4 : own_cc t0) (yd_5 : own_cc t1) (yd_6 : own_cc t2) (yd_7 : own_cc t3), Gl p.tables e below (EndN s (Q_law Z mm pp qq G1 G3 h0 n0) room_1.cells room_1.slots) (Td.setTop (mkF m 140 #[.val (.int mm), .val (.long pp), .second, .val (.long qq), .second, .val (.int ((1 : Int32) + (mm &&& (3 : Int32)))), .val (.int nt), .val (.int zz), .val (.int s0), .val (.int s1), .val (.int s2), .val (.int s3), .val (.int t0), .val (.int t1), .val (.int t2), .val (.int t3), .unset, .unset, .unset, .unset, .unset] [])) := by
      intro Td Ld Xd ed Nd zz s0 s1 s2 s3 t0 t1 t2 t3 yd_0 yd_1 yd_2 yd_3 yd_4 yd_5 yd_6 yd_7
      show Gl p.tables e below _ (Td.setTop (mkF m 140 #[.val (.int mm), .val (.long pp), .second, .val (.long qq), .second, .val (.int ((1 : Int32) + (mm &&& (3 : Int32)))), .val (.int nt), .val (.int zz), .val (.int s0), .val (.int s1), .val (.int s2), .val (.int s3), .val (.int t0), .val (.int t1), .val (.int t2), .val (.int t3), .unset, .unset, .unset, .unset, .unset] []))
      refine Gl.st (fun _ kq => XS.iload Xd.here hx rfl (hb hby at_140) rfl kq) ?_
      show Gl p.tables e below _ (Td.setTop (mkF m 142 #[.val (.int mm), .val (.long pp), .second, .val (.long qq), .second, .val (.int ((1 : Int32) + (mm &&& (3 : Int32)))), .val (.int nt), .val (.int zz), .val (.int s0), .val (.int s1), .val (.int s2), .val (.int s3), .val (.int t0), .val (.int t1), .val (.int t2), .val (.int t3), .unset, .unset, .unset, .unset, .unset] [(.int ((1 : Int32) + (mm &&& (3 : Int32))))]))
      refine Gl.st (fun _ kq => XS.iload Xd.here hx rfl (hb hby at_142) rfl kq) ?_
      show Gl p.tables e below _ (Td.setTop (mkF m 144 #[.val (.int mm), .val (.long pp), .second, .val (.long qq), .second, .val (.int ((1 : Int32) + (mm &&& (3 : Int32)))), .val (.int nt), .val (.int zz), .val (.int s0), .val (.int s1), .val (.int s2), .val (.int s3), .val (.int t0), .val (.int t1), .val (.int t2), .val (.int t3), .unset, .unset, .unset, .unset, .unset] [(.int s0), (.int ((1 : Int32) + (mm &&& (3 : Int32))))]))
      refine Gl.st (fun _ kq => XS.iload Xd.here hx rfl (hb hby at_144) rfl kq) ?_
      show Gl p.tables e below _ (Td.setTop (mkF m 146 #[.val (.int mm), .val (.long pp), .second, .val (.long qq), .second, .val (.int ((1 : Int32) + (mm &&& (3 : Int32)))), .val (.int nt), .val (.int zz), .val (.int s0), .val (.int s1), .val (.int s2), .val (.int s3), .val (.int t0), .val (.int t1), .val (.int t2), .val (.int t3), .unset, .unset, .unset, .unset, .unset] [(.int s1), (.int s0), (.int ((1 : Int32) + (mm &&& (3 : Int32))))]))
      refine Gl.st (fun _ kq => XS.iload Xd.here hx rfl (hb hby at_146) rfl kq) ?_
      show Gl p.tables e below _ (Td.setTop (mkF m 148 #[.val (.int mm), .val (.long pp), .second, .val (.long qq), .second, .val (.int ((1 : Int32) + (mm &&& (3 : Int32)))), .val (.int nt), .val (.int zz), .val (.int s0), .val (.int s1), .val (.int s2), .val (.int s3), .val (.int t0), .val (.int t1), .val (.int t2), .val (.int t3), .unset, .unset, .unset, .unset, .unset] [(.int s2), (.int s1), (.int s0), (.int ((1 : Int32) + (mm &&& (3 : Int32))))]))
      refine Gl.st (fun _ kq => XS.iload Xd.here hx rfl (hb hby at_148) rfl kq) ?_
      show Gl p.tables e below _ (Td.setTop (mkF m 150 #[.val (.int mm), .val (.long pp), .second, .val (.long qq), .second, .val (.int ((1 : Int32) + (mm &&& (3 : Int32)))), .val (.int nt), .val (.int zz), .val (.int s0), .val (.int s1), .val (.int s2), .val (.int s3), .val (.int t0), .val (.int t1), .val (.int t2), .val (.int t3), .unset, .unset, .unset, .unset, .unset] [(.int s3), (.int s2), (.int s1), (.int s0), (.int ((1 : Int32) + (mm &&& (3 : Int32))))]))
      obtain ⟨_, _, ⟨T5, L5, k5, n5⟩, -, X5, ⟨Lc5, hQ5, l5, y5, z5⟩, st5⟩ := Jvm.LawKit.callS Xd hx (y := (⟨"com/example/groupwright/groupwright/core/ShareIdOfPinLaw", "make", "(ICCCC)Ljava/lang/String;"⟩ : MethodName)) hown (mvT hZ (tw hw 6 rfl)) (mvT hZ (tw hw 7 rfl)) (mvT hZ (tw hw 2 rfl)) (mvT hZ (tw hw 8 rfl)) (by decide) (backOf (W := 0) (rm_tx l Z a0 hw [] (((1 : Int32) + (mm &&& (3 : Int32)))) (s0) (s1) (s2) (s3) (G1) h0 n0 Z0 pf0 yd_0 yd_1 yd_2 yd_3 O2 P5) hZ (tw hw 8 rfl) (tw hw 2 rfl) (by decide) (by decide)) (g := (mkF m 150 #[.val (.int mm), .val (.long pp), .second, .val (.long qq), .second, .val (.int ((1 : Int32) + (mm &&& (3 : Int32)))), .val (.int nt), .val (.int zz), .val (.int s0), .val (.int s1), .val (.int s2), .val (.int s3), .val (.int t0), .val (.int t1), .val (.int t2), .val (.int t3), .unset, .unset, .unset, .unset, .unset] [(.int s3), (.int s2), (.int s1), (.int s0), (.int ((1 : Int32) + (mm &&& (3 : Int32))))])) rfl (by rw [hml]; rfl) (argsL := [(.int ((1 : Int32) + (mm &&& (3 : Int32)))), (.int s0), (.int s1), (.int s2), (.int s3)]) (rest := []) (lenOf pd__ICCCC_Ljava_lang_String_ rfl) rfl (by show 2 * 0 + _ ≤ _; exact Nat.le_of_eq rfl) (hb hby at_150) (fun _ _ => ⟨rfl, ed, (by decide : 0 + 3 ≤ _), (by decide : 0 + 12 ≤ _)⟩)
      dsimp only [Pt.U, Pt.locs, Pt.cells, Pt.slots] at X5 l5 y5 z5 st5 hQ5
      subst l5 y5 z5
      obtain ⟨v1, v2, v3, v4, rfl, N5, K5, q5_0, q5_1, q5_2, q5_3, q5_4, q5_5, y5_0, y5_1, y5_2, y5_3, y5_4, y5_5, y5_6⟩ := hQ5
      have M5 := Fr.app Nd N5
      have g6 : n0 ≤ v1 := Nat.le_trans Z0 y5_4
      have s7 : h0.size ≤ v1 := Nat.le_trans (Nat.le_refl _) y5_4
      have g8 : n0 ≤ v2 := Nat.le_trans Z0 y5_5
      have s9 : h0.size ≤ v2 := Nat.le_trans (Nat.le_refl _) y5_5
      refine Gl.st st5 ?_
      show Gl p.tables e below _ (T5.setTop (mkF m 153 #[.val (.int mm), .val (.long pp), .second, .val (.long qq), .second, .val (.int ((1 : Int32) + (mm &&& (3 : Int32)))), .val (.int nt), .val (.int zz), .val (.int s0), .val (.int s1), .val (.int s2), .val (.int s3), .val (.int t0), .val (.int t1), .val (.int t2), .val (.int t3), .unset, .unset, .unset, .unset, .unset] [(.ref v1)]))
      show Gl p.tables e below _ (T5.setTop (mkF m 153 #[.val (.int mm), .val (.long pp), .second, .val (.long qq), .second, .val (.int ((1 : Int32) + (mm &&& (3 : Int32)))), .val (.int nt), .val (.int zz), .val (.int s0), .val (.int s1), .val (.int s2), .val (.int s3), .val (.int t0), .val (.int t1), .val (.int t2), .val (.int t3), .unset, .unset, .unset, .unset, .unset] [(.ref v1)]))
      refine Gl.st (fun _ kq => XS.astore X5.here hx rfl (hb hby at_153) rfl rfl (l' := #[.val (.int mm), .val (.long pp), .second, .val (.long qq), .second, .val (.int ((1 : Int32) + (mm &&& (3 : Int32)))), .val (.int nt), .val (.int zz), .val (.int s0), .val (.int s1), .val (.int s2), .val (.int s3), .val (.int t0), .val (.int t1), .val (.int t2), .val (.int t3), .val (.ref v1), .unset, .unset, .unset, .unset]) rfl kq) ?_
      show Gl p.tables e below _ (T5.setTop (mkF m 155 #[.val (.int mm), .val (.long pp), .second, .val (.long qq), .second, .val (.int ((1 : Int32) + (mm &&& (3 : Int32)))), .val (.int nt), .val (.int zz), .val (.int s0), .val (.int s1), .val (.int s2), .val (.int s3), .val (.int t0), .val (.int t1), .val (.int t2), .val (.int t3), .val (.ref v1), .unset, .unset, .unset, .unset] []))
      refine Gl.st (fun _ kq => XS.iload X5.here hx rfl (hb hby at_155) rfl kq) ?_
      show Gl p.tables e below _ (T5.setTop (mkF m 157 #[.val (.int mm), .val (.long pp), .second, .val (.long qq), .second, .val (.int ((1 : Int32) + (mm &&& (3 : Int32)))), .val (.int nt), .val (.int zz), .val (.int s0), .val (.int s1), .val (.int s2), .val (.int s3), .val (.int t0), .val (.int t1), .val (.int t2), .val (.int t3), .val (.ref v1), .unset, .unset, .unset, .unset] [(.int nt)]))
      refine Gl.st (fun _ kq => XS.iload X5.here hx rfl (hb hby at_157) rfl kq) ?_
      show Gl p.tables e below _ (T5.setTop (mkF m 159 #[.val (.int mm), .val (.long pp), .second, .val (.long qq), .second, .val (.int ((1 : Int32) + (mm &&& (3 : Int32)))), .val (.int nt), .val (.int zz), .val (.int s0), .val (.int s1), .val (.int s2), .val (.int s3), .val (.int t0), .val (.int t1), .val (.int t2), .val (.int t3), .val (.ref v1), .unset, .unset, .unset, .unset] [(.int t0), (.int nt)]))
      refine Gl.st (fun _ kq => XS.iload X5.here hx rfl (hb hby at_159) rfl kq) ?_
      show Gl p.tables e below _ (T5.setTop (mkF m 161 #[.val (.int mm), .val (.long pp), .second, .val (.long qq), .second, .val (.int ((1 : Int32) + (mm &&& (3 : Int32)))), .val (.int nt), .val (.int zz), .val (.int s0), .val (.int s1), .val (.int s2), .val (.int s3), .val (.int t0), .val (.int t1), .val (.int t2), .val (.int t3), .val (.ref v1), .unset, .unset, .unset, .unset] [(.int t1), (.int t0), (.int nt)]))
      refine Gl.st (fun _ kq => XS.iload X5.here hx rfl (hb hby at_161) rfl kq) ?_
      show Gl p.tables e below _ (T5.setTop (mkF m 163 #[.val (.int mm), .val (.long pp), .second, .val (.long qq), .second, .val (.int ((1 : Int32) + (mm &&& (3 : Int32)))), .val (.int nt), .val (.int zz), .val (.int s0), .val (.int s1), .val (.int s2), .val (.int s3), .val (.int t0), .val (.int t1), .val (.int t2), .val (.int t3), .val (.ref v1), .unset, .unset, .unset, .unset] [(.int t2), (.int t1), (.int t0), (.int nt)]))
      refine Gl.st (fun _ kq => XS.iload X5.here hx rfl (hb hby at_163) rfl kq) ?_
      show Gl p.tables e below _ (T5.setTop (mkF m 165 #[.val (.int mm), .val (.long pp), .second, .val (.long qq), .second, .val (.int ((1 : Int32) + (mm &&& (3 : Int32)))), .val (.int nt), .val (.int zz), .val (.int s0), .val (.int s1), .val (.int s2), .val (.int s3), .val (.int t0), .val (.int t1), .val (.int t2), .val (.int t3), .val (.ref v1), .unset, .unset, .unset, .unset] [(.int t3), (.int t2), (.int t1), (.int t0), (.int nt)]))
      have f10 : Old Z n0 T5.heap := (pf0.keep K5 all0)
      obtain ⟨_, _, ⟨T15, L15, k15, n15⟩, -, X15, ⟨Lc15, hQ15, l15, y15, z15⟩, st15⟩ := Jvm.LawKit.callS X5 hx (y := (⟨"com/example/groupwright/groupwright/core/ShareIdOfPinLaw", "make", "(ICCCC)Ljava/lang/String;"⟩ : MethodName)) hown (mvT hZ (tw hw 6 rfl)) (mvT hZ (tw hw 7 rfl)) (mvT hZ (tw hw 2 rfl)) (mvT hZ (tw hw 8 rfl)) (by decide) (backOf (W := 0) (rm_tx l Z a0 hw [] (nt) (t0) (t1) (t2) (t3) (G1) T5.heap n0 (Nat.le_trans Z0 K5.1) f10 yd_4 yd_5 yd_6 yd_7 O2 P5) hZ (tw hw 8 rfl) (tw hw 2 rfl) (by decide) (by decide)) (g := (mkF m 165 #[.val (.int mm), .val (.long pp), .second, .val (.long qq), .second, .val (.int ((1 : Int32) + (mm &&& (3 : Int32)))), .val (.int nt), .val (.int zz), .val (.int s0), .val (.int s1), .val (.int s2), .val (.int s3), .val (.int t0), .val (.int t1), .val (.int t2), .val (.int t3), .val (.ref v1), .unset, .unset, .unset, .unset] [(.int t3), (.int t2), (.int t1), (.int t0), (.int nt)])) rfl (by rw [hml]; rfl) (argsL := [(.int nt), (.int t0), (.int t1), (.int t2), (.int t3)]) (rest := []) (lenOf pd__ICCCC_Ljava_lang_String_ rfl) rfl (by show 2 * 0 + _ ≤ _; exact Nat.le_of_eq rfl) (hb hby at_165) (fun _ _ => ⟨rfl, rfl, (by decide : 3 + 3 ≤ _), (by decide : 12 + 12 ≤ _)⟩)
      dsimp only [Pt.U, Pt.locs, Pt.cells, Pt.slots] at X15 l15 y15 z15 st15 hQ15
      subst l15 y15 z15
      obtain ⟨v11, v12, v13, v14, rfl, N15, K15, q15_0, q15_1, q15_2, q15_3, q15_4, q15_5, y15_0, y15_1, y15_2, y15_3, y15_4, y15_5, y15_6⟩ := hQ15
      have M15 := Fr.app M5 N15
      have g16 : n0 ≤ v11 := Nat.le_trans (Nat.le_trans Z0 K5.1) y15_4
      have s17 : h0.size ≤ v11 := Nat.le_trans (Nat.le_trans (Nat.le_refl _) K5.1) y15_4
      have g18 : n0 ≤ v12 := Nat.le_trans (Nat.le_trans Z0 K5.1) y15_5
      have s19 : h0.size ≤ v12 := Nat.le_trans (Nat.le_trans (Nat.le_refl _) K5.1) y15_5
      refine Gl.st st15 ?_
      show Gl p.tables e below _ (T15.setTop (mkF m 168 #[.val (.int mm), .val (.long pp), .second, .val (.long qq), .second, .val (.int ((1 : Int32) + (mm &&& (3 : Int32)))), .val (.int nt), .val (.int zz), .val (.int s0), .val (.int s1), .val (.int s2), .val (.int s3), .val (.int t0), .val (.int t1), .val (.int t2), .val (.int t3), .val (.ref v1), .unset, .unset, .unset, .unset] [(.ref v11)]))
      show Gl p.tables e below _ (T15.setTop (mkF m 168 #[.val (.int mm), .val (.long pp), .second, .val (.long qq), .second, .val (.int ((1 : Int32) + (mm &&& (3 : Int32)))), .val (.int nt), .val (.int zz), .val (.int s0), .val (.int s1), .val (.int s2), .val (.int s3), .val (.int t0), .val (.int t1), .val (.int t2), .val (.int t3), .val (.ref v1), .unset, .unset, .unset, .unset] [(.ref v11)]))
      refine Gl.st (fun _ kq => XS.astore X15.here hx rfl (hb hby at_168) rfl rfl (l' := #[.val (.int mm), .val (.long pp), .second, .val (.long qq), .second, .val (.int ((1 : Int32) + (mm &&& (3 : Int32)))), .val (.int nt), .val (.int zz), .val (.int s0), .val (.int s1), .val (.int s2), .val (.int s3), .val (.int t0), .val (.int t1), .val (.int t2), .val (.int t3), .val (.ref v1), .val (.ref v11), .unset, .unset, .unset]) rfl kq) ?_
      show Gl p.tables e below _ (T15.setTop (mkF m 170 #[.val (.int mm), .val (.long pp), .second, .val (.long qq), .second, .val (.int ((1 : Int32) + (mm &&& (3 : Int32)))), .val (.int nt), .val (.int zz), .val (.int s0), .val (.int s1), .val (.int s2), .val (.int s3), .val (.int t0), .val (.int t1), .val (.int t2), .val (.int t3), .val (.ref v1), .val (.ref v11), .unset, .unset, .unset] []))
      refine Gl.st (fun _ kq => XS.aload X15.here hx rfl (hb hby at_170) rfl rfl kq) ?_
      show Gl p.tables e below _ (T15.setTop (mkF m 172 #[.val (.int mm), .val (.long pp), .second, .val (.long qq), .second, .val (.int ((1 : Int32) + (mm &&& (3 : Int32)))), .val (.int nt), .val (.int zz), .val (.int s0), .val (.int s1), .val (.int s2), .val (.int s3), .val (.int t0), .val (.int t1), .val (.int t2), .val (.int t3), .val (.ref v1), .val (.ref v11), .unset, .unset, .unset] [(.ref v1)]))
      have f20 : Exa Z T15.heap v1 "java/lang/String" := (q5_0.keep K15)
      have f21 : Fld Z T15.heap v1 "java/lang/String" "coder" "B" (.int 0) := (q5_1.keep K15 nin0)
      have f22 : Fld Z T15.heap v1 "java/lang/String" "value" "[B" (.ref v2) := (q5_2.keep K15 nin0)
      have f23 : Arv Z T15.heap v2 v3 .byte (Int32.ofNat v4.length) ((v4.map (fun c => c.toInt8.toInt32)).map Value.int) (.int 0) := (q5_3.keep K15 nin0)
      have f24 : Old Z n0 T15.heap := (f10.keep K15 all0)
      obtain ⟨_, _, ⟨T26, L26, k26, n26⟩, -, X26, ⟨Lc26, hQ26, l26, y26, z26⟩, st26⟩ := Jvm.LawKit.callS X15 hx (y := (⟨"com/example/groupwright/groupwright/core/ShareId", "of", "(Ljava/lang/String;)Lcom/example/groupwright/groupwright/core/ShareId;"⟩ : MethodName)) hown (mvT hZ (tw hw 39 rfl)) (mvT hZ (tw hw 40 rfl)) (mvT hZ (tw hw 41 rfl)) (mvT hZ (tw hw 42 rfl)) (by decide) (backOf (W := 0) (rm_of l Z a0 hw [] (v1) (v2) (v3) (v4) (G1) (G3) T15.heap n0 (Nat.le_trans (Nat.le_trans Z0 K5.1) K15.1) f20 f21 f22 f23 f24 y5_0 y5_1 y5_2 O2 P5 O4 rG3) hZ (tw hw 42 rfl) (tw hw 41 rfl) (by decide) (by decide)) (g := (mkF m 172 #[.val (.int mm), .val (.long pp), .second, .val (.long qq), .second, .val (.int ((1 : Int32) + (mm &&& (3 : Int32)))), .val (.int nt), .val (.int zz), .val (.int s0), .val (.int s1), .val (.int s2), .val (.int s3), .val (.int t0), .val (.int t1), .val (.int t2), .val (.int t3), .val (.ref v1), .val (.ref v11), .unset, .unset, .unset] [(.ref v1)])) rfl (by rw [hml]; rfl) (argsL := [(.ref v1)]) (rest := []) (lenOf pd__Ljava_lang_String__Lcom_example_groupwright_groupwright_core_ShareId_ rfl) rfl (by show 2 * 0 + _ ≤ _; exact Nat.le_of_eq rfl) (hb hby at_172) (fun _ _ => ⟨rfl, rfl, (by decide : 6 + 1 ≤ _), (by decide : 24 + 1 ≤ _)⟩)
      dsimp only [Pt.U, Pt.locs, Pt.cells, Pt.slots] at X26 l26 y26 z26 st26 hQ26
      subst l26 y26 z26
      obtain ⟨v25, rfl, N26, K26, q26_0, q26_1, y26_0⟩ := hQ26
      have M26 := Fr.app M15 N26
      have g27 : n0 ≤ v25 := Nat.le_trans (Nat.le_trans (Nat.le_trans Z0 K5.1) K15.1) y26_0
      have s28 : h0.size ≤ v25 := Nat.le_trans (Nat.le_trans (Nat.le_trans (Nat.le_refl _) K5.1) K15.1) y26_0
      refine Gl.st st26 ?_
      show Gl p.tables e below _ (T26.setTop (mkF m 175 #[.val (.int mm), .val (.long pp), .second, .val (.long qq), .second, .val (.int ((1 : Int32) + (mm &&& (3 : Int32)))), .val (.int nt), .val (.int zz), .val (.int s0), .val (.int s1), .val (.int s2), .val (.int s3), .val (.int t0), .val (.int t1), .val (.int t2), .val (.int t3), .val (.ref v1), .val (.ref v11), .unset, .unset, .unset] [(.ref v25)]))
      show Gl p.tables e below _ (T26.setTop (mkF m 175 #[.val (.int mm), .val (.long pp), .second, .val (.long qq), .second, .val (.int ((1 : Int32) + (mm &&& (3 : Int32)))), .val (.int nt), .val (.int zz), .val (.int s0), .val (.int s1), .val (.int s2), .val (.int s3), .val (.int t0), .val (.int t1), .val (.int t2), .val (.int t3), .val (.ref v1), .val (.ref v11), .unset, .unset, .unset] [(.ref v25)]))
      refine Gl.st (fun _ kq => XS.astore X26.here hx rfl (hb hby at_175) rfl rfl (l' := #[.val (.int mm), .val (.long pp), .second, .val (.long qq), .second, .val (.int ((1 : Int32) + (mm &&& (3 : Int32)))), .val (.int nt), .val (.int zz), .val (.int s0), .val (.int s1), .val (.int s2), .val (.int s3), .val (.int t0), .val (.int t1), .val (.int t2), .val (.int t3), .val (.ref v1), .val (.ref v11), .val (.ref v25), .unset, .unset]) rfl kq) ?_
      show Gl p.tables e below _ (T26.setTop (mkF m 177 #[.val (.int mm), .val (.long pp), .second, .val (.long qq), .second, .val (.int ((1 : Int32) + (mm &&& (3 : Int32)))), .val (.int nt), .val (.int zz), .val (.int s0), .val (.int s1), .val (.int s2), .val (.int s3), .val (.int t0), .val (.int t1), .val (.int t2), .val (.int t3), .val (.ref v1), .val (.ref v11), .val (.ref v25), .unset, .unset] []))
      refine Gl.st (fun _ kq => XS.aload X26.here hx rfl (hb hby at_177) rfl rfl kq) ?_
      show Gl p.tables e below _ (T26.setTop (mkF m 179 #[.val (.int mm), .val (.long pp), .second, .val (.long qq), .second, .val (.int ((1 : Int32) + (mm &&& (3 : Int32)))), .val (.int nt), .val (.int zz), .val (.int s0), .val (.int s1), .val (.int s2), .val (.int s3), .val (.int t0), .val (.int t1), .val (.int t2), .val (.int t3), .val (.ref v1), .val (.ref v11), .val (.ref v25), .unset, .unset] [(.ref v11)]))
      have f29 : Exa Z T26.heap v11 "java/lang/String" := (q15_0.keep K26)
      have f30 : Fld Z T26.heap v11 "java/lang/String" "coder" "B" (.int 0) := (q15_1.keep K26 nin0)
      have f31 : Fld Z T26.heap v11 "java/lang/String" "value" "[B" (.ref v12) := (q15_2.keep K26 nin0)
      have f32 : Arv Z T26.heap v12 v13 .byte (Int32.ofNat v14.length) ((v14.map (fun c => c.toInt8.toInt32)).map Value.int) (.int 0) := (q15_3.keep K26 nin0)
      have f33 : Old Z n0 T26.heap := (f24.keep K26 all0)
      obtain ⟨_, _, ⟨T35, L35, k35, n35⟩, -, X35, ⟨Lc35, hQ35, l35, y35, z35⟩, st35⟩ := Jvm.LawKit.callS X26 hx (y := (⟨"com/example/groupwright/groupwright/core/ShareId", "of", "(Ljava/lang/String;)Lcom/example/groupwright/groupwright/core/ShareId;"⟩ : MethodName)) hown (mvT hZ (tw hw 39 rfl)) (mvT hZ (tw hw 40 rfl)) (mvT hZ (tw hw 41 rfl)) (mvT hZ (tw hw 42 rfl)) (by decide) (backOf (W := 0) (rm_of l Z a0 hw [] (v11) (v12) (v13) (v14) (G1) (G3) T26.heap n0 (Nat.le_trans (Nat.le_trans (Nat.le_trans Z0 K5.1) K15.1) K26.1) f29 f30 f31 f32 f33 y15_0 y15_1 y15_2 O2 P5 O4 rG3) hZ (tw hw 42 rfl) (tw hw 41 rfl) (by decide) (by decide)) (g := (mkF m 179 #[.val (.int mm), .val (.long pp), .second, .val (.long qq), .second, .val (.int ((1 : Int32) + (mm &&& (3 : Int32)))), .val (.int nt), .val (.int zz), .val (.int s0), .val (.int s1), .val (.int s2), .val (.int s3), .val (.int t0), .val (.int t1), .val (.int t2), .val (.int t3), .val (.ref v1), .val (.ref v11), .val (.ref v25), .unset, .unset] [(.ref v11)])) rfl (by rw [hml]; rfl) (argsL := [(.ref v11)]) (rest := []) (lenOf pd__Ljava_lang_String__Lcom_example_groupwright_groupwright_core_ShareId_ rfl) rfl (by show 2 * 0 + _ ≤ _; exact Nat.le_of_eq rfl) (hb hby at_179) (fun _ _ => ⟨rfl, rfl, (by decide : 7 + 1 ≤ _), (by decide : 25 + 1 ≤ _)⟩)
      dsimp only [Pt.U, Pt.locs, Pt.cells, Pt.slots] at X35 l35 y35 z35 st35 hQ35
      subst l35 y35 z35
      obtain ⟨v34, rfl, N35, K35, q35_0, q35_1, y35_0⟩ := hQ35
      have M35 := Fr.app M26 N35
      have g36 : n0 ≤ v34 := Nat.le_trans (Nat.le_trans (Nat.le_trans (Nat.le_trans Z0 K5.1) K15.1) K26.1) y35_0
      have s37 : h0.size ≤ v34 := Nat.le_trans (Nat.le_trans (Nat.le_trans (Nat.le_trans (Nat.le_refl _) K5.1) K15.1) K26.1) y35_0
      refine Gl.st st35 ?_
      show Gl p.tables e below _ (T35.setTop (mkF m 182 #[.val (.int mm), .val (.long pp), .second, .val (.long qq), .second, .val (.int ((1 : Int32) + (mm &&& (3 : Int32)))), .val (.int nt), .val (.int zz), .val (.int s0), .val (.int s1), .val (.int s2), .val (.int s3), .val (.int t0), .val (.int t1), .val (.int t2), .val (.int t3), .val (.ref v1), .val (.ref v11), .val (.ref v25), .unset, .unset] [(.ref v34)]))
      show Gl p.tables e below _ (T35.setTop (mkF m 182 #[.val (.int mm), .val (.long pp), .second, .val (.long qq), .second, .val (.int ((1 : Int32) + (mm &&& (3 : Int32)))), .val (.int nt), .val (.int zz), .val (.int s0), .val (.int s1), .val (.int s2), .val (.int s3), .val (.int t0), .val (.int t1), .val (.int t2), .val (.int t3), .val (.ref v1), .val (.ref v11), .val (.ref v25), .unset, .unset] [(.ref v34)]))
      refine Gl.st (fun _ kq => XS.astore X35.here hx rfl (hb hby at_182) rfl rfl (l' := #[.val (.int mm), .val (.long pp), .second, .val (.long qq), .second, .val (.int ((1 : Int32) + (mm &&& (3 : Int32)))), .val (.int nt), .val (.int zz), .val (.int s0), .val (.int s1), .val (.int s2), .val (.int s3), .val (.int t0), .val (.int t1), .val (.int t2), .val (.int t3), .val (.ref v1), .val (.ref v11), .val (.ref v25), .val (.ref v34), .unset]) rfl kq) ?_
      show Gl p.tables e below _ (T35.setTop (mkF m 184 #[.val (.int mm), .val (.long pp), .second, .val (.long qq), .second, .val (.int ((1 : Int32) + (mm &&& (3 : Int32)))), .val (.int nt), .val (.int zz), .val (.int s0), .val (.int s1), .val (.int s2), .val (.int s3), .val (.int t0), .val (.int t1), .val (.int t2), .val (.int t3), .val (.ref v1), .val (.ref v11), .val (.ref v25), .val (.ref v34), .unset] []))
      refine Gl.st (fun _ kq => XS.aload X35.here hx rfl (hb hby at_184) rfl rfl kq) ?_
      show Gl p.tables e below _ (T35.setTop (mkF m 186 #[.val (.int mm), .val (.long pp), .second, .val (.long qq), .second, .val (.int ((1 : Int32) + (mm &&& (3 : Int32)))), .val (.int nt), .val (.int zz), .val (.int s0), .val (.int s1), .val (.int s2), .val (.int s3), .val (.int t0), .val (.int t1), .val (.int t2), .val (.int t3), .val (.ref v1), .val (.ref v11), .val (.ref v25), .val (.ref v34), .unset] [(.ref v1)]))
      refine Gl.st (fun _ kq => XS.aload X35.here hx rfl (hb hby at_186) rfl rfl kq) ?_
      show Gl p.tables e below _ (T35.setTop (mkF m 188 #[.val (.int mm), .val (.long pp), .second, .val (.long qq), .second, .val (.int ((1 : Int32) + (mm &&& (3 : Int32)))), .val (.int nt), .val (.int zz), .val (.int s0), .val (.int s1), .val (.int s2), .val (.int s3), .val (.int t0), .val (.int t1), .val (.int t2), .val (.int t3), .val (.ref v1), .val (.ref v11), .val (.ref v25), .val (.ref v34), .unset] [(.ref v11), (.ref v1)]))
      have f38 : Exa Z T35.heap v1 "java/lang/String" := ((f20.keep K26).keep K35)
      have f39 : Fld Z T35.heap v1 "java/lang/String" "value" "[B" (.ref v2) := ((f22.keep K26 nin0).keep K35 nin0)
      have f40 : Fld Z T35.heap v1 "java/lang/String" "coder" "B" (.int 0) := ((f21.keep K26 nin0).keep K35 nin0)
      have f41 : Arv Z T35.heap v2 v3 .byte (Int32.ofNat v4.length) ((v4.map (fun c => c.toInt8.toInt32)).map Value.int) (.int 0) := ((f23.keep K26 nin0).keep K35 nin0)
      have f42 : Exa Z T35.heap v11 "java/lang/String" := (f29.keep K35)
      have f43 : Fld Z T35.heap v11 "java/lang/String" "value" "[B" (.ref v12) := (f31.keep K35 nin0)
      have f44 : Fld Z T35.heap v11 "java/lang/String" "coder" "B" (.int 0) := (f30.keep K35 nin0)
      have f45 : Arv Z T35.heap v12 v13 .byte (Int32.ofNat v14.length) ((v14.map (fun c => c.toInt8.toInt32)).map Value.int) (.int 0) := (f32.keep K35 nin0)
      have f46 : Old Z n0 T35.heap := (f33.keep K35 all0)
      obtain ⟨cq47, kq47, q47a, q47b, q47c⟩ := isOf hZ rfl f38
      obtain ⟨_, _, ⟨T47, L47, k47, n47⟩, -, X47, ⟨Lc47, hQ47, l47, y47, z47⟩, st47⟩ := X35.virtualBack hx (y := (⟨"java/lang/String", "equals", "(Ljava/lang/Object;)Z"⟩ : MethodName)) (z := (⟨"java/lang/String", "equals", "(Ljava/lang/Object;)Z"⟩ : MethodName)) hown (mvT hZ (tw hw 88 rfl)) (mvT hZ (tw hw 89 rfl)) (notFace_of_selects (args := #[]) (mvT hZ (tw hw 91 rfl))) (mvT hZ (tw hw 91 rfl)) (mvT hZ (tw hw 90 rfl)) (by decide) (StrChars.Road.eqW (W := 0) hZ (wdEq hw) (kI := 4) (tw hw 10 rfl) f38 f39 f40 f41 (StrChars.Road.codOf (cs := v4) rfl (fun x hx => ((fun c hc => cc_rng (y5_0 c hc)) x hx).2)) (up255 _ (fun c hc => cc_rng (y5_0 c hc))) (Nat.le_trans y5_2 (by decide)) f42 f43 f44 f45 (StrChars.Road.codOf (cs := v14) rfl (fun x hx => ((fun c hc => cc_rng (y15_0 c hc)) x hx).2)) (up255 _ (fun c hc => cc_rng (y15_0 c hc))) (Nat.le_trans y15_2 (by decide)) (O2.ext f46.2) P5 (by decide) (by decide)) q47a q47c (g := (mkF m 188 #[.val (.int mm), .val (.long pp), .second, .val (.long qq), .second, .val (.int ((1 : Int32) + (mm &&& (3 : Int32)))), .val (.int nt), .val (.int zz), .val (.int s0), .val (.int s1), .val (.int s2), .val (.int s3), .val (.int t0), .val (.int t1), .val (.int t2), .val (.int t3), .val (.ref v1), .val (.ref v11), .val (.ref v25), .val (.ref v34), .unset] [(.ref v11), (.ref v1)])) rfl (by rw [hml]; rfl) (Steps.refl _) (argsL := [(.ref v11)]) (rest := []) (lenOf pd__Ljava_lang_Object__Z rfl) rfl (by show 2 * 0 + _ ≤ _; exact Nat.le_of_eq rfl) (hb hby at_188) (fun _ _ => ⟨rfl, rfl, (by decide : 8 + 0 ≤ _), (by decide : 26 + 0 ≤ _)⟩)
      dsimp only [Pt.U, Pt.locs, Pt.cells, Pt.slots] at X47 l47 y47 z47 st47 hQ47
      subst l47 y47 z47
      obtain ⟨⟨rfl, y47_0⟩ | ⟨rfl, y47_0⟩, rfl, e47⟩ := hQ47
      · have N47 : Fr n0 ([] : List Loc) := Fr.nil n0
        have M47 := Fr.app M35 N47
        refine Gl.to st47 ?_
        show Gl p.tables e below _ (T47.setTop (mkF m 191 #[.val (.int mm), .val (.long pp), .second, .val (.long qq), .second, .val (.int ((1 : Int32) + (mm &&& (3 : Int32)))), .val (.int nt), .val (.int zz), .val (.int s0), .val (.int s1), .val (.int s2), .val (.int s3), .val (.int t0), .val (.int t1), .val (.int t2), .val (.int t3), .val (.ref v1), .val (.ref v11), .val (.ref v25), .val (.ref v34), .unset] [(.int 1)]))
        refine Gl.st (fun _ kq => XS.istore X47.here hx rfl (hb hby at_191) rfl (l' := #[.val (.int mm), .val (.long pp), .second, .val (.long qq), .second, .val (.int ((1 : Int32) + (mm &&& (3 : Int32)))), .val (.int nt), .val (.int zz), .val (.int s0), .val (.int s1), .val (.int s2), .val (.int s3), .val (.int t0), .val (.int t1), .val (.int t2), .val (.int t3), .val (.ref v1), .val (.ref v11), .val (.ref v25), .val (.ref v34), .val (.int 1)]) rfl kq) ?_
        show Gl p.tables e below _ (T47.setTop (mkF m 193 #[.val (.int mm), .val (.long pp), .second, .val (.long qq), .second, .val (.int ((1 : Int32) + (mm &&& (3 : Int32)))), .val (.int nt), .val (.int zz), .val (.int s0), .val (.int s1), .val (.int s2), .val (.int s3), .val (.int t0), .val (.int t1), .val (.int t2), .val (.int t3), .val (.ref v1), .val (.ref v11), .val (.ref v25), .val (.ref v34), .val (.int 1)] []))
        refine Gl.st (fun _ kq => XS.aload X47.here hx rfl (hb hby at_193) rfl rfl kq) ?_
        show Gl p.tables e below _ (T47.setTop (mkF m 195 #[.val (.int mm), .val (.long pp), .second, .val (.long qq), .second, .val (.int ((1 : Int32) + (mm &&& (3 : Int32)))), .val (.int nt), .val (.int zz), .val (.int s0), .val (.int s1), .val (.int s2), .val (.int s3), .val (.int t0), .val (.int t1), .val (.int t2), .val (.int t3), .val (.ref v1), .val (.ref v11), .val (.ref v25), .val (.ref v34), .val (.int 1)] [(.ref v1)]))
        refine Gl.st (fun _ kq => XS.aload X47.here hx rfl (hb hby at_195) rfl rfl kq) ?_
        show Gl p.tables e below _ (T47.setTop (mkF m 197 #[.val (.int mm), .val (.long pp), .second, .val (.long qq), .second, .val (.int ((1 : Int32) + (mm &&& (3 : Int32)))), .val (.int nt), .val (.int zz), .val (.int s0), .val (.int s1), .val (.int s2), .val (.int s3), .val (.int t0), .val (.int t1), .val (.int t2), .val (.int t3), .val (.ref v1), .val (.ref v11), .val (.ref v25), .val (.ref v34), .val (.int 1)] [(.ref v25), (.ref v1)]))
        have f48 : Fld Z T35.heap v25 "com/example/groupwright/groupwright/core/ShareId" "value" "Ljava/lang/String;" (.ref v1) := (q26_1.keep K35 nin0)
        have f50 : Exa Z T35.heap v25 "com/example/groupwright/groupwright/core/ShareId" := (q26_0.keep K35)
        obtain ⟨cq49, kq49, q49a, q49b, q49c⟩ := isOf hZ e47 f50
        obtain ⟨_, _, ⟨T49, L49, k49, n49⟩, -, X49, ⟨Lc49, hQ49, l49, y49, z49⟩, st49⟩ := X47.virtualBack hx (y := (⟨"com/example/groupwright/groupwright/core/ShareId", "toString", "()Ljava/lang/String;"⟩ : MethodName)) (z := (⟨"com/example/groupwright/groupwright/core/ShareId", "toString", "()Ljava/lang/String;"⟩ : MethodName)) hown (mvT hZ (tw hw 97 rfl)) (mvT hZ (tw hw 98 rfl)) (notFace_of_selects (args := #[]) (mvT hZ (tw hw 100 rfl))) (mvT hZ (tw hw 100 rfl)) (mvT hZ (tw hw 99 rfl)) (by decide) (backOf (W := 1) (rm_ts l Z a0 hw [] (v25) (v1) T35.heap n0 (Nat.le_trans (Nat.le_trans (Nat.le_trans (Nat.le_trans Z0 K5.1) K15.1) K26.1) K35.1) f48) hZ (tw hw 101 rfl) (tw hw 41 rfl) (by decide) (by decide)) q49a q49c (g := (mkF m 197 #[.val (.int mm), .val (.long pp), .second, .val (.long qq), .second, .val (.int ((1 : Int32) + (mm &&& (3 : Int32)))), .val (.int nt), .val (.int zz), .val (.int s0), .val (.int s1), .val (.int s2), .val (.int s3), .val (.int t0), .val (.int t1), .val (.int t2), .val (.int t3), .val (.ref v1), .val (.ref v11), .val (.ref v25), .val (.ref v34), .val (.int 1)] [(.ref v25), (.ref v1)])) rfl (by rw [hml]; rfl) (Steps.refl _) (argsL := []) (rest := [(.ref v1)]) (lenOf pd___Ljava_lang_String_ rfl) rfl (by show 2 * 0 + _ ≤ _; exact Nat.le_of_eq rfl) (hb hby at_197) (fun _ _ => ⟨rfl, e47, (by decide : 8 + 0 ≤ _), (by decide : 26 + 0 ≤ _)⟩)
        dsimp only [Pt.U, Pt.locs, Pt.cells, Pt.slots] at X49 l49 y49 z49 st49 hQ49
        subst l49 y49 z49
        obtain ⟨rfl, N49, e49⟩ := hQ49
        have M49 := Fr.app M47 N49
        refine Gl.to st49 ?_
        show Gl p.tables e below _ (T49.setTop (mkF m 200 #[.val (.int mm), .val (.long pp), .second, .val (.long qq), .second, .val (.int ((1 : Int32) + (mm &&& (3 : Int32)))), .val (.int nt), .val (.int zz), .val (.int s0), .val (.int s1), .val (.int s2), .val (.int s3), .val (.int t0), .val (.int t1), .val (.int t2), .val (.int t3), .val (.ref v1), .val (.ref v11), .val (.ref v25), .val (.ref v34), .val (.int 1)] [(.ref v1), (.ref v1)]))
        show Gl p.tables e below _ (T49.setTop (mkF m 200 #[.val (.int mm), .val (.long pp), .second, .val (.long qq), .second, .val (.int ((1 : Int32) + (mm &&& (3 : Int32)))), .val (.int nt), .val (.int zz), .val (.int s0), .val (.int s1), .val (.int s2), .val (.int s3), .val (.int t0), .val (.int t1), .val (.int t2), .val (.int t3), .val (.ref v1), .val (.ref v11), .val (.ref v25), .val (.ref v34), .val (.int 1)] [(.ref v1), (.ref v1)]))
        obtain ⟨cq51, kq51, q51a, q51b, q51c⟩ := isOf hZ e49 f38
        obtain ⟨_, _, ⟨T51, L51, k51, n51⟩, -, X51, ⟨Lc51, hQ51, l51, y51, z51⟩, st51⟩ := X49.virtualBack hx (y := (⟨"java/lang/String", "equals", "(Ljava/lang/Object;)Z"⟩ : MethodName)) (z := (⟨"java/lang/String", "equals", "(Ljava/lang/Object;)Z"⟩ : MethodName)) hown (mvT hZ (tw hw 88 rfl)) (mvT hZ (tw hw 89 rfl)) (notFace_of_selects (args := #[]) (mvT hZ (tw hw 91 rfl))) (mvT hZ (tw hw 91 rfl)) (mvT hZ (tw hw 90 rfl)) (by decide) (StrChars.Road.eqW (W := 0) hZ (wdEq hw) (kI := 4) (tw hw 10 rfl) f38 f39 f40 f41 (StrChars.Road.codOf (cs := v4) rfl (fun x hx => ((fun c hc => cc_rng (y5_0 c hc)) x hx).2)) (up255 _ (fun c hc => cc_rng (y5_0 c hc))) (Nat.le_trans y5_2 (by decide)) f38 f39 f40 f41 (StrChars.Road.codOf (cs := v4) rfl (fun x hx => ((fun c hc => cc_rng (y5_0 c hc)) x hx).2)) (up255 _ (fun c hc => cc_rng (y5_0 c hc))) (Nat.le_trans y5_2 (by decide)) (O2.ext f46.2) P5 (by decide) (by decide)) q51a q51c (g := (mkF m 200 #[.val (.int mm), .val (.long pp), .second, .val (.long qq), .second, .val (.int ((1 : Int32) + (mm &&& (3 : Int32)))), .val (.int nt), .val (.int zz), .val (.int s0), .val (.int s1), .val (.int s2), .val (.int s3), .val (.int t0), .val (.int t1), .val (.int t2), .val (.int t3), .val (.ref v1), .val (.ref v11), .val (.ref v25), .val (.ref v34), .val (.int 1)] [(.ref v1), (.ref v1)])) rfl (by rw [hml]; rfl) (Steps.refl _) (argsL := [(.ref v1)]) (rest := []) (lenOf pd__Ljava_lang_Object__Z rfl) rfl (by show 2 * 0 + _ ≤ _; exact Nat.le_of_eq rfl) (hb hby at_200) (fun _ _ => ⟨rfl, e49, (by decide : 8 + 0 ≤ _), (by decide : 26 + 0 ≤ _)⟩)
        dsimp only [Pt.U, Pt.locs, Pt.cells, Pt.slots] at X51 l51 y51 z51 st51 hQ51
        subst l51 y51 z51
        obtain ⟨⟨rfl, y51_0⟩ | ⟨rfl, y51_0⟩, rfl, e51⟩ := hQ51
        · have N51 : Fr n0 ([] : List Loc) := Fr.nil n0
          have M51 := Fr.app M49 N51
          refine Gl.to st51 ?_
          show Gl p.tables e below _ (T51.setTop (mkF m 203 #[.val (.int mm), .val (.long pp), .second, .val (.long qq), .second, .val (.int ((1 : Int32) + (mm &&& (3 : Int32)))), .val (.int nt), .val (.int zz), .val (.int s0), .val (.int s1), .val (.int s2), .val (.int s3), .val (.int t0), .val (.int t1), .val (.int t2), .val (.int t3), .val (.ref v1), .val (.ref v11), .val (.ref v25), .val (.ref v34), .val (.int 1)] [(.int 1)]))
          refine Gl.st (fun _ kq => XS.ifYes X51.here hx rfl (pc0 := 203) (pc' := 208) rfl (hb hby at_203) rfl ((if0 _ _).trans (feq ((by decide) : ¬ ((1 : Int32) = (0 : Int32)))).2) (by decide) (by decide) kq) ?_
          show Gl p.tables e below _ (T51.setTop (mkF m 208 #[.val (.int mm), .val (.long pp), .second, .val (.long qq), .second, .val (.int ((1 : Int32) + (mm &&& (3 : Int32)))), .val (.int nt), .val (.int zz), .val (.int s0), .val (.int s1), .val (.int s2), .val (.int s3), .val (.int t0), .val (.int t1), .val (.int t2), .val (.int t3), .val (.ref v1), .val (.ref v11), .val (.ref v25), .val (.ref v34), .val (.int 1)] []))
          refine Gl.st (fun _ kq => XS.aload X51.here hx rfl (hb hby at_208) rfl rfl kq) ?_
          show Gl p.tables e below _ (T51.setTop (mkF m 210 #[.val (.int mm), .val (.long pp), .second, .val (.long qq), .second, .val (.int ((1 : Int32) + (mm &&& (3 : Int32)))), .val (.int nt), .val (.int zz), .val (.int s0), .val (.int s1), .val (.int s2), .val (.int s3), .val (.int t0), .val (.int t1), .val (.int t2), .val (.int t3), .val (.ref v1), .val (.ref v11), .val (.ref v25), .val (.ref v34), .val (.int 1)] [(.ref v11)]))
          refine Gl.st (fun _ kq => XS.aload X51.here hx rfl (hb hby at_210) rfl rfl kq) ?_
          show Gl p.tables e below _ (T51.setTop (mkF m 212 #[.val (.int mm), .val (.long pp), .second, .val (.long qq), .second, .val (.int ((1 : Int32) + (mm &&& (3 : Int32)))), .val (.int nt), .val (.int zz), .val (.int s0), .val (.int s1), .val (.int s2), .val (.int s3), .val (.int t0), .val (.int t1), .val (.int t2), .val (.int t3), .val (.ref v1), .val (.ref v11), .val (.ref v25), .val (.ref v34), .val (.int 1)] [(.ref v34), (.ref v11)]))
          obtain ⟨cq52, kq52, q52a, q52b, q52c⟩ := isOf hZ e51 q35_0
          obtain ⟨_, _, ⟨T52, L52, k52, n52⟩, -, X52, ⟨Lc52, hQ52, l52, y52, z52⟩, st52⟩ := X51.virtualBack hx (y := (⟨"com/example/groupwright/groupwright/core/ShareId", "toString", "()Ljava/lang/String;"⟩ : MethodName)) (z := (⟨"com/example/groupwright/groupwright/core/ShareId", "toString", "()Ljava/lang/String;"⟩ : MethodName)) hown (mvT hZ (tw hw 97 rfl)) (mvT hZ (tw hw 98 rfl)) (notFace_of_selects (args := #[]) (mvT hZ (tw hw 100 rfl))) (mvT hZ (tw hw 100 rfl)) (mvT hZ (tw hw 99 rfl)) (by decide) (backOf (W := 1) (rm_ts l Z a0 hw [] (v34) (v11) T35.heap n0 (Nat.le_trans (Nat.le_trans (Nat.le_trans (Nat.le_trans Z0 K5.1) K15.1) K26.1) K35.1) q35_1) hZ (tw hw 101 rfl) (tw hw 41 rfl) (by decide) (by decide)) q52a q52c (g := (mkF m 212 #[.val (.int mm), .val (.long pp), .second, .val (.long qq), .second, .val (.int ((1 : Int32) + (mm &&& (3 : Int32)))), .val (.int nt), .val (.int zz), .val (.int s0), .val (.int s1), .val (.int s2), .val (.int s3), .val (.int t0), .val (.int t1), .val (.int t2), .val (.int t3), .val (.ref v1), .val (.ref v11), .val (.ref v25), .val (.ref v34), .val (.int 1)] [(.ref v34), (.ref v11)])) rfl (by rw [hml]; rfl) (Steps.refl _) (argsL := []) (rest := [(.ref v11)]) (lenOf pd___Ljava_lang_String_ rfl) rfl (by show 2 * 0 + _ ≤ _; exact Nat.le_of_eq rfl) (hb hby at_212) (fun _ _ => ⟨rfl, e51, (by decide : 8 + 0 ≤ _), (by decide : 26 + 0 ≤ _)⟩)
          dsimp only [Pt.U, Pt.locs, Pt.cells, Pt.slots] at X52 l52 y52 z52 st52 hQ52
          subst l52 y52 z52
          obtain ⟨rfl, N52, e52⟩ := hQ52
          have M52 := Fr.app M51 N52
          refine Gl.to st52 ?_
          show Gl p.tables e below _ (T52.setTop (mkF m 215 #[.val (.int mm), .val (.long pp), .second, .val (.long qq), .second, .val (.int ((1 : Int32) + (mm &&& (3 : Int32)))), .val (.int nt), .val (.int zz), .val (.int s0), .val (.int s1), .val (.int s2), .val (.int s3), .val (.int t0), .val (.int t1), .val (.int t2), .val (.int t3), .val (.ref v1), .val (.ref v11), .val (.ref v25), .val (.ref v34), .val (.int 1)] [(.ref v11), (.ref v11)]))
          show Gl p.tables e below _ (T52.setTop (mkF m 215 #[.val (.int mm), .val (.long pp), .second, .val (.long qq), .second, .val (.int ((1 : Int32) + (mm &&& (3 : Int32)))), .val (.int nt), .val (.int zz), .val (.int s0), .val (.int s1), .val (.int s2), .val (.int s3), .val (.int t0), .val (.int t1), .val (.int t2), .val (.int t3), .val (.ref v1), .val (.ref v11), .val (.ref v25), .val (.ref v34), .val (.int 1)] [(.ref v11), (.ref v11)]))
          obtain ⟨cq53, kq53, q53a, q53b, q53c⟩ := isOf hZ e52 f42
          obtain ⟨_, _, ⟨T53, L53, k53, n53⟩, -, X53, ⟨Lc53, hQ53, l53, y53, z53⟩, st53⟩ := X52.virtualBack hx (y := (⟨"java/lang/String", "equals", "(Ljava/lang/Object;)Z"⟩ : MethodName)) (z := (⟨"java/lang/String", "equals", "(Ljava/lang/Object;)Z"⟩ : MethodName)) hown (mvT hZ (tw hw 88 rfl)) (mvT hZ (tw hw 89 rfl)) (notFace_of_selects (args := #[]) (mvT hZ (tw hw 91 rfl))) (mvT hZ (tw hw 91 rfl)) (mvT hZ (tw hw 90 rfl)) (by decide) (StrChars.Road.eqW (W := 0) hZ (wdEq hw) (kI := 4) (tw hw 10 rfl) f42 f43 f44 f45 (StrChars.Road.codOf (cs := v14) rfl (fun x hx => ((fun c hc => cc_rng (y15_0 c hc)) x hx).2)) (up255 _ (fun c hc => cc_rng (y15_0 c hc))) (Nat.le_trans y15_2 (by decide)) f42 f43 f44 f45 (StrChars.Road.codOf (cs := v14) rfl (fun x hx => ((fun c hc => cc_rng (y15_0 c hc)) x hx).2)) (up255 _ (fun c hc => cc_rng (y15_0 c hc))) (Nat.le_trans y15_2 (by decide)) (O2.ext f46.2) P5 (by decide) (by decide)) q53a q53c (g := (mkF m 215 #[.val (.int mm), .val (.long pp), .second, .val (.long qq), .second, .val (.int ((1 : Int32) + (mm &&& (3 : Int32)))), .val (.int nt), .val (.int zz), .val (.int s0), .val (.int s1), .val (.int s2), .val (.int s3), .val (.int t0), .val (.int t1), .val (.int t2), .val (.int t3), .val (.ref v1), .val (.ref v11), .val (.ref v25), .val (.ref v34), .val (.int 1)] [(.ref v11), (.ref v11)])) rfl (by rw [hml]; rfl) (Steps.refl _) (argsL := [(.ref v11)]) (rest := []) (lenOf pd__Ljava_lang_Object__Z rfl) rfl (by show 2 * 0 + _ ≤ _; exact Nat.le_of_eq rfl) (hb hby at_215) (fun _ _ => ⟨rfl, e52, (by decide : 8 + 0 ≤ _), (by decide : 26 + 0 ≤ _)⟩)
          dsimp only [Pt.U, Pt.locs, Pt.cells, Pt.slots] at X53 l53 y53 z53 st53 hQ53
          subst l53 y53 z53
          obtain ⟨⟨rfl, y53_0⟩ | ⟨rfl, y53_0⟩, rfl, e53⟩ := hQ53
          · have N53 : Fr n0 ([] : List Loc) := Fr.nil n0
            have M53 := Fr.app M52 N53
            refine Gl.to st53 ?_
            show Gl p.tables e below _ (T53.setTop (mkF m 218 #[.val (.int mm), .val (.long pp), .second, .val (.long qq), .second, .val (.int ((1 : Int32) + (mm &&& (3 : Int32)))), .val (.int nt), .val (.int zz), .val (.int s0), .val (.int s1), .val (.int s2), .val (.int s3), .val (.int t0), .val (.int t1), .val (.int t2), .val (.int t3), .val (.ref v1), .val (.ref v11), .val (.ref v25), .val (.ref v34), .val (.int 1)] [(.int 1)]))
            refine Gl.st (fun _ kq => XS.ifYes X53.here hx rfl (pc0 := 218) (pc' := 223) rfl (hb hby at_218) rfl ((if0 _ _).trans (feq ((by decide) : ¬ ((1 : Int32) = (0 : Int32)))).2) (by decide) (by decide) kq) ?_
            show Gl p.tables e below _ (T53.setTop (mkF m 223 #[.val (.int mm), .val (.long pp), .second, .val (.long qq), .second, .val (.int ((1 : Int32) + (mm &&& (3 : Int32)))), .val (.int nt), .val (.int zz), .val (.int s0), .val (.int s1), .val (.int s2), .val (.int s3), .val (.int t0), .val (.int t1), .val (.int t2), .val (.int t3), .val (.ref v1), .val (.ref v11), .val (.ref v25), .val (.ref v34), .val (.int 1)] []))
            refine Gl.st (fun _ kq => XS.aload X53.here hx rfl (hb hby at_223) rfl rfl kq) ?_
            show Gl p.tables e below _ (T53.setTop (mkF m 225 #[.val (.int mm), .val (.long pp), .second, .val (.long qq), .second, .val (.int ((1 : Int32) + (mm &&& (3 : Int32)))), .val (.int nt), .val (.int zz), .val (.int s0), .val (.int s1), .val (.int s2), .val (.int s3), .val (.int t0), .val (.int t1), .val (.int t2), .val (.int t3), .val (.ref v1), .val (.ref v11), .val (.ref v25), .val (.ref v34), .val (.int 1)] [(.ref v25)]))
            refine Gl.st (fun _ kq => XS.aload X53.here hx rfl (hb hby at_225) rfl rfl kq) ?_
            show Gl p.tables e below _ (T53.setTop (mkF m 227 #[.val (.int mm), .val (.long pp), .second, .val (.long qq), .second, .val (.int ((1 : Int32) + (mm &&& (3 : Int32)))), .val (.int nt), .val (.int zz), .val (.int s0), .val (.int s1), .val (.int s2), .val (.int s3), .val (.int t0), .val (.int t1), .val (.int t2), .val (.int t3), .val (.ref v1), .val (.ref v11), .val (.ref v25), .val (.ref v34), .val (.int 1)] [(.ref v34), (.ref v25)]))
            obtain ⟨cq54, kq54, q54a, q54b, q54c⟩ := isOf hZ e53 f50
            obtain ⟨_, _, ⟨T54, L54, k54, n54⟩, -, X54, ⟨Lc54, hQ54, l54, y54, z54⟩, st54⟩ := X53.virtualBack hx (y := (⟨"com/example/groupwright/groupwright/core/ShareId", "equals", "(Ljava/lang/Object;)Z"⟩ : MethodName)) (z := (⟨"com/example/groupwright/groupwright/core/ShareId", "equals", "(Ljava/lang/Object;)Z"⟩ : MethodName)) hown (mvT hZ (tw hw 102 rfl)) (mvT hZ (tw hw 103 rfl)) (notFace_of_selects (args := #[]) (mvT hZ (tw hw 105 rfl))) (mvT hZ (tw hw 105 rfl)) (mvT hZ (tw hw 104 rfl)) (by decide) (backOf (W := 0) (rm_eq l Z a0 hw [] (v25) (v34) (v1) (v2) (v3) (v4) (v11) (v12) (v13) (v14) (G1) T35.heap n0 (Nat.le_trans (Nat.le_trans (Nat.le_trans (Nat.le_trans Z0 K5.1) K15.1) K26.1) K35.1) q35_0 f48 q35_1 f38 f40 f39 f41 f42 f44 f43 f45 f46 y5_0 y5_2 y15_0 y15_2 O2 P5) hZ (tw hw 106 rfl) (tw hw 41 rfl) (by decide) (by decide)) q54a q54c (g := (mkF m 227 #[.val (.int mm), .val (.long pp), .second, .val (.long qq), .second, .val (.int ((1 : Int32) + (mm &&& (3 : Int32)))), .val (.int nt), .val (.int zz), .val (.int s0), .val (.int s1), .val (.int s2), .val (.int s3), .val (.int t0), .val (.int t1), .val (.int t2), .val (.int t3), .val (.ref v1), .val (.ref v11), .val (.ref v25), .val (.ref v34), .val (.int 1)] [(.ref v34), (.ref v25)])) rfl (by rw [hml]; rfl) (Steps.refl _) (argsL := [(.ref v34)]) (rest := []) (lenOf pd__Ljava_lang_Object__Z rfl) rfl (by show 2 * 0 + _ ≤ _; exact Nat.le_of_eq rfl) (hb hby at_227) (fun _ _ => ⟨rfl, e53, (by decide : 8 + 0 ≤ _), (by decide : 26 + 0 ≤ _)⟩)
            dsimp only [Pt.U, Pt.locs, Pt.cells, Pt.slots] at X54 l54 y54 z54 st54 hQ54
            subst l54 y54 z54
            rcases hQ54 with ⟨rfl, N54, e54, y54_0⟩ | ⟨rfl, N54, e54, y54_0⟩
            · have M54 := Fr.app M53 N54
              refine Gl.to st54 ?_
              show Gl p.tables e below _ (T54.setTop (mkF m 230 #[.val (.int mm), .val (.long pp), .second, .val (.long qq), .second, .val (.int ((1 : Int32) + (mm &&& (3 : Int32)))), .val (.int nt), .val (.int zz), .val (.int s0), .val (.int s1), .val (.int s2), .val (.int s3), .val (.int t0), .val (.int t1), .val (.int t2), .val (.int t3), .val (.ref v1), .val (.ref v11), .val (.ref v25), .val (.ref v34), .val (.int 1)] [(.int 1)]))
              refine Gl.st (fun _ kq => XS.iload X54.here hx rfl (hb hby at_230) rfl kq) ?_
              show Gl p.tables e below _ (T54.setTop (mkF m 232 #[.val (.int mm), .val (.long pp), .second, .val (.long qq), .second, .val (.int ((1 : Int32) + (mm &&& (3 : Int32)))), .val (.int nt), .val (.int zz), .val (.int s0), .val (.int s1), .val (.int s2), .val (.int s3), .val (.int t0), .val (.int t1), .val (.int t2), .val (.int t3), .val (.ref v1), .val (.ref v11), .val (.ref v25), .val (.ref v34), .val (.int 1)] [(.int 1), (.int 1)]))
              refine Gl.st (fun _ kq => XS.icmpYes X54.here hx rfl (pc0 := 232) (pc' := 237) rfl (hb hby at_232) rfl (teq ((by decide) : (1 : Int32) = (1 : Int32))).1 (by decide) (by decide) kq) ?_
              show Gl p.tables e below _ (T54.setTop (mkF m 237 #[.val (.int mm), .val (.long pp), .second, .val (.long qq), .second, .val (.int ((1 : Int32) + (mm &&& (3 : Int32)))), .val (.int nt), .val (.int zz), .val (.int s0), .val (.int s1), .val (.int s2), .val (.int s3), .val (.int t0), .val (.int t1), .val (.int t2), .val (.int t3), .val (.ref v1), .val (.ref v11), .val (.ref v25), .val (.ref v34), .val (.int 1)] []))
              refine Gl.st (fun _ kq => XS.iload X54.here hx rfl (hb hby at_237) rfl kq) ?_
              show Gl p.tables e below _ (T54.setTop (mkF m 239 #[.val (.int mm), .val (.long pp), .second, .val (.long qq), .second, .val (.int ((1 : Int32) + (mm &&& (3 : Int32)))), .val (.int nt), .val (.int zz), .val (.int s0), .val (.int s1), .val (.int s2), .val (.int s3), .val (.int t0), .val (.int t1), .val (.int t2), .val (.int t3), .val (.ref v1), .val (.ref v11), .val (.ref v25), .val (.ref v34), .val (.int 1)] [(.int 1)]))
              refine Gl.st (fun _ kq => XS.ifNo X54.here hx rfl (hb hby at_239) rfl ((if0 _ _).trans (feq ((by decide) : ¬ ((1 : Int32) = (0 : Int32)))).1) kq) ?_
              show Gl p.tables e below _ (T54.setTop (mkF m 242 #[.val (.int mm), .val (.long pp), .second, .val (.long qq), .second, .val (.int ((1 : Int32) + (mm &&& (3 : Int32)))), .val (.int nt), .val (.int zz), .val (.int s0), .val (.int s1), .val (.int s2), .val (.int s3), .val (.int t0), .val (.int t1), .val (.int t2), .val (.int t3), .val (.ref v1), .val (.ref v11), .val (.ref v25), .val (.ref v34), .val (.int 1)] []))
              refine Gl.st (fun _ kq => XS.aload X54.here hx rfl (hb hby at_242) rfl rfl kq) ?_
              show Gl p.tables e below _ (T54.setTop (mkF m 244 #[.val (.int mm), .val (.long pp), .second, .val (.long qq), .second, .val (.int ((1 : Int32) + (mm &&& (3 : Int32)))), .val (.int nt), .val (.int zz), .val (.int s0), .val (.int s1), .val (.int s2), .val (.int s3), .val (.int t0), .val (.int t1), .val (.int t2), .val (.int t3), .val (.ref v1), .val (.ref v11), .val (.ref v25), .val (.ref v34), .val (.int 1)] [(.ref v25)]))
              have f55 : Fld Z T35.heap v1 "java/lang/String" "hash" "I" (.int 0) := (((q5_4.keep K15 nin0).keep K26 nin0).keep K35 nin0)
              have f56 : Fld Z T35.heap v1 "java/lang/String" "hashIsZero" "Z" (.int 0) := (((q5_5.keep K15 nin0).keep K26 nin0).keep K35 nin0)
              obtain ⟨cq57, kq57, q57a, q57b, q57c⟩ := isOf hZ e54 f50
              obtain ⟨_, _, ⟨T57, L57, k57, n57⟩, -, X57, ⟨Lc57, hQ57, l57, y57, z57⟩, st57⟩ := X54.virtualBack hx (y := (⟨"com/example/groupwright/groupwright/core/ShareId", "hashCode", "()I"⟩ : MethodName)) (z := (⟨"com/example/groupwright/groupwright/core/ShareId", "hashCode", "()I"⟩ : MethodName)) hown (mvT hZ (tw hw 111 rfl)) (mvT hZ (tw hw 112 rfl)) (notFace_of_selects (args := #[]) (mvT hZ (tw hw 114 rfl))) (mvT hZ (tw hw 114 rfl)) (mvT hZ (tw hw 113 rfl)) (by decide) (backOf (W := 0) (rm_xhc l Z a0 hw [] (v25) (v1) (v2) (v3) (v4) (G1) T35.heap n0 (Nat.le_trans (Nat.le_trans (Nat.le_trans (Nat.le_trans Z0 K5.1) K15.1) K26.1) K35.1) f48 f38 f40 f39 f41 f55 f56 f46 y5_2 y5_3 y5_1 g6 O2 P5) hZ (tw hw 115 rfl) (tw hw 41 rfl) (by decide) (by decide)) q57a q57c (g := (mkF m 244 #[.val (.int mm), .val (.long pp), .second, .val (.long qq), .second, .val (.int ((1 : Int32) + (mm &&& (3 : Int32)))), .val (.int nt), .val (.int zz), .val (.int s0), .val (.int s1), .val (.int s2), .val (.int s3), .val (.int t0), .val (.int t1), .val (.int t2), .val (.int t3), .val (.ref v1), .val (.ref v11), .val (.ref v25), .val (.ref v34), .val (.int 1)] [(.ref v25)])) rfl (by rw [hml]; rfl) (Steps.refl _) (argsL := []) (rest := []) (lenOf pd___I rfl) rfl (by show 2 * 0 + _ ≤ _; exact Nat.le_of_eq rfl) (hb hby at_244) (fun _ _ => ⟨rfl, e54, (by decide : 8 + 0 ≤ _), (by decide : 26 + 0 ≤ _)⟩)
              dsimp only [Pt.U, Pt.locs, Pt.cells, Pt.slots] at X57 l57 y57 z57 st57 hQ57
              subst l57 y57 z57
              obtain ⟨rfl, N57, K57⟩ := hQ57
              have M57 := Fr.app M54 N57
              refine Gl.to st57 ?_
              show Gl p.tables e below _ (T57.setTop (mkF m 247 #[.val (.int mm), .val (.long pp), .second, .val (.long qq), .second, .val (.int ((1 : Int32) + (mm &&& (3 : Int32)))), .val (.int nt), .val (.int zz), .val (.int s0), .val (.int s1), .val (.int s2), .val (.int s3), .val (.int t0), .val (.int t1), .val (.int t2), .val (.int t3), .val (.ref v1), .val (.ref v11), .val (.ref v25), .val (.ref v34), .val (.int 1)] [(.int (own_hc v4))]))
              show Gl p.tables e below _ (T57.setTop (mkF m 247 #[.val (.int mm), .val (.long pp), .second, .val (.long qq), .second, .val (.int ((1 : Int32) + (mm &&& (3 : Int32)))), .val (.int nt), .val (.int zz), .val (.int s0), .val (.int s1), .val (.int s2), .val (.int s3), .val (.int t0), .val (.int t1), .val (.int t2), .val (.int t3), .val (.ref v1), .val (.ref v11), .val (.ref v25), .val (.ref v34), .val (.int 1)] [(.int (own_hc v4))]))
              refine Gl.st (fun _ kq => XS.aload X57.here hx rfl (hb hby at_247) rfl rfl kq) ?_
              show Gl p.tables e below _ (T57.setTop (mkF m 249 #[.val (.int mm), .val (.long pp), .second, .val (.long qq), .second, .val (.int ((1 : Int32) + (mm &&& (3 : Int32)))), .val (.int nt), .val (.int zz), .val (.int s0), .val (.int s1), .val (.int s2), .val (.int s3), .val (.int t0), .val (.int t1), .val (.int t2), .val (.int t3), .val (.ref v1), .val (.ref v11), .val (.ref v25), .val (.ref v34), .val (.int 1)] [(.ref v34), (.int (own_hc v4))]))
              have ne58 : v34 ≠ v1 := Ne.symm (Nat.ne_of_lt (Nat.lt_of_lt_of_le (Nat.lt_of_lt_of_le (Nat.lt_of_lt_of_le q5_0.lt K15.1) K26.1) y35_0))
              have f59 : Fld Z T57.heap v34 "com/example/groupwright/groupwright/core/ShareId" "value" "Ljava/lang/String;" (.ref v11) := (q35_1.keep K57 (ninS ne58 nin0))
              have f60 : Exa Z T57.heap v11 "java/lang/String" := (f42.keep K57)
              have ne61 : v11 ≠ v1 := Ne.symm (Nat.ne_of_lt (Nat.lt_of_lt_of_le q5_0.lt y15_4))
              have f62 : Fld Z T57.heap v11 "java/lang/String" "coder" "B" (.int 0) := (f44.keep K57 (ninS ne61 nin0))
              have f63 : Fld Z T57.heap v11 "java/lang/String" "value" "[B" (.ref v12) := (f43.keep K57 (ninS ne61 nin0))
              have ne64 : v12 ≠ v1 := Ne.symm (Nat.ne_of_lt (Nat.lt_of_lt_of_le q5_0.lt y15_5))
              have f65 : Arv Z T57.heap v12 v13 .byte (Int32.ofNat v14.length) ((v14.map (fun c => c.toInt8.toInt32)).map Value.int) (.int 0) := (f45.keep K57 (ninS ne64 nin0))
              have f66 : Fld Z T57.heap v11 "java/lang/String" "hash" "I" (.int 0) := (((q15_4.keep K26 nin0).keep K35 nin0).keep K57 (ninS ne61 nin0))
              have f67 : Fld Z T57.heap v11 "java/lang/String" "hashIsZero" "Z" (.int 0) := (((q15_5.keep K26 nin0).keep K35 nin0).keep K57 (ninS ne61 nin0))
              have f68 : Old Z n0 T57.heap := (f46.keep K57 (allS g6 all0))
              have f70 : Exa Z T57.heap v34 "com/example/groupwright/groupwright/core/ShareId" := (q35_0.keep K57)
              obtain ⟨cq69, kq69, q69a, q69b, q69c⟩ := isOf hZ rfl f70
              obtain ⟨_, _, ⟨T69, L69, k69, n69⟩, -, X69, ⟨Lc69, hQ69, l69, y69, z69⟩, st69⟩ := X57.virtualBack hx (y := (⟨"com/example/groupwright/groupwright/core/ShareId", "hashCode", "()I"⟩ : MethodName)) (z := (⟨"com/example/groupwright/groupwright/core/ShareId", "hashCode", "()I"⟩ : MethodName)) hown (mvT hZ (tw hw 111 rfl)) (mvT hZ (tw hw 112 rfl)) (notFace_of_selects (args := #[]) (mvT hZ (tw hw 114 rfl))) (mvT hZ (tw hw 114 rfl)) (mvT hZ (tw hw 113 rfl)) (by decide) (backOf (W := 1) (rm_xhc l Z a0 hw [] (v34) (v11) (v12) (v13) (v14) (G1) T57.heap n0 (Nat.le_trans (Nat.le_trans (Nat.le_trans (Nat.le_trans (Nat.le_trans Z0 K5.1) K15.1) K26.1) K35.1) K57.1) f59 f60 f62 f63 f65 f66 f67 f68 y15_2 y15_3 y15_1 g16 O2 P5) hZ (tw hw 115 rfl) (tw hw 41 rfl) (by decide) (by decide)) q69a q69c (g := (mkF m 249 #[.val (.int mm), .val (.long pp), .second, .val (.long qq), .second, .val (.int ((1 : Int32) + (mm &&& (3 : Int32)))), .val (.int nt), .val (.int zz), .val (.int s0), .val (.int s1), .val (.int s2), .val (.int s3), .val (.int t0), .val (.int t1), .val (.int t2), .val (.int t3), .val (.ref v1), .val (.ref v11), .val (.ref v25), .val (.ref v34), .val (.int 1)] [(.ref v34), (.int (own_hc v4))])) rfl (by rw [hml]; rfl) (Steps.refl _) (argsL := []) (rest := [(.int (own_hc v4))]) (lenOf pd___I rfl) rfl (by show 2 * 0 + _ ≤ _; exact Nat.le_of_eq rfl) (hb hby at_249) (fun _ _ => ⟨rfl, rfl, (by decide : 8 + 0 ≤ _), (by decide : 26 + 0 ≤ _)⟩)
              dsimp only [Pt.U, Pt.locs, Pt.cells, Pt.slots] at X69 l69 y69 z69 st69 hQ69
              subst l69 y69 z69
              obtain ⟨rfl, N69, K69⟩ := hQ69
              have M69 := Fr.app M57 N69
              refine Gl.to st69 ?_
              show Gl p.tables e below _ (T69.setTop (mkF m 252 #[.val (.int mm), .val (.long pp), .second, .val (.long qq), .second, .val (.int ((1 : Int32) + (mm &&& (3 : Int32)))), .val (.int nt), .val (.int zz), .val (.int s0), .val (.int s1), .val (.int s2), .val (.int s3), .val (.int t0), .val (.int t1), .val (.int t2), .val (.int t3), .val (.ref v1), .val (.ref v11), .val (.ref v25), .val (.ref v34), .val (.int 1)] [(.int (own_hc v14)), (.int (own_hc v4))]))
              show Gl p.tables e below _ (T69.setTop (mkF m 252 #[.val (.int mm), .val (.long pp), .second, .val (.long qq), .second, .val (.int ((1 : Int32) + (mm &&& (3 : Int32)))), .val (.int nt), .val (.int zz), .val (.int s0), .val (.int s1), .val (.int s2), .val (.int s3), .val (.int t0), .val (.int t1), .val (.int t2), .val (.int t3), .val (.ref v1), .val (.ref v11), .val (.ref v25), .val (.ref v34), .val (.int 1)] [(.int (own_hc v14)), (.int (own_hc v4))]))
              refine Gl.st (fun _ kq => XS.icmpYes X69.here hx rfl (pc0 := 252) (pc' := 257) rfl (hb hby at_252) rfl (teq ((congrArg own_hc y47_0) : (own_hc v4) = (own_hc v14))).1 (by decide) (by decide) kq) ?_
              show Gl p.tables e below _ (T69.setTop (mkF m 257 #[.val (.int mm), .val (.long pp), .second, .val (.long qq), .second, .val (.int ((1 : Int32) + (mm &&& (3 : Int32)))), .val (.int nt), .val (.int zz), .val (.int s0), .val (.int s1), .val (.int s2), .val (.int s3), .val (.int t0), .val (.int t1), .val (.int t2), .val (.int t3), .val (.ref v1), .val (.ref v11), .val (.ref v25), .val (.ref v34), .val (.int 1)] []))
              refine Gl.st (fun _ kq => XS.aload X69.here hx rfl (hb hby at_257) rfl rfl kq) ?_
              show Gl p.tables e below _ (T69.setTop (mkF m 259 #[.val (.int mm), .val (.long pp), .second, .val (.long qq), .second, .val (.int ((1 : Int32) + (mm &&& (3 : Int32)))), .val (.int nt), .val (.int zz), .val (.int s0), .val (.int s1), .val (.int s2), .val (.int s3), .val (.int t0), .val (.int t1), .val (.int t2), .val (.int t3), .val (.ref v1), .val (.ref v11), .val (.ref v25), .val (.ref v34), .val (.int 1)] [(.ref v25)]))
              refine Gl.st (fun _ kq => XS.aload X69.here hx rfl (hb hby at_259) rfl rfl kq) ?_
              show Gl p.tables e below _ (T69.setTop (mkF m 261 #[.val (.int mm), .val (.long pp), .second, .val (.long qq), .second, .val (.int ((1 : Int32) + (mm &&& (3 : Int32)))), .val (.int nt), .val (.int zz), .val (.int s0), .val (.int s1), .val (.int s2), .val (.int s3), .val (.int t0), .val (.int t1), .val (.int t2), .val (.int t3), .val (.ref v1), .val (.ref v11), .val (.ref v25), .val (.ref v34), .val (.int 1)] [(.ref v1), (.ref v25)]))
              have f71 : Exa Z T69.heap v1 "java/lang/String" := ((f38.keep K57).keep K69)
              have f73 : Exa Z T69.heap v25 "com/example/groupwright/groupwright/core/ShareId" := ((f50.keep K57).keep K69)
              obtain ⟨cq72, kq72, q72a, q72b, q72c⟩ := isOf hZ rfl f73
              obtain ⟨_, _, ⟨T72, L72, k72, n72⟩, -, X72, ⟨Lc72, hQ72, l72, y72, z72⟩, st72⟩ := X69.virtualBack hx (y := (⟨"com/example/groupwright/groupwright/core/ShareId", "equals", "(Ljava/lang/Object;)Z"⟩ : MethodName)) (z := (⟨"com/example/groupwright/groupwright/core/ShareId", "equals", "(Ljava/lang/Object;)Z"⟩ : MethodName)) hown (mvT hZ (tw hw 102 rfl)) (mvT hZ (tw hw 103 rfl)) (notFace_of_selects (args := #[]) (mvT hZ (tw hw 105 rfl))) (mvT hZ (tw hw 105 rfl)) (mvT hZ (tw hw 104 rfl)) (by decide) (backOf (W := 0) (rm_eqs l Z a0 hw [] (v25) (v1) T69.heap n0 (Nat.le_trans (Nat.le_trans (Nat.le_trans (Nat.le_trans (Nat.le_trans (Nat.le_trans Z0 K5.1) K15.1) K26.1) K35.1) K57.1) K69.1) f71) hZ (tw hw 106 rfl) (tw hw 41 rfl) (by decide) (by decide)) q72a q72c (g := (mkF m 261 #[.val (.int mm), .val (.long pp), .second, .val (.long qq), .second, .val (.int ((1 : Int32) + (mm &&& (3 : Int32)))), .val (.int nt), .val (.int zz), .val (.int s0), .val (.int s1), .val (.int s2), .val (.int s3), .val (.int t0), .val (.int t1), .val (.int t2), .val (.int t3), .val (.ref v1), .val (.ref v11), .val (.ref v25), .val (.ref v34), .val (.int 1)] [(.ref v1), (.ref v25)])) rfl (by rw [hml]; rfl) (Steps.refl _) (argsL := [(.ref v1)]) (rest := []) (lenOf pd__Ljava_lang_Object__Z rfl) rfl (by show 2 * 0 + _ ≤ _; exact Nat.le_of_eq rfl) (hb hby at_261) (fun _ _ => ⟨rfl, rfl, (by decide : 8 + 0 ≤ _), (by decide : 26 + 0 ≤ _)⟩)
              dsimp only [Pt.U, Pt.locs, Pt.cells, Pt.slots] at X72 l72 y72 z72 st72 hQ72
              subst l72 y72 z72
              obtain ⟨rfl, N72, e72⟩ := hQ72
              have M72 := Fr.app M69 N72
              refine Gl.to st72 ?_
              show Gl p.tables e below _ (T72.setTop (mkF m 264 #[.val (.int mm), .val (.long pp), .second, .val (.long qq), .second, .val (.int ((1 : Int32) + (mm &&& (3 : Int32)))), .val (.int nt), .val (.int zz), .val (.int s0), .val (.int s1), .val (.int s2), .val (.int s3), .val (.int t0), .val (.int t1), .val (.int t2), .val (.int t3), .val (.ref v1), .val (.ref v11), .val (.ref v25), .val (.ref v34), .val (.int 1)] [(.int 0)]))
              show Gl p.tables e below _ (T72.setTop (mkF m 264 #[.val (.int mm), .val (.long pp), .second, .val (.long qq), .second, .val (.int ((1 : Int32) + (mm &&& (3 : Int32)))), .val (.int nt), .val (.int zz), .val (.int s0), .val (.int s1), .val (.int s2), .val (.int s3), .val (.int t0), .val (.int t1), .val (.int t2), .val (.int t3), .val (.ref v1), .val (.ref v11), .val (.ref v25), .val (.ref v34), .val (.int 1)] [(.int 0)]))
              refine Gl.st (fun _ kq => XS.ifNo X72.here hx rfl (hb hby at_264) rfl ((if0 _ _).trans (teq ((by decide) : (0 : Int32) = (0 : Int32))).2) kq) ?_
              show Gl p.tables e below _ (T72.setTop (mkF m 267 #[.val (.int mm), .val (.long pp), .second, .val (.long qq), .second, .val (.int ((1 : Int32) + (mm &&& (3 : Int32)))), .val (.int nt), .val (.int zz), .val (.int s0), .val (.int s1), .val (.int s2), .val (.int s3), .val (.int t0), .val (.int t1), .val (.int t2), .val (.int t3), .val (.ref v1), .val (.ref v11), .val (.ref v25), .val (.ref v34), .val (.int 1)] []))
              refine Gl.st (fun _ kq => XS.iconst X72.here hx rfl (hb hby at_267) kq) ?_
              show Gl p.tables e below _ (T72.setTop (mkF m 268 #[.val (.int mm), .val (.long pp), .second, .val (.long qq), .second, .val (.int ((1 : Int32) + (mm &&& (3 : Int32)))), .val (.int nt), .val (.int zz), .val (.int s0), .val (.int s1), .val (.int s2), .val (.int s3), .val (.int t0), .val (.int t1), .val (.int t2), .val (.int t3), .val (.ref v1), .val (.ref v11), .val (.ref v25), .val (.ref v34), .val (.int 1)] [(.int 1)]))
              refine Gl.st (fun _ kq => XS.goto X72.here hx rfl (pc0 := 268) (pc' := 272) rfl (hb hby at_268) (by decide) (by decide) kq) ?_
              show Gl p.tables e below _ (T72.setTop (mkF m 272 #[.val (.int mm), .val (.long pp), .second, .val (.long qq), .second, .val (.int ((1 : Int32) + (mm &&& (3 : Int32)))), .val (.int nt), .val (.int zz), .val (.int s0), .val (.int s1), .val (.int s2), .val (.int s3), .val (.int t0), .val (.int t1), .val (.int t2), .val (.int t3), .val (.ref v1), .val (.ref v11), .val (.ref v25), .val (.ref v34), .val (.int 1)] [(.int 1)]))
              exact Gl.retN X72 hx (t := .boolean) Bd.returns (by simp) (hb hby at_272) hlk (by decide) (by decide) (by rw [e72]; exact ⟨rfl, M72⟩)
            · exact absurd y47_0.symm y54_0
          · exact absurd rfl y53_0
        · exact absurd rfl y51_0
      · have N47 : Fr n0 ([] : List Loc) := Fr.nil n0
        have M47 := Fr.app M35 N47
        refine Gl.to st47 ?_
        show Gl p.tables e below _ (T47.setTop (mkF m 191 #[.val (.int mm), .val (.long pp), .second, .val (.long qq), .second, .val (.int ((1 : Int32) + (mm &&& (3 : Int32)))), .val (.int nt), .val (.int zz), .val (.int s0), .val (.int s1), .val (.int s2), .val (.int s3), .val (.int t0), .val (.int t1), .val (.int t2), .val (.int t3), .val (.ref v1), .val (.ref v11), .val (.ref v25), .val (.ref v34), .unset] [(.int 0)]))
        refine Gl.st (fun _ kq => XS.istore X47.here hx rfl (hb hby at_191) rfl (l' := #[.val (.int mm), .val (.long pp), .second, .val (.long qq), .second, .val (.int ((1 : Int32) + (mm &&& (3 : Int32)))), .val (.int nt), .val (.int zz), .val (.int s0), .val (.int s1), .val (.int s2), .val (.int s3), .val (.int t0), .val (.int t1), .val (.int t2), .val (.int t3), .val (.ref v1), .val (.ref v11), .val (.ref v25), .val (.ref v34), .val (.int 0)]) rfl kq) ?_
        show Gl p.tables e below _ (T47.setTop (mkF m 193 #[.val (.int mm), .val (.long pp), .second, .val (.long qq), .second, .val (.int ((1 : Int32) + (mm &&& (3 : Int32)))), .val (.int nt), .val (.int zz), .val (.int s0), .val (.int s1), .val (.int s2), .val (.int s3), .val (.int t0), .val (.int t1), .val (.int t2), .val (.int t3), .val (.ref v1), .val (.ref v11), .val (.ref v25), .val (.ref v34), .val (.int 0)] []))
        refine Gl.st (fun _ kq => XS.aload X47.here hx rfl (hb hby at_193) rfl rfl kq) ?_
        show Gl p.tables e below _ (T47.setTop (mkF m 195 #[.val (.int mm), .val (.long pp), .second, .val (.long qq), .second, .val (.int ((1 : Int32) + (mm &&& (3 : Int32)))), .val (.int nt), .val (.int zz), .val (.int s0), .val (.int s1), .val (.int s2), .val (.int s3), .val (.int t0), .val (.int t1), .val (.int t2), .val (.int t3), .val (.ref v1), .val (.ref v11), .val (.ref v25), .val (.ref v34), .val (.int 0)] [(.ref v1)]))
        refine Gl.st (fun _ kq => XS.aload X47.here hx rfl (hb hby at_195) rfl rfl kq) ?_
        show Gl p.tables e below _ (T47.setTop (mkF m 197 #[.val (.int mm), .val (.long pp), .second, .val (.long qq), .second, .val (.int ((1 : Int32) + (mm &&& (3 : Int32)))), .val (.int nt), .val (.int zz), .val (.int s0), .val (.int s1), .val (.int s2), .val (.int s3), .val (.int t0), .val (.int t1), .val (.int t2), .val (.int t3), .val (.ref v1), .val (.ref v11), .val (.ref v25), .val (.ref v34), .val (.int 0)] [(.ref v25), (.ref v1)]))
        have f74 : Fld Z T35.heap v25 "com/example/groupwright/groupwright/core/ShareId" "value" "Ljava/lang/String;" (.ref v1) := (q26_1.keep K35 nin0)
        have f76 : Exa Z T35.heap v25 "com/example/groupwright/groupwright/core/ShareId" := (q26_0.keep K35)
        obtain ⟨cq75, kq75, q75a, q75b, q75c⟩ := isOf hZ e47 f76
        obtain ⟨_, _, ⟨T75, L75, k75, n75⟩, -, X75, ⟨Lc75, hQ75, l75, y75, z75⟩, st75⟩ := X47.virtualBack hx (y := (⟨"com/example/groupwright/groupwright/core/ShareId", "toString", "()Ljava/lang/String;"⟩ : MethodName)) (z := (⟨"com/example/groupwright/groupwright/core/ShareId", "toString", "()Ljava/lang/String;"⟩ : MethodName)) hown (mvT hZ (tw hw 97 rfl)) (mvT hZ (tw hw 98 rfl)) (notFace_of_selects (args := #[]) (mvT hZ (tw hw 100 rfl))) (mvT hZ (tw hw 100 rfl)) (mvT hZ (tw hw 99 rfl)) (by decide) (backOf (W := 1) (rm_ts l Z a0 hw [] (v25) (v1) T35.heap n0 (Nat.le_trans (Nat.le_trans (Nat.le_trans (Nat.le_trans Z0 K5.1) K15.1) K26.1) K35.1) f74) hZ (tw hw 101 rfl) (tw hw 41 rfl) (by decide) (by decide)) q75a q75c (g := (mkF m 197 #[.val (.int mm), .val (.long pp), .second, .val (.long qq), .second, .val (.int ((1 : Int32) + (mm &&& (3 : Int32)))), .val (.int nt), .val (.int zz), .val (.int s0), .val (.int s1), .val (.int s2), .val (.int s3), .val (.int t0), .val (.int t1), .val (.int t2), .val (.int t3), .val (.ref v1), .val (.ref v11), .val (.ref v25), .val (.ref v34), .val (.int 0)] [(.ref v25), (.ref v1)])) rfl (by rw [hml]; rfl) (Steps.refl _) (argsL := []) (rest := [(.ref v1)]) (lenOf pd___Ljava_lang_String_ rfl) rfl (by show 2 * 0 + _ ≤ _; exact Nat.le_of_eq rfl) (hb hby at_197) (fun _ _ => ⟨rfl, e47, (by decide : 8 + 0 ≤ _), (by decide : 26 + 0 ≤ _)⟩)
        dsimp only [Pt.U, Pt.locs, Pt.cells, Pt.slots] at X75 l75 y75 z75 st75 hQ75
        subst l75 y75 z75
        obtain ⟨rfl, N75, e75⟩ := hQ75
        have M75 := Fr.app M47 N75
        refine Gl.to st75 ?_
        show Gl p.tables e below _ (T75.setTop (mkF m 200 #[.val (.int mm), .val (.long pp), .second, .val (.long qq), .second, .val (.int ((1 : Int32) + (mm &&& (3 : Int32)))), .val (.int nt), .val (.int zz), .val (.int s0), .val (.int s1), .val (.int s2), .val (.int s3), .val (.int t0), .val (.int t1), .val (.int t2), .val (.int t3), .val (.ref v1), .val (.ref v11), .val (.ref v25), .val (.ref v34), .val (.int 0)] [(.ref v1), (.ref v1)]))
        show Gl p.tables e below _ (T75.setTop (mkF m 200 #[.val (.int mm), .val (.long pp), .second, .val (.long qq), .second, .val (.int ((1 : Int32) + (mm &&& (3 : Int32)))), .val (.int nt), .val (.int zz), .val (.int s0), .val (.int s1), .val (.int s2), .val (.int s3), .val (.int t0), .val (.int t1), .val (.int t2), .val (.int t3), .val (.ref v1), .val (.ref v11), .val (.ref v25), .val (.ref v34), .val (.int 0)] [(.ref v1), (.ref v1)]))
        obtain ⟨cq77, kq77, q77a, q77b, q77c⟩ := isOf hZ e75 f38
        obtain ⟨_, _, ⟨T77, L77, k77, n77⟩, -, X77, ⟨Lc77, hQ77, l77, y77, z77⟩, st77⟩ := X75.virtualBack hx (y := (⟨"java/lang/String", "equals", "(Ljava/lang/Object;)Z"⟩ : MethodName)) (z := (⟨"java/lang/String", "equals", "(Ljava/lang/Object;)Z"⟩ : MethodName)) hown (mvT hZ (tw hw 88 rfl)) (mvT hZ (tw hw 89 rfl)) (notFace_of_selects (args := #[]) (mvT hZ (tw hw 91 rfl))) (mvT hZ (tw hw 91 rfl)) (mvT hZ (tw hw 90 rfl)) (by decide) (StrChars.Road.eqW (W := 0) hZ (wdEq hw) (kI := 4) (tw hw 10 rfl) f38 f39 f40 f41 (StrChars.Road.codOf (cs := v4) rfl (fun x hx => ((fun c hc => cc_rng (y5_0 c hc)) x hx).2)) (up255 _ (fun c hc => cc_rng (y5_0 c hc))) (Nat.le_trans y5_2 (by decide)) f38 f39 f40 f41 (StrChars.Road.codOf (cs := v4) rfl (fun x hx => ((fun c hc => cc_rng (y5_0 c hc)) x hx).2)) (up255 _ (fun c hc => cc_rng (y5_0 c hc))) (Nat.le_trans y5_2 (by decide)) (O2.ext f46.2) P5 (by decide) (by decide)) q77a q77c (g := (mkF m 200 #[.val (.int mm), .val (.long pp), .second, .val (.long qq), .second, .val (.int ((1 : Int32) + (mm &&& (3 : Int32)))), .val (.int nt), .val (.int zz), .val (.int s0), .val (.int s1), .val (.int s2), .val (.int s3), .val (.int t0), .val (.int t1), .val (.int t2), .val (.int t3), .val (.ref v1), .val (.ref v11), .val (.ref v25), .val (.ref v34), .val (.int 0)] [(.ref v1), (.ref v1)])) rfl (by rw [hml]; rfl) (Steps.refl _) (argsL := [(.ref v1)]) (rest := []) (lenOf pd__Ljava_lang_Object__Z rfl) rfl (by show 2 * 0 + _ ≤ _; exact Nat.le_of_eq rfl) (hb hby at_200) (fun _ _ => ⟨rfl, e75, (by decide : 8 + 0 ≤ _), (by decide : 26 + 0 ≤ _)⟩)
        dsimp only [Pt.U, Pt.locs, Pt.cells, Pt.slots] at X77 l77 y77 z77 st77 hQ77
        subst l77 y77 z77
        obtain ⟨⟨rfl, y77_0⟩ | ⟨rfl, y77_0⟩, rfl, e77⟩ := hQ77
        · have N77 : Fr n0 ([] : List Loc) := Fr.nil n0
          have M77 := Fr.app M75 N77
          refine Gl.to st77 ?_
          show Gl p.tables e below _ (T77.setTop (mkF m 203 #[.val (.int mm), .val (.long pp), .second, .val (.long qq), .second, .val (.int ((1 : Int32) + (mm &&& (3 : Int32)))), .val (.int nt), .val (.int zz), .val (.int s0), .val (.int s1), .val (.int s2), .val (.int s3), .val (.int t0), .val (.int t1), .val (.int t2), .val (.int t3), .val (.ref v1), .val (.ref v11), .val (.ref v25), .val (.ref v34), .val (.int 0)] [(.int 1)]))
          refine Gl.st (fun _ kq => XS.ifYes X77.here hx rfl (pc0 := 203) (pc' := 208) rfl (hb hby at_203) rfl ((if0 _ _).trans (feq ((by decide) : ¬ ((1 : Int32) = (0 : Int32)))).2) (by decide) (by decide) kq) ?_
          show Gl p.tables e below _ (T77.setTop (mkF m 208 #[.val (.int mm), .val (.long pp), .second, .val (.long qq), .second, .val (.int ((1 : Int32) + (mm &&& (3 : Int32)))), .val (.int nt), .val (.int zz), .val (.int s0), .val (.int s1), .val (.int s2), .val (.int s3), .val (.int t0), .val (.int t1), .val (.int t2), .val (.int t3), .val (.ref v1), .val (.ref v11), .val (.ref v25), .val (.ref v34), .val (.int 0)] []))
          refine Gl.st (fun _ kq => XS.aload X77.here hx rfl (hb hby at_208) rfl rfl kq) ?_
          show Gl p.tables e below _ (T77.setTop (mkF m 210 #[.val (.int mm), .val (.long pp), .second, .val (.long qq), .second, .val (.int ((1 : Int32) + (mm &&& (3 : Int32)))), .val (.int nt), .val (.int zz), .val (.int s0), .val (.int s1), .val (.int s2), .val (.int s3), .val (.int t0), .val (.int t1), .val (.int t2), .val (.int t3), .val (.ref v1), .val (.ref v11), .val (.ref v25), .val (.ref v34), .val (.int 0)] [(.ref v11)]))
          refine Gl.st (fun _ kq => XS.aload X77.here hx rfl (hb hby at_210) rfl rfl kq) ?_
          show Gl p.tables e below _ (T77.setTop (mkF m 212 #[.val (.int mm), .val (.long pp), .second, .val (.long qq), .second, .val (.int ((1 : Int32) + (mm &&& (3 : Int32)))), .val (.int nt), .val (.int zz), .val (.int s0), .val (.int s1), .val (.int s2), .val (.int s3), .val (.int t0), .val (.int t1), .val (.int t2), .val (.int t3), .val (.ref v1), .val (.ref v11), .val (.ref v25), .val (.ref v34), .val (.int 0)] [(.ref v34), (.ref v11)]))
          obtain ⟨cq78, kq78, q78a, q78b, q78c⟩ := isOf hZ e77 q35_0
          obtain ⟨_, _, ⟨T78, L78, k78, n78⟩, -, X78, ⟨Lc78, hQ78, l78, y78, z78⟩, st78⟩ := X77.virtualBack hx (y := (⟨"com/example/groupwright/groupwright/core/ShareId", "toString", "()Ljava/lang/String;"⟩ : MethodName)) (z := (⟨"com/example/groupwright/groupwright/core/ShareId", "toString", "()Ljava/lang/String;"⟩ : MethodName)) hown (mvT hZ (tw hw 97 rfl)) (mvT hZ (tw hw 98 rfl)) (notFace_of_selects (args := #[]) (mvT hZ (tw hw 100 rfl))) (mvT hZ (tw hw 100 rfl)) (mvT hZ (tw hw 99 rfl)) (by decide) (backOf (W := 1) (rm_ts l Z a0 hw [] (v34) (v11) T35.heap n0 (Nat.le_trans (Nat.le_trans (Nat.le_trans (Nat.le_trans Z0 K5.1) K15.1) K26.1) K35.1) q35_1) hZ (tw hw 101 rfl) (tw hw 41 rfl) (by decide) (by decide)) q78a q78c (g := (mkF m 212 #[.val (.int mm), .val (.long pp), .second, .val (.long qq), .second, .val (.int ((1 : Int32) + (mm &&& (3 : Int32)))), .val (.int nt), .val (.int zz), .val (.int s0), .val (.int s1), .val (.int s2), .val (.int s3), .val (.int t0), .val (.int t1), .val (.int t2), .val (.int t3), .val (.ref v1), .val (.ref v11), .val (.ref v25), .val (.ref v34), .val (.int 0)] [(.ref v34), (.ref v11)])) rfl (by rw [hml]; rfl) (Steps.refl _) (argsL := []) (rest := [(.ref v11)]) (lenOf pd___Ljava_lang_String_ rfl) rfl (by show 2 * 0 + _ ≤ _; exact Nat.le_of_eq rfl) (hb hby at_212) (fun _ _ => ⟨rfl, e77, (by decide : 8 + 0 ≤ _), (by decide : 26 + 0 ≤ _)⟩)
          dsimp only [Pt.U, Pt.locs, Pt.cells, Pt.slots] at X78 l78 y78 z78 st78 hQ78
          subst l78 y78 z78
          obtain ⟨rfl, N78, e78⟩ := hQ78
          have M78 := Fr.app M77 N78
          refine Gl.to st78 ?_
          show Gl p.tables e below _ (T78.setTop (mkF m 215 #[.val (.int mm), .val (.long pp), .second, .val (.long qq), .second, .val (.int ((1 : Int32) + (mm &&& (3 : Int32)))), .val (.int nt), .val (.int zz), .val (.int s0), .val (.int s1), .val (.int s2), .val (.int s3), .val (.int t0), .val (.int t1), .val (.int t2), .val (.int t3), .val (.ref v1), .val (.ref v11), .val (.ref v25), .val (.ref v34), .val (.int 0)] [(.ref v11), (.ref v11)]))
          show Gl p.tables e below _ (T78.setTop (mkF m 215 #[.val (.int mm), .val (.long pp), .second, .val (.long qq), .second, .val (.int ((1 : Int32) + (mm &&& (3 : Int32)))), .val (.int nt), .val (.int zz), .val (.int s0), .val (.int s1), .val (.int s2), .val (.int s3), .val (.int t0), .val (.int t1), .val (.int t2), .val (.int t3), .val (.ref v1), .val (.ref v11), .val (.ref v25), .val (.ref v34), .val (.int 0)] [(.ref v11), (.ref v11)]))
          obtain ⟨cq79, kq79, q79a, q79b, q79c⟩ := isOf hZ e78 f42
          obtain ⟨_, _, ⟨T79, L79, k79, n79⟩, -, X79, ⟨Lc79, hQ79, l79, y79, z79⟩, st79⟩ := X78.virtualBack hx (y := (⟨"java/lang/String", "equals", "(Ljava/lang/Object;)Z"⟩ : MethodName)) (z := (⟨"java/lang/String", "equals", "(Ljava/lang/Object;)Z"⟩ : MethodName)) hown (mvT hZ (tw hw 88 rfl)) (mvT hZ (tw hw 89 rfl)) (notFace_of_selects (args := #[]) (mvT hZ (tw hw 91 rfl))) (mvT hZ (tw hw 91 rfl)) (mvT hZ (tw hw 90 rfl)) (by decide) (StrChars.Road.eqW (W := 0) hZ (wdEq hw) (kI := 4) (tw hw 10 rfl) f42 f43 f44 f45 (StrChars.Road.codOf (cs := v14) rfl (fun x hx => ((fun c hc => cc_rng (y15_0 c hc)) x hx).2)) (up255 _ (fun c hc => cc_rng (y15_0 c hc))) (Nat.le_trans y15_2 (by decide)) f42 f43 f44 f45 (StrChars.Road.codOf (cs := v14) rfl (fun x hx => ((fun c hc => cc_rng (y15_0 c hc)) x hx).2)) (up255 _ (fun c hc => cc_rng (y15_0 c hc))) (Nat.le_trans y15_2 (by decide)) (O2.ext f46.2) P5 (by decide) (by decide)) q79a q79c (g := (mkF m 215 #[.val (.int mm), .val (.long pp), .second, .val (.long qq), .second, .val (.int ((1 : Int32) + (mm &&& (3 : Int32)))), .val (.int nt), .val (.int zz), .val (.int s0), .val (.int s1), .val (.int s2), .val (.int s3), .val (.int t0), .val (.int t1), .val (.int t2), .val (.int t3), .val (.ref v1), .val (.ref v11), .val (.ref v25), .val (.ref v34), .val (.int 0)] [(.ref v11), (.ref v11)])) rfl (by rw [hml]; rfl) (Steps.refl _) (argsL := [(.ref v11)]) (rest := []) (lenOf pd__Ljava_lang_Object__Z rfl) rfl (by show 2 * 0 + _ ≤ _; exact Nat.le_of_eq rfl) (hb hby at_215) (fun _ _ => ⟨rfl, e78, (by decide : 8 + 0 ≤ _), (by decide : 26 + 0 ≤ _)⟩)
          dsimp only [Pt.U, Pt.locs, Pt.cells, Pt.slots] at X79 l79 y79 z79 st79 hQ79
          subst l79 y79 z79
          obtain ⟨⟨rfl, y79_0⟩ | ⟨rfl, y79_0⟩, rfl, e79⟩ := hQ79
          · have N79 : Fr n0 ([] : List Loc) := Fr.nil n0
            have M79 := Fr.app M78 N79
            refine Gl.to st79 ?_
            show Gl p.tables e below _ (T79.setTop (mkF m 218 #[.val (.int mm), .val (.long pp), .second, .val (.long qq), .second, .val (.int ((1 : Int32) + (mm &&& (3 : Int32)))), .val (.int nt), .val (.int zz), .val (.int s0), .val (.int s1), .val (.int s2), .val (.int s3), .val (.int t0), .val (.int t1), .val (.int t2), .val (.int t3), .val (.ref v1), .val (.ref v11), .val (.ref v25), .val (.ref v34), .val (.int 0)] [(.int 1)]))
            refine Gl.st (fun _ kq => XS.ifYes X79.here hx rfl (pc0 := 218) (pc' := 223) rfl (hb hby at_218) rfl ((if0 _ _).trans (feq ((by decide) : ¬ ((1 : Int32) = (0 : Int32)))).2) (by decide) (by decide) kq) ?_
            show Gl p.tables e below _ (T79.setTop (mkF m 223 #[.val (.int mm), .val (.long pp), .second, .val (.long qq), .second, .val (.int ((1 : Int32) + (mm &&& (3 : Int32)))), .val (.int nt), .val (.int zz), .val (.int s0), .val (.int s1), .val (.int s2), .val (.int s3), .val (.int t0), .val (.int t1), .val (.int t2), .val (.int t3), .val (.ref v1), .val (.ref v11), .val (.ref v25), .val (.ref v34), .val (.int 0)] []))
            refine Gl.st (fun _ kq => XS.aload X79.here hx rfl (hb hby at_223) rfl rfl kq) ?_
            show Gl p.tables e below _ (T79.setTop (mkF m 225 #[.val (.int mm), .val (.long pp), .second, .val (.long qq), .second, .val (.int ((1 : Int32) + (mm &&& (3 : Int32)))), .val (.int nt), .val (.int zz), .val (.int s0), .val (.int s1), .val (.int s2), .val (.int s3), .val (.int t0), .val (.int t1), .val (.int t2), .val (.int t3), .val (.ref v1), .val (.ref v11), .val (.ref v25), .val (.ref v34), .val (.int 0)] [(.ref v25)]))
            refine Gl.st (fun _ kq => XS.aload X79.here hx rfl (hb hby at_225) rfl rfl kq) ?_
            show Gl p.tables e below _ (T79.setTop (mkF m 227 #[.val (.int mm), .val (.long pp), .second, .val (.long qq), .second, .val (.int ((1 : Int32) + (mm &&& (3 : Int32)))), .val (.int nt), .val (.int zz), .val (.int s0), .val (.int s1), .val (.int s2), .val (.int s3), .val (.int t0), .val (.int t1), .val (.int t2), .val (.int t3), .val (.ref v1), .val (.ref v11), .val (.ref v25), .val (.ref v34), .val (.int 0)] [(.ref v34), (.ref v25)]))
            obtain ⟨cq80, kq80, q80a, q80b, q80c⟩ := isOf hZ e79 f76
            obtain ⟨_, _, ⟨T80, L80, k80, n80⟩, -, X80, ⟨Lc80, hQ80, l80, y80, z80⟩, st80⟩ := X79.virtualBack hx (y := (⟨"com/example/groupwright/groupwright/core/ShareId", "equals", "(Ljava/lang/Object;)Z"⟩ : MethodName)) (z := (⟨"com/example/groupwright/groupwright/core/ShareId", "equals", "(Ljava/lang/Object;)Z"⟩ : MethodName)) hown (mvT hZ (tw hw 102 rfl)) (mvT hZ (tw hw 103 rfl)) (notFace_of_selects (args := #[]) (mvT hZ (tw hw 105 rfl))) (mvT hZ (tw hw 105 rfl)) (mvT hZ (tw hw 104 rfl)) (by decide) (backOf (W := 0) (rm_eq l Z a0 hw [] (v25) (v34) (v1) (v2) (v3) (v4) (v11) (v12) (v13) (v14) (G1) T35.heap n0 (Nat.le_trans (Nat.le_trans (Nat.le_trans (Nat.le_trans Z0 K5.1) K15.1) K26.1) K35.1) q35_0 f74 q35_1 f38 f40 f39 f41 f42 f44 f43 f45 f46 y5_0 y5_2 y15_0 y15_2 O2 P5) hZ (tw hw 106 rfl) (tw hw 41 rfl) (by decide) (by decide)) q80a q80c (g := (mkF m 227 #[.val (.int mm), .val (.long pp), .second, .val (.long qq), .second, .val (.int ((1 : Int32) + (mm &&& (3 : Int32)))), .val (.int nt), .val (.int zz), .val (.int s0), .val (.int s1), .val (.int s2), .val (.int s3), .val (.int t0), .val (.int t1), .val (.int t2), .val (.int t3), .val (.ref v1), .val (.ref v11), .val (.ref v25), .val (.ref v34), .val (.int 0)] [(.ref v34), (.ref v25)])) rfl (by rw [hml]; rfl) (Steps.refl _) (argsL := [(.ref v34)]) (rest := []) (lenOf pd__Ljava_lang_Object__Z rfl) rfl (by show 2 * 0 + _ ≤ _; exact Nat.le_of_eq rfl) (hb hby at_227) (fun _ _ => ⟨rfl, e79, (by decide : 8 + 0 ≤ _), (by decide : 26 + 0 ≤ _)⟩)
            dsimp only [Pt.U, Pt.locs, Pt.cells, Pt.slots] at X80 l80 y80 z80 st80 hQ80
            subst l80 y80 z80
            rcases hQ80 with ⟨rfl, N80, e80, y80_0⟩ | ⟨rfl, N80, e80, y80_0⟩
            · exact absurd y80_0 (fun q => y47_0 q.symm)
            · have M80 := Fr.app M79 N80
              refine Gl.to st80 ?_
              show Gl p.tables e below _ (T80.setTop (mkF m 230 #[.val (.int mm), .val (.long pp), .second, .val (.long qq), .second, .val (.int ((1 : Int32) + (mm &&& (3 : Int32)))), .val (.int nt), .val (.int zz), .val (.int s0), .val (.int s1), .val (.int s2), .val (.int s3), .val (.int t0), .val (.int t1), .val (.int t2), .val (.int t3), .val (.ref v1), .val (.ref v11), .val (.ref v25), .val (.ref v34), .val (.int 0)] [(.int 0)]))
              refine Gl.st (fun _ kq => XS.iload X80.here hx rfl (hb hby at_230) rfl kq) ?_
              show Gl p.tables e below _ (T80.setTop (mkF m 232 #[.val (.int mm), .val (.long pp), .second, .val (.long qq), .second, .val (.int ((1 : Int32) + (mm &&& (3 : Int32)))), .val (.int nt), .val (.int zz), .val (.int s0), .val (.int s1), .val (.int s2), .val (.int s3), .val (.int t0), .val (.int t1), .val (.int t2), .val (.int t3), .val (.ref v1), .val (.ref v11), .val (.ref v25), .val (.ref v34), .val (.int 0)] [(.int 0), (.int 0)]))
              refine Gl.st (fun _ kq => XS.icmpYes X80.here hx rfl (pc0 := 232) (pc' := 237) rfl (hb hby at_232) rfl (teq ((by decide) : (0 : Int32) = (0 : Int32))).1 (by decide) (by decide) kq) ?_
              show Gl p.tables e below _ (T80.setTop (mkF m 237 #[.val (.int mm), .val (.long pp), .second, .val (.long qq), .second, .val (.int ((1 : Int32) + (mm &&& (3 : Int32)))), .val (.int nt), .val (.int zz), .val (.int s0), .val (.int s1), .val (.int s2), .val (.int s3), .val (.int t0), .val (.int t1), .val (.int t2), .val (.int t3), .val (.ref v1), .val (.ref v11), .val (.ref v25), .val (.ref v34), .val (.int 0)] []))
              refine Gl.st (fun _ kq => XS.iload X80.here hx rfl (hb hby at_237) rfl kq) ?_
              show Gl p.tables e below _ (T80.setTop (mkF m 239 #[.val (.int mm), .val (.long pp), .second, .val (.long qq), .second, .val (.int ((1 : Int32) + (mm &&& (3 : Int32)))), .val (.int nt), .val (.int zz), .val (.int s0), .val (.int s1), .val (.int s2), .val (.int s3), .val (.int t0), .val (.int t1), .val (.int t2), .val (.int t3), .val (.ref v1), .val (.ref v11), .val (.ref v25), .val (.ref v34), .val (.int 0)] [(.int 0)]))
              refine Gl.st (fun _ kq => XS.ifYes X80.here hx rfl (pc0 := 239) (pc' := 257) rfl (hb hby at_239) rfl ((if0 _ _).trans (teq ((by decide) : (0 : Int32) = (0 : Int32))).1) (by decide) (by decide) kq) ?_
              show Gl p.tables e below _ (T80.setTop (mkF m 257 #[.val (.int mm), .val (.long pp), .second, .val (.long qq), .second, .val (.int ((1 : Int32) + (mm &&& (3 : Int32)))), .val (.int nt), .val (.int zz), .val (.int s0), .val (.int s1), .val (.int s2), .val (.int s3), .val (.int t0), .val (.int t1), .val (.int t2), .val (.int t3), .val (.ref v1), .val (.ref v11), .val (.ref v25), .val (.ref v34), .val (.int 0)] []))
              refine Gl.st (fun _ kq => XS.aload X80.here hx rfl (hb hby at_257) rfl rfl kq) ?_
              show Gl p.tables e below _ (T80.setTop (mkF m 259 #[.val (.int mm), .val (.long pp), .second, .val (.long qq), .second, .val (.int ((1 : Int32) + (mm &&& (3 : Int32)))), .val (.int nt), .val (.int zz), .val (.int s0), .val (.int s1), .val (.int s2), .val (.int s3), .val (.int t0), .val (.int t1), .val (.int t2), .val (.int t3), .val (.ref v1), .val (.ref v11), .val (.ref v25), .val (.ref v34), .val (.int 0)] [(.ref v25)]))
              refine Gl.st (fun _ kq => XS.aload X80.here hx rfl (hb hby at_259) rfl rfl kq) ?_
              show Gl p.tables e below _ (T80.setTop (mkF m 261 #[.val (.int mm), .val (.long pp), .second, .val (.long qq), .second, .val (.int ((1 : Int32) + (mm &&& (3 : Int32)))), .val (.int nt), .val (.int zz), .val (.int s0), .val (.int s1), .val (.int s2), .val (.int s3), .val (.int t0), .val (.int t1), .val (.int t2), .val (.int t3), .val (.ref v1), .val (.ref v11), .val (.ref v25), .val (.ref v34), .val (.int 0)] [(.ref v1), (.ref v25)]))
              obtain ⟨cq81, kq81, q81a, q81b, q81c⟩ := isOf hZ e80 f76
              obtain ⟨_, _, ⟨T81, L81, k81, n81⟩, -, X81, ⟨Lc81, hQ81, l81, y81, z81⟩, st81⟩ := X80.virtualBack hx (y := (⟨"com/example/groupwright/groupwright/core/ShareId", "equals", "(Ljava/lang/Object;)Z"⟩ : MethodName)) (z := (⟨"com/example/groupwright/groupwright/core/ShareId", "equals", "(Ljava/lang/Object;)Z"⟩ : MethodName)) hown (mvT hZ (tw hw 102 rfl)) (mvT hZ (tw hw 103 rfl)) (notFace_of_selects (args := #[]) (mvT hZ (tw hw 105 rfl))) (mvT hZ (tw hw 105 rfl)) (mvT hZ (tw hw 104 rfl)) (by decide) (backOf (W := 0) (rm_eqs l Z a0 hw [] (v25) (v1) T35.heap n0 (Nat.le_trans (Nat.le_trans (Nat.le_trans (Nat.le_trans Z0 K5.1) K15.1) K26.1) K35.1) f38) hZ (tw hw 106 rfl) (tw hw 41 rfl) (by decide) (by decide)) q81a q81c (g := (mkF m 261 #[.val (.int mm), .val (.long pp), .second, .val (.long qq), .second, .val (.int ((1 : Int32) + (mm &&& (3 : Int32)))), .val (.int nt), .val (.int zz), .val (.int s0), .val (.int s1), .val (.int s2), .val (.int s3), .val (.int t0), .val (.int t1), .val (.int t2), .val (.int t3), .val (.ref v1), .val (.ref v11), .val (.ref v25), .val (.ref v34), .val (.int 0)] [(.ref v1), (.ref v25)])) rfl (by rw [hml]; rfl) (Steps.refl _) (argsL := [(.ref v1)]) (rest := []) (lenOf pd__Ljava_lang_Object__Z rfl) rfl (by show 2 * 0 + _ ≤ _; exact Nat.le_of_eq rfl) (hb hby at_261) (fun _ _ => ⟨rfl, e80, (by decide : 8 + 0 ≤ _), (by decide : 26 + 0 ≤ _)⟩)
              dsimp only [Pt.U, Pt.locs, Pt.cells, Pt.slots] at X81 l81 y81 z81 st81 hQ81
              subst l81 y81 z81
              obtain ⟨rfl, N81, e81⟩ := hQ81
              have M81 := Fr.app M80 N81
              refine Gl.to st81 ?_
              show Gl p.tables e below _ (T81.setTop (mkF m 264 #[.val (.int mm), .val (.long pp), .second, .val (.long qq), .second, .val (.int ((1 : Int32) + (mm &&& (3 : Int32)))), .val (.int nt), .val (.int zz), .val (.int s0), .val (.int s1), .val (.int s2), .val (.int s3), .val (.int t0), .val (.int t1), .val (.int t2), .val (.int t3), .val (.ref v1), .val (.ref v11), .val (.ref v25), .val (.ref v34), .val (.int 0)] [(.int 0)]))
              show Gl p.tables e below _ (T81.setTop (mkF m 264 #[.val (.int mm), .val (.long pp), .second, .val (.long qq), .second, .val (.int ((1 : Int32) + (mm &&& (3 : Int32)))), .val (.int nt), .val (.int zz), .val (.int s0), .val (.int s1), .val (.int s2), .val (.int s3), .val (.int t0), .val (.int t1), .val (.int t2), .val (.int t3), .val (.ref v1), .val (.ref v11), .val (.ref v25), .val (.ref v34), .val (.int 0)] [(.int 0)]))
              refine Gl.st (fun _ kq => XS.ifNo X81.here hx rfl (hb hby at_264) rfl ((if0 _ _).trans (teq ((by decide) : (0 : Int32) = (0 : Int32))).2) kq) ?_
              show Gl p.tables e below _ (T81.setTop (mkF m 267 #[.val (.int mm), .val (.long pp), .second, .val (.long qq), .second, .val (.int ((1 : Int32) + (mm &&& (3 : Int32)))), .val (.int nt), .val (.int zz), .val (.int s0), .val (.int s1), .val (.int s2), .val (.int s3), .val (.int t0), .val (.int t1), .val (.int t2), .val (.int t3), .val (.ref v1), .val (.ref v11), .val (.ref v25), .val (.ref v34), .val (.int 0)] []))
              refine Gl.st (fun _ kq => XS.iconst X81.here hx rfl (hb hby at_267) kq) ?_
              show Gl p.tables e below _ (T81.setTop (mkF m 268 #[.val (.int mm), .val (.long pp), .second, .val (.long qq), .second, .val (.int ((1 : Int32) + (mm &&& (3 : Int32)))), .val (.int nt), .val (.int zz), .val (.int s0), .val (.int s1), .val (.int s2), .val (.int s3), .val (.int t0), .val (.int t1), .val (.int t2), .val (.int t3), .val (.ref v1), .val (.ref v11), .val (.ref v25), .val (.ref v34), .val (.int 0)] [(.int 1)]))
              refine Gl.st (fun _ kq => XS.goto X81.here hx rfl (pc0 := 268) (pc' := 272) rfl (hb hby at_268) (by decide) (by decide) kq) ?_
              show Gl p.tables e below _ (T81.setTop (mkF m 272 #[.val (.int mm), .val (.long pp), .second, .val (.long qq), .second, .val (.int ((1 : Int32) + (mm &&& (3 : Int32)))), .val (.int nt), .val (.int zz), .val (.int s0), .val (.int s1), .val (.int s2), .val (.int s3), .val (.int t0), .val (.int t1), .val (.int t2), .val (.int t3), .val (.ref v1), .val (.ref v11), .val (.ref v25), .val (.ref v34), .val (.int 0)] [(.int 1)]))
              exact Gl.retN X81 hx (t := .boolean) Bd.returns (by simp) (hb hby at_272) hlk (by decide) (by decide) (by rw [e81]; exact ⟨rfl, M81⟩)
          · exact absurd rfl y79_0
        · exact absurd rfl y77_0
    by_cases hc82 : (((mm.toUInt32 >>> ((5 : Int32) &&& 31).toUInt32).toInt32) &&& (1 : Int32)) = (0 : Int32)
    · refine Gl.st (fun _ kq => XS.ifYes Xn.here hx rfl (pc0 := 34) (pc' := 41) rfl (hb hby at_34) rfl ((if0 _ _).trans (teq (hc82 : (((mm.toUInt32 >>> ((5 : Int32) &&& 31).toUInt32).toInt32) &&& (1 : Int32)) = (0 : Int32))).1) (by decide) (by decide) kq) ?_
      show Gl p.tables e below _ (Tn.setTop (mkF m 41 #[.val (.int mm), .val (.long pp), .second, .val (.long qq), .second, .val (.int ((1 : Int32) + (mm &&& (3 : Int32)))), .val (.int nt), .unset, .unset, .unset, .unset, .unset, .unset, .unset, .unset, .unset, .unset, .unset, .unset, .unset, .unset] []))
      refine Gl.st (fun _ kq => XS.iconst Xn.here hx rfl (hb hby at_41) kq) ?_
      show Gl p.tables e below _ (Tn.setTop (mkF m 42 #[.val (.int mm), .val (.long pp), .second, .val (.long qq), .second, .val (.int ((1 : Int32) + (mm &&& (3 : Int32)))), .val (.int nt), .unset, .unset, .unset, .unset, .unset, .unset, .unset, .unset, .unset, .unset, .unset, .unset, .unset, .unset] [(.int 0)]))
      refine Gl.st (fun _ kq => XS.istore Xn.here hx rfl (hb hby at_42) rfl (l' := #[.val (.int mm), .val (.long pp), .second, .val (.long qq), .second, .val (.int ((1 : Int32) + (mm &&& (3 : Int32)))), .val (.int nt), .val (.int 0), .unset, .unset, .unset, .unset, .unset, .unset, .unset, .unset, .unset, .unset, .unset, .unset, .unset]) rfl kq) ?_
      show Gl p.tables e below _ (Tn.setTop (mkF m 44 #[.val (.int mm), .val (.long pp), .second, .val (.long qq), .second, .val (.int ((1 : Int32) + (mm &&& (3 : Int32)))), .val (.int nt), .val (.int 0), .unset, .unset, .unset, .unset, .unset, .unset, .unset, .unset, .unset, .unset, .unset, .unset, .unset] []))
      refine Gl.st (fun _ kq => XS.lloadN Xn.here hx rfl (hb hby at_44) rfl kq) ?_
      show Gl p.tables e below _ (Tn.setTop (mkF m 45 #[.val (.int mm), .val (.long pp), .second, .val (.long qq), .second, .val (.int ((1 : Int32) + (mm &&& (3 : Int32)))), .val (.int nt), .val (.int 0), .unset, .unset, .unset, .unset, .unset, .unset, .unset, .unset, .unset, .unset, .unset, .unset, .unset] [(.long pp)]))
      refine Gl.st (fun _ kq => XS.iconst Xn.here hx rfl (hb hby at_45) kq) ?_
      show Gl p.tables e below _ (Tn.setTop (mkF m 46 #[.val (.int mm), .val (.long pp), .second, .val (.long qq), .second, .val (.int ((1 : Int32) + (mm &&& (3 : Int32)))), .val (.int nt), .val (.int 0), .unset, .unset, .unset, .unset, .unset, .unset, .unset, .unset, .unset, .unset, .unset, .unset, .unset] [(.int 0), (.long pp)]))
      obtain ⟨_, _, ⟨T84, L84, k84, n84⟩, -, X84, ⟨Lc84, hQ84, l84, y84, z84⟩, st84⟩ := Jvm.LawKit.callS Xn hx (y := (⟨"com/example/groupwright/groupwright/core/ShareIdOfPinLaw", "digit", "(JI)C"⟩ : MethodName)) hown (mvT hZ (tw hw 0 rfl)) (mvT hZ (tw hw 1 rfl)) (mvT hZ (tw hw 2 rfl)) (mvT hZ (tw hw 3 rfl)) (by decide) (backOf (W := 0) (rm_dg l Z a0 hw [] (pp) ((0 : Int32)) h0 n0 Z0 ) hZ (tw hw 3 rfl) (tw hw 2 rfl) (by decide) (by decide)) (g := (mkF m 46 #[.val (.int mm), .val (.long pp), .second, .val (.long qq), .second, .val (.int ((1 : Int32) + (mm &&& (3 : Int32)))), .val (.int nt), .val (.int 0), .unset, .unset, .unset, .unset, .unset, .unset, .unset, .unset, .unset, .unset, .unset, .unset, .unset] [(.int 0), (.long pp)])) rfl (by rw [hml]; rfl) (argsL := [(.long pp), (.int 0)]) (rest := []) (lenOf pd__JI_C rfl) rfl (by show 2 * 0 + _ ≤ _; exact Nat.le_of_eq rfl) (hb hby at_46) (fun _ _ => ⟨rfl, en, (by decide : 0 + 0 ≤ _), (by decide : 0 + 0 ≤ _)⟩)
      dsimp only [Pt.U, Pt.locs, Pt.cells, Pt.slots] at X84 l84 y84 z84 st84 hQ84
      subst l84 y84 z84
      obtain ⟨v83, rfl, N84, e84, y84_0⟩ := hQ84
      have M84 := Fr.app Nn N84
      refine Gl.st st84 ?_
      show Gl p.tables e below _ (T84.setTop (mkF m 49 #[.val (.int mm), .val (.long pp), .second, .val (.long qq), .second, .val (.int ((1 : Int32) + (mm &&& (3 : Int32)))), .val (.int nt), .val (.int 0), .unset, .unset, .unset, .unset, .unset, .unset, .unset, .unset, .unset, .unset, .unset, .unset, .unset] [(.int v83)]))
      show Gl p.tables e below _ (T84.setTop (mkF m 49 #[.val (.int mm), .val (.long pp), .second, .val (.long qq), .second, .val (.int ((1 : Int32) + (mm &&& (3 : Int32)))), .val (.int nt), .val (.int 0), .unset, .unset, .unset, .unset, .unset, .unset, .unset, .unset, .unset, .unset, .unset, .unset, .unset] [(.int v83)]))
      refine Gl.st (fun _ kq => XS.istore X84.here hx rfl (hb hby at_49) rfl (l' := #[.val (.int mm), .val (.long pp), .second, .val (.long qq), .second, .val (.int ((1 : Int32) + (mm &&& (3 : Int32)))), .val (.int nt), .val (.int 0), .val (.int v83), .unset, .unset, .unset, .unset, .unset, .unset, .unset, .unset, .unset, .unset, .unset, .unset]) rfl kq) ?_
      show Gl p.tables e below _ (T84.setTop (mkF m 51 #[.val (.int mm), .val (.long pp), .second, .val (.long qq), .second, .val (.int ((1 : Int32) + (mm &&& (3 : Int32)))), .val (.int nt), .val (.int 0), .val (.int v83), .unset, .unset, .unset, .unset, .unset, .unset, .unset, .unset, .unset, .unset, .unset, .unset] []))
      refine Gl.st (fun _ kq => XS.lloadN X84.here hx rfl (hb hby at_51) rfl kq) ?_
      show Gl p.tables e below _ (T84.setTop (mkF m 52 #[.val (.int mm), .val (.long pp), .second, .val (.long qq), .second, .val (.int ((1 : Int32) + (mm &&& (3 : Int32)))), .val (.int nt), .val (.int 0), .val (.int v83), .unset, .unset, .unset, .unset, .unset, .unset, .unset, .unset, .unset, .unset, .unset, .unset] [(.long pp)]))
      refine Gl.st (fun _ kq => XS.iconst X84.here hx rfl (hb hby at_52) kq) ?_
      show Gl p.tables e below _ (T84.setTop (mkF m 53 #[.val (.int mm), .val (.long pp), .second, .val (.long qq), .second, .val (.int ((1 : Int32) + (mm &&& (3 : Int32)))), .val (.int nt), .val (.int 0), .val (.int v83), .unset, .unset, .unset, .unset, .unset, .unset, .unset, .unset, .unset, .unset, .unset, .unset] [(.int 1), (.long pp)]))
      obtain ⟨_, _, ⟨T86, L86, k86, n86⟩, -, X86, ⟨Lc86, hQ86, l86, y86, z86⟩, st86⟩ := Jvm.LawKit.callS X84 hx (y := (⟨"com/example/groupwright/groupwright/core/ShareIdOfPinLaw", "digit", "(JI)C"⟩ : MethodName)) hown (mvT hZ (tw hw 0 rfl)) (mvT hZ (tw hw 1 rfl)) (mvT hZ (tw hw 2 rfl)) (mvT hZ (tw hw 3 rfl)) (by decide) (backOf (W := 0) (rm_dg l Z a0 hw [] (pp) ((1 : Int32)) h0 n0 Z0 ) hZ (tw hw 3 rfl) (tw hw 2 rfl) (by decide) (by decide)) (g := (mkF m 53 #[.val (.int mm), .val (.long pp), .second, .val (.long qq), .second, .val (.int ((1 : Int32) + (mm &&& (3 : Int32)))), .val (.int nt), .val (.int 0), .val (.int v83), .unset, .unset, .unset, .unset, .unset, .unset, .unset, .unset, .unset, .unset, .unset, .unset] [(.int 1), (.long pp)])) rfl (by rw [hml]; rfl) (argsL := [(.long pp), (.int 1)]) (rest := []) (lenOf pd__JI_C rfl) rfl (by show 2 * 0 + _ ≤ _; exact Nat.le_of_eq rfl) (hb hby at_53) (fun _ _ => ⟨rfl, e84, (by decide : 0 + 0 ≤ _), (by decide : 0 + 0 ≤ _)⟩)
      dsimp only [Pt.U, Pt.locs, Pt.cells, Pt.slots] at X86 l86 y86 z86 st86 hQ86
      subst l86 y86 z86
      obtain ⟨v85, rfl, N86, e86, y86_0⟩ := hQ86
      have M86 := Fr.app M84 N86
      refine Gl.st st86 ?_
      show Gl p.tables e below _ (T86.setTop (mkF m 56 #[.val (.int mm), .val (.long pp), .second, .val (.long qq), .second, .val (.int ((1 : Int32) + (mm &&& (3 : Int32)))), .val (.int nt), .val (.int 0), .val (.int v83), .unset, .unset, .unset, .unset, .unset, .unset, .unset, .unset, .unset, .unset, .unset, .unset] [(.int v85)]))
      show Gl p.tables e below _ (T86.setTop (mkF m 56 #[.val (.int mm), .val (.long pp), .second, .val (.long qq), .second, .val (.int ((1 : Int32) + (mm &&& (3 : Int32)))), .val (.int nt), .val (.int 0), .val (.int v83), .unset, .unset, .unset, .unset, .unset, .unset, .unset, .unset, .unset, .unset, .unset, .unset] [(.int v85)]))
      refine Gl.st (fun _ kq => XS.istore X86.here hx rfl (hb hby at_56) rfl (l' := #[.val (.int mm), .val (.long pp), .second, .val (.long qq), .second, .val (.int ((1 : Int32) + (mm &&& (3 : Int32)))), .val (.int nt), .val (.int 0), .val (.int v83), .val (.int v85), .unset, .unset, .unset, .unset, .unset, .unset, .unset, .unset, .unset, .unset, .unset]) rfl kq) ?_
      show Gl p.tables e below _ (T86.setTop (mkF m 58 #[.val (.int mm), .val (.long pp), .second, .val (.long qq), .second, .val (.int ((1 : Int32) + (mm &&& (3 : Int32)))), .val (.int nt), .val (.int 0), .val (.int v83), .val (.int v85), .unset, .unset, .unset, .unset, .unset, .unset, .unset, .unset, .unset, .unset, .unset] []))
      refine Gl.st (fun _ kq => XS.lloadN X86.here hx rfl (hb hby at_58) rfl kq) ?_
      show Gl p.tables e below _ (T86.setTop (mkF m 59 #[.val (.int mm), .val (.long pp), .second, .val (.long qq), .second, .val (.int ((1 : Int32) + (mm &&& (3 : Int32)))), .val (.int nt), .val (.int 0), .val (.int v83), .val (.int v85), .unset, .unset, .unset, .unset, .unset, .unset, .unset, .unset, .unset, .unset, .unset] [(.long pp)]))
      refine Gl.st (fun _ kq => XS.iconst X86.here hx rfl (hb hby at_59) kq) ?_
      show Gl p.tables e below _ (T86.setTop (mkF m 60 #[.val (.int mm), .val (.long pp), .second, .val (.long qq), .second, .val (.int ((1 : Int32) + (mm &&& (3 : Int32)))), .val (.int nt), .val (.int 0), .val (.int v83), .val (.int v85), .unset, .unset, .unset, .unset, .unset, .unset, .unset, .unset, .unset, .unset, .unset] [(.int 2), (.long pp)]))
      obtain ⟨_, _, ⟨T88, L88, k88, n88⟩, -, X88, ⟨Lc88, hQ88, l88, y88, z88⟩, st88⟩ := Jvm.LawKit.callS X86 hx (y := (⟨"com/example/groupwright/groupwright/core/ShareIdOfPinLaw", "digit", "(JI)C"⟩ : MethodName)) hown (mvT hZ (tw hw 0 rfl)) (mvT hZ (tw hw 1 rfl)) (mvT hZ (tw hw 2 rfl)) (mvT hZ (tw hw 3 rfl)) (by decide) (backOf (W := 0) (rm_dg l Z a0 hw [] (pp) ((2 : Int32)) h0 n0 Z0 ) hZ (tw hw 3 rfl) (tw hw 2 rfl) (by decide) (by decide)) (g := (mkF m 60 #[.val (.int mm), .val (.long pp), .second, .val (.long qq), .second, .val (.int ((1 : Int32) + (mm &&& (3 : Int32)))), .val (.int nt), .val (.int 0), .val (.int v83), .val (.int v85), .unset, .unset, .unset, .unset, .unset, .unset, .unset, .unset, .unset, .unset, .unset] [(.int 2), (.long pp)])) rfl (by rw [hml]; rfl) (argsL := [(.long pp), (.int 2)]) (rest := []) (lenOf pd__JI_C rfl) rfl (by show 2 * 0 + _ ≤ _; exact Nat.le_of_eq rfl) (hb hby at_60) (fun _ _ => ⟨rfl, e86, (by decide : 0 + 0 ≤ _), (by decide : 0 + 0 ≤ _)⟩)
      dsimp only [Pt.U, Pt.locs, Pt.cells, Pt.slots] at X88 l88 y88 z88 st88 hQ88
      subst l88 y88 z88
      obtain ⟨v87, rfl, N88, e88, y88_0⟩ := hQ88
      have M88 := Fr.app M86 N88
      refine Gl.st st88 ?_
      show Gl p.tables e below _ (T88.setTop (mkF m 63 #[.val (.int mm), .val (.long pp), .second, .val (.long qq), .second, .val (.int ((1 : Int32) + (mm &&& (3 : Int32)))), .val (.int nt), .val (.int 0), .val (.int v83), .val (.int v85), .unset, .unset, .unset, .unset, .unset, .unset, .unset, .unset, .unset, .unset, .unset] [(.int v87)]))
      show Gl p.tables e below _ (T88.setTop (mkF m 63 #[.val (.int mm), .val (.long pp), .second, .val (.long qq), .second, .val (.int ((1 : Int32) + (mm &&& (3 : Int32)))), .val (.int nt), .val (.int 0), .val (.int v83), .val (.int v85), .unset, .unset, .unset, .unset, .unset, .unset, .unset, .unset, .unset, .unset, .unset] [(.int v87)]))
      refine Gl.st (fun _ kq => XS.istore X88.here hx rfl (hb hby at_63) rfl (l' := #[.val (.int mm), .val (.long pp), .second, .val (.long qq), .second, .val (.int ((1 : Int32) + (mm &&& (3 : Int32)))), .val (.int nt), .val (.int 0), .val (.int v83), .val (.int v85), .val (.int v87), .unset, .unset, .unset, .unset, .unset, .unset, .unset, .unset, .unset, .unset]) rfl kq) ?_
      show Gl p.tables e below _ (T88.setTop (mkF m 65 #[.val (.int mm), .val (.long pp), .second, .val (.long qq), .second, .val (.int ((1 : Int32) + (mm &&& (3 : Int32)))), .val (.int nt), .val (.int 0), .val (.int v83), .val (.int v85), .val (.int v87), .unset, .unset, .unset, .unset, .unset, .unset, .unset, .unset, .unset, .unset] []))
      refine Gl.st (fun _ kq => XS.lloadN X88.here hx rfl (hb hby at_65) rfl kq) ?_
      show Gl p.tables e below _ (T88.setTop (mkF m 66 #[.val (.int mm), .val (.long pp), .second, .val (.long qq), .second, .val (.int ((1 : Int32) + (mm &&& (3 : Int32)))), .val (.int nt), .val (.int 0), .val (.int v83), .val (.int v85), .val (.int v87), .unset, .unset, .unset, .unset, .unset, .unset, .unset, .unset, .unset, .unset] [(.long pp)]))
      refine Gl.st (fun _ kq => XS.iconst X88.here hx rfl (hb hby at_66) kq) ?_
      show Gl p.tables e below _ (T88.setTop (mkF m 67 #[.val (.int mm), .val (.long pp), .second, .val (.long qq), .second, .val (.int ((1 : Int32) + (mm &&& (3 : Int32)))), .val (.int nt), .val (.int 0), .val (.int v83), .val (.int v85), .val (.int v87), .unset, .unset, .unset, .unset, .unset, .unset, .unset, .unset, .unset, .unset] [(.int 3), (.long pp)]))
      obtain ⟨_, _, ⟨T90, L90, k90, n90⟩, -, X90, ⟨Lc90, hQ90, l90, y90, z90⟩, st90⟩ := Jvm.LawKit.callS X88 hx (y := (⟨"com/example/groupwright/groupwright/core/ShareIdOfPinLaw", "digit", "(JI)C"⟩ : MethodName)) hown (mvT hZ (tw hw 0 rfl)) (mvT hZ (tw hw 1 rfl)) (mvT hZ (tw hw 2 rfl)) (mvT hZ (tw hw 3 rfl)) (by decide) (backOf (W := 0) (rm_dg l Z a0 hw [] (pp) ((3 : Int32)) h0 n0 Z0 ) hZ (tw hw 3 rfl) (tw hw 2 rfl) (by decide) (by decide)) (g := (mkF m 67 #[.val (.int mm), .val (.long pp), .second, .val (.long qq), .second, .val (.int ((1 : Int32) + (mm &&& (3 : Int32)))), .val (.int nt), .val (.int 0), .val (.int v83), .val (.int v85), .val (.int v87), .unset, .unset, .unset, .unset, .unset, .unset, .unset, .unset, .unset, .unset] [(.int 3), (.long pp)])) rfl (by rw [hml]; rfl) (argsL := [(.long pp), (.int 3)]) (rest := []) (lenOf pd__JI_C rfl) rfl (by show 2 * 0 + _ ≤ _; exact Nat.le_of_eq rfl) (hb hby at_67) (fun _ _ => ⟨rfl, e88, (by decide : 0 + 0 ≤ _), (by decide : 0 + 0 ≤ _)⟩)
      dsimp only [Pt.U, Pt.locs, Pt.cells, Pt.slots] at X90 l90 y90 z90 st90 hQ90
      subst l90 y90 z90
      obtain ⟨v89, rfl, N90, e90, y90_0⟩ := hQ90
      have M90 := Fr.app M88 N90
      refine Gl.st st90 ?_
      show Gl p.tables e below _ (T90.setTop (mkF m 70 #[.val (.int mm), .val (.long pp), .second, .val (.long qq), .second, .val (.int ((1 : Int32) + (mm &&& (3 : Int32)))), .val (.int nt), .val (.int 0), .val (.int v83), .val (.int v85), .val (.int v87), .unset, .unset, .unset, .unset, .unset, .unset, .unset, .unset, .unset, .unset] [(.int v89)]))
      show Gl p.tables e below _ (T90.setTop (mkF m 70 #[.val (.int mm), .val (.long pp), .second, .val (.long qq), .second, .val (.int ((1 : Int32) + (mm &&& (3 : Int32)))), .val (.int nt), .val (.int 0), .val (.int v83), .val (.int v85), .val (.int v87), .unset, .unset, .unset, .unset, .unset, .unset, .unset, .unset, .unset, .unset] [(.int v89)]))
      refine Gl.st (fun _ kq => XS.istore X90.here hx rfl (hb hby at_70) rfl (l' := #[.val (.int mm), .val (.long pp), .second, .val (.long qq), .second, .val (.int ((1 : Int32) + (mm &&& (3 : Int32)))), .val (.int nt), .val (.int 0), .val (.int v83), .val (.int v85), .val (.int v87), .val (.int v89), .unset, .unset, .unset, .unset, .unset, .unset, .unset, .unset, .unset]) rfl kq) ?_
      show Gl p.tables e below _ (T90.setTop (mkF m 72 #[.val (.int mm), .val (.long pp), .second, .val (.long qq), .second, .val (.int ((1 : Int32) + (mm &&& (3 : Int32)))), .val (.int nt), .val (.int 0), .val (.int v83), .val (.int v85), .val (.int v87), .val (.int v89), .unset, .unset, .unset, .unset, .unset, .unset, .unset, .unset, .unset] []))
      refine Gl.st (fun _ kq => XS.iload X90.here hx rfl (hb hby at_72) rfl kq) ?_
      show Gl p.tables e below _ (T90.setTop (mkF m 74 #[.val (.int mm), .val (.long pp), .second, .val (.long qq), .second, .val (.int ((1 : Int32) + (mm &&& (3 : Int32)))), .val (.int nt), .val (.int 0), .val (.int v83), .val (.int v85), .val (.int v87), .val (.int v89), .unset, .unset, .unset, .unset, .unset, .unset, .unset, .unset, .unset] [(.int 0)]))
      refine Gl.st (fun _ kq => XS.ifYes X90.here hx rfl (pc0 := 74) (pc' := 82) rfl (hb hby at_74) rfl ((if0 _ _).trans (teq ((by decide) : (0 : Int32) = (0 : Int32))).1) (by decide) (by decide) kq) ?_
      show Gl p.tables e below _ (T90.setTop (mkF m 82 #[.val (.int mm), .val (.long pp), .second, .val (.long qq), .second, .val (.int ((1 : Int32) + (mm &&& (3 : Int32)))), .val (.int nt), .val (.int 0), .val (.int v83), .val (.int v85), .val (.int v87), .val (.int v89), .unset, .unset, .unset, .unset, .unset, .unset, .unset, .unset, .unset] []))
      refine Gl.st (fun _ kq => XS.lloadN X90.here hx rfl (hb hby at_82) rfl kq) ?_
      show Gl p.tables e below _ (T90.setTop (mkF m 83 #[.val (.int mm), .val (.long pp), .second, .val (.long qq), .second, .val (.int ((1 : Int32) + (mm &&& (3 : Int32)))), .val (.int nt), .val (.int 0), .val (.int v83), .val (.int v85), .val (.int v87), .val (.int v89), .unset, .unset, .unset, .unset, .unset, .unset, .unset, .unset, .unset] [(.long qq)]))
      refine Gl.st (fun _ kq => XS.iconst X90.here hx rfl (hb hby at_83) kq) ?_
      show Gl p.tables e below _ (T90.setTop (mkF m 84 #[.val (.int mm), .val (.long pp), .second, .val (.long qq), .second, .val (.int ((1 : Int32) + (mm &&& (3 : Int32)))), .val (.int nt), .val (.int 0), .val (.int v83), .val (.int v85), .val (.int v87), .val (.int v89), .unset, .unset, .unset, .unset, .unset, .unset, .unset, .unset, .unset] [(.int 0), (.long qq)]))
      obtain ⟨_, _, ⟨T92, L92, k92, n92⟩, -, X92, ⟨Lc92, hQ92, l92, y92, z92⟩, st92⟩ := Jvm.LawKit.callS X90 hx (y := (⟨"com/example/groupwright/groupwright/core/ShareIdOfPinLaw", "digit", "(JI)C"⟩ : MethodName)) hown (mvT hZ (tw hw 0 rfl)) (mvT hZ (tw hw 1 rfl)) (mvT hZ (tw hw 2 rfl)) (mvT hZ (tw hw 3 rfl)) (by decide) (backOf (W := 0) (rm_dg l Z a0 hw [] (qq) ((0 : Int32)) h0 n0 Z0 ) hZ (tw hw 3 rfl) (tw hw 2 rfl) (by decide) (by decide)) (g := (mkF m 84 #[.val (.int mm), .val (.long pp), .second, .val (.long qq), .second, .val (.int ((1 : Int32) + (mm &&& (3 : Int32)))), .val (.int nt), .val (.int 0), .val (.int v83), .val (.int v85), .val (.int v87), .val (.int v89), .unset, .unset, .unset, .unset, .unset, .unset, .unset, .unset, .unset] [(.int 0), (.long qq)])) rfl (by rw [hml]; rfl) (argsL := [(.long qq), (.int 0)]) (rest := []) (lenOf pd__JI_C rfl) rfl (by show 2 * 0 + _ ≤ _; exact Nat.le_of_eq rfl) (hb hby at_84) (fun _ _ => ⟨rfl, e90, (by decide : 0 + 0 ≤ _), (by decide : 0 + 0 ≤ _)⟩)
      dsimp only [Pt.U, Pt.locs, Pt.cells, Pt.slots] at X92 l92 y92 z92 st92 hQ92
      subst l92 y92 z92
      obtain ⟨v91, rfl, N92, e92, y92_0⟩ := hQ92
      have M92 := Fr.app M90 N92
      refine Gl.st st92 ?_
      show Gl p.tables e below _ (T92.setTop (mkF m 87 #[.val (.int mm), .val (.long pp), .second, .val (.long qq), .second, .val (.int ((1 : Int32) + (mm &&& (3 : Int32)))), .val (.int nt), .val (.int 0), .val (.int v83), .val (.int v85), .val (.int v87), .val (.int v89), .unset, .unset, .unset, .unset, .unset, .unset, .unset, .unset, .unset] [(.int v91)]))
      show Gl p.tables e below _ (T92.setTop (mkF m 87 #[.val (.int mm), .val (.long pp), .second, .val (.long qq), .second, .val (.int ((1 : Int32) + (mm &&& (3 : Int32)))), .val (.int nt), .val (.int 0), .val (.int v83), .val (.int v85), .val (.int v87), .val (.int v89), .unset, .unset, .unset, .unset, .unset, .unset, .unset, .unset, .unset] [(.int v91)]))
      refine Gl.st (fun _ kq => XS.istore X92.here hx rfl (hb hby at_87) rfl (l' := #[.val (.int mm), .val (.long pp), .second, .val (.long qq), .second, .val (.int ((1 : Int32) + (mm &&& (3 : Int32)))), .val (.int nt), .val (.int 0), .val (.int v83), .val (.int v85), .val (.int v87), .val (.int v89), .val (.int v91), .unset, .unset, .unset, .unset, .unset, .unset, .unset, .unset]) rfl kq) ?_
      show Gl p.tables e below _ (T92.setTop (mkF m 89 #[.val (.int mm), .val (.long pp), .second, .val (.long qq), .second, .val (.int ((1 : Int32) + (mm &&& (3 : Int32)))), .val (.int nt), .val (.int 0), .val (.int v83), .val (.int v85), .val (.int v87), .val (.int v89), .val (.int v91), .unset, .unset, .unset, .unset, .unset, .unset, .unset, .unset] []))
      refine Gl.st (fun _ kq => XS.iload X92.here hx rfl (hb hby at_89) rfl kq) ?_
      show Gl p.tables e below _ (T92.setTop (mkF m 91 #[.val (.int mm), .val (.long pp), .second, .val (.long qq), .second, .val (.int ((1 : Int32) + (mm &&& (3 : Int32)))), .val (.int nt), .val (.int 0), .val (.int v83), .val (.int v85), .val (.int v87), .val (.int v89), .val (.int v91), .unset, .unset, .unset, .unset, .unset, .unset, .unset, .unset] [(.int 0)]))
      refine Gl.st (fun _ kq => XS.ifYes X92.here hx rfl (pc0 := 91) (pc' := 99) rfl (hb hby at_91) rfl ((if0 _ _).trans (teq ((by decide) : (0 : Int32) = (0 : Int32))).1) (by decide) (by decide) kq) ?_
      show Gl p.tables e below _ (T92.setTop (mkF m 99 #[.val (.int mm), .val (.long pp), .second, .val (.long qq), .second, .val (.int ((1 : Int32) + (mm &&& (3 : Int32)))), .val (.int nt), .val (.int 0), .val (.int v83), .val (.int v85), .val (.int v87), .val (.int v89), .val (.int v91), .unset, .unset, .unset, .unset, .unset, .unset, .unset, .unset] []))
      refine Gl.st (fun _ kq => XS.lloadN X92.here hx rfl (hb hby at_99) rfl kq) ?_
      show Gl p.tables e below _ (T92.setTop (mkF m 100 #[.val (.int mm), .val (.long pp), .second, .val (.long qq), .second, .val (.int ((1 : Int32) + (mm &&& (3 : Int32)))), .val (.int nt), .val (.int 0), .val (.int v83), .val (.int v85), .val (.int v87), .val (.int v89), .val (.int v91), .unset, .unset, .unset, .unset, .unset, .unset, .unset, .unset] [(.long qq)]))
      refine Gl.st (fun _ kq => XS.iconst X92.here hx rfl (hb hby at_100) kq) ?_
      show Gl p.tables e below _ (T92.setTop (mkF m 101 #[.val (.int mm), .val (.long pp), .second, .val (.long qq), .second, .val (.int ((1 : Int32) + (mm &&& (3 : Int32)))), .val (.int nt), .val (.int 0), .val (.int v83), .val (.int v85), .val (.int v87), .val (.int v89), .val (.int v91), .unset, .unset, .unset, .unset, .unset, .unset, .unset, .unset] [(.int 1), (.long qq)]))
      obtain ⟨_, _, ⟨T94, L94, k94, n94⟩, -, X94, ⟨Lc94, hQ94, l94, y94, z94⟩, st94⟩ := Jvm.LawKit.callS X92 hx (y := (⟨"com/example/groupwright/groupwright/core/ShareIdOfPinLaw", "digit", "(JI)C"⟩ : MethodName)) hown (mvT hZ (tw hw 0 rfl)) (mvT hZ (tw hw 1 rfl)) (mvT hZ (tw hw 2 rfl)) (mvT hZ (tw hw 3 rfl)) (by decide) (backOf (W := 0) (rm_dg l Z a0 hw [] (qq) ((1 : Int32)) h0 n0 Z0 ) hZ (tw hw 3 rfl) (tw hw 2 rfl) (by decide) (by decide)) (g := (mkF m 101 #[.val (.int mm), .val (.long pp), .second, .val (.long qq), .second, .val (.int ((1 : Int32) + (mm &&& (3 : Int32)))), .val (.int nt), .val (.int 0), .val (.int v83), .val (.int v85), .val (.int v87), .val (.int v89), .val (.int v91), .unset, .unset, .unset, .unset, .unset, .unset, .unset, .unset] [(.int 1), (.long qq)])) rfl (by rw [hml]; rfl) (argsL := [(.long qq), (.int 1)]) (rest := []) (lenOf pd__JI_C rfl) rfl (by show 2 * 0 + _ ≤ _; exact Nat.le_of_eq rfl) (hb hby at_101) (fun _ _ => ⟨rfl, e92, (by decide : 0 + 0 ≤ _), (by decide : 0 + 0 ≤ _)⟩)
      dsimp only [Pt.U, Pt.locs, Pt.cells, Pt.slots] at X94 l94 y94 z94 st94 hQ94
      subst l94 y94 z94
      obtain ⟨v93, rfl, N94, e94, y94_0⟩ := hQ94
      have M94 := Fr.app M92 N94
      refine Gl.st st94 ?_
      show Gl p.tables e below _ (T94.setTop (mkF m 104 #[.val (.int mm), .val (.long pp), .second, .val (.long qq), .second, .val (.int ((1 : Int32) + (mm &&& (3 : Int32)))), .val (.int nt), .val (.int 0), .val (.int v83), .val (.int v85), .val (.int v87), .val (.int v89), .val (.int v91), .unset, .unset, .unset, .unset, .unset, .unset, .unset, .unset] [(.int v93)]))
      show Gl p.tables e below _ (T94.setTop (mkF m 104 #[.val (.int mm), .val (.long pp), .second, .val (.long qq), .second, .val (.int ((1 : Int32) + (mm &&& (3 : Int32)))), .val (.int nt), .val (.int 0), .val (.int v83), .val (.int v85), .val (.int v87), .val (.int v89), .val (.int v91), .unset, .unset, .unset, .unset, .unset, .unset, .unset, .unset] [(.int v93)]))
      refine Gl.st (fun _ kq => XS.istore X94.here hx rfl (hb hby at_104) rfl (l' := #[.val (.int mm), .val (.long pp), .second, .val (.long qq), .second, .val (.int ((1 : Int32) + (mm &&& (3 : Int32)))), .val (.int nt), .val (.int 0), .val (.int v83), .val (.int v85), .val (.int v87), .val (.int v89), .val (.int v91), .val (.int v93), .unset, .unset, .unset, .unset, .unset, .unset, .unset]) rfl kq) ?_
      show Gl p.tables e below _ (T94.setTop (mkF m 106 #[.val (.int mm), .val (.long pp), .second, .val (.long qq), .second, .val (.int ((1 : Int32) + (mm &&& (3 : Int32)))), .val (.int nt), .val (.int 0), .val (.int v83), .val (.int v85), .val (.int v87), .val (.int v89), .val (.int v91), .val (.int v93), .unset, .unset, .unset, .unset, .unset, .unset, .unset] []))
      refine Gl.st (fun _ kq => XS.iload X94.here hx rfl (hb hby at_106) rfl kq) ?_
      show Gl p.tables e below _ (T94.setTop (mkF m 108 #[.val (.int mm), .val (.long pp), .second, .val (.long qq), .second, .val (.int ((1 : Int32) + (mm &&& (3 : Int32)))), .val (.int nt), .val (.int 0), .val (.int v83), .val (.int v85), .val (.int v87), .val (.int v89), .val (.int v91), .val (.int v93), .unset, .unset, .unset, .unset, .unset, .unset, .unset] [(.int 0)]))
      refine Gl.st (fun _ kq => XS.ifYes X94.here hx rfl (pc0 := 108) (pc' := 116) rfl (hb hby at_108) rfl ((if0 _ _).trans (teq ((by decide) : (0 : Int32) = (0 : Int32))).1) (by decide) (by decide) kq) ?_
      show Gl p.tables e below _ (T94.setTop (mkF m 116 #[.val (.int mm), .val (.long pp), .second, .val (.long qq), .second, .val (.int ((1 : Int32) + (mm &&& (3 : Int32)))), .val (.int nt), .val (.int 0), .val (.int v83), .val (.int v85), .val (.int v87), .val (.int v89), .val (.int v91), .val (.int v93), .unset, .unset, .unset, .unset, .unset, .unset, .unset] []))
      refine Gl.st (fun _ kq => XS.lloadN X94.here hx rfl (hb hby at_116) rfl kq) ?_
      show Gl p.tables e below _ (T94.setTop (mkF m 117 #[.val (.int mm), .val (.long pp), .second, .val (.long qq), .second, .val (.int ((1 : Int32) + (mm &&& (3 : Int32)))), .val (.int nt), .val (.int 0), .val (.int v83), .val (.int v85), .val (.int v87), .val (.int v89), .val (.int v91), .val (.int v93), .unset, .unset, .unset, .unset, .unset, .unset, .unset] [(.long qq)]))
      refine Gl.st (fun _ kq => XS.iconst X94.here hx rfl (hb hby at_117) kq) ?_
      show Gl p.tables e below _ (T94.setTop (mkF m 118 #[.val (.int mm), .val (.long pp), .second, .val (.long qq), .second, .val (.int ((1 : Int32) + (mm &&& (3 : Int32)))), .val (.int nt), .val (.int 0), .val (.int v83), .val (.int v85), .val (.int v87), .val (.int v89), .val (.int v91), .val (.int v93), .unset, .unset, .unset, .unset, .unset, .unset, .unset] [(.int 2), (.long qq)]))
      obtain ⟨_, _, ⟨T96, L96, k96, n96⟩, -, X96, ⟨Lc96, hQ96, l96, y96, z96⟩, st96⟩ := Jvm.LawKit.callS X94 hx (y := (⟨"com/example/groupwright/groupwright/core/ShareIdOfPinLaw", "digit", "(JI)C"⟩ : MethodName)) hown (mvT hZ (tw hw 0 rfl)) (mvT hZ (tw hw 1 rfl)) (mvT hZ (tw hw 2 rfl)) (mvT hZ (tw hw 3 rfl)) (by decide) (backOf (W := 0) (rm_dg l Z a0 hw [] (qq) ((2 : Int32)) h0 n0 Z0 ) hZ (tw hw 3 rfl) (tw hw 2 rfl) (by decide) (by decide)) (g := (mkF m 118 #[.val (.int mm), .val (.long pp), .second, .val (.long qq), .second, .val (.int ((1 : Int32) + (mm &&& (3 : Int32)))), .val (.int nt), .val (.int 0), .val (.int v83), .val (.int v85), .val (.int v87), .val (.int v89), .val (.int v91), .val (.int v93), .unset, .unset, .unset, .unset, .unset, .unset, .unset] [(.int 2), (.long qq)])) rfl (by rw [hml]; rfl) (argsL := [(.long qq), (.int 2)]) (rest := []) (lenOf pd__JI_C rfl) rfl (by show 2 * 0 + _ ≤ _; exact Nat.le_of_eq rfl) (hb hby at_118) (fun _ _ => ⟨rfl, e94, (by decide : 0 + 0 ≤ _), (by decide : 0 + 0 ≤ _)⟩)
      dsimp only [Pt.U, Pt.locs, Pt.cells, Pt.slots] at X96 l96 y96 z96 st96 hQ96
      subst l96 y96 z96
      obtain ⟨v95, rfl, N96, e96, y96_0⟩ := hQ96
      have M96 := Fr.app M94 N96
      refine Gl.st st96 ?_
      show Gl p.tables e below _ (T96.setTop (mkF m 121 #[.val (.int mm), .val (.long pp), .second, .val (.long qq), .second, .val (.int ((1 : Int32) + (mm &&& (3 : Int32)))), .val (.int nt), .val (.int 0), .val (.int v83), .val (.int v85), .val (.int v87), .val (.int v89), .val (.int v91), .val (.int v93), .unset, .unset, .unset, .unset, .unset, .unset, .unset] [(.int v95)]))
      show Gl p.tables e below _ (T96.setTop (mkF m 121 #[.val (.int mm), .val (.long pp), .second, .val (.long qq), .second, .val (.int ((1 : Int32) + (mm &&& (3 : Int32)))), .val (.int nt), .val (.int 0), .val (.int v83), .val (.int v85), .val (.int v87), .val (.int v89), .val (.int v91), .val (.int v93), .unset, .unset, .unset, .unset, .unset, .unset, .unset] [(.int v95)]))
      refine Gl.st (fun _ kq => XS.istore X96.here hx rfl (hb hby at_121) rfl (l' := #[.val (.int mm), .val (.long pp), .second, .val (.long qq), .second, .val (.int ((1 : Int32) + (mm &&& (3 : Int32)))), .val (.int nt), .val (.int 0), .val (.int v83), .val (.int v85), .val (.int v87), .val (.int v89), .val (.int v91), .val (.int v93), .val (.int v95), .unset, .unset, .unset, .unset, .unset, .unset]) rfl kq) ?_
      show Gl p.tables e below _ (T96.setTop (mkF m 123 #[.val (.int mm), .val (.long pp), .second, .val (.long qq), .second, .val (.int ((1 : Int32) + (mm &&& (3 : Int32)))), .val (.int nt), .val (.int 0), .val (.int v83), .val (.int v85), .val (.int v87), .val (.int v89), .val (.int v91), .val (.int v93), .val (.int v95), .unset, .unset, .unset, .unset, .unset, .unset] []))
      refine Gl.st (fun _ kq => XS.iload X96.here hx rfl (hb hby at_123) rfl kq) ?_
      show Gl p.tables e below _ (T96.setTop (mkF m 125 #[.val (.int mm), .val (.long pp), .second, .val (.long qq), .second, .val (.int ((1 : Int32) + (mm &&& (3 : Int32)))), .val (.int nt), .val (.int 0), .val (.int v83), .val (.int v85), .val (.int v87), .val (.int v89), .val (.int v91), .val (.int v93), .val (.int v95), .unset, .unset, .unset, .unset, .unset, .unset] [(.int 0)]))
      refine Gl.st (fun _ kq => XS.ifYes X96.here hx rfl (pc0 := 125) (pc' := 133) rfl (hb hby at_125) rfl ((if0 _ _).trans (teq ((by decide) : (0 : Int32) = (0 : Int32))).1) (by decide) (by decide) kq) ?_
      show Gl p.tables e below _ (T96.setTop (mkF m 133 #[.val (.int mm), .val (.long pp), .second, .val (.long qq), .second, .val (.int ((1 : Int32) + (mm &&& (3 : Int32)))), .val (.int nt), .val (.int 0), .val (.int v83), .val (.int v85), .val (.int v87), .val (.int v89), .val (.int v91), .val (.int v93), .val (.int v95), .unset, .unset, .unset, .unset, .unset, .unset] []))
      refine Gl.st (fun _ kq => XS.lloadN X96.here hx rfl (hb hby at_133) rfl kq) ?_
      show Gl p.tables e below _ (T96.setTop (mkF m 134 #[.val (.int mm), .val (.long pp), .second, .val (.long qq), .second, .val (.int ((1 : Int32) + (mm &&& (3 : Int32)))), .val (.int nt), .val (.int 0), .val (.int v83), .val (.int v85), .val (.int v87), .val (.int v89), .val (.int v91), .val (.int v93), .val (.int v95), .unset, .unset, .unset, .unset, .unset, .unset] [(.long qq)]))
      refine Gl.st (fun _ kq => XS.iconst X96.here hx rfl (hb hby at_134) kq) ?_
      show Gl p.tables e below _ (T96.setTop (mkF m 135 #[.val (.int mm), .val (.long pp), .second, .val (.long qq), .second, .val (.int ((1 : Int32) + (mm &&& (3 : Int32)))), .val (.int nt), .val (.int 0), .val (.int v83), .val (.int v85), .val (.int v87), .val (.int v89), .val (.int v91), .val (.int v93), .val (.int v95), .unset, .unset, .unset, .unset, .unset, .unset] [(.int 3), (.long qq)]))
      obtain ⟨_, _, ⟨T98, L98, k98, n98⟩, -, X98, ⟨Lc98, hQ98, l98, y98, z98⟩, st98⟩ := Jvm.LawKit.callS X96 hx (y := (⟨"com/example/groupwright/groupwright/core/ShareIdOfPinLaw", "digit", "(JI)C"⟩ : MethodName)) hown (mvT hZ (tw hw 0 rfl)) (mvT hZ (tw hw 1 rfl)) (mvT hZ (tw hw 2 rfl)) (mvT hZ (tw hw 3 rfl)) (by decide) (backOf (W := 0) (rm_dg l Z a0 hw [] (qq) ((3 : Int32)) h0 n0 Z0 ) hZ (tw hw 3 rfl) (tw hw 2 rfl) (by decide) (by decide)) (g := (mkF m 135 #[.val (.int mm), .val (.long pp), .second, .val (.long qq), .second, .val (.int ((1 : Int32) + (mm &&& (3 : Int32)))), .val (.int nt), .val (.int 0), .val (.int v83), .val (.int v85), .val (.int v87), .val (.int v89), .val (.int v91), .val (.int v93), .val (.int v95), .unset, .unset, .unset, .unset, .unset, .unset] [(.int 3), (.long qq)])) rfl (by rw [hml]; rfl) (argsL := [(.long qq), (.int 3)]) (rest := []) (lenOf pd__JI_C rfl) rfl (by show 2 * 0 + _ ≤ _; exact Nat.le_of_eq rfl) (hb hby at_135) (fun _ _ => ⟨rfl, e96, (by decide : 0 + 0 ≤ _), (by decide : 0 + 0 ≤ _)⟩)
      dsimp only [Pt.U, Pt.locs, Pt.cells, Pt.slots] at X98 l98 y98 z98 st98 hQ98
      subst l98 y98 z98
      obtain ⟨v97, rfl, N98, e98, y98_0⟩ := hQ98
      have M98 := Fr.app M96 N98
      refine Gl.st st98 ?_
      show Gl p.tables e below _ (T98.setTop (mkF m 138 #[.val (.int mm), .val (.long pp), .second, .val (.long qq), .second, .val (.int ((1 : Int32) + (mm &&& (3 : Int32)))), .val (.int nt), .val (.int 0), .val (.int v83), .val (.int v85), .val (.int v87), .val (.int v89), .val (.int v91), .val (.int v93), .val (.int v95), .unset, .unset, .unset, .unset, .unset, .unset] [(.int v97)]))
      show Gl p.tables e below _ (T98.setTop (mkF m 138 #[.val (.int mm), .val (.long pp), .second, .val (.long qq), .second, .val (.int ((1 : Int32) + (mm &&& (3 : Int32)))), .val (.int nt), .val (.int 0), .val (.int v83), .val (.int v85), .val (.int v87), .val (.int v89), .val (.int v91), .val (.int v93), .val (.int v95), .unset, .unset, .unset, .unset, .unset, .unset] [(.int v97)]))
      refine Gl.st (fun _ kq => XS.istore X98.here hx rfl (hb hby at_138) rfl (l' := #[.val (.int mm), .val (.long pp), .second, .val (.long qq), .second, .val (.int ((1 : Int32) + (mm &&& (3 : Int32)))), .val (.int nt), .val (.int 0), .val (.int v83), .val (.int v85), .val (.int v87), .val (.int v89), .val (.int v91), .val (.int v93), .val (.int v95), .val (.int v97), .unset, .unset, .unset, .unset, .unset]) rfl kq) ?_
      show Gl p.tables e below _ (T98.setTop (mkF m 140 #[.val (.int mm), .val (.long pp), .second, .val (.long qq), .second, .val (.int ((1 : Int32) + (mm &&& (3 : Int32)))), .val (.int nt), .val (.int 0), .val (.int v83), .val (.int v85), .val (.int v87), .val (.int v89), .val (.int v91), .val (.int v93), .val (.int v95), .val (.int v97), .unset, .unset, .unset, .unset, .unset] []))
      exact Jd _ _ (X98.more (by decide) (by decide)) e98 M98  ((0 : Int32)) (v83) (v85) (v87) (v89) (v91) (v93) (v95) (v97) y84_0 y86_0 y88_0 y90_0 y92_0 y94_0 y96_0 y98_0
    · refine Gl.st (fun _ kq => XS.ifNo Xn.here hx rfl (hb hby at_34) rfl ((if0 _ _).trans (feq (hc82 : ¬ ((((mm.toUInt32 >>> ((5 : Int32) &&& 31).toUInt32).toInt32) &&& (1 : Int32)) = (0 : Int32)))).1) kq) ?_
      show Gl p.tables e below _ (Tn.setTop (mkF m 37 #[.val (.int mm), .val (.long pp), .second, .val (.long qq), .second, .val (.int ((1 : Int32) + (mm &&& (3 : Int32)))), .val (.int nt), .unset, .unset, .unset, .unset, .unset, .unset, .unset, .unset, .unset, .unset, .unset, .unset, .unset, .unset] []))
      refine Gl.st (fun _ kq => XS.iconst Xn.here hx rfl (hb hby at_37) kq) ?_
      show Gl p.tables e below _ (Tn.setTop (mkF m 38 #[.val (.int mm), .val (.long pp), .second, .val (.long qq), .second, .val (.int ((1 : Int32) + (mm &&& (3 : Int32)))), .val (.int nt), .unset, .unset, .unset, .unset, .unset, .unset, .unset, .unset, .unset, .unset, .unset, .unset, .unset, .unset] [(.int 1)]))
      refine Gl.st (fun _ kq => XS.goto Xn.here hx rfl (pc0 := 38) (pc' := 42) rfl (hb hby at_38) (by decide) (by decide) kq) ?_
      show Gl p.tables e below _ (Tn.setTop (mkF m 42 #[.val (.int mm), .val (.long pp), .second, .val (.long qq), .second, .val (.int ((1 : Int32) + (mm &&& (3 : Int32)))), .val (.int nt), .unset, .unset, .unset, .unset, .unset, .unset, .unset, .unset, .unset, .unset, .unset, .unset, .unset, .unset] [(.int 1)]))
      refine Gl.st (fun _ kq => XS.istore Xn.here hx rfl (hb hby at_42) rfl (l' := #[.val (.int mm), .val (.long pp), .second, .val (.long qq), .second, .val (.int ((1 : Int32) + (mm &&& (3 : Int32)))), .val (.int nt), .val (.int 1), .unset, .unset, .unset, .unset, .unset, .unset, .unset, .unset, .unset, .unset, .unset, .unset, .unset]) rfl kq) ?_
      show Gl p.tables e below _ (Tn.setTop (mkF m 44 #[.val (.int mm), .val (.long pp), .second, .val (.long qq), .second, .val (.int ((1 : Int32) + (mm &&& (3 : Int32)))), .val (.int nt), .val (.int 1), .unset, .unset, .unset, .unset, .unset, .unset, .unset, .unset, .unset, .unset, .unset, .unset, .unset] []))
      refine Gl.st (fun _ kq => XS.lloadN Xn.here hx rfl (hb hby at_44) rfl kq) ?_
      show Gl p.tables e below _ (Tn.setTop (mkF m 45 #[.val (.int mm), .val (.long pp), .second, .val (.long qq), .second, .val (.int ((1 : Int32) + (mm &&& (3 : Int32)))), .val (.int nt), .val (.int 1), .unset, .unset, .unset, .unset, .unset, .unset, .unset, .unset, .unset, .unset, .unset, .unset, .unset] [(.long pp)]))
      refine Gl.st (fun _ kq => XS.iconst Xn.here hx rfl (hb hby at_45) kq) ?_
      show Gl p.tables e below _ (Tn.setTop (mkF m 46 #[.val (.int mm), .val (.long pp), .second, .val (.long qq), .second, .val (.int ((1 : Int32) + (mm &&& (3 : Int32)))), .val (.int nt), .val (.int 1), .unset, .unset, .unset, .unset, .unset, .unset, .unset, .unset, .unset, .unset, .unset, .unset, .unset] [(.int 0), (.long pp)]))
      obtain ⟨_, _, ⟨T100, L100, k100, n100⟩, -, X100, ⟨Lc100, hQ100, l100, y100, z100⟩, st100⟩ := Jvm.LawKit.callS Xn hx (y := (⟨"com/example/groupwright/groupwright/core/ShareIdOfPinLaw", "digit", "(JI)C"⟩ : MethodName)) hown (mvT hZ (tw hw 0 rfl)) (mvT hZ (tw hw 1 rfl)) (mvT hZ (tw hw 2 rfl)) (mvT hZ (tw hw 3 rfl)) (by decide) (backOf (W := 0) (rm_dg l Z a0 hw [] (pp) ((0 : Int32)) h0 n0 Z0 ) hZ (tw hw 3 rfl) (tw hw 2 rfl) (by decide) (by decide)) (g := (mkF m 46 #[.val (.int mm), .val (.long pp), .second, .val (.long qq), .second, .val (.int ((1 : Int32) + (mm &&& (3 : Int32)))), .val (.int nt), .val (.int 1), .unset, .unset, .unset, .unset, .unset, .unset, .unset, .unset, .unset, .unset, .unset, .unset, .unset] [(.int 0), (.long pp)])) rfl (by rw [hml]; rfl) (argsL := [(.long pp), (.int 0)]) (rest := []) (lenOf pd__JI_C rfl) rfl (by show 2 * 0 + _ ≤ _; exact Nat.le_of_eq rfl) (hb hby at_46) (fun _ _ => ⟨rfl, en, (by decide : 0 + 0 ≤ _), (by decide : 0 + 0 ≤ _)⟩)
      dsimp only [Pt.U, Pt.locs, Pt.cells, Pt.slots] at X100 l100 y100 z100 st100 hQ100
      subst l100 y100 z100
      obtain ⟨v99, rfl, N100, e100, y100_0⟩ := hQ100
      have M100 := Fr.app Nn N100
      refine Gl.st st100 ?_
      show Gl p.tables e below _ (T100.setTop (mkF m 49 #[.val (.int mm), .val (.long pp), .second, .val (.long qq), .second, .val (.int ((1 : Int32) + (mm &&& (3 : Int32)))), .val (.int nt), .val (.int 1), .unset, .unset, .unset, .unset, .unset, .unset, .unset, .unset, .unset, .unset, .unset, .unset, .unset] [(.int v99)]))
      show Gl p.tables e below _ (T100.setTop (mkF m 49 #[.val (.int mm), .val (.long pp), .second, .val (.long qq), .second, .val (.int ((1 : Int32) + (mm &&& (3 : Int32)))), .val (.int nt), .val (.int 1), .unset, .unset, .unset, .unset, .unset, .unset, .unset, .unset, .unset, .unset, .unset, .unset, .unset] [(.int v99)]))
      refine Gl.st (fun _ kq => XS.istore X100.here hx rfl (hb hby at_49) rfl (l' := #[.val (.int mm), .val (.long pp), .second, .val (.long qq), .second, .val (.int ((1 : Int32) + (mm &&& (3 : Int32)))), .val (.int nt), .val (.int 1), .val (.int v99), .unset, .unset, .unset, .unset, .unset, .unset, .unset, .unset, .unset, .unset, .unset, .unset]) rfl kq) ?_
      show Gl p.tables e below _ (T100.setTop (mkF m 51 #[.val (.int mm), .val (.long pp), .second, .val (.long qq), .second, .val (.int ((1 : Int32) + (mm &&& (3 : Int32)))), .val (.int nt), .val (.int 1), .val (.int v99), .unset, .unset, .unset, .unset, .unset, .unset, .unset, .unset, .unset, .unset, .unset, .unset] []))
      refine Gl.st (fun _ kq => XS.lloadN X100.here hx rfl (hb hby at_51) rfl kq) ?_
      show Gl p.tables e below _ (T100.setTop (mkF m 52 #[.val (.int mm), .val (.long pp), .second, .val (.long qq), .second, .val (.int ((1 : Int32) + (mm &&& (3 : Int32)))), .val (.int nt), .val (.int 1), .val (.int v99), .unset, .unset, .unset, .unset, .unset, .unset, .unset, .unset, .unset, .unset, .unset, .unset] [(.long pp)]))
      refine Gl.st (fun _ kq => XS.iconst X100.here hx rfl (hb hby at_52) kq) ?_
      show Gl p.tables e below _ (T100.setTop (mkF m 53 #[.val (.int mm), .val (.long pp), .second, .val (.long qq), .second, .val (.int ((1 : Int32) + (mm &&& (3 : Int32)))), .val (.int nt), .val (.int 1), .val (.int v99), .unset, .unset, .unset, .unset, .unset, .unset, .unset, .unset, .unset, .unset, .unset, .unset] [(.int 1), (.long pp)]))
      obtain ⟨_, _, ⟨T102, L102, k102, n102⟩, -, X102, ⟨Lc102, hQ102, l102, y102, z102⟩, st102⟩ := Jvm.LawKit.callS X100 hx (y := (⟨"com/example/groupwright/groupwright/core/ShareIdOfPinLaw", "digit", "(JI)C"⟩ : MethodName)) hown (mvT hZ (tw hw 0 rfl)) (mvT hZ (tw hw 1 rfl)) (mvT hZ (tw hw 2 rfl)) (mvT hZ (tw hw 3 rfl)) (by decide) (backOf (W := 0) (rm_dg l Z a0 hw [] (pp) ((1 : Int32)) h0 n0 Z0 ) hZ (tw hw 3 rfl) (tw hw 2 rfl) (by decide) (by decide)) (g := (mkF m 53 #[.val (.int mm), .val (.long pp), .second, .val (.long qq), .second, .val (.int ((1 : Int32) + (mm &&& (3 : Int32)))), .val (.int nt), .val (.int 1), .val (.int v99), .unset, .unset, .unset, .unset, .unset, .unset, .unset, .unset, .unset, .unset, .unset, .unset] [(.int 1), (.long pp)])) rfl (by rw [hml]; rfl) (argsL := [(.long pp), (.int 1)]) (rest := []) (lenOf pd__JI_C rfl) rfl (by show 2 * 0 + _ ≤ _; exact Nat.le_of_eq rfl) (hb hby at_53) (fun _ _ => ⟨rfl, e100, (by decide : 0 + 0 ≤ _), (by decide : 0 + 0 ≤ _)⟩)
      dsimp only [Pt.U, Pt.locs, Pt.cells, Pt.slots] at X102 l102 y102 z102 st102 hQ102
      subst l102 y102 z102
      obtain ⟨v101, rfl, N102, e102, y102_0⟩ := hQ102
      have M102 := Fr.app M100 N102
      refine Gl.st st102 ?_
      show Gl p.tables e below _ (T102.setTop (mkF m 56 #[.val (.int mm), .val (.long pp), .second, .val (.long qq), .second, .val (.int ((1 : Int32) + (mm &&& (3 : Int32)))), .val (.int nt), .val (.int 1), .val (.int v99), .unset, .unset, .unset, .unset, .unset, .unset, .unset, .unset, .unset, .unset, .unset, .unset] [(.int v101)]))
      show Gl p.tables e below _ (T102.setTop (mkF m 56 #[.val (.int mm), .val (.long pp), .second, .val (.long qq), .second, .val (.int ((1 : Int32) + (mm &&& (3 : Int32)))), .val (.int nt), .val (.int 1), .val (.int v99), .unset, .unset, .unset, .unset, .unset, .unset, .unset, .unset, .unset, .unset, .unset, .unset] [(.int v101)]))
      refine Gl.st (fun _ kq => XS.istore X102.here hx rfl (hb hby at_56) rfl (l' := #[.val (.int mm), .val (.long pp), .second, .val (.long qq), .second, .val (.int ((1 : Int32) + (mm &&& (3 : Int32)))), .val (.int nt), .val (.int 1), .val (.int v99), .val (.int v101), .unset, .unset, .unset, .unset, .unset, .unset, .unset, .unset, .unset, .unset, .unset]) rfl kq) ?_
      show Gl p.tables e below _ (T102.setTop (mkF m 58 #[.val (.int mm), .val (.long pp), .second, .val (.long qq), .second, .val (.int ((1 : Int32) + (mm &&& (3 : Int32)))), .val (.int nt), .val (.int 1), .val (.int v99), .val (.int v101), .unset, .unset, .unset, .unset, .unset, .unset, .unset, .unset, .unset, .unset, .unset] []))
      refine Gl.st (fun _ kq => XS.lloadN X102.here hx rfl (hb hby at_58) rfl kq) ?_
      show Gl p.tables e below _ (T102.setTop (mkF m 59 #[.val (.int mm), .val (.long pp), .second, .val (.long qq), .second, .val (.int ((1 : Int32) + (mm &&& (3 : Int32)))), .val (.int nt), .val (.int 1), .val (.int v99), .val (.int v101), .unset, .unset, .unset, .unset, .unset, .unset, .unset, .unset, .unset, .unset, .unset] [(.long pp)]))
      refine Gl.st (fun _ kq => XS.iconst X102.here hx rfl (hb hby at_59) kq) ?_
      show Gl p.tables e below _ (T102.setTop (mkF m 60 #[.val (.int mm), .val (.long pp), .second, .val (.long qq), .second, .val (.int ((1 : Int32) + (mm &&& (3 : Int32)))), .val (.int nt), .val (.int 1), .val (.int v99), .val (.int v101), .unset, .unset, .unset, .unset, .unset, .unset, .unset, .unset, .unset, .unset, .unset] [(.int 2), (.long pp)]))
      obtain ⟨_, _, ⟨T104, L104, k104, n104⟩, -, X104, ⟨Lc104, hQ104, l104, y104, z104⟩, st104⟩ := Jvm.LawKit.callS X102 hx (y := (⟨"com/example/groupwright/groupwright/core/ShareIdOfPinLaw", "digit", "(JI)C"⟩ : MethodName)) hown (mvT hZ (tw hw 0 rfl)) (mvT hZ (tw hw 1 rfl)) (mvT hZ (tw hw 2 rfl)) (mvT hZ (tw hw 3 rfl)) (by decide) (backOf (W := 0) (rm_dg l Z a0 hw [] (pp) ((2 : Int32)) h0 n0 Z0 ) hZ (tw hw 3 rfl) (tw hw 2 rfl) (by decide) (by decide)) (g := (mkF m 60 #[.val (.int mm), .val (.long pp), .second, .val (.long qq), .second, .val (.int ((1 : Int32) + (mm &&& (3 : Int32)))), .val (.int nt), .val (.int 1), .val (.int v99), .val (.int v101), .unset, .unset, .unset, .unset, .unset, .unset, .unset, .unset, .unset, .unset, .unset] [(.int 2), (.long pp)])) rfl (by rw [hml]; rfl) (argsL := [(.long pp), (.int 2)]) (rest := []) (lenOf pd__JI_C rfl) rfl (by show 2 * 0 + _ ≤ _; exact Nat.le_of_eq rfl) (hb hby at_60) (fun _ _ => ⟨rfl, e102, (by decide : 0 + 0 ≤ _), (by decide : 0 + 0 ≤ _)⟩)
      dsimp only [Pt.U, Pt.locs, Pt.cells, Pt.slots] at X104 l104 y104 z104 st104 hQ104
      subst l104 y104 z104
      obtain ⟨v103, rfl, N104, e104, y104_0⟩ := hQ104
      have M104 := Fr.app M102 N104
      refine Gl.st st104 ?_
      show Gl p.tables e below _ (T104.setTop (mkF m 63 #[.val (.int mm), .val (.long pp), .second, .val (.long qq), .second, .val (.int ((1 : Int32) + (mm &&& (3 : Int32)))), .val (.int nt), .val (.int 1), .val (.int v99), .val (.int v101), .unset, .unset, .unset, .unset, .unset, .unset, .unset, .unset, .unset, .unset, .unset] [(.int v103)]))
      show Gl p.tables e below _ (T104.setTop (mkF m 63 #[.val (.int mm), .val (.long pp), .second, .val (.long qq), .second, .val (.int ((1 : Int32) + (mm &&& (3 : Int32)))), .val (.int nt), .val (.int 1), .val (.int v99), .val (.int v101), .unset, .unset, .unset, .unset, .unset, .unset, .unset, .unset, .unset, .unset, .unset] [(.int v103)]))
      refine Gl.st (fun _ kq => XS.istore X104.here hx rfl (hb hby at_63) rfl (l' := #[.val (.int mm), .val (.long pp), .second, .val (.long qq), .second, .val (.int ((1 : Int32) + (mm &&& (3 : Int32)))), .val (.int nt), .val (.int 1), .val (.int v99), .val (.int v101), .val (.int v103), .unset, .unset, .unset, .unset, .unset, .unset, .unset, .unset, .unset, .unset]) rfl kq) ?_
      show Gl p.tables e below _ (T104.setTop (mkF m 65 #[.val (.int mm), .val (.long pp), .second, .val (.long qq), .second, .val (.int ((1 : Int32) + (mm &&& (3 : Int32)))), .val (.int nt), .val (.int 1), .val (.int v99), .val (.int v101), .val (.int v103), .unset, .unset, .unset, .unset, .unset, .unset, .unset, .unset, .unset, .unset] []))
      refine Gl.st (fun _ kq => XS.lloadN X104.here hx rfl (hb hby at_65) rfl kq) ?_
      show Gl p.tables e below _ (T104.setTop (mkF m 66 #[.val (.int mm), .val (.long pp), .second, .val (.long qq), .second, .val (.int ((1 : Int32) + (mm &&& (3 : Int32)))), .val (.int nt), .val (.int 1), .val (.int v99), .val (.int v101), .val (.int v103), .unset, .unset, .unset, .unset, .unset, .unset, .unset, .unset, .unset, .unset] [(.long pp)]))
      refine Gl.st (fun _ kq => XS.iconst X104.here hx rfl (hb hby at_66) kq) ?_
      show Gl p.tables e below _ (T104.setTop (mkF m 67 #[.val (.int mm), .val (.long pp), .second, .val (.long qq), .second, .val (.int ((1 : Int32) + (mm &&& (3 : Int32)))), .val (.int nt), .val (.int 1), .val (.int v99), .val (.int v101), .val (.int v103), .unset, .unset, .unset, .unset, .unset, .unset, .unset, .unset, .unset, .unset] [(.int 3), (.long pp)]))
      obtain ⟨_, _, ⟨T106, L106, k106, n106⟩, -, X106, ⟨Lc106, hQ106, l106, y106, z106⟩, st106⟩ := Jvm.LawKit.callS X104 hx (y := (⟨"com/example/groupwright/groupwright/core/ShareIdOfPinLaw", "digit", "(JI)C"⟩ : MethodName)) hown (mvT hZ (tw hw 0 rfl)) (mvT hZ (tw hw 1 rfl)) (mvT hZ (tw hw 2 rfl)) (mvT hZ (tw hw 3 rfl)) (by decide) (backOf (W := 0) (rm_dg l Z a0 hw [] (pp) ((3 : Int32)) h0 n0 Z0 ) hZ (tw hw 3 rfl) (tw hw 2 rfl) (by decide) (by decide)) (g := (mkF m 67 #[.val (.int mm), .val (.long pp), .second, .val (.long qq), .second, .val (.int ((1 : Int32) + (mm &&& (3 : Int32)))), .val (.int nt), .val (.int 1), .val (.int v99), .val (.int v101), .val (.int v103), .unset, .unset, .unset, .unset, .unset, .unset, .unset, .unset, .unset, .unset] [(.int 3), (.long pp)])) rfl (by rw [hml]; rfl) (argsL := [(.long pp), (.int 3)]) (rest := []) (lenOf pd__JI_C rfl) rfl (by show 2 * 0 + _ ≤ _; exact Nat.le_of_eq rfl) (hb hby at_67) (fun _ _ => ⟨rfl, e104, (by decide : 0 + 0 ≤ _), (by decide : 0 + 0 ≤ _)⟩)
      dsimp only [Pt.U, Pt.locs, Pt.cells, Pt.slots] at X106 l106 y106 z106 st106 hQ106
      subst l106 y106 z106
      obtain ⟨v105, rfl, N106, e106, y106_0⟩ := hQ106
      have M106 := Fr.app M104 N106
      refine Gl.st st106 ?_
      show Gl p.tables e below _ (T106.setTop (mkF m 70 #[.val (.int mm), .val (.long pp), .second, .val (.long qq), .second, .val (.int ((1 : Int32) + (mm &&& (3 : Int32)))), .val (.int nt), .val (.int 1), .val (.int v99), .val (.int v101), .val (.int v103), .unset, .unset, .unset, .unset, .unset, .unset, .unset, .unset, .unset, .unset] [(.int v105)]))
      show Gl p.tables e below _ (T106.setTop (mkF m 70 #[.val (.int mm), .val (.long pp), .second, .val (.long qq), .second, .val (.int ((1 : Int32) + (mm &&& (3 : Int32)))), .val (.int nt), .val (.int 1), .val (.int v99), .val (.int v101), .val (.int v103), .unset, .unset, .unset, .unset, .unset, .unset, .unset, .unset, .unset, .unset] [(.int v105)]))
      refine Gl.st (fun _ kq => XS.istore X106.here hx rfl (hb hby at_70) rfl (l' := #[.val (.int mm), .val (.long pp), .second, .val (.long qq), .second, .val (.int ((1 : Int32) + (mm &&& (3 : Int32)))), .val (.int nt), .val (.int 1), .val (.int v99), .val (.int v101), .val (.int v103), .val (.int v105), .unset, .unset, .unset, .unset, .unset, .unset, .unset, .unset, .unset]) rfl kq) ?_
      show Gl p.tables e below _ (T106.setTop (mkF m 72 #[.val (.int mm), .val (.long pp), .second, .val (.long qq), .second, .val (.int ((1 : Int32) + (mm &&& (3 : Int32)))), .val (.int nt), .val (.int 1), .val (.int v99), .val (.int v101), .val (.int v103), .val (.int v105), .unset, .unset, .unset, .unset, .unset, .unset, .unset, .unset, .unset] []))
      refine Gl.st (fun _ kq => XS.iload X106.here hx rfl (hb hby at_72) rfl kq) ?_
      show Gl p.tables e below _ (T106.setTop (mkF m 74 #[.val (.int mm), .val (.long pp), .second, .val (.long qq), .second, .val (.int ((1 : Int32) + (mm &&& (3 : Int32)))), .val (.int nt), .val (.int 1), .val (.int v99), .val (.int v101), .val (.int v103), .val (.int v105), .unset, .unset, .unset, .unset, .unset, .unset, .unset, .unset, .unset] [(.int 1)]))
      refine Gl.st (fun _ kq => XS.ifNo X106.here hx rfl (hb hby at_74) rfl ((if0 _ _).trans (feq ((by decide) : ¬ ((1 : Int32) = (0 : Int32)))).1) kq) ?_
      show Gl p.tables e below _ (T106.setTop (mkF m 77 #[.val (.int mm), .val (.long pp), .second, .val (.long qq), .second, .val (.int ((1 : Int32) + (mm &&& (3 : Int32)))), .val (.int nt), .val (.int 1), .val (.int v99), .val (.int v101), .val (.int v103), .val (.int v105), .unset, .unset, .unset, .unset, .unset, .unset, .unset, .unset, .unset] []))
      refine Gl.st (fun _ kq => XS.iload X106.here hx rfl (hb hby at_77) rfl kq) ?_
      show Gl p.tables e below _ (T106.setTop (mkF m 79 #[.val (.int mm), .val (.long pp), .second, .val (.long qq), .second, .val (.int ((1 : Int32) + (mm &&& (3 : Int32)))), .val (.int nt), .val (.int 1), .val (.int v99), .val (.int v101), .val (.int v103), .val (.int v105), .unset, .unset, .unset, .unset, .unset, .unset, .unset, .unset, .unset] [(.int v99)]))
      refine Gl.st (fun _ kq => XS.goto X106.here hx rfl (pc0 := 79) (pc' := 87) rfl (hb hby at_79) (by decide) (by decide) kq) ?_
      show Gl p.tables e below _ (T106.setTop (mkF m 87 #[.val (.int mm), .val (.long pp), .second, .val (.long qq), .second, .val (.int ((1 : Int32) + (mm &&& (3 : Int32)))), .val (.int nt), .val (.int 1), .val (.int v99), .val (.int v101), .val (.int v103), .val (.int v105), .unset, .unset, .unset, .unset, .unset, .unset, .unset, .unset, .unset] [(.int v99)]))
      refine Gl.st (fun _ kq => XS.istore X106.here hx rfl (hb hby at_87) rfl (l' := #[.val (.int mm), .val (.long pp), .second, .val (.long qq), .second, .val (.int ((1 : Int32) + (mm &&& (3 : Int32)))), .val (.int nt), .val (.int 1), .val (.int v99), .val (.int v101), .val (.int v103), .val (.int v105), .val (.int v99), .unset, .unset, .unset, .unset, .unset, .unset, .unset, .unset]) rfl kq) ?_
      show Gl p.tables e below _ (T106.setTop (mkF m 89 #[.val (.int mm), .val (.long pp), .second, .val (.long qq), .second, .val (.int ((1 : Int32) + (mm &&& (3 : Int32)))), .val (.int nt), .val (.int 1), .val (.int v99), .val (.int v101), .val (.int v103), .val (.int v105), .val (.int v99), .unset, .unset, .unset, .unset, .unset, .unset, .unset, .unset] []))
      refine Gl.st (fun _ kq => XS.iload X106.here hx rfl (hb hby at_89) rfl kq) ?_
      show Gl p.tables e below _ (T106.setTop (mkF m 91 #[.val (.int mm), .val (.long pp), .second, .val (.long qq), .second, .val (.int ((1 : Int32) + (mm &&& (3 : Int32)))), .val (.int nt), .val (.int 1), .val (.int v99), .val (.int v101), .val (.int v103), .val (.int v105), .val (.int v99), .unset, .unset, .unset, .unset, .unset, .unset, .unset, .unset] [(.int 1)]))
      refine Gl.st (fun _ kq => XS.ifNo X106.here hx rfl (hb hby at_91) rfl ((if0 _ _).trans (feq ((by decide) : ¬ ((1 : Int32) = (0 : Int32)))).1) kq) ?_
      show Gl p.tables e below _ (T106.setTop (mkF m 94 #[.val (.int mm), .val (.long pp), .second, .val (.long qq), .second, .val (.int ((1 : Int32) + (mm &&& (3 : Int32)))), .val (.int nt), .val (.int 1), .val (.int v99), .val (.int v101), .val (.int v103), .val (.int v105), .val (.int v99), .unset, .unset, .unset, .unset, .unset, .unset, .unset, .unset] []))
      refine Gl.st (fun _ kq => XS.iload X106.here hx rfl (hb hby at_94) rfl kq) ?_
      show Gl p.tables e below _ (T106.setTop (mkF m 96 #[.val (.int mm), .val (.long pp), .second, .val (.long qq), .second, .val (.int ((1 : Int32) + (mm &&& (3 : Int32)))), .val (.int nt), .val (.int 1), .val (.int v99), .val (.int v101), .val (.int v103), .val (.int v105), .val (.int v99), .unset, .unset, .unset, .unset, .unset, .unset, .unset, .unset] [(.int v101)]))
      refine Gl.st (fun _ kq => XS.goto X106.here hx rfl (pc0 := 96) (pc' := 104) rfl (hb hby at_96) (by decide) (by decide) kq) ?_
      show Gl p.tables e below _ (T106.setTop (mkF m 104 #[.val (.int mm), .val (.long pp), .second, .val (.long qq), .second, .val (.int ((1 : Int32) + (mm &&& (3 : Int32)))), .val (.int nt), .val (.int 1), .val (.int v99), .val (.int v101), .val (.int v103), .val (.int v105), .val (.int v99), .unset, .unset, .unset, .unset, .unset, .unset, .unset, .unset] [(.int v101)]))
      refine Gl.st (fun _ kq => XS.istore X106.here hx rfl (hb hby at_104) rfl (l' := #[.val (.int mm), .val (.long pp), .second, .val (.long qq), .second, .val (.int ((1 : Int32) + (mm &&& (3 : Int32)))), .val (.int nt), .val (.int 1), .val (.int v99), .val (.int v101), .val (.int v103), .val (.int v105), .val (.int v99), .val (.int v101), .unset, .unset, .unset, .unset, .unset, .unset, .unset]) rfl kq) ?_
      show Gl p.tables e below _ (T106.setTop (mkF m 106 #[.val (.int mm), .val (.long pp), .second, .val (.long qq), .second, .val (.int ((1 : Int32) + (mm &&& (3 : Int32)))), .val (.int nt), .val (.int 1), .val (.int v99), .val (.int v101), .val (.int v103), .val (.int v105), .val (.int v99), .val (.int v101), .unset, .unset, .unset, .unset, .unset, .unset, .unset] []))
      refine Gl.st (fun _ kq => XS.iload X106.here hx rfl (hb hby at_106) rfl kq) ?_
      show Gl p.tables e below _ (T106.setTop (mkF m 108 #[.val (.int mm), .val (.long pp), .second, .val (.long qq), .second, .val (.int ((1 : Int32) + (mm &&& (3 : Int32)))), .val (.int nt), .val (.int 1), .val (.int v99), .val (.int v101), .val (.int v103), .val (.int v105), .val (.int v99), .val (.int v101), .unset, .unset, .unset, .unset, .unset, .unset, .unset] [(.int 1)]))
      refine Gl.st (fun _ kq => XS.ifNo X106.here hx rfl (hb hby at_108) rfl ((if0 _ _).trans (feq ((by decide) : ¬ ((1 : Int32) = (0 : Int32)))).1) kq) ?_
      show Gl p.tables e below _ (T106.setTop (mkF m 111 #[.val (.int mm), .val (.long pp), .second, .val (.long qq), .second, .val (.int ((1 : Int32) + (mm &&& (3 : Int32)))), .val (.int nt), .val (.int 1), .val (.int v99), .val (.int v101), .val (.int v103), .val (.int v105), .val (.int v99), .val (.int v101), .unset, .unset, .unset, .unset, .unset, .unset, .unset] []))
      refine Gl.st (fun _ kq => XS.iload X106.here hx rfl (hb hby at_111) rfl kq) ?_
      show Gl p.tables e below _ (T106.setTop (mkF m 113 #[.val (.int mm), .val (.long pp), .second, .val (.long qq), .second, .val (.int ((1 : Int32) + (mm &&& (3 : Int32)))), .val (.int nt), .val (.int 1), .val (.int v99), .val (.int v101), .val (.int v103), .val (.int v105), .val (.int v99), .val (.int v101), .unset, .unset, .unset, .unset, .unset, .unset, .unset] [(.int v103)]))
      refine Gl.st (fun _ kq => XS.goto X106.here hx rfl (pc0 := 113) (pc' := 121) rfl (hb hby at_113) (by decide) (by decide) kq) ?_
      show Gl p.tables e below _ (T106.setTop (mkF m 121 #[.val (.int mm), .val (.long pp), .second, .val (.long qq), .second, .val (.int ((1 : Int32) + (mm &&& (3 : Int32)))), .val (.int nt), .val (.int 1), .val (.int v99), .val (.int v101), .val (.int v103), .val (.int v105), .val (.int v99), .val (.int v101), .unset, .unset, .unset, .unset, .unset, .unset, .unset] [(.int v103)]))
      refine Gl.st (fun _ kq => XS.istore X106.here hx rfl (hb hby at_121) rfl (l' := #[.val (.int mm), .val (.long pp), .second, .val (.long qq), .second, .val (.int ((1 : Int32) + (mm &&& (3 : Int32)))), .val (.int nt), .val (.int 1), .val (.int v99), .val (.int v101), .val (.int v103), .val (.int v105), .val (.int v99), .val (.int v101), .val (.int v103), .unset, .unset, .unset, .unset, .unset, .unset]) rfl kq) ?_
      show Gl p.tables e below _ (T106.setTop (mkF m 123 #[.val (.int mm), .val (.long pp), .second, .val (.long qq), .second, .val (.int ((1 : Int32) + (mm &&& (3 : Int32)))), .val (.int nt), .val (.int 1), .val (.int v99), .val (.int v101), .val (.int v103), .val (.int v105), .val (.int v99), .val (.int v101), .val (.int v103), .unset, .unset, .unset, .unset, .unset, .unset] []))
      refine Gl.st (fun _ kq => XS.iload X106.here hx rfl (hb hby at_123) rfl kq) ?_
      show Gl p.tables e below _ (T106.setTop (mkF m 125 #[.val (.int mm), .val (.long pp), .second, .val (.long qq), .second, .val (.int ((1 : Int32) + (mm &&& (3 : Int32)))), .val (.int nt), .val (.int 1), .val (.int v99), .val (.int v101), .val (.int v103), .val (.int v105), .val (.int v99), .val (.int v101), .val (.int v103), .unset, .unset, .unset, .unset, .unset, .unset] [(.int 1)]))
      refine Gl.st (fun _ kq => XS.ifNo X106.here hx rfl (hb hby at_125) rfl ((if0 _ _).trans (feq ((by decide) : ¬ ((1 : Int32) = (0 : Int32)))).1) kq) ?_
      show Gl p.tables e below _ (T106.setTop (mkF m 128 #[.val (.int mm), .val (.long pp), .second, .val (.long qq), .second, .val (.int ((1 : Int32) + (mm &&& (3 : Int32)))), .val (.int nt), .val (.int 1), .val (.int v99), .val (.int v101), .val (.int v103), .val (.int v105), .val (.int v99), .val (.int v101), .val (.int v103), .unset, .unset, .unset, .unset, .unset, .unset] []))
      refine Gl.st (fun _ kq => XS.iload X106.here hx rfl (hb hby at_128) rfl kq) ?_
      show Gl p.tables e below _ (T106.setTop (mkF m 130 #[.val (.int mm), .val (.long pp), .second, .val (.long qq), .second, .val (.int ((1 : Int32) + (mm &&& (3 : Int32)))), .val (.int nt), .val (.int 1), .val (.int v99), .val (.int v101), .val (.int v103), .val (.int v105), .val (.int v99), .val (.int v101), .val (.int v103), .unset, .unset, .unset, .unset, .unset, .unset] [(.int v105)]))
      refine Gl.st (fun _ kq => XS.goto X106.here hx rfl (pc0 := 130) (pc' := 138) rfl (hb hby at_130) (by decide) (by decide) kq) ?_
      show Gl p.tables e below _ (T106.setTop (mkF m 138 #[.val (.int mm), .val (.long pp), .second, .val (.long qq), .second, .val (.int ((1 : Int32) + (mm &&& (3 : Int32)))), .val (.int nt), .val (.int 1), .val (.int v99), .val (.int v101), .val (.int v103), .val (.int v105), .val (.int v99), .val (.int v101), .val (.int v103), .unset, .unset, .unset, .unset, .unset, .unset] [(.int v105)]))
      refine Gl.st (fun _ kq => XS.istore X106.here hx rfl (hb hby at_138) rfl (l' := #[.val (.int mm), .val (.long pp), .second, .val (.long qq), .second, .val (.int ((1 : Int32) + (mm &&& (3 : Int32)))), .val (.int nt), .val (.int 1), .val (.int v99), .val (.int v101), .val (.int v103), .val (.int v105), .val (.int v99), .val (.int v101), .val (.int v103), .val (.int v105), .unset, .unset, .unset, .unset, .unset]) rfl kq) ?_
      show Gl p.tables e below _ (T106.setTop (mkF m 140 #[.val (.int mm), .val (.long pp), .second, .val (.long qq), .second, .val (.int ((1 : Int32) + (mm &&& (3 : Int32)))), .val (.int nt), .val (.int 1), .val (.int v99), .val (.int v101), .val (.int v103), .val (.int v105), .val (.int v99), .val (.int v101), .val (.int v103), .val (.int v105), .unset, .unset, .unset, .unset, .unset] []))
      exact Jd _ _ (X106.more (by decide) (by decide)) e106 M106  ((1 : Int32)) (v99) (v101) (v103) (v105) (v99) (v101) (v103) (v105) y100_0 y102_0 y104_0 y106_0 y100_0 y102_0 y104_0 y106_0
  refine Gl.st (fun _ kq => XS.iloadN X0.here hx rfl (hb hby at_7) rfl kq) ?_
  show Gl p.tables e below _ (s₁.setTop (mkF m 8 #[.val (.int mm), .val (.long pp), .second, .val (.long qq), .second, .val (.int ((1 : Int32) + (mm &&& (3 : Int32)))), .unset, .unset, .unset, .unset, .unset, .unset, .unset, .unset, .unset, .unset, .unset, .unset, .unset, .unset, .unset] [(.int mm)]))
  refine Gl.st (fun _ kq => XS.iconst X0.here hx rfl (hb hby at_8) kq) ?_
  show Gl p.tables e below _ (s₁.setTop (mkF m 9 #[.val (.int mm), .val (.long pp), .second, .val (.long qq), .second, .val (.int ((1 : Int32) + (mm &&& (3 : Int32)))), .unset, .unset, .unset, .unset, .unset, .unset, .unset, .unset, .unset, .unset, .unset, .unset, .unset, .unset, .unset] [(.int 2), (.int mm)]))
  refine Gl.st (fun _ kq => XS.iushr X0.here hx rfl (hb hby at_9) rfl kq) ?_
  show Gl p.tables e below _ (s₁.setTop (mkF m 10 #[.val (.int mm), .val (.long pp), .second, .val (.long qq), .second, .val (.int ((1 : Int32) + (mm &&& (3 : Int32)))), .unset, .unset, .unset, .unset, .unset, .unset, .unset, .unset, .unset, .unset, .unset, .unset, .unset, .unset, .unset] [(.int ((mm.toUInt32 >>> ((2 : Int32) &&& 31).toUInt32).toInt32))]))
  refine Gl.st (fun _ kq => XS.iconst X0.here hx rfl (hb hby at_10) kq) ?_
  show Gl p.tables e below _ (s₁.setTop (mkF m 11 #[.val (.int mm), .val (.long pp), .second, .val (.long qq), .second, .val (.int ((1 : Int32) + (mm &&& (3 : Int32)))), .unset, .unset, .unset, .unset, .unset, .unset, .unset, .unset, .unset, .unset, .unset, .unset, .unset, .unset, .unset] [(.int 1), (.int ((mm.toUInt32 >>> ((2 : Int32) &&& 31).toUInt32).toInt32))]))
  refine Gl.st (fun _ kq => XS.iand X0.here hx rfl (hb hby at_11) rfl kq) ?_
  show Gl p.tables e below _ (s₁.setTop (mkF m 12 #[.val (.int mm), .val (.long pp), .second, .val (.long qq), .second, .val (.int ((1 : Int32) + (mm &&& (3 : Int32)))), .unset, .unset, .unset, .unset, .unset, .unset, .unset, .unset, .unset, .unset, .unset, .unset, .unset, .unset, .unset] [(.int (((mm.toUInt32 >>> ((2 : Int32) &&& 31).toUInt32).toInt32) &&& (1 : Int32)))]))
  by_cases hc107 : (((mm.toUInt32 >>> ((2 : Int32) &&& 31).toUInt32).toInt32) &&& (1 : Int32)) = (0 : Int32)
  · refine Gl.st (fun _ kq => XS.ifYes X0.here hx rfl (pc0 := 12) (pc' := 20) rfl (hb hby at_12) rfl ((if0 _ _).trans (teq (hc107 : (((mm.toUInt32 >>> ((2 : Int32) &&& 31).toUInt32).toInt32) &&& (1 : Int32)) = (0 : Int32))).1) (by decide) (by decide) kq) ?_
    show Gl p.tables e below _ (s₁.setTop (mkF m 20 #[.val (.int mm), .val (.long pp), .second, .val (.long qq), .second, .val (.int ((1 : Int32) + (mm &&& (3 : Int32)))), .unset, .unset, .unset, .unset, .unset, .unset, .unset, .unset, .unset, .unset, .unset, .unset, .unset, .unset, .unset] []))
    refine Gl.st (fun _ kq => XS.iconst X0.here hx rfl (hb hby at_20) kq) ?_
    show Gl p.tables e below _ (s₁.setTop (mkF m 21 #[.val (.int mm), .val (.long pp), .second, .val (.long qq), .second, .val (.int ((1 : Int32) + (mm &&& (3 : Int32)))), .unset, .unset, .unset, .unset, .unset, .unset, .unset, .unset, .unset, .unset, .unset, .unset, .unset, .unset, .unset] [(.int 1)]))
    refine Gl.st (fun _ kq => XS.iloadN X0.here hx rfl (hb hby at_21) rfl kq) ?_
    show Gl p.tables e below _ (s₁.setTop (mkF m 22 #[.val (.int mm), .val (.long pp), .second, .val (.long qq), .second, .val (.int ((1 : Int32) + (mm &&& (3 : Int32)))), .unset, .unset, .unset, .unset, .unset, .unset, .unset, .unset, .unset, .unset, .unset, .unset, .unset, .unset, .unset] [(.int mm), (.int 1)]))
    refine Gl.st (fun _ kq => XS.iconst X0.here hx rfl (hb hby at_22) kq) ?_
    show Gl p.tables e below _ (s₁.setTop (mkF m 23 #[.val (.int mm), .val (.long pp), .second, .val (.long qq), .second, .val (.int ((1 : Int32) + (mm &&& (3 : Int32)))), .unset, .unset, .unset, .unset, .unset, .unset, .unset, .unset, .unset, .unset, .unset, .unset, .unset, .unset, .unset] [(.int 3), (.int mm), (.int 1)]))
    refine Gl.st (fun _ kq => XS.iushr X0.here hx rfl (hb hby at_23) rfl kq) ?_
    show Gl p.tables e below _ (s₁.setTop (mkF m 24 #[.val (.int mm), .val (.long pp), .second, .val (.long qq), .second, .val (.int ((1 : Int32) + (mm &&& (3 : Int32)))), .unset, .unset, .unset, .unset, .unset, .unset, .unset, .unset, .unset, .unset, .unset, .unset, .unset, .unset, .unset] [(.int ((mm.toUInt32 >>> ((3 : Int32) &&& 31).toUInt32).toInt32)), (.int 1)]))
    refine Gl.st (fun _ kq => XS.iconst X0.here hx rfl (hb hby at_24) kq) ?_
    show Gl p.tables e below _ (s₁.setTop (mkF m 25 #[.val (.int mm), .val (.long pp), .second, .val (.long qq), .second, .val (.int ((1 : Int32) + (mm &&& (3 : Int32)))), .unset, .unset, .unset, .unset, .unset, .unset, .unset, .unset, .unset, .unset, .unset, .unset, .unset, .unset, .unset] [(.int 3), (.int ((mm.toUInt32 >>> ((3 : Int32) &&& 31).toUInt32).toInt32)), (.int 1)]))
    refine Gl.st (fun _ kq => XS.iand X0.here hx rfl (hb hby at_25) rfl kq) ?_
    show Gl p.tables e below _ (s₁.setTop (mkF m 26 #[.val (.int mm), .val (.long pp), .second, .val (.long qq), .second, .val (.int ((1 : Int32) + (mm &&& (3 : Int32)))), .unset, .unset, .unset, .unset, .unset, .unset, .unset, .unset, .unset, .unset, .unset, .unset, .unset, .unset, .unset] [(.int (((mm.toUInt32 >>> ((3 : Int32) &&& 31).toUInt32).toInt32) &&& (3 : Int32))), (.int 1)]))
    refine Gl.st (fun _ kq => XS.iadd X0.here hx rfl (hb hby at_26) rfl kq) ?_
    show Gl p.tables e below _ (s₁.setTop (mkF m 27 #[.val (.int mm), .val (.long pp), .second, .val (.long qq), .second, .val (.int ((1 : Int32) + (mm &&& (3 : Int32)))), .unset, .unset, .unset, .unset, .unset, .unset, .unset, .unset, .unset, .unset, .unset, .unset, .unset, .unset, .unset] [(.int ((1 : Int32) + (((mm.toUInt32 >>> ((3 : Int32) &&& 31).toUInt32).toInt32) &&& (3 : Int32))))]))
    refine Gl.st (fun _ kq => XS.istore X0.here hx rfl (hb hby at_27) rfl (l' := #[.val (.int mm), .val (.long pp), .second, .val (.long qq), .second, .val (.int ((1 : Int32) + (mm &&& (3 : Int32)))), .val (.int ((1 : Int32) + (((mm.toUInt32 >>> ((3 : Int32) &&& 31).toUInt32).toInt32) &&& (3 : Int32)))), .unset, .unset, .unset, .unset, .unset, .unset, .unset, .unset, .unset, .unset, .unset, .unset, .unset, .unset]) rfl kq) ?_
    show Gl p.tables e below _ (s₁.setTop (mkF m 29 #[.val (.int mm), .val (.long pp), .second, .val (.long qq), .second, .val (.int ((1 : Int32) + (mm &&& (3 : Int32)))), .val (.int ((1 : Int32) + (((mm.toUInt32 >>> ((3 : Int32) &&& 31).toUInt32).toInt32) &&& (3 : Int32)))), .unset, .unset, .unset, .unset, .unset, .unset, .unset, .unset, .unset, .unset, .unset, .unset, .unset, .unset] []))
    exact Jn _ _ (X0.more (by decide) (by decide)) e0 N0  (((1 : Int32) + (((mm.toUInt32 >>> ((3 : Int32) &&& 31).toUInt32).toInt32) &&& (3 : Int32)))) 
  · refine Gl.st (fun _ kq => XS.ifNo X0.here hx rfl (hb hby at_12) rfl ((if0 _ _).trans (feq (hc107 : ¬ ((((mm.toUInt32 >>> ((2 : Int32) &&& 31).toUInt32).toInt32) &&& (1 : Int32)) = (0 : Int32)))).1) kq) ?_
    show Gl p.tables e below _ (s₁.setTop (mkF m 15 #[.val (.int mm), .val (.long pp), .second, .val (.long qq), .second, .val (.int ((1 : Int32) + (mm &&& (3 : Int32)))), .unset, .unset, .unset, .unset, .unset, .unset, .unset, .unset, .unset, .unset, .unset, .unset, .unset, .unset, .unset] []))
    refine Gl.st (fun _ kq => XS.iload X0.here hx rfl (hb hby at_15) rfl kq) ?_
    show Gl p.tables e below _ (s₁.setTop (mkF m 17 #[.val (.int mm), .val (.long pp), .second, .val (.long qq), .second, .val (.int ((1 : Int32) + (mm &&& (3 : Int32)))), .unset, .unset, .unset, .unset, .unset, .unset, .unset, .unset, .unset, .unset, .unset, .unset, .unset, .unset, .unset] [(.int ((1 : Int32) + (mm &&& (3 : Int32))))]))
    refine Gl.st (fun _ kq => XS.goto X0.here hx rfl (pc0 := 17) (pc' := 27) rfl (hb hby at_17) (by decide) (by decide) kq) ?_
    show Gl p.tables e below _ (s₁.setTop (mkF m 27 #[.val (.int mm), .val (.long pp), .second, .val (.long qq), .second, .val (.int ((1 : Int32) + (mm &&& (3 : Int32)))), .unset, .unset, .unset, .unset, .unset, .unset, .unset, .unset, .unset, .unset, .unset, .unset, .unset, .unset, .unset] [(.int ((1 : Int32) + (mm &&& (3 : Int32))))]))
    refine Gl.st (fun _ kq => XS.istore X0.here hx rfl (hb hby at_27) rfl (l' := #[.val (.int mm), .val (.long pp), .second, .val (.long qq), .second, .val (.int ((1 : Int32) + (mm &&& (3 : Int32)))), .val (.int ((1 : Int32) + (mm &&& (3 : Int32)))), .unset, .unset, .unset, .unset, .unset, .unset, .unset, .unset, .unset, .unset, .unset, .unset, .unset, .unset]) rfl kq) ?_
    show Gl p.tables e below _ (s₁.setTop (mkF m 29 #[.val (.int mm), .val (.long pp), .second, .val (.long qq), .second, .val (.int ((1 : Int32) + (mm &&& (3 : Int32)))), .val (.int ((1 : Int32) + (mm &&& (3 : Int32)))), .unset, .unset, .unset, .unset, .unset, .unset, .unset, .unset, .unset, .unset, .unset, .unset, .unset, .unset] []))
    exact Jn _ _ (X0.more (by decide) (by decide)) e0 N0  (((1 : Int32) + (mm &&& (3 : Int32)))) 
set_option maxRecDepth 65536 in
set_option maxHeartbeats 40000000 in
theorem comes_1 {Post : Tables → Env → Array Value → State → Outcome → State → Prop} (hpost : ∀ tb e args s v u, (limb_1_1.after args s (.returned v) u = true ∧ limb_1_2.after args s (.returned v) u = true ∧ True) → FrameEnd s (.returned v) u (Jvm.fieldLocs frame_1_writes args s ++ Jvm.arrayLocs frame_1_arrays args s ++ Jvm.staticLocs frame_1_statics s) 24 128 → Post tb e args s (.returned v) u) :
    ArmFor flags0 classFile x code maxLocals ret World_1 tables_1 room_1 Calls_1 rest_1 Pre_1 Post := by
  intro l hfl _ _ p e ha hc hk s m args below hf hA hF happ hP
  obtain ⟨hcalls, hrest, hpre⟩ := hP
  obtain ⟨-, -, -, hnamed, -, -, -, hat⟩ := (Spec.applies_iff hf).mp happ
  obtain ⟨hg, hn⟩ := and_e (Cond.before_iff.mp (show (Jvm.Cond.and given_1 narrow_1).before args s = true from hpre))
  obtain ⟨hcnt, g0⟩ := and_e hg
  obtain ⟨u0, g1⟩ := and_e g0
  obtain ⟨u1, g2⟩ := and_e g1
  have u2 := g2
  obtain ⟨w0, w1, w2, rfl⟩ : ∃ w0 w1 w2 : Value, args = #[w0, w1, w2] := by
    have hs : args.size = 3 := by simpa [Cond.value, given_1] using hcnt
    obtain ⟨L⟩ := args
    match L, hs with
    | [w0, w1, w2], _ => exact ⟨w0, w1, w2, rfl⟩
  have hw := fun d (hd : d ∈ tables_1) => atoms_spec (ws := Jvm.Cond.code x code maxLocals ret :: tables_1) hat d (List.mem_cons_of_mem _ hd)
  have hfit : Fit s := fun {y c} hc i hi => by
    obtain ⟨ha, rfl⟩ := Array.getElem?_eq_some_iff.mp hc
    have q := List.all_eq_true.mp ((Array.all_eq_true_iff_forall_mem.mp hF) _ (Array.getElem_mem ha)) i (List.mem_range.mpr hi)
    simpa [Array.getElem?_eq_getElem hi] using q
  obtain ⟨hsets, hown0⟩ := atoms_of _ (rest_1_c_eq ▸ (show rest_1_c.before _ s = true from hrest))
  have hr0 := Cond.before_iff.mp hown0
  obtain ⟨i0, ei0⟩ := is_v u0
  obtain rfl : w0 = (.int i0) := Option.some.inj ei0
  obtain ⟨i1, ei1⟩ := isL_v u1
  obtain rfl : w1 = (.long i1) := Option.some.inj ei1
  obtain ⟨i2, ei2⟩ := isL_v u2
  obtain rfl : w2 = (.long i2) := Option.some.inj ei2
  obtain ⟨iG, eG⟩ := is_v (Cond.before_iff.mp (hsets _ (List.mem_of_getElem? (i := 1) rfl)))
  have SG : Sta s s.heap "java/lang/String" "COMPACT_STRINGS" "Z" (.int iG) := Sta.start eG (Or.inl (hsets _ (List.mem_of_getElem? (i := 0) rfl)))
  have cG : ¬ (iG = (0 : Int32)) := gotF (Cond.eq_ints eG (Term.int_eval (0))) (not_v (Cond.before_iff.mp (hsets _ (List.mem_of_getElem? (i := 2) rfl))))
  obtain ⟨vF, eF, rF⟩ := isR_v (Cond.before_iff.mp (hsets _ (List.mem_of_getElem? (i := 8) rfl)))
  have SF : Sta s s.heap "jdk/internal/util/Preconditions" "SIOOBE_FORMATTER" "Ljava/util/function/BiFunction;" vF := Sta.start eF (Or.inl (hsets _ (List.mem_of_getElem? (i := 7) rfl)))
  obtain ⟨n, o, h1, h2, h3, _, L, rfl, ⟨rfl, N⟩, hq⟩ := rm_law l s _ hw tables_1 i0 i1 i2 iG vF s.heap s.heap.size (Nat.le_refl _) (Old.start s) SG cG SF rF p e ha hc hk s m _ below hf ((Spec.applies_iff_loose hf).mp happ).1 ⟨rfl, State.Warmed39.refl s, rfl⟩ trivial
  refine ⟨n, _, h1, h2, h3, hpost _ _ _ _ _ _ ⟨Cond.after_iff.mpr rfl, Cond.after_iff.mpr (eq_i res_at (Term.int_eval (1)) rfl), trivial⟩ ⟨hq.1, hq.2.1, (hq.2.2.sift fun y hy => Or.inr (N y hy)).mono (by decide) (by decide)⟩⟩
theorem main_1_1 : Claimed_1_1 := comes_1 fun _ _ _ _ _ _ h hF => ⟨h.1, hF⟩
theorem main_1_2 : Claimed_1_2 := comes_1 fun _ _ _ _ _ _ h hF => ⟨h.2.1, hF⟩
end Jvm.Pilot.@@N@@
namespace Jvm.Pilot.@@N@@
open Jvm Jvm.ClassFile Sem Op Lib Jvm.Free Jvm.Stand Jvm.Pilot.@@N@@.Jvm.D
/-! MADE BY PROGRAM (witnessworld.py) out of the Statement's table words and the real class files: 20 classes; the members and pool entries that the words name. The judged class is class 1, her method 3. -/
namespace start1
open Jvm.ClassFile
def u (s : String) : CpInfo := .utf8 (stringToUtf16 s)
/-- a pool by its gaps: so many unusable entries, then the entry; so many at the end -/
def gap : Nat → List CpInfo → List CpInfo
  | 0, r => r
  | n + 1, r => .unusable :: gap n r
def poolList (es : List (Nat × CpInfo)) (last : Nat) : List CpInfo := es.foldr (fun e r => gap e.1 (e.2 :: r)) (gap last [])
def pool (es : List (Nat × CpInfo)) (last : Nat) : Array CpInfo := ⟨poolList es last⟩
def fileOf (pool : Array CpInfo) (this : Nat) (attrs : Array Attribute := #[]) (ms : Array MethodInfo := #[]) (fl : Nat := 33) (sup : Nat := 0) (ifs : Array Nat := #[]) (fds : Array FieldInfo := #[]) : ClassFile where
  minorVersion := 0
  majorVersion := 65
  constantPool := pool
  accessFlags := fl
  thisClass := this
  superClass := sup
  interfaces := ifs
  fields := fds
  methods := ms
  attributes := attrs
def plain (name : String) (sup : Option ClassId) : Class where
  name := name
  kind := .ordinary
  loader := none
  accessFlags := 33
  super := sup
  interfaces := #[]
  cf := none
  fields := #[]
  methods := #[]
  instanceTypes := #[]
  staticTypes := #[]
  resolved := #[]
  callSites := []
  init := .initialized
  statics := none
  mirror := none

def pool0 : Array CpInfo := pool [(5, u "<init>"), (0, u "()V"), (1, .class_ 10), (1, u "java/lang/Object")] 113

def k0c0 : Code := { maxStack := 0, maxLocals := 1, code := object_method_1_code, exceptionTable := #[], attributes := #[] }
def k0m0 : Method := { name := "<init>", desc := "()V", sig := { parameters := [], returnType := none }, accessFlags := 1, code := some k0c0 }
/-- java/lang/Object -/
def k0 : Class := { plain "java/lang/Object" none with
  accessFlags := 33
  interfaces := #[]
  cf := some (fileOf pool0 8 #[] #[{ accessFlags := 1, nameIndex := 5, descriptorIndex := 6, attributes := #[] }] 33 0 #[] #[])
  fields := #[]
  methods := #[k0m0]
  instanceTypes := #[]
  staticTypes := #[]
  resolved := Array.replicate 124 none
  statics := none }

def pool1 : Array CpInfo := pool [(2, .class_ 4), (1, u "java/lang/Object"), (0, u "<init>"), (0, u "()V"), (0, .long 15), (1, .long 10), (1, .class_ 12), (0, u "java/lang/String"), (0, .methodref 11 14), (0, .nameAndType 5 15), (0, u "([C)V"), (0, .methodref 17 18), (0, .class_ 19), (0, .nameAndType 20 21), (0, u "com/example/groupwright/groupwright/core/ShareIdOfPinLaw"), (0, u "digit"), (0, u "(JI)C"), (0, .methodref 17 23), (0, .nameAndType 24 25), (0, u "make"), (0, u "(ICCCC)Ljava/lang/String;"), (0, .methodref 27 28), (0, .class_ 29), (0, .nameAndType 30 31), (0, u "com/example/groupwright/groupwright/core/ShareId"), (0, u "of"), (0, u "(Ljava/lang/String;)Lcom/example/groupwright/groupwright/core/ShareId;"), (0, .methodref 11 33), (0, .nameAndType 34 35), (0, u "equals"), (0, u "(Ljava/lang/Object;)Z"), (0, .methodref 27 37), (0, .nameAndType 38 39), (0, u "toString"), (0, u "()Ljava/lang/String;"), (0, .methodref 27 33), (0, .methodref 27 42), (0, .nameAndType 43 44), (0, u "hashCode"), (0, u "()I"), (3, u "law"), (0, u "(IJJ)Z")] 2

def k1m0 : Method := { name := "<init>", desc := "()V", sig := { parameters := [], returnType := none }, accessFlags := 1, code := none }
def k1c1 : Code := { maxStack := 5, maxLocals := 3, code := method_2_code, exceptionTable := #[], attributes := #[] }
def k1m1 : Method := { name := "digit", desc := "(JI)C", sig := { parameters := [.long, .int], returnType := some .char }, accessFlags := 10, code := some k1c1 }
def k1c2 : Code := { maxStack := 6, maxLocals := 5, code := method_3_code, exceptionTable := #[], attributes := #[] }
def k1m2 : Method := { name := "make", desc := "(ICCCC)Ljava/lang/String;", sig := { parameters := [.int, .char, .char, .char, .char], returnType := some (.object "java/lang/String") }, accessFlags := 10, code := some k1c2 }
def k1c3 : Code := { maxStack := 5, maxLocals := 21, code := code, exceptionTable := #[], attributes := #[] }
def k1m3 : Method := { name := "law", desc := "(IJJ)Z", sig := { parameters := [.int, .long, .long], returnType := some .boolean }, accessFlags := 9, code := some k1c3 }
/-- com/example/groupwright/groupwright/core/ShareIdOfPinLaw -/
def k1 : Class := { plain "com/example/groupwright/groupwright/core/ShareIdOfPinLaw" (some 0) with
  accessFlags := 49
  interfaces := #[]
  cf := some (fileOf pool1 17 #[] #[{ accessFlags := 1, nameIndex := 5, descriptorIndex := 6, attributes := #[] }, { accessFlags := 10, nameIndex := 20, descriptorIndex := 21, attributes := #[] }, { accessFlags := 10, nameIndex := 24, descriptorIndex := 25, attributes := #[] }, { accessFlags := 9, nameIndex := 48, descriptorIndex := 49, attributes := #[] }] 49 2 #[] #[])
  fields := #[]
  methods := #[k1m0, k1m1, k1m2, k1m3]
  instanceTypes := #[]
  staticTypes := #[]
  resolved := Array.replicate 52 none
  statics := none }

def pool2 : Array CpInfo := pool [(1, .class_ 2), (0, u "java/io/Serializable"), (0, .class_ 4), (0, u "java/lang/Object")] 2

/-- java/io/Serializable -/
def k2 : Class := { plain "java/io/Serializable" (some 0) with
  accessFlags := 1537
  interfaces := #[]
  cf := some (fileOf pool2 1 #[] #[] 1537 3 #[] #[])
  fields := #[]
  methods := #[]
  instanceTypes := #[]
  staticTypes := #[]
  resolved := Array.replicate 7 none
  statics := none }

def pool3 : Array CpInfo := pool [(1, .class_ 2), (0, u "java/lang/Comparable"), (0, .class_ 4), (0, u "java/lang/Object")] 7

/-- java/lang/Comparable -/
def k3 : Class := { plain "java/lang/Comparable" (some 0) with
  accessFlags := 1537
  interfaces := #[]
  cf := some (fileOf pool3 1 #[] #[] 1537 3 #[] #[])
  fields := #[]
  methods := #[]
  instanceTypes := #[]
  staticTypes := #[]
  resolved := Array.replicate 12 none
  statics := none }

def pool4 : Array CpInfo := pool [(2, .class_ 4), (1, u "java/lang/CharSequence"), (42, .class_ 48), (0, u "java/lang/CharSequence$1CodePointIterator"), (10, .class_ 60), (0, u "java/lang/CharSequence$1CharIterator"), (5, .class_ 67), (0, u "java/lang/Object")] 63

/-- java/lang/CharSequence -/
def k4 : Class := { plain "java/lang/CharSequence" (some 0) with
  accessFlags := 1537
  interfaces := #[]
  cf := some (fileOf pool4 2 #[.nestMembers #[47, 59]] #[] 1537 66 #[] #[])
  fields := #[]
  methods := #[]
  instanceTypes := #[]
  staticTypes := #[]
  resolved := Array.replicate 131 none
  statics := none }

def pool5 : Array CpInfo := pool [(1, .class_ 2), (0, u "java/lang/constant/Constable"), (0, .class_ 4), (0, u "java/lang/Object")] 6

/-- java/lang/constant/Constable -/
def k5 : Class := { plain "java/lang/constant/Constable" (some 0) with
  accessFlags := 1537
  interfaces := #[]
  cf := some (fileOf pool5 1 #[] #[] 1537 3 #[] #[])
  fields := #[]
  methods := #[]
  instanceTypes := #[]
  staticTypes := #[]
  resolved := Array.replicate 11 none
  statics := none }

def pool6 : Array CpInfo := pool [(1, .class_ 2), (0, u "java/lang/constant/ConstantDesc"), (0, .class_ 4), (0, u "java/lang/Object")] 32

/-- java/lang/constant/ConstantDesc -/
def k6 : Class := { plain "java/lang/constant/ConstantDesc" (some 0) with
  accessFlags := 1537
  interfaces := #[]
  cf := some (fileOf pool6 1 #[] #[] 1537 3 #[] #[])
  fields := #[]
  methods := #[]
  instanceTypes := #[]
  staticTypes := #[]
  resolved := Array.replicate 37 none
  statics := none }

def pool7 : Array CpInfo := pool [(1, .methodref 2 3), (0, .class_ 4), (0, .nameAndType 5 6), (0, u "java/lang/Object"), (0, u "<init>"), (0, u "()V"), (2, .fieldref 10 11), (0, .class_ 12), (0, .nameAndType 13 14), (0, u "java/lang/String"), (0, u "value"), (0, u "[B"), (0, .fieldref 10 16), (0, .nameAndType 17 18), (0, u "coder"), (0, u "B"), (0, .fieldref 10 20), (0, .nameAndType 21 22), (0, u "hash"), (0, u "I"), (0, .fieldref 10 24), (0, .nameAndType 25 26), (0, u "hashIsZero"), (0, u "Z"), (0, .methodref 10 28), (0, .nameAndType 5 29), (0, u "([CIILjava/lang/Void;)V"), (8, .fieldref 10 39), (0, .nameAndType 40 26), (0, u "COMPACT_STRINGS"), (1, .class_ 44), (1, u "java/lang/StringUTF16"), (0, u "compress"), (1, .methodref 42 48), (0, .nameAndType 49 50), (0, u "coderFromArrayLen"), (0, u "([BI)B"), (56, .class_ 109), (1, u "java/lang/StringLatin1"), (32, u "()Z"), (34, .methodref 42 178), (0, .nameAndType 45 179), (0, u "([CII)[B"), (154, u "()I"), (0, .methodref 10 336), (0, .nameAndType 17 337), (0, u "()B"), (25, u "([BI)C"), (27, u "(II)V"), (35, u "(I)C"), (64, .methodref 10 493), (0, .nameAndType 494 142), (0, u "isLatin1"), (0, .methodref 107 496), (0, .nameAndType 497 363), (0, u "charAt"), (3, u "checkIndex"), (5, u "length"), (33, .methodref 107 542), (0, .nameAndType 543 544), (0, u "equals"), (0, u "([B[B)Z"), (28, u "(Ljava/lang/Object;)Z"), (1, .class_ 576), (0, u "java/lang/CharSequence"), (22, u "CASE_INSENSITIVE_ORDER"), (0, u "Ljava/util/Comparator;"), (27, .methodref 107 629), (0, .nameAndType 630 631), (0, u "hashCode"), (0, u "([B)I"), (60, u "isEmpty"), (317, u "([C)V"), (42, .fieldref 1054 1055), (0, .class_ 1056), (0, .nameAndType 1057 1058), (0, u "jdk/internal/util/Preconditions"), (0, u "SIOOBE_FORMATTER"), (0, u "Ljava/util/function/BiFunction;"), (0, .methodref 1054 1060), (0, .nameAndType 501 1061), (0, u "(IILjava/util/function/BiFunction;)I"), (39, u "serialPersistentFields"), (0, u "[Ljava/io/ObjectStreamField;"), (0, .class_ 1104), (0, u "java/lang/String$CaseInsensitiveComparator"), (1, .class_ 1107), (0, u "java/io/Serializable"), (0, .class_ 1109), (0, u "java/lang/Comparable"), (0, .class_ 1111), (0, u "java/lang/constant/Constable"), (0, .class_ 1113), (0, u "java/lang/constant/ConstantDesc"), (2, u "serialVersionUID"), (0, u "J"), (3, u "REPL"), (0, u "C"), (2, u "LATIN1"), (1, u "UTF16")] 323

def k7m0 : Method := { name := "<init>", desc := "()V", sig := { parameters := [], returnType := none }, accessFlags := 1, code := none }
def k7c1 : Code := { maxStack := 5, maxLocals := 2, code := jdk_42_method_3_code, exceptionTable := #[], attributes := #[] }
def k7m1 : Method := { name := "<init>", desc := "([C)V", sig := { parameters := [(.array .char)], returnType := none }, accessFlags := 1, code := some k7c1 }
def k7c2 : Code := { maxStack := 2, maxLocals := 1, code := jdk_42_method_54_code, exceptionTable := #[], attributes := #[] }
def k7m2 : Method := { name := "length", desc := "()I", sig := { parameters := [], returnType := some .int }, accessFlags := 1, code := some k7c2 }
def k7c3 : Code := { maxStack := 1, maxLocals := 1, code := jdk_42_method_55_code, exceptionTable := #[], attributes := #[] }
def k7m3 : Method := { name := "isEmpty", desc := "()Z", sig := { parameters := [], returnType := some .boolean }, accessFlags := 1, code := some k7c3 }
def k7c4 : Code := { maxStack := 2, maxLocals := 2, code := jdk_42_method_56_code, exceptionTable := #[], attributes := #[] }
def k7m4 : Method := { name := "charAt", desc := "(I)C", sig := { parameters := [.int], returnType := some .char }, accessFlags := 1, code := some k7c4 }
def k7c5 : Code := { maxStack := 2, maxLocals := 3, code := jdk_42_method_66_code, exceptionTable := #[], attributes := #[] }
def k7m5 : Method := { name := "equals", desc := "(Ljava/lang/Object;)Z", sig := { parameters := [(.object "java/lang/Object")], returnType := some .boolean }, accessFlags := 1, code := some k7c5 }
def k7c6 : Code := { maxStack := 2, maxLocals := 2, code := jdk_42_method_78_code, exceptionTable := #[], attributes := #[] }
def k7m6 : Method := { name := "hashCode", desc := "()I", sig := { parameters := [], returnType := some .int }, accessFlags := 1, code := some k7c6 }
def k7c7 : Code := { maxStack := 4, maxLocals := 6, code := jdk_42_method_149_code, exceptionTable := #[], attributes := #[] }
def k7m7 : Method := { name := "<init>", desc := "([CIILjava/lang/Void;)V", sig := { parameters := [(.array .char), .int, .int, (.object "java/lang/Void")], returnType := none }, accessFlags := 2, code := some k7c7 }
def k7c8 : Code := { maxStack := 1, maxLocals := 1, code := jdk_42_method_152_code, exceptionTable := #[], attributes := #[] }
def k7m8 : Method := { name := "coder", desc := "()B", sig := { parameters := [], returnType := some .byte }, accessFlags := 0, code := some k7c8 }
def k7c9 : Code := { maxStack := 1, maxLocals := 1, code := jdk_42_method_154_code, exceptionTable := #[], attributes := #[] }
def k7m9 : Method := { name := "isLatin1", desc := "()Z", sig := { parameters := [], returnType := some .boolean }, accessFlags := 0, code := some k7c9 }
def k7c10 : Code := { maxStack := 3, maxLocals := 2, code := jdk_42_method_155_code, exceptionTable := #[], attributes := #[] }
def k7m10 : Method := { name := "checkIndex", desc := "(II)V", sig := { parameters := [.int, .int], returnType := none }, accessFlags := 8, code := some k7c10 }
/-- java/lang/String -/
def k7 : Class := { plain "java/lang/String" (some 0) with
  accessFlags := 49
  interfaces := #[2, 3, 4, 5, 6]
  cf := some (fileOf pool7 10 #[.nestMembers #[1103]] #[{ accessFlags := 1, nameIndex := 5, descriptorIndex := 6, attributes := #[] }, { accessFlags := 1, nameIndex := 5, descriptorIndex := 1010, attributes := #[] }, { accessFlags := 1, nameIndex := 507, descriptorIndex := 334, attributes := #[] }, { accessFlags := 1, nameIndex := 692, descriptorIndex := 142, attributes := #[] }, { accessFlags := 1, nameIndex := 497, descriptorIndex := 427, attributes := #[] }, { accessFlags := 1, nameIndex := 543, descriptorIndex := 573, attributes := #[] }, { accessFlags := 1, nameIndex := 630, descriptorIndex := 334, attributes := #[] }, { accessFlags := 2, nameIndex := 5, descriptorIndex := 29, attributes := #[] }, { accessFlags := 0, nameIndex := 17, descriptorIndex := 337, attributes := #[] }, { accessFlags := 0, nameIndex := 494, descriptorIndex := 142, attributes := #[] }, { accessFlags := 8, nameIndex := 501, descriptorIndex := 391, attributes := #[] }] 49 2 #[1106, 1108, 575, 1110, 1112] #[{ accessFlags := 18, nameIndex := 13, descriptorIndex := 14, attributes := #[] }, { accessFlags := 18, nameIndex := 17, descriptorIndex := 18, attributes := #[] }, { accessFlags := 2, nameIndex := 21, descriptorIndex := 22, attributes := #[] }, { accessFlags := 2, nameIndex := 25, descriptorIndex := 26, attributes := #[] }, { accessFlags := 26, nameIndex := 1116, descriptorIndex := 1117, attributes := #[] }, { accessFlags := 24, nameIndex := 40, descriptorIndex := 26, attributes := #[] }, { accessFlags := 26, nameIndex := 1101, descriptorIndex := 1102, attributes := #[] }, { accessFlags := 26, nameIndex := 1121, descriptorIndex := 1122, attributes := #[] }, { accessFlags := 25, nameIndex := 599, descriptorIndex := 600, attributes := #[] }, { accessFlags := 24, nameIndex := 1125, descriptorIndex := 18, attributes := #[] }, { accessFlags := 24, nameIndex := 1127, descriptorIndex := 18, attributes := #[] }])
  fields := #[{ name := "value", type := (.array .byte), accessFlags := 18, slot := 0, constantValue := 0 }, { name := "coder", type := .byte, accessFlags := 18, slot := 1, constantValue := 0 }, { name := "hash", type := .int, accessFlags := 2, slot := 2, constantValue := 0 }, { name := "hashIsZero", type := .boolean, accessFlags := 2, slot := 3, constantValue := 0 }, { name := "serialVersionUID", type := .long, accessFlags := 26, slot := 0, constantValue := 0 }, { name := "COMPACT_STRINGS", type := .boolean, accessFlags := 24, slot := 1, constantValue := 0 }, { name := "serialPersistentFields", type := (.array (.object "java/io/ObjectStreamField")), accessFlags := 26, slot := 2, constantValue := 0 }, { name := "REPL", type := .char, accessFlags := 26, slot := 3, constantValue := 0 }, { name := "CASE_INSENSITIVE_ORDER", type := (.object "java/util/Comparator"), accessFlags := 25, slot := 4, constantValue := 0 }, { name := "LATIN1", type := .byte, accessFlags := 24, slot := 5, constantValue := 0 }, { name := "UTF16", type := .byte, accessFlags := 24, slot := 6, constantValue := 0 }]
  methods := #[k7m0, k7m1, k7m2, k7m3, k7m4, k7m5, k7m6, k7m7, k7m8, k7m9, k7m10]
  instanceTypes := #[(.array .byte), .byte, .int, .boolean]
  staticTypes := #[.long, .boolean, (.array (.object "java/io/ObjectStreamField")), .char, (.object "java/util/Comparator"), .byte, .byte]
  resolved := Array.replicate 1451 none
  statics := some 0 }

def pool8 : Array CpInfo := pool [(6, .class_ 8), (1, u "java/lang/Object"), (0, u "<init>"), (0, u "()V"), (1, .class_ 14), (1, u "java/lang/StringUTF16"), (31, u "$assertionsDisabled"), (0, u "Z"), (13, u "HI_BYTE_SHIFT"), (0, u "I"), (2, u "LO_BYTE_SHIFT"), (49, .methodref 12 116), (0, .nameAndType 117 118), (0, u "compress"), (0, u "([CI[BII)I"), (3, u "([CII)[B"), (138, u "coderFromArrayLen"), (0, u "([BI)B"), (106, .class_ 371), (1, u "java/lang/StringUTF16$LinesSpliterator"), (58, u "MAX_LENGTH"), (196, .class_ 628), (0, u "java/lang/StringUTF16$CodePointsSpliterator"), (0, .class_ 630), (0, u "java/lang/StringUTF16$CharsSpliterator")] 4

def k8m0 : Method := { name := "<init>", desc := "()V", sig := { parameters := [], returnType := none }, accessFlags := 0, code := none }
def k8c1 : Code := { maxStack := 2, maxLocals := 2, code := jdk_52_method_15_code, exceptionTable := #[], attributes := #[] }
def k8m1 : Method := { name := "coderFromArrayLen", desc := "([BI)B", sig := { parameters := [(.array .byte), .int], returnType := some .byte }, accessFlags := 8, code := some k8c1 }
def k8c2 : Code := { maxStack := 5, maxLocals := 6, code := jdk_52_method_16_code, exceptionTable := #[], attributes := #[] }
def k8m2 : Method := { name := "compress", desc := "([CII)[B", sig := { parameters := [(.array .char), .int, .int], returnType := some (.array .byte) }, accessFlags := 9, code := some k8c2 }
def k8c3 : Code := { maxStack := 3, maxLocals := 7, code := jdk_52_method_21_code, exceptionTable := #[], attributes := #[] }
def k8m3 : Method := { name := "compress", desc := "([CI[BII)I", sig := { parameters := [(.array .char), .int, (.array .byte), .int, .int], returnType := some .int }, accessFlags := 9, code := some k8c3 }
/-- java/lang/StringUTF16 -/
def k8 : Class := { plain "java/lang/StringUTF16" (some 0) with
  accessFlags := 48
  interfaces := #[]
  cf := some (fileOf pool8 12 #[.nestMembers #[627, 629, 369]] #[{ accessFlags := 0, nameIndex := 9, descriptorIndex := 10, attributes := #[] }, { accessFlags := 8, nameIndex := 261, descriptorIndex := 262, attributes := #[] }, { accessFlags := 9, nameIndex := 117, descriptorIndex := 122, attributes := #[] }, { accessFlags := 9, nameIndex := 117, descriptorIndex := 118, attributes := #[] }] 48 6 #[] #[{ accessFlags := 26, nameIndex := 61, descriptorIndex := 62, attributes := #[] }, { accessFlags := 26, nameIndex := 65, descriptorIndex := 62, attributes := #[] }, { accessFlags := 24, nameIndex := 430, descriptorIndex := 62, attributes := #[] }, { accessFlags := 4120, nameIndex := 46, descriptorIndex := 47, attributes := #[] }])
  fields := #[{ name := "HI_BYTE_SHIFT", type := .int, accessFlags := 26, slot := 0, constantValue := 0 }, { name := "LO_BYTE_SHIFT", type := .int, accessFlags := 26, slot := 1, constantValue := 0 }, { name := "MAX_LENGTH", type := .int, accessFlags := 24, slot := 2, constantValue := 0 }, { name := "$assertionsDisabled", type := .boolean, accessFlags := 4120, slot := 3, constantValue := 0 }]
  methods := #[k8m0, k8m1, k8m2, k8m3]
  instanceTypes := #[]
  staticTypes := #[.int, .int, .int, .boolean]
  resolved := Array.replicate 635 none
  statics := none }

def pool9 : Array CpInfo := pool [(1, .methodref 2 3), (0, .class_ 4), (0, .nameAndType 5 6), (0, u "java/lang/Object"), (0, u "<init>"), (0, u "()V"), (0, .fieldref 8 9), (0, .class_ 10), (0, .nameAndType 11 12), (0, u "com/example/groupwright/groupwright/core/ShareId"), (0, u "value"), (0, u "Ljava/lang/String;"), (0, .methodref 14 15), (0, .class_ 16), (0, .nameAndType 17 18), (0, u "java/lang/String"), (0, u "isEmpty"), (0, u "()Z"), (0, .methodref 14 20), (0, .nameAndType 21 22), (0, u "length"), (0, u "()I"), (0, .methodref 14 24), (0, .nameAndType 25 26), (0, u "charAt"), (0, u "(I)C"), (7, .nameAndType 5 35), (0, u "(Ljava/lang/String;)V"), (0, .methodref 8 34), (0, .methodref 14 38), (0, .nameAndType 39 40), (0, u "equals"), (0, u "(Ljava/lang/Object;)Z"), (0, .methodref 14 42), (0, .nameAndType 43 22), (0, u "hashCode"), (2, u "of"), (0, u "(Ljava/lang/String;)Lcom/example/groupwright/groupwright/core/ShareId;"), (1, u "toString"), (0, u "()Ljava/lang/String;")] 17

def k9c0 : Code := { maxStack := 2, maxLocals := 2, code := prog_51_method_1_code, exceptionTable := #[], attributes := #[] }
def k9m0 : Method := { name := "<init>", desc := "(Ljava/lang/String;)V", sig := { parameters := [(.object "java/lang/String")], returnType := none }, accessFlags := 2, code := some k9c0 }
def k9c1 : Code := { maxStack := 3, maxLocals := 3, code := prog_51_method_2_code, exceptionTable := #[], attributes := #[] }
def k9m1 : Method := { name := "of", desc := "(Ljava/lang/String;)Lcom/example/groupwright/groupwright/core/ShareId;", sig := { parameters := [(.object "java/lang/String")], returnType := some (.object "com/example/groupwright/groupwright/core/ShareId") }, accessFlags := 9, code := some k9c1 }
def k9c2 : Code := { maxStack := 2, maxLocals := 3, code := prog_51_method_3_code, exceptionTable := #[], attributes := #[] }
def k9m2 : Method := { name := "equals", desc := "(Ljava/lang/Object;)Z", sig := { parameters := [(.object "java/lang/Object")], returnType := some .boolean }, accessFlags := 1, code := some k9c2 }
def k9c3 : Code := { maxStack := 1, maxLocals := 1, code := prog_51_method_4_code, exceptionTable := #[], attributes := #[] }
def k9m3 : Method := { name := "hashCode", desc := "()I", sig := { parameters := [], returnType := some .int }, accessFlags := 1, code := some k9c3 }
def k9c4 : Code := { maxStack := 1, maxLocals := 1, code := prog_51_method_5_code, exceptionTable := #[], attributes := #[] }
def k9m4 : Method := { name := "toString", desc := "()Ljava/lang/String;", sig := { parameters := [], returnType := some (.object "java/lang/String") }, accessFlags := 1, code := some k9c4 }
/-- com/example/groupwright/groupwright/core/ShareId -/
def k9 : Class := { plain "com/example/groupwright/groupwright/core/ShareId" (some 0) with
  accessFlags := 33
  interfaces := #[]
  cf := some (fileOf pool9 8 #[] #[{ accessFlags := 2, nameIndex := 5, descriptorIndex := 35, attributes := #[] }, { accessFlags := 9, nameIndex := 46, descriptorIndex := 47, attributes := #[] }, { accessFlags := 1, nameIndex := 39, descriptorIndex := 40, attributes := #[] }, { accessFlags := 1, nameIndex := 43, descriptorIndex := 22, attributes := #[] }, { accessFlags := 1, nameIndex := 49, descriptorIndex := 50, attributes := #[] }] 33 2 #[] #[{ accessFlags := 18, nameIndex := 11, descriptorIndex := 12, attributes := #[] }])
  fields := #[{ name := "value", type := (.object "java/lang/String"), accessFlags := 18, slot := 0, constantValue := 0 }]
  methods := #[k9m0, k9m1, k9m2, k9m3, k9m4]
  instanceTypes := #[(.object "java/lang/String")]
  staticTypes := #[]
  resolved := Array.replicate 68 none
  statics := none }

def pool10 : Array CpInfo := pool [(1, .class_ 2), (0, u "java/lang/String"), (1, .class_ 6), (1, u "java/lang/Object"), (0, u "<init>"), (0, u "()V"), (0, .methodref 1 10), (0, .nameAndType 11 12), (0, u "checkIndex"), (0, u "(II)V"), (1, .class_ 16), (1, u "java/lang/StringLatin1"), (28, .class_ 47), (1, u "jdk/internal/util/ArraysSupport"), (5, u "([BI)C"), (3, u "([B)I"), (26, .methodref 45 85), (0, .nameAndType 86 87), (0, u "vectorizedHashCode"), (0, u "(Ljava/lang/Object;IIII)I"), (33, u "$assertionsDisabled"), (0, u "Z"), (98, .class_ 223), (1, u "java/lang/StringLatin1$LinesSpliterator"), (28, u "charAt"), (28, u "equals"), (0, u "([B[B)Z"), (15, u "hashCode"), (91, .class_ 391), (0, u "java/lang/StringLatin1$CharsSpliterator")] 3

def k10m0 : Method := { name := "<init>", desc := "()V", sig := { parameters := [], returnType := none }, accessFlags := 0, code := none }
def k10c1 : Code := { maxStack := 2, maxLocals := 2, code := jdk_43_method_2_code, exceptionTable := #[], attributes := #[] }
def k10m1 : Method := { name := "charAt", desc := "([BI)C", sig := { parameters := [(.array .byte), .int], returnType := some .char }, accessFlags := 9, code := some k10c1 }
def k10c2 : Code := { maxStack := 3, maxLocals := 3, code := jdk_43_method_13_code, exceptionTable := #[], attributes := #[] }
def k10m2 : Method := { name := "equals", desc := "([B[B)Z", sig := { parameters := [(.array .byte), (.array .byte)], returnType := some .boolean }, accessFlags := 9, code := some k10c2 }
def k10c3 : Code := { maxStack := 5, maxLocals := 1, code := jdk_43_method_21_code, exceptionTable := #[], attributes := #[] }
def k10m3 : Method := { name := "hashCode", desc := "([B)I", sig := { parameters := [(.array .byte)], returnType := some .int }, accessFlags := 9, code := some k10c3 }
/-- java/lang/StringLatin1 -/
def k10 : Class := { plain "java/lang/StringLatin1" (some 0) with
  accessFlags := 48
  interfaces := #[]
  cf := some (fileOf pool10 14 #[.nestMembers #[390, 221]] #[{ accessFlags := 0, nameIndex := 7, descriptorIndex := 8, attributes := #[] }, { accessFlags := 9, nameIndex := 252, descriptorIndex := 53, attributes := #[] }, { accessFlags := 9, nameIndex := 281, descriptorIndex := 282, attributes := #[] }, { accessFlags := 9, nameIndex := 298, descriptorIndex := 57, attributes := #[] }] 48 4 #[] #[{ accessFlags := 4120, nameIndex := 121, descriptorIndex := 122, attributes := #[] }])
  fields := #[{ name := "$assertionsDisabled", type := .boolean, accessFlags := 4120, slot := 0, constantValue := 0 }]
  methods := #[k10m0, k10m1, k10m2, k10m3]
  instanceTypes := #[]
  staticTypes := #[.boolean]
  resolved := Array.replicate 395 none
  statics := none }

def pool11 : Array CpInfo := pool [(2, .class_ 4), (1, u "java/lang/Object"), (0, u "<init>"), (0, u "()V"), (17, .class_ 26), (1, u "jdk/internal/util/Preconditions"), (6, u "checkIndex"), (21, .class_ 56), (0, u "jdk/internal/util/Preconditions$4"), (57, .class_ 115), (0, u "jdk/internal/util/Preconditions$1"), (7, u "SIOOBE_FORMATTER"), (0, u "Ljava/util/function/BiFunction;"), (0, .class_ 126), (0, u "jdk/internal/util/Preconditions$2"), (3, u "AIOOBE_FORMATTER"), (0, .class_ 132), (0, u "jdk/internal/util/Preconditions$3"), (3, u "IOOBE_FORMATTER"), (41, u "(IILjava/util/function/BiFunction;)I")] 15

def k11m0 : Method := { name := "<init>", desc := "()V", sig := { parameters := [], returnType := none }, accessFlags := 1, code := none }
def k11c1 : Code := { maxStack := 3, maxLocals := 3, code := jdk_41_method_11_code, exceptionTable := #[], attributes := #[] }
def k11m1 : Method := { name := "checkIndex", desc := "(IILjava/util/function/BiFunction;)I", sig := { parameters := [.int, .int, (.object "java/util/function/BiFunction")], returnType := some .int }, accessFlags := 9, code := some k11c1 }
/-- jdk/internal/util/Preconditions -/
def k11 : Class := { plain "jdk/internal/util/Preconditions" (some 0) with
  accessFlags := 33
  interfaces := #[]
  cf := some (fileOf pool11 24 #[.nestMembers #[55, 131, 125, 114]] #[{ accessFlags := 1, nameIndex := 5, descriptorIndex := 6, attributes := #[] }, { accessFlags := 9, nameIndex := 33, descriptorIndex := 178, attributes := #[] }] 33 2 #[] #[{ accessFlags := 25, nameIndex := 123, descriptorIndex := 124, attributes := #[] }, { accessFlags := 25, nameIndex := 130, descriptorIndex := 124, attributes := #[] }, { accessFlags := 25, nameIndex := 136, descriptorIndex := 124, attributes := #[] }])
  fields := #[{ name := "SIOOBE_FORMATTER", type := (.object "java/util/function/BiFunction"), accessFlags := 25, slot := 0, constantValue := 0 }, { name := "AIOOBE_FORMATTER", type := (.object "java/util/function/BiFunction"), accessFlags := 25, slot := 1, constantValue := 0 }, { name := "IOOBE_FORMATTER", type := (.object "java/util/function/BiFunction"), accessFlags := 25, slot := 2, constantValue := 0 }]
  methods := #[k11m0, k11m1]
  instanceTypes := #[]
  staticTypes := #[(.object "java/util/function/BiFunction"), (.object "java/util/function/BiFunction"), (.object "java/util/function/BiFunction")]
  resolved := Array.replicate 194 none
  statics := some 1 }

def pool12 : Array CpInfo := pool [(9, u "<init>"), (6, .class_ 18), (1, u "java/lang/Object"), (0, u "()V"), (1, .class_ 23), (1, u "jdk/internal/util/ArraysSupport"), (0, u "LOG2_ARRAY_LONG_INDEX_SCALE"), (0, u "I"), (2, u "U"), (0, u "Ljdk/internal/misc/Unsafe;"), (8, u "BIG_ENDIAN"), (0, u "Z"), (8, u "LOG2_BYTE_BIT_SIZE"), (4, u "LOG2_ARRAY_INT_INDEX_SCALE"), (6, .class_ 61), (0, u "[B"), (0, .methodref 21 63), (0, .nameAndType 64 65), (0, u "signedHashCode"), (0, u "(I[BII)I"), (42, u "JLA"), (0, u "Ljdk/internal/access/JavaLangAccess;"), (11, u "LOG2_ARRAY_BOOLEAN_INDEX_SCALE"), (9, u "LOG2_ARRAY_BYTE_INDEX_SCALE"), (5, u "LOG2_ARRAY_CHAR_INDEX_SCALE"), (5, u "LOG2_ARRAY_SHORT_INDEX_SCALE"), (18, u "LOG2_ARRAY_FLOAT_INDEX_SCALE"), (24, u "LOG2_ARRAY_DOUBLE_INDEX_SCALE"), (89, u "T_BOOLEAN"), (2, u "T_CHAR"), (1, u "T_FLOAT"), (1, u "T_DOUBLE"), (1, u "T_BYTE"), (1, u "T_SHORT"), (1, u "T_INT"), (1, u "T_LONG"), (1, u "SOFT_MAX_ARRAY_LENGTH"), (26, u "vectorizedHashCode"), (0, u "(Ljava/lang/Object;IIII)I")] 55

def k12m0 : Method := { name := "<init>", desc := "()V", sig := { parameters := [], returnType := none }, accessFlags := 2, code := none }
def k12c1 : Code := { maxStack := 4, maxLocals := 5, code := jdk_48_method_4_code, exceptionTable := #[], attributes := #[] }
def k12m1 : Method := { name := "vectorizedHashCode", desc := "(Ljava/lang/Object;IIII)I", sig := { parameters := [(.object "java/lang/Object"), .int, .int, .int, .int], returnType := some .int }, accessFlags := 9, code := some k12c1 }
def k12c2 : Code := { maxStack := 3, maxLocals := 6, code := jdk_48_method_5_code, exceptionTable := #[], attributes := #[] }
def k12m2 : Method := { name := "signedHashCode", desc := "(I[BII)I", sig := { parameters := [.int, (.array .byte), .int, .int], returnType := some .int }, accessFlags := 10, code := some k12c2 }
/-- jdk/internal/util/ArraysSupport -/
def k12 : Class := { plain "jdk/internal/util/ArraysSupport" (some 0) with
  accessFlags := 33
  interfaces := #[]
  cf := some (fileOf pool12 21 #[] #[{ accessFlags := 2, nameIndex := 9, descriptorIndex := 19, attributes := #[] }, { accessFlags := 9, nameIndex := 321, descriptorIndex := 322, attributes := #[] }, { accessFlags := 10, nameIndex := 64, descriptorIndex := 65, attributes := #[] }] 33 16 #[] #[{ accessFlags := 24, nameIndex := 28, descriptorIndex := 29, attributes := #[] }, { accessFlags := 26, nameIndex := 38, descriptorIndex := 39, attributes := #[] }, { accessFlags := 25, nameIndex := 121, descriptorIndex := 25, attributes := #[] }, { accessFlags := 25, nameIndex := 131, descriptorIndex := 25, attributes := #[] }, { accessFlags := 25, nameIndex := 137, descriptorIndex := 25, attributes := #[] }, { accessFlags := 25, nameIndex := 143, descriptorIndex := 25, attributes := #[] }, { accessFlags := 25, nameIndex := 53, descriptorIndex := 25, attributes := #[] }, { accessFlags := 25, nameIndex := 24, descriptorIndex := 25, attributes := #[] }, { accessFlags := 25, nameIndex := 162, descriptorIndex := 25, attributes := #[] }, { accessFlags := 25, nameIndex := 187, descriptorIndex := 25, attributes := #[] }, { accessFlags := 26, nameIndex := 48, descriptorIndex := 25, attributes := #[] }, { accessFlags := 25, nameIndex := 277, descriptorIndex := 25, attributes := #[] }, { accessFlags := 25, nameIndex := 280, descriptorIndex := 25, attributes := #[] }, { accessFlags := 25, nameIndex := 282, descriptorIndex := 25, attributes := #[] }, { accessFlags := 25, nameIndex := 284, descriptorIndex := 25, attributes := #[] }, { accessFlags := 25, nameIndex := 286, descriptorIndex := 25, attributes := #[] }, { accessFlags := 25, nameIndex := 288, descriptorIndex := 25, attributes := #[] }, { accessFlags := 25, nameIndex := 290, descriptorIndex := 25, attributes := #[] }, { accessFlags := 25, nameIndex := 292, descriptorIndex := 25, attributes := #[] }, { accessFlags := 26, nameIndex := 108, descriptorIndex := 109, attributes := #[] }, { accessFlags := 25, nameIndex := 294, descriptorIndex := 25, attributes := #[] }])
  fields := #[{ name := "U", type := (.object "jdk/internal/misc/Unsafe"), accessFlags := 24, slot := 0, constantValue := 0 }, { name := "BIG_ENDIAN", type := .boolean, accessFlags := 26, slot := 1, constantValue := 0 }, { name := "LOG2_ARRAY_BOOLEAN_INDEX_SCALE", type := .int, accessFlags := 25, slot := 2, constantValue := 0 }, { name := "LOG2_ARRAY_BYTE_INDEX_SCALE", type := .int, accessFlags := 25, slot := 3, constantValue := 0 }, { name := "LOG2_ARRAY_CHAR_INDEX_SCALE", type := .int, accessFlags := 25, slot := 4, constantValue := 0 }, { name := "LOG2_ARRAY_SHORT_INDEX_SCALE", type := .int, accessFlags := 25, slot := 5, constantValue := 0 }, { name := "LOG2_ARRAY_INT_INDEX_SCALE", type := .int, accessFlags := 25, slot := 6, constantValue := 0 }, { name := "LOG2_ARRAY_LONG_INDEX_SCALE", type := .int, accessFlags := 25, slot := 7, constantValue := 0 }, { name := "LOG2_ARRAY_FLOAT_INDEX_SCALE", type := .int, accessFlags := 25, slot := 8, constantValue := 0 }, { name := "LOG2_ARRAY_DOUBLE_INDEX_SCALE", type := .int, accessFlags := 25, slot := 9, constantValue := 0 }, { name := "LOG2_BYTE_BIT_SIZE", type := .int, accessFlags := 26, slot := 10, constantValue := 0 }, { name := "T_BOOLEAN", type := .int, accessFlags := 25, slot := 11, constantValue := 0 }, { name := "T_CHAR", type := .int, accessFlags := 25, slot := 12, constantValue := 0 }, { name := "T_FLOAT", type := .int, accessFlags := 25, slot := 13, constantValue := 0 }, { name := "T_DOUBLE", type := .int, accessFlags := 25, slot := 14, constantValue := 0 }, { name := "T_BYTE", type := .int, accessFlags := 25, slot := 15, constantValue := 0 }, { name := "T_SHORT", type := .int, accessFlags := 25, slot := 16, constantValue := 0 }, { name := "T_INT", type := .int, accessFlags := 25, slot := 17, constantValue := 0 }, { name := "T_LONG", type := .int, accessFlags := 25, slot := 18, constantValue := 0 }, { name := "JLA", type := (.object "jdk/internal/access/JavaLangAccess"), accessFlags := 26, slot := 19, constantValue := 0 }, { name := "SOFT_MAX_ARRAY_LENGTH", type := .int, accessFlags := 25, slot := 20, constantValue := 0 }]
  methods := #[k12m0, k12m1, k12m2]
  instanceTypes := #[]
  staticTypes := #[(.object "jdk/internal/misc/Unsafe"), .boolean, .int, .int, .int, .int, .int, .int, .int, .int, .int, .int, .int, .int, .int, .int, .int, .int, .int, (.object "jdk/internal/access/JavaLangAccess"), .int]
  resolved := Array.replicate 378 none
  statics := none }

def pool13 : Array CpInfo := pool [(1, u "java/lang/Cloneable"), (0, .class_ 1), (0, u "java/lang/Object"), (0, .class_ 3)] 3

/-- java/lang/Cloneable -/
def k13 : Class := { plain "java/lang/Cloneable" (some 0) with
  accessFlags := 1537
  interfaces := #[]
  cf := some (fileOf pool13 2 #[] #[] 1537 4 #[] #[])
  fields := #[]
  methods := #[]
  instanceTypes := #[]
  staticTypes := #[]
  resolved := Array.replicate 8 none
  statics := none }

/-- the primitive byte -/
def k14 : Class := { plain "byte" none with kind := .primitive 'B', accessFlags := 0x411 }
/-- [B -/
def k15 : Class := { plain "[B" (some 0) with kind := .array 14 .byte, interfaces := #[13, 2], accessFlags := 1041 }

/-- the primitive char -/
def k16 : Class := { plain "char" none with kind := .primitive 'C', accessFlags := 0x411 }
/-- [C -/
def k17 : Class := { plain "[C" (some 0) with kind := .array 16 .char, interfaces := #[13, 2], accessFlags := 1041 }

/-- the primitive int -/
def k18 : Class := { plain "int" none with kind := .primitive 'I', accessFlags := 0x411 }
/-- [I -/
def k19 : Class := { plain "[I" (some 0) with kind := .array 18 .int, interfaces := #[13, 2], accessFlags := 1041 }

def heap : Heap := #[{ cls := 7, slots := #[.long 0, .int 1, .null, .int 0, .null, .int 0, .int 0], vm := .statics 7 },
  { cls := 11, slots := #[.null, .null, .null], vm := .statics 11 }]
def classes : Array Class := #[k0, k1, k2, k3, k4, k5, k6, k7, k8, k9, k10, k11, k12, k13, k14, k15, k16, k17, k18, k19]
def interned : List (Array UInt16 × Addr) := []
def slotsUsed : Nat := 10
def theMethod : MethodId := ⟨1, 3⟩
def args0 : Array Value := #[.int 5, .long 7, .long 9]
def aboutOver (below : List Frame) : State where
  vm := { classes := classes, interned := interned.toArray }
  heap := heap
  slotsUsed := slotsUsed
  threads := #[{ frames := .invoking theMethod args0 :: below }]
def below0 : List Frame := [.native { method := ⟨0, 0⟩, args := #[] }]
def about1 : State := aboutOver below0
def p0 : Program := .bare "" "" ""
def e0 : Env := launch0.env 0 0 0
theorem w_frames : about1.frames = Frame.invoking theMethod args0 :: below0 := rfl
set_option maxRecDepth 65536 in
theorem w_args : argsFit about1.vm theMethod args0 = true := by decide +kernel
set_option maxRecDepth 65536 in
theorem w_heap : heapFits about1 = true := by decide +kernel
set_option maxRecDepth 65536 in
theorem w_runnable : about1.curStatus? = some .runnable := by decide +kernel
set_option maxRecDepth 65536 in
theorem w_alone : about1.alone = true := by decide +kernel
set_option maxRecDepth 65536 in
theorem w_named : about1.methodNamed? x = some theMethod := by decide +kernel
set_option maxRecDepth 65536 in
theorem w_hears : about1.hears theMethod below0 = true := by decide +kernel
set_option maxRecDepth 65536 in
theorem w_ripe : about1.ripe theMethod args0 below0 = true := by decide +kernel
theorem w_running : about1.status = .running := rfl
set_option maxRecDepth 65536 in
theorem w_room : about1.hasRoom e0.platform room_1 = true :=
  launch0.hasRoom_least _ room_1 (by decide +kernel) (by decide +kernel) (by decide +kernel) (by decide +kernel) (by decide +kernel) (by decide +kernel)
theorem allAtoms_all (ts : List Jvm.Cond) (a : Array Jvm.Value) (st : Jvm.State) : (allAtoms ts).before a st = ts.all (fun c => c.before a st) := by
  induction ts with
  | nil => rfl
  | cons c t ih =>
    show (Jvm.Cond.and c (allAtoms t)).before a st = _
    rw [Jvm.Cond.before_and, ih, List.all_cons]
def words1 : List Jvm.Cond := Jvm.Cond.code x code maxLocals ret :: tables_1
/-- a 'code' word, met by the world's own term for the bytes: nothing is compared byte by byte -/
theorem code_word {y : MethodName} {bytes : ByteArray} {mx : Nat} {rt : Option FieldType} {a : Array Value} {s : State} {m : MethodId} {meth : Method} {c : Code} (h1 : s.methodNamed? y = some m) (h2 : s.vm.method? m = some meth) (h3 : meth.code = some c) (h4 : c.code = bytes)
    (h5 : (c.maxLocals == mx && c.exceptionTable.isEmpty && decide (c.maxStack ≤ mostOperands) && decide (meth.sig.returnType = rt) && !meth.locks && decide (parseMethodDescriptor y.desc = some meth.sig)) = true) : (Jvm.Cond.code y bytes mx rt).before a s = true := by
  simp only [Bool.and_eq_true, beq_iff_eq, Bool.not_eq_true', decide_eq_true_eq] at h5
  obtain ⟨⟨⟨⟨⟨g1, g2⟩, g3⟩, g4⟩, g5⟩, g6⟩ := h5
  simp [Cond.before, Cond.holds, Cond.value, h1, h2, h3, h4, g1, g2, g3, g4, g5, g6]
def isCode : Jvm.Cond → Bool
  | .code _ _ _ _ => true
  | _ => false
theorem all_split {L : List Jvm.Cond} {P : Jvm.Cond → Bool} (h1 : L.all (fun c => isCode c || P c) = true) (h2 : ∀ c ∈ L.filter isCode, P c = true) : L.all P = true := by
  refine List.all_eq_true.mpr fun c hc => ?_
  have h := List.all_eq_true.mp h1 c hc
  rcases Bool.eq_false_or_eq_true (isCode c) with hi | hi
  · exact h2 c (List.mem_filter.mpr ⟨hc, hi⟩)
  · simpa [hi] using h
set_option maxRecDepth 65536 in
theorem w_c0 : (Jvm.Cond.code x code maxLocals ret).before args0 about1 = true := code_word (m := ⟨1, 3⟩) (meth := k1m3) (c := k1c3) (by decide +kernel) rfl rfl rfl (by decide +kernel)
set_option maxRecDepth 65536 in
theorem w_c1 : (Jvm.Cond.code ({ cls := "com/example/groupwright/groupwright/core/ShareIdOfPinLaw", name := "digit", desc := "(JI)C" } : Jvm.MethodName) method_2_code (3 : Nat) (Option.some Jvm.ClassFile.FieldType.char)).before args0 about1 = true := code_word (m := ⟨1, 1⟩) (meth := k1m1) (c := k1c1) (by decide +kernel) rfl rfl rfl (by decide +kernel)
set_option maxRecDepth 65536 in
theorem w_c2 : (Jvm.Cond.code ({ cls := "com/example/groupwright/groupwright/core/ShareIdOfPinLaw", name := "make", desc := "(ICCCC)Ljava/lang/String;" } : Jvm.MethodName) method_3_code (5 : Nat) (Option.some (Jvm.ClassFile.FieldType.object "java/lang/String"))).before args0 about1 = true := code_word (m := ⟨1, 2⟩) (meth := k1m2) (c := k1c2) (by decide +kernel) rfl rfl rfl (by decide +kernel)
set_option maxRecDepth 65536 in
theorem w_c3 : (Jvm.Cond.code ({ cls := "java/lang/String", name := "<init>", desc := "([C)V" } : Jvm.MethodName) jdk_42_method_3_code (2 : Nat) (Option.none : Option Jvm.ClassFile.FieldType)).before args0 about1 = true := code_word (m := ⟨7, 1⟩) (meth := k7m1) (c := k7c1) (by decide +kernel) rfl rfl rfl (by decide +kernel)
set_option maxRecDepth 65536 in
theorem w_c4 : (Jvm.Cond.code ({ cls := "java/lang/String", name := "<init>", desc := "([CIILjava/lang/Void;)V" } : Jvm.MethodName) jdk_42_method_149_code (6 : Nat) (Option.none : Option Jvm.ClassFile.FieldType)).before args0 about1 = true := code_word (m := ⟨7, 7⟩) (meth := k7m7) (c := k7c7) (by decide +kernel) rfl rfl rfl (by decide +kernel)
set_option maxRecDepth 65536 in
theorem w_c5 : (Jvm.Cond.code ({ cls := "java/lang/Object", name := "<init>", desc := "()V" } : Jvm.MethodName) object_method_1_code (1 : Nat) (Option.none : Option Jvm.ClassFile.FieldType)).before args0 about1 = true := code_word (m := ⟨0, 0⟩) (meth := k0m0) (c := k0c0) (by decide +kernel) rfl rfl rfl (by decide +kernel)
set_option maxRecDepth 65536 in
theorem w_c6 : (Jvm.Cond.code ({ cls := "java/lang/StringUTF16", name := "compress", desc := "([CII)[B" } : Jvm.MethodName) jdk_52_method_16_code (6 : Nat) (Option.some (Jvm.ClassFile.FieldType.array Jvm.ClassFile.FieldType.byte))).before args0 about1 = true := code_word (m := ⟨8, 2⟩) (meth := k8m2) (c := k8c2) (by decide +kernel) rfl rfl rfl (by decide +kernel)
set_option maxRecDepth 65536 in
theorem w_c7 : (Jvm.Cond.code ({ cls := "java/lang/StringUTF16", name := "compress", desc := "([CI[BII)I" } : Jvm.MethodName) jdk_52_method_21_code (7 : Nat) (Option.some Jvm.ClassFile.FieldType.int)).before args0 about1 = true := code_word (m := ⟨8, 3⟩) (meth := k8m3) (c := k8c3) (by decide +kernel) rfl rfl rfl (by decide +kernel)
set_option maxRecDepth 65536 in
theorem w_c8 : (Jvm.Cond.code ({ cls := "java/lang/StringUTF16", name := "coderFromArrayLen", desc := "([BI)B" } : Jvm.MethodName) jdk_52_method_15_code (2 : Nat) (Option.some Jvm.ClassFile.FieldType.byte)).before args0 about1 = true := code_word (m := ⟨8, 1⟩) (meth := k8m1) (c := k8c1) (by decide +kernel) rfl rfl rfl (by decide +kernel)
set_option maxRecDepth 65536 in
theorem w_c9 : (Jvm.Cond.code ({ cls := "com/example/groupwright/groupwright/core/ShareId", name := "of", desc := "(Ljava/lang/String;)Lcom/example/groupwright/groupwright/core/ShareId;" } : Jvm.MethodName) prog_51_method_2_code (3 : Nat) (Option.some (Jvm.ClassFile.FieldType.object "com/example/groupwright/groupwright/core/ShareId"))).before args0 about1 = true := code_word (m := ⟨9, 1⟩) (meth := k9m1) (c := k9c1) (by decide +kernel) rfl rfl rfl (by decide +kernel)
set_option maxRecDepth 65536 in
theorem w_c10 : (Jvm.Cond.code ({ cls := "java/lang/String", name := "isEmpty", desc := "()Z" } : Jvm.MethodName) jdk_42_method_55_code (1 : Nat) (Option.some Jvm.ClassFile.FieldType.boolean)).before args0 about1 = true := code_word (m := ⟨7, 3⟩) (meth := k7m3) (c := k7c3) (by decide +kernel) rfl rfl rfl (by decide +kernel)
set_option maxRecDepth 65536 in
theorem w_c11 : (Jvm.Cond.code ({ cls := "java/lang/String", name := "length", desc := "()I" } : Jvm.MethodName) jdk_42_method_54_code (1 : Nat) (Option.some Jvm.ClassFile.FieldType.int)).before args0 about1 = true := code_word (m := ⟨7, 2⟩) (meth := k7m2) (c := k7c2) (by decide +kernel) rfl rfl rfl (by decide +kernel)
set_option maxRecDepth 65536 in
theorem w_c12 : (Jvm.Cond.code ({ cls := "java/lang/String", name := "coder", desc := "()B" } : Jvm.MethodName) jdk_42_method_152_code (1 : Nat) (Option.some Jvm.ClassFile.FieldType.byte)).before args0 about1 = true := code_word (m := ⟨7, 8⟩) (meth := k7m8) (c := k7c8) (by decide +kernel) rfl rfl rfl (by decide +kernel)
set_option maxRecDepth 65536 in
theorem w_c13 : (Jvm.Cond.code ({ cls := "java/lang/String", name := "charAt", desc := "(I)C" } : Jvm.MethodName) jdk_42_method_56_code (2 : Nat) (Option.some Jvm.ClassFile.FieldType.char)).before args0 about1 = true := code_word (m := ⟨7, 4⟩) (meth := k7m4) (c := k7c4) (by decide +kernel) rfl rfl rfl (by decide +kernel)
set_option maxRecDepth 65536 in
theorem w_c14 : (Jvm.Cond.code ({ cls := "java/lang/String", name := "isLatin1", desc := "()Z" } : Jvm.MethodName) jdk_42_method_154_code (1 : Nat) (Option.some Jvm.ClassFile.FieldType.boolean)).before args0 about1 = true := code_word (m := ⟨7, 9⟩) (meth := k7m9) (c := k7c9) (by decide +kernel) rfl rfl rfl (by decide +kernel)
set_option maxRecDepth 65536 in
theorem w_c15 : (Jvm.Cond.code ({ cls := "java/lang/StringLatin1", name := "charAt", desc := "([BI)C" } : Jvm.MethodName) jdk_43_method_2_code (2 : Nat) (Option.some Jvm.ClassFile.FieldType.char)).before args0 about1 = true := code_word (m := ⟨10, 1⟩) (meth := k10m1) (c := k10c1) (by decide +kernel) rfl rfl rfl (by decide +kernel)
set_option maxRecDepth 65536 in
theorem w_c16 : (Jvm.Cond.code ({ cls := "java/lang/String", name := "checkIndex", desc := "(II)V" } : Jvm.MethodName) jdk_42_method_155_code (2 : Nat) (Option.none : Option Jvm.ClassFile.FieldType)).before args0 about1 = true := code_word (m := ⟨7, 10⟩) (meth := k7m10) (c := k7c10) (by decide +kernel) rfl rfl rfl (by decide +kernel)
set_option maxRecDepth 65536 in
theorem w_c17 : (Jvm.Cond.code ({ cls := "jdk/internal/util/Preconditions", name := "checkIndex", desc := "(IILjava/util/function/BiFunction;)I" } : Jvm.MethodName) jdk_41_method_11_code (3 : Nat) (Option.some Jvm.ClassFile.FieldType.int)).before args0 about1 = true := code_word (m := ⟨11, 1⟩) (meth := k11m1) (c := k11c1) (by decide +kernel) rfl rfl rfl (by decide +kernel)
set_option maxRecDepth 65536 in
theorem w_c18 : (Jvm.Cond.code ({ cls := "com/example/groupwright/groupwright/core/ShareId", name := "<init>", desc := "(Ljava/lang/String;)V" } : Jvm.MethodName) prog_51_method_1_code (2 : Nat) (Option.none : Option Jvm.ClassFile.FieldType)).before args0 about1 = true := code_word (m := ⟨9, 0⟩) (meth := k9m0) (c := k9c0) (by decide +kernel) rfl rfl rfl (by decide +kernel)
set_option maxRecDepth 65536 in
theorem w_c19 : (Jvm.Cond.code ({ cls := "java/lang/String", name := "equals", desc := "(Ljava/lang/Object;)Z" } : Jvm.MethodName) jdk_42_method_66_code (3 : Nat) (Option.some Jvm.ClassFile.FieldType.boolean)).before args0 about1 = true := code_word (m := ⟨7, 5⟩) (meth := k7m5) (c := k7c5) (by decide +kernel) rfl rfl rfl (by decide +kernel)
set_option maxRecDepth 65536 in
theorem w_c20 : (Jvm.Cond.code ({ cls := "java/lang/StringLatin1", name := "equals", desc := "([B[B)Z" } : Jvm.MethodName) jdk_43_method_13_code (3 : Nat) (Option.some Jvm.ClassFile.FieldType.boolean)).before args0 about1 = true := code_word (m := ⟨10, 2⟩) (meth := k10m2) (c := k10c2) (by decide +kernel) rfl rfl rfl (by decide +kernel)
set_option maxRecDepth 65536 in
theorem w_c21 : (Jvm.Cond.code ({ cls := "com/example/groupwright/groupwright/core/ShareId", name := "toString", desc := "()Ljava/lang/String;" } : Jvm.MethodName) prog_51_method_5_code (1 : Nat) (Option.some (Jvm.ClassFile.FieldType.object "java/lang/String"))).before args0 about1 = true := code_word (m := ⟨9, 4⟩) (meth := k9m4) (c := k9c4) (by decide +kernel) rfl rfl rfl (by decide +kernel)
set_option maxRecDepth 65536 in
theorem w_c22 : (Jvm.Cond.code ({ cls := "com/example/groupwright/groupwright/core/ShareId", name := "equals", desc := "(Ljava/lang/Object;)Z" } : Jvm.MethodName) prog_51_method_3_code (3 : Nat) (Option.some Jvm.ClassFile.FieldType.boolean)).before args0 about1 = true := code_word (m := ⟨9, 2⟩) (meth := k9m2) (c := k9c2) (by decide +kernel) rfl rfl rfl (by decide +kernel)
set_option maxRecDepth 65536 in
theorem w_c23 : (Jvm.Cond.code ({ cls := "com/example/groupwright/groupwright/core/ShareId", name := "hashCode", desc := "()I" } : Jvm.MethodName) prog_51_method_4_code (1 : Nat) (Option.some Jvm.ClassFile.FieldType.int)).before args0 about1 = true := code_word (m := ⟨9, 3⟩) (meth := k9m3) (c := k9c3) (by decide +kernel) rfl rfl rfl (by decide +kernel)
set_option maxRecDepth 65536 in
theorem w_c24 : (Jvm.Cond.code ({ cls := "java/lang/String", name := "hashCode", desc := "()I" } : Jvm.MethodName) jdk_42_method_78_code (2 : Nat) (Option.some Jvm.ClassFile.FieldType.int)).before args0 about1 = true := code_word (m := ⟨7, 6⟩) (meth := k7m6) (c := k7c6) (by decide +kernel) rfl rfl rfl (by decide +kernel)
set_option maxRecDepth 65536 in
theorem w_c25 : (Jvm.Cond.code ({ cls := "java/lang/StringLatin1", name := "hashCode", desc := "([B)I" } : Jvm.MethodName) jdk_43_method_21_code (1 : Nat) (Option.some Jvm.ClassFile.FieldType.int)).before args0 about1 = true := code_word (m := ⟨10, 3⟩) (meth := k10m3) (c := k10c3) (by decide +kernel) rfl rfl rfl (by decide +kernel)
set_option maxRecDepth 65536 in
theorem w_c26 : (Jvm.Cond.code ({ cls := "jdk/internal/util/ArraysSupport", name := "vectorizedHashCode", desc := "(Ljava/lang/Object;IIII)I" } : Jvm.MethodName) jdk_48_method_4_code (5 : Nat) (Option.some Jvm.ClassFile.FieldType.int)).before args0 about1 = true := code_word (m := ⟨12, 1⟩) (meth := k12m1) (c := k12c1) (by decide +kernel) rfl rfl rfl (by decide +kernel)
set_option maxRecDepth 65536 in
theorem w_c27 : (Jvm.Cond.code ({ cls := "jdk/internal/util/ArraysSupport", name := "signedHashCode", desc := "(I[BII)I" } : Jvm.MethodName) jdk_48_method_5_code (6 : Nat) (Option.some Jvm.ClassFile.FieldType.int)).before args0 about1 = true := code_word (m := ⟨12, 2⟩) (meth := k12m2) (c := k12c2) (by decide +kernel) rfl rfl rfl (by decide +kernel)
def codes1 : List Jvm.Cond := [Jvm.Cond.code x code maxLocals ret, Jvm.Cond.code ({ cls := "com/example/groupwright/groupwright/core/ShareIdOfPinLaw", name := "digit", desc := "(JI)C" } : Jvm.MethodName) method_2_code (3 : Nat) (Option.some Jvm.ClassFile.FieldType.char), Jvm.Cond.code ({ cls := "com/example/groupwright/groupwright/core/ShareIdOfPinLaw", name := "make", desc := "(ICCCC)Ljava/lang/String;" } : Jvm.MethodName) method_3_code (5 : Nat) (Option.some (Jvm.ClassFile.FieldType.object "java/lang/String")), Jvm.Cond.code ({ cls := "java/lang/String", name := "<init>", desc := "([C)V" } : Jvm.MethodName) jdk_42_method_3_code (2 : Nat) (Option.none : Option Jvm.ClassFile.FieldType), Jvm.Cond.code ({ cls := "java/lang/String", name := "<init>", desc := "([CIILjava/lang/Void;)V" } : Jvm.MethodName) jdk_42_method_149_code (6 : Nat) (Option.none : Option Jvm.ClassFile.FieldType), Jvm.Cond.code ({ cls := "java/lang/Object", name := "<init>", desc := "()V" } : Jvm.MethodName) object_method_1_code (1 : Nat) (Option.none : Option Jvm.ClassFile.FieldType), Jvm.Cond.code ({ cls := "java/lang/StringUTF16", name := "compress", desc := "([CII)[B" } : Jvm.MethodName) jdk_52_method_16_code (6 : Nat) (Option.some (Jvm.ClassFile.FieldType.array Jvm.ClassFile.FieldType.byte)), Jvm.Cond.code ({ cls := "java/lang/StringUTF16", name := "compress", desc := "([CI[BII)I" } : Jvm.MethodName) jdk_52_method_21_code (7 : Nat) (Option.some Jvm.ClassFile.FieldType.int), Jvm.Cond.code ({ cls := "java/lang/StringUTF16", name := "coderFromArrayLen", desc := "([BI)B" } : Jvm.MethodName) jdk_52_method_15_code (2 : Nat) (Option.some Jvm.ClassFile.FieldType.byte), Jvm.Cond.code ({ cls := "com/example/groupwright/groupwright/core/ShareId", name := "of", desc := "(Ljava/lang/String;)Lcom/example/groupwright/groupwright/core/ShareId;" } : Jvm.MethodName) prog_51_method_2_code (3 : Nat) (Option.some (Jvm.ClassFile.FieldType.object "com/example/groupwright/groupwright/core/ShareId")), Jvm.Cond.code ({ cls := "java/lang/String", name := "isEmpty", desc := "()Z" } : Jvm.MethodName) jdk_42_method_55_code (1 : Nat) (Option.some Jvm.ClassFile.FieldType.boolean), Jvm.Cond.code ({ cls := "java/lang/String", name := "length", desc := "()I" } : Jvm.MethodName) jdk_42_method_54_code (1 : Nat) (Option.some Jvm.ClassFile.FieldType.int), Jvm.Cond.code ({ cls := "java/lang/String", name := "coder", desc := "()B" } : Jvm.MethodName) jdk_42_method_152_code (1 : Nat) (Option.some Jvm.ClassFile.FieldType.byte), Jvm.Cond.code ({ cls := "java/lang/String", name := "charAt", desc := "(I)C" } : Jvm.MethodName) jdk_42_method_56_code (2 : Nat) (Option.some Jvm.ClassFile.FieldType.char), Jvm.Cond.code ({ cls := "java/lang/String", name := "isLatin1", desc := "()Z" } : Jvm.MethodName) jdk_42_method_154_code (1 : Nat) (Option.some Jvm.ClassFile.FieldType.boolean), Jvm.Cond.code ({ cls := "java/lang/StringLatin1", name := "charAt", desc := "([BI)C" } : Jvm.MethodName) jdk_43_method_2_code (2 : Nat) (Option.some Jvm.ClassFile.FieldType.char), Jvm.Cond.code ({ cls := "java/lang/String", name := "checkIndex", desc := "(II)V" } : Jvm.MethodName) jdk_42_method_155_code (2 : Nat) (Option.none : Option Jvm.ClassFile.FieldType), Jvm.Cond.code ({ cls := "jdk/internal/util/Preconditions", name := "checkIndex", desc := "(IILjava/util/function/BiFunction;)I" } : Jvm.MethodName) jdk_41_method_11_code (3 : Nat) (Option.some Jvm.ClassFile.FieldType.int), Jvm.Cond.code ({ cls := "com/example/groupwright/groupwright/core/ShareId", name := "<init>", desc := "(Ljava/lang/String;)V" } : Jvm.MethodName) prog_51_method_1_code (2 : Nat) (Option.none : Option Jvm.ClassFile.FieldType), Jvm.Cond.code ({ cls := "java/lang/String", name := "equals", desc := "(Ljava/lang/Object;)Z" } : Jvm.MethodName) jdk_42_method_66_code (3 : Nat) (Option.some Jvm.ClassFile.FieldType.boolean), Jvm.Cond.code ({ cls := "java/lang/StringLatin1", name := "equals", desc := "([B[B)Z" } : Jvm.MethodName) jdk_43_method_13_code (3 : Nat) (Option.some Jvm.ClassFile.FieldType.boolean), Jvm.Cond.code ({ cls := "com/example/groupwright/groupwright/core/ShareId", name := "toString", desc := "()Ljava/lang/String;" } : Jvm.MethodName) prog_51_method_5_code (1 : Nat) (Option.some (Jvm.ClassFile.FieldType.object "java/lang/String")), Jvm.Cond.code ({ cls := "com/example/groupwright/groupwright/core/ShareId", name := "equals", desc := "(Ljava/lang/Object;)Z" } : Jvm.MethodName) prog_51_method_3_code (3 : Nat) (Option.some Jvm.ClassFile.FieldType.boolean), Jvm.Cond.code ({ cls := "com/example/groupwright/groupwright/core/ShareId", name := "hashCode", desc := "()I" } : Jvm.MethodName) prog_51_method_4_code (1 : Nat) (Option.some Jvm.ClassFile.FieldType.int), Jvm.Cond.code ({ cls := "java/lang/String", name := "hashCode", desc := "()I" } : Jvm.MethodName) jdk_42_method_78_code (2 : Nat) (Option.some Jvm.ClassFile.FieldType.int), Jvm.Cond.code ({ cls := "java/lang/StringLatin1", name := "hashCode", desc := "([B)I" } : Jvm.MethodName) jdk_43_method_21_code (1 : Nat) (Option.some Jvm.ClassFile.FieldType.int), Jvm.Cond.code ({ cls := "jdk/internal/util/ArraysSupport", name := "vectorizedHashCode", desc := "(Ljava/lang/Object;IIII)I" } : Jvm.MethodName) jdk_48_method_4_code (5 : Nat) (Option.some Jvm.ClassFile.FieldType.int), Jvm.Cond.code ({ cls := "jdk/internal/util/ArraysSupport", name := "signedHashCode", desc := "(I[BII)I" } : Jvm.MethodName) jdk_48_method_5_code (6 : Nat) (Option.some Jvm.ClassFile.FieldType.int)]
set_option maxRecDepth 65536 in
theorem codes_eq : words1.filter isCode = codes1 := rfl
theorem w_codes : ∀ c ∈ words1.filter isCode, c.before args0 about1 = true := by
  rw [codes_eq]
  intro c hc
  simp only [codes1, List.mem_cons, List.not_mem_nil, or_false] at hc
  rcases hc with rfl | rfl | rfl | rfl | rfl | rfl | rfl | rfl | rfl | rfl | rfl | rfl | rfl | rfl | rfl | rfl | rfl | rfl | rfl | rfl | rfl | rfl | rfl | rfl | rfl | rfl | rfl | rfl
  · exact w_c0
  · exact w_c1
  · exact w_c2
  · exact w_c3
  · exact w_c4
  · exact w_c5
  · exact w_c6
  · exact w_c7
  · exact w_c8
  · exact w_c9
  · exact w_c10
  · exact w_c11
  · exact w_c12
  · exact w_c13
  · exact w_c14
  · exact w_c15
  · exact w_c16
  · exact w_c17
  · exact w_c18
  · exact w_c19
  · exact w_c20
  · exact w_c21
  · exact w_c22
  · exact w_c23
  · exact w_c24
  · exact w_c25
  · exact w_c26
  · exact w_c27
set_option maxRecDepth 65536 in
theorem w_t1 : (words1.take 24).all (fun c => isCode c || c.before args0 about1) = true := by decide +kernel
set_option maxRecDepth 65536 in
theorem w_t2 : ((words1.drop 24).take 24).all (fun c => isCode c || c.before args0 about1) = true := by decide +kernel
set_option maxRecDepth 65536 in
theorem w_t3 : (((words1.drop 24).drop 24).take 24).all (fun c => isCode c || c.before args0 about1) = true := by decide +kernel
set_option maxRecDepth 65536 in
theorem w_t4 : ((((words1.drop 24).drop 24).drop 24).take 24).all (fun c => isCode c || c.before args0 about1) = true := by decide +kernel
set_option maxRecDepth 65536 in
theorem w_t5 : (((((words1.drop 24).drop 24).drop 24).drop 24).take 24).all (fun c => isCode c || c.before args0 about1) = true := by decide +kernel
set_option maxRecDepth 65536 in
theorem w_t6 : (((((words1.drop 24).drop 24).drop 24).drop 24).drop 24).all (fun c => isCode c || c.before args0 about1) = true := by decide +kernel
theorem w_tables : (allAtoms (Jvm.Cond.code x code maxLocals ret :: tables_1)).before args0 about1 = true := by
  rw [allAtoms_all]
  show words1.all (fun c => c.before args0 about1) = true
  refine all_split ?_ w_codes
  rw [← List.take_append_drop 24 words1, List.all_append, w_t1, ← List.take_append_drop 24 (words1.drop 24), List.all_append, w_t2, ← List.take_append_drop 24 ((words1.drop 24).drop 24), List.all_append, w_t3, ← List.take_append_drop 24 (((words1.drop 24).drop 24).drop 24), List.all_append, w_t4, ← List.take_append_drop 24 ((((words1.drop 24).drop 24).drop 24).drop 24), List.all_append, w_t5, w_t6]
  rfl
set_option maxRecDepth 65536 in
theorem w_rest : rest_1_c.before args0 about1 = true := by decide +kernel
set_option maxRecDepth 65536 in
theorem w_case : (Jvm.Cond.and given_1 narrow_1).before args0 about1 = true := by decide +kernel
theorem w_applies : (headSpec (Jvm.Cond.code x code maxLocals ret :: tables_1) room_1).applies x e0.platform about1 = true :=
  (Spec.applies_iff w_frames).mpr ⟨w_running, w_runnable, w_alone, w_named, w_hears, w_ripe, w_room, w_tables⟩
theorem atStart : AtStart classFile x code maxLocals ret World_1 tables_1 room_1 Calls_1 rest_1 Pre_1 launch0 p0 e0 about1 theMethod args0 below0 :=
  ⟨lists_1, trivial, launch0.admits_env _ _ _, launch0.least_env, fairChoices_fair.cas, fairChoices_fair.clock, w_frames, w_args, w_heap, w_applies, trivial, w_rest, w_case⟩
end start1
theorem witness_1 : WitnessClaimed_1 := ⟨start1.p0, start1.e0, start1.about1, start1.theMethod, start1.args0, start1.below0, start1.atStart⟩
end Jvm.Pilot.@@N@@
