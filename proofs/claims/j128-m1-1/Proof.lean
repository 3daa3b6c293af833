import JvmDerived
import JvmDerived.Pilot.@@N@@Statement
import JvmDerived.Pilot.@@N@@Code
set_option linter.unusedVariables false
set_option linter.unusedSimpArgs false
namespace Jvm.RoadKit
open Sem ClassFile Op Lib Jvm.Stand Jvm.Free Jvm.LawKit
section OwnKit
/-- the run from S comes to an end that P allows -/
def Gl (tb : Tables) (e : Env) (below : List Frame) (P : Outcome → State → Prop) (S : State) : Prop := ∃ s₂ o, Steps tb e below S s₂ ∧ s₂.status = .running ∧ Ended s₂ below o ∧ P o s₂
variable {tb : Tables} {p : Program} {l : Launch} {e : Env} {R : Room} {s : State} {m : MethodId} {args : Array Value} {below : List Frame} {meth : Method} {c : Code} {T : State} {locs : List Loc} {cells slots : Nat} {P : Outcome → State → Prop} {S S' : State}
theorem Gl.st (h : ∀ t, Steps tb e below S' t → Steps tb e below S t) (k : Gl tb e below P S') : Gl tb e below P S := by
  obtain ⟨s₂, o, h1, h2⟩ := k; exact ⟨s₂, o, h _ h1, h2⟩
theorem Gl.to (h : Steps tb e below S S') (k : Gl tb e below P S') : Gl tb e below P S := Gl.st (fun _ q => h.trans q) k
theorem Gl.cast {g g' : JFrame} (q : g = g') (k : Gl tb e below P (T.setTop g')) : Gl tb e below P (T.setTop g) := q ▸ k
abbrev EndN (s : State) (Q : Option Value → Heap → List Loc → Prop) (kc ks : Nat) : Outcome → State → Prop := fun o s₂ => ∃ v L, o = .returned v ∧ Q v s₂.heap L ∧ FrameEnd s o s₂ L kc ks
abbrev EndW (s : State) (Q : Option Value → Heap → List Loc → Prop) (kc ks : Nat) : Outcome → State → Prop := fun o s₂ => ∃ v L, o = .returned v ∧ Q v s₂.heap L ∧ ReturnedEndW s o s₂ L kc ks
variable {Q : Option Value → Heap → List Loc → Prop} {kc ks : Nat}
theorem Gl.fin (X : Stand p l e R s m args below meth c T locs cells slots) {v : Option Value} (hv : meth.sig.returnType = none → v = none) (hlk : meth.locks = false) (hc : cells ≤ kc) (hs : slots ≤ ks) (hQ : Q v T.heap locs)
    (k : ∀ fs, (∀ (f : JFrame) (acts : List Action), f.method = m → f.locked = none → f.entered = [] → (doReturn e (T.setTop f) acts v).1 = T.setFrames fs) → Steps p.tables e below S (T.setFrames fs)) : Gl p.tables e below (EndN s Q kc ks) S := by
  obtain ⟨fs, hr, hrun, hended, hW, hsame⟩ := X.leave hv hlk
  exact ⟨_, _, k fs hr, hrun, hended, v, locs, rfl, hQ, ⟨_, rfl⟩, hW, hsame.mono hc hs⟩
theorem Gl.finW {vm₁ : Vm} {n : Nat} (X : Stand p l e R (s.setVm vm₁) m args below meth c T locs cells slots) (hS : s.Since vm₁ n) (hn : n ≤ T.heap.size) {v : Option Value} (hv : meth.sig.returnType = none → v = none) (hlk : meth.locks = false) (hc : cells ≤ kc) (hs : slots ≤ ks) (hQ : Q v T.heap locs)
    (k : ∀ fs, (∀ (f : JFrame) (acts : List Action), f.method = m → f.locked = none → f.entered = [] → (doReturn e (T.setTop f) acts v).1 = T.setFrames fs) → Steps p.tables e below S (T.setFrames fs)) : Gl p.tables e below (EndW s Q kc ks) S := by
  obtain ⟨fs, hr, hrun, hended, h1, h2, h3, hsame⟩ := X.leaveW hS hn hv hlk
  exact ⟨_, _, k fs hr, hrun, hended, v, locs, rfl, hQ, h1, h2, h3, hsame.mono hc hs⟩
variable {pc : Nat} {Ls : Array Slot} {rest : List Value}
theorem nov {meth : Method} {t : FieldType} {v : Option Value} (h : meth.sig.returnType = some t) : meth.sig.returnType = none → v = none := fun q => by rw [h] at q; cases q
theorem narR {t : FieldType} {w : Value} (hw : w.isRef = true) (ht : t.isReference = true) : narrow t w = w := by
  rcases ref_cases hw with rfl | ⟨a, rfl⟩ <;> cases t <;> first | rfl | (simp [FieldType.isReference] at ht)
theorem fitR {t : FieldType} {w : Value} (hw : w.isRef = true) (ht : t.isReference = true) : fits t w = true := by
  rcases ref_cases hw with rfl | ⟨a, rfl⟩ <;> cases t <;> first | rfl | (simp [FieldType.isReference] at ht)
theorem refc {w : Value} (hw : w.isRef = true) : w.category = 1 := by
  rcases ref_cases hw with rfl | ⟨a, rfl⟩ <;> rfl
theorem lt_ne32 {u w : Int32} (h : u < w) : ¬ u = w := fun q => by rw [q] at h; exact Int32.lt_irrefl h
theorem lt_ne32' {u w : Int32} (h : w < u) : ¬ u = w := fun q => lt_ne32 h q.symm
theorem tri32 {u w : Int32} (h1 : ¬ u < w) (h2 : ¬ w < u) : u = w := by
  rw [Int32.lt_iff_toInt_lt] at h1 h2
  exact Int32.toInt_inj.mp (by omega)
theorem alc0 {P : Int32 → Prop} : ∀ x ∈ ([] : List Int32), P x := fun _ q => nomatch q
theorem alcS {P : Int32 → Prop} {y : Int32} {L : List Int32} (q : P y) (r : ∀ x ∈ L, P x) : ∀ x ∈ y :: L, P x := fun x z => (List.mem_cons.mp z).elim (fun u => u ▸ q) (r x)
theorem up255 (cs : List Int32) (h : ∀ c ∈ cs, ¬ c < 0 ∧ ¬ (255 : Int32) < c) : ∀ c ∈ cs, ¬ c < 0 ∧ ¬ (65535 : Int32) < c := fun c hc => ⟨(h c hc).1, fun q => (h c hc).2 (by rw [Int32.lt_iff_toInt_lt] at q ⊢; have e1 : (65535 : Int32).toInt = 65535 := rfl; have e2 : (255 : Int32).toInt = 255 := rfl; omega)⟩
theorem Gl.retN (X : Stand p l e R s m args below meth c T locs cells slots) (hx : p.tables.exec = Jvm.exec) {z : Int32} {t : FieldType} (hret : meth.sig.returnType = some t) (ht : t = .boolean ∨ t = .byte ∨ t = .char ∨ t = .short) (hd : decode c.code pc = .ok (.ireturn, 1)) (hlk : meth.locks = false) (hc : cells ≤ kc) (hs : slots ≤ ks) (hQ : Q (some (.int (nar t z))) T.heap locs) : Gl p.tables e below (EndN s Q kc ks) (T.setTop (mkF m pc Ls (.int z :: rest))) :=
  Gl.fin X (nov hret) hlk hc hs hQ fun _ hr => Jvm.RoadKit.retN X hx hret ht hd hr
theorem retIo (X : Stand p l e R s m args below meth c T locs cells slots) (hx : p.tables.exec = Jvm.exec) {z : Int32} (hret : meth.sig.returnType = some .int) (hd : decode c.code pc = .ok (.ireturn, 1)) {fs : List Frame}
    (hl : ∀ (f : JFrame) (acts : List Action), f.method = m → f.locked = none → f.entered = [] → (doReturn e (T.setTop f) acts (some (.int z))).1 = T.setFrames fs) : Steps p.tables e below (T.setTop (mkF m pc Ls (.int z :: rest))) (T.setFrames fs) :=
  retOut X hx hret rfl (Or.inl ⟨rfl, Or.inl rfl, _, rfl⟩) hd hl
theorem Gl.retI (X : Stand p l e R s m args below meth c T locs cells slots) (hx : p.tables.exec = Jvm.exec) {z : Int32} (hret : meth.sig.returnType = some .int) (hd : decode c.code pc = .ok (.ireturn, 1)) (hlk : meth.locks = false) (hc : cells ≤ kc) (hs : slots ≤ ks) (hQ : Q (some (.int z)) T.heap locs) : Gl p.tables e below (EndN s Q kc ks) (T.setTop (mkF m pc Ls (.int z :: rest))) :=
  Gl.fin X (nov hret) hlk hc hs hQ fun _ hr => retIo X hx hret hd hr
theorem Gl.retJ (X : Stand p l e R s m args below meth c T locs cells slots) (hx : p.tables.exec = Jvm.exec) {z : Int64} (hret : meth.sig.returnType = some .long) (hd : decode c.code pc = .ok (.lreturn, 1)) (hlk : meth.locks = false) (hc : cells ≤ kc) (hs : slots ≤ ks) (hQ : Q (some (.long z)) T.heap locs) : Gl p.tables e below (EndN s Q kc ks) (T.setTop (mkF m pc Ls (.long z :: rest))) :=
  Gl.fin X (nov hret) hlk hc hs hQ fun _ hr => retOut X hx hret rfl (Or.inr (Or.inl ⟨rfl, rfl, _, rfl⟩)) hd hr
theorem Gl.retA (X : Stand p l e R s m args below meth c T locs cells slots) (hx : p.tables.exec = Jvm.exec) {w : Value} {t : FieldType} (hret : meth.sig.returnType = some t) (ht : t.isReference = true) (hw : w.isRef = true) (hd : decode c.code pc = .ok (.areturn, 1)) (hlk : meth.locks = false) (hc : cells ≤ kc) (hs : slots ≤ ks) (hQ : Q (some w) T.heap locs) : Gl p.tables e below (EndN s Q kc ks) (T.setTop (mkF m pc Ls (w :: rest))) :=
  Gl.fin X (nov hret) hlk hc hs hQ fun _ hr => retOut X hx hret (narR hw ht) (Or.inr (Or.inr (Or.inr (Or.inr ⟨rfl, ht, hw⟩)))) hd hr
theorem Gl.ret0 (X : Stand p l e R s m args below meth c T locs cells slots) (hx : p.tables.exec = Jvm.exec) (hret : meth.sig.returnType = none) (hd : decode c.code pc = .ok (.return_, 1)) (hlk : meth.locks = false) (hc : cells ≤ kc) (hs : slots ≤ ks) (hQ : Q none T.heap locs) : Gl p.tables e below (EndN s Q kc ks) (T.setTop (mkF m pc Ls [])) :=
  Gl.fin X (fun _ => rfl) hlk hc hs hQ fun _ hr => X.returnOut hx hret hd hr
variable {vm₁ : Vm} {n : Nat}
theorem Gl.retNW (X : Stand p l e R (s.setVm vm₁) m args below meth c T locs cells slots) (hx : p.tables.exec = Jvm.exec) (hS : s.Since vm₁ n) (hn : n ≤ T.heap.size) {z : Int32} {t : FieldType} (hret : meth.sig.returnType = some t) (ht : t = .boolean ∨ t = .byte ∨ t = .char ∨ t = .short) (hd : decode c.code pc = .ok (.ireturn, 1)) (hlk : meth.locks = false) (hc : cells ≤ kc) (hs : slots ≤ ks) (hQ : Q (some (.int (nar t z))) T.heap locs) : Gl p.tables e below (EndW s Q kc ks) (T.setTop (mkF m pc Ls (.int z :: rest))) :=
  Gl.finW X hS hn (nov hret) hlk hc hs hQ fun _ hr => Jvm.RoadKit.retN X hx hret ht hd hr
theorem Gl.retIW (X : Stand p l e R (s.setVm vm₁) m args below meth c T locs cells slots) (hx : p.tables.exec = Jvm.exec) (hS : s.Since vm₁ n) (hn : n ≤ T.heap.size) {z : Int32} (hret : meth.sig.returnType = some .int) (hd : decode c.code pc = .ok (.ireturn, 1)) (hlk : meth.locks = false) (hc : cells ≤ kc) (hs : slots ≤ ks) (hQ : Q (some (.int z)) T.heap locs) : Gl p.tables e below (EndW s Q kc ks) (T.setTop (mkF m pc Ls (.int z :: rest))) :=
  Gl.finW X hS hn (nov hret) hlk hc hs hQ fun _ hr => retIo X hx hret hd hr
theorem Gl.retAW (X : Stand p l e R (s.setVm vm₁) m args below meth c T locs cells slots) (hx : p.tables.exec = Jvm.exec) (hS : s.Since vm₁ n) (hn : n ≤ T.heap.size) {w : Value} {t : FieldType} (hret : meth.sig.returnType = some t) (ht : t.isReference = true) (hw : w.isRef = true) (hd : decode c.code pc = .ok (.areturn, 1)) (hlk : meth.locks = false) (hc : cells ≤ kc) (hs : slots ≤ ks) (hQ : Q (some w) T.heap locs) : Gl p.tables e below (EndW s Q kc ks) (T.setTop (mkF m pc Ls (w :: rest))) :=
  Gl.finW X hS hn (nov hret) hlk hc hs hQ fun _ hr => retOut X hx hret (narR hw ht) (Or.inr (Or.inr (Or.inr (Or.inr ⟨rfl, ht, hw⟩)))) hd hr
theorem Gl.ret0W (X : Stand p l e R (s.setVm vm₁) m args below meth c T locs cells slots) (hx : p.tables.exec = Jvm.exec) (hS : s.Since vm₁ n) (hn : n ≤ T.heap.size) (hret : meth.sig.returnType = none) (hd : decode c.code pc = .ok (.return_, 1)) (hlk : meth.locks = false) (hc : cells ≤ kc) (hs : slots ≤ ks) (hQ : Q none T.heap locs) : Gl p.tables e below (EndW s Q kc ks) (T.setTop (mkF m pc Ls [])) :=
  Gl.finW X hS hn (fun _ => rfl) hlk hc hs hQ fun _ hr => X.returnOut hx hret hd hr
abbrev EndH (s : State) (Z : State) (EL : List (String × Nat)) (Q : Option Value → Heap → List Loc → Prop) (kc ks : Nat) : Outcome → State → Prop := fun o s₂ => ∃ v L, o = .returned v ∧ Q v s₂.heap L ∧ CHr Z EL s.vm s.heap s₂.vm s₂.heap ∧ ReturnedEndW s o s₂ L kc ks
variable {Z : State} {EL : List (String × Nat)}
theorem Gl.finH (X : Stand p l e R (s.setVm vm₁) m args below meth c T locs cells slots) (hS : s.Since vm₁ n) (hn : n ≤ T.heap.size) (hC : CHr Z EL s.vm s.heap T.vm T.heap) {v : Option Value} (hv : meth.sig.returnType = none → v = none) (hlk : meth.locks = false) (hc : cells ≤ kc) (hs : slots ≤ ks) (hQ : Q v T.heap locs)
    (k : ∀ fs, (∀ (f : JFrame) (acts : List Action), f.method = m → f.locked = none → f.entered = [] → (doReturn e (T.setTop f) acts v).1 = T.setFrames fs) → Steps p.tables e below S (T.setFrames fs)) : Gl p.tables e below (EndH s Z EL Q kc ks) S := by
  obtain ⟨fs, hr, hrun, hended, h1, h2, h3, hsame⟩ := X.leaveW hS hn hv hlk
  exact ⟨_, _, k fs hr, hrun, hended, v, locs, rfl, hQ, hC, h1, h2, h3, hsame.mono hc hs⟩
theorem Gl.retNH (X : Stand p l e R (s.setVm vm₁) m args below meth c T locs cells slots) (hx : p.tables.exec = Jvm.exec) (hS : s.Since vm₁ n) (hn : n ≤ T.heap.size) (hC : CHr Z EL s.vm s.heap T.vm T.heap) {z : Int32} {t : FieldType} (hret : meth.sig.returnType = some t) (ht : t = .boolean ∨ t = .byte ∨ t = .char ∨ t = .short) (hd : decode c.code pc = .ok (.ireturn, 1)) (hlk : meth.locks = false) (hc : cells ≤ kc) (hs : slots ≤ ks) (hQ : Q (some (.int (nar t z))) T.heap locs) : Gl p.tables e below (EndH s Z EL Q kc ks) (T.setTop (mkF m pc Ls (.int z :: rest))) :=
  Gl.finH X hS hn hC (nov hret) hlk hc hs hQ fun _ hr => Jvm.RoadKit.retN X hx hret ht hd hr
theorem Gl.retIH (X : Stand p l e R (s.setVm vm₁) m args below meth c T locs cells slots) (hx : p.tables.exec = Jvm.exec) (hS : s.Since vm₁ n) (hn : n ≤ T.heap.size) (hC : CHr Z EL s.vm s.heap T.vm T.heap) {z : Int32} (hret : meth.sig.returnType = some .int) (hd : decode c.code pc = .ok (.ireturn, 1)) (hlk : meth.locks = false) (hc : cells ≤ kc) (hs : slots ≤ ks) (hQ : Q (some (.int z)) T.heap locs) : Gl p.tables e below (EndH s Z EL Q kc ks) (T.setTop (mkF m pc Ls (.int z :: rest))) :=
  Gl.finH X hS hn hC (nov hret) hlk hc hs hQ fun _ hr => retIo X hx hret hd hr
theorem Gl.retAH (X : Stand p l e R (s.setVm vm₁) m args below meth c T locs cells slots) (hx : p.tables.exec = Jvm.exec) (hS : s.Since vm₁ n) (hn : n ≤ T.heap.size) (hC : CHr Z EL s.vm s.heap T.vm T.heap) {w : Value} {t : FieldType} (hret : meth.sig.returnType = some t) (ht : t.isReference = true) (hw : w.isRef = true) (hd : decode c.code pc = .ok (.areturn, 1)) (hlk : meth.locks = false) (hc : cells ≤ kc) (hs : slots ≤ ks) (hQ : Q (some w) T.heap locs) : Gl p.tables e below (EndH s Z EL Q kc ks) (T.setTop (mkF m pc Ls (w :: rest))) :=
  Gl.finH X hS hn hC (nov hret) hlk hc hs hQ fun _ hr => retOut X hx hret (narR hw ht) (Or.inr (Or.inr (Or.inr (Or.inr ⟨rfl, ht, hw⟩)))) hd hr
theorem Gl.ret0H (X : Stand p l e R (s.setVm vm₁) m args below meth c T locs cells slots) (hx : p.tables.exec = Jvm.exec) (hS : s.Since vm₁ n) (hn : n ≤ T.heap.size) (hC : CHr Z EL s.vm s.heap T.vm T.heap) (hret : meth.sig.returnType = none) (hd : decode c.code pc = .ok (.return_, 1)) (hlk : meth.locks = false) (hc : cells ≤ kc) (hs : slots ≤ ks) (hQ : Q none T.heap locs) : Gl p.tables e below (EndH s Z EL Q kc ks) (T.setTop (mkF m pc Ls [])) :=
  Gl.finH X hS hn hC (fun _ => rfl) hlk hc hs hQ fun _ hr => X.returnOut hx hret hd hr
theorem safe_nul {vm : Vm} {h : Heap} {x : Addr} (hal : Z.vm.Alike vm) (E : Exa Z h x "java/lang/String") (V : Fld Z h x "java/lang/String" "value" "[B" .null) : Safe Z EL vm h x := fun B => by
  obtain ⟨p, hp, u, a, hb, q, hqa, hS, hy⟩ := B
  obtain ⟨cS, ⟨⟨s1, s2, s3, ⟨cv, kv, iv, s4, s4'⟩, ⟨cc, kc, ic, s5, s5'⟩, s6, s7, s8, s9, s10, s11, s12, s13, s14, s15, s16⟩, hfS, hcS⟩, ⟨kS, k1, k2, k3⟩, hB, hbyt⟩ := hS
  rcases hy with rfl | rfl
  · obtain ⟨cell, cf, k, i, f, f1, f2, f3, f4, f5, f6, f7⟩ := V
    have e1 : cell = q.sC := Option.some.inj (f1.symm.trans s1)
    obtain ⟨kv', z4⟩ := ff_back (U := Wst Z vm h) hal s4
    cases f2.symm.trans z4
    rw [e1, s8] at f7
    cases f7
  · obtain ⟨cell, k, e1, e2, e3, e4, e5⟩ := E
    have e6 : cell = q.SA := Option.some.inj (e1.symm.trans s10)
    subst e6
    have hB' : Z.vm.findClass "[B" = some q.SA.cls := by rw [← hal.findClass]; exact hB
    obtain ⟨k1', a1, a2⟩ := Vm.findClass_spec e2
    obtain ⟨k2', b1, b2⟩ := Vm.findClass_spec hB'
    cases a1.symm.trans b1
    exact absurd (a2.symm.trans b2) (by decide)
/-- an object of a class whose superclass is the root is no instance of another class -/
theorem not_root {a0 : Array Value} {C O K : String} {n : Nat} (w : (Cond.superclass C O).before a0 Z = true) (wr : (Cond.noSuperclass O).before a0 Z = true) (wi : (Cond.instantiable K n).before a0 Z = true) (h1 : C ≠ K) (h2 : O ≠ K) : ∃ c t, Z.vm.findClass C = some c ∧ Z.vm.findClass K = some t ∧ Z.vm.assignable c t = false := by
  obtain ⟨t, kt, g1, g2, g3, g4, -⟩ := Cond.instantiable_spec wi
  obtain ⟨c, h0⟩ := found_sup w
  obtain ⟨p, k, kp, s1, s2, s3, s4, s5, s6, s7⟩ := Cond.superclass_spec h0 w
  obtain ⟨o, ko, o1, o2, o3, o4, o5⟩ := Cond.noSuperclass_spec wr
  have ne1 := ids_ne h0 g1 h1
  have ne2 := ids_ne o1 g1 h2
  have hi : kt.isInterface = false := by
    cases q : kt.isInterface with
    | false => rfl
    | true => rw [q] at g4; simp at g4
  have n0 : NS Z O K := ⟨o, t, o1, g1, fun fuel => by
    cases fuel with
    | zero => rfl
    | succ f => simp [Vm.isSubclassAux, ne2, o2, o3]⟩
  obtain ⟨c', t', a1, a2, n3⟩ := NS.step w n0 h1
  cases h0.symm.trans a1
  cases g1.symm.trans a2
  refine ⟨c, t, h0, g1, ?_⟩
  show Z.vm.assignableAux (255 + 1) c t = false
  simp [Vm.assignableAux, ne1, s2, g2, s5, g3, hi, Vm.isSubclass, n3]
end OwnKit
end Jvm.RoadKit
namespace Jvm.RoadKit
open Sem ClassFile Op Lib Jvm.Stand Jvm.Free Jvm.LawKit
theorem n32_int {i : Nat} (h : i < 2147483648) : (Int32.ofNat i).toInt = i := Int32.toInt_ofNat_small h
theorem n32_lt {i j : Nat} (hi : i < 2147483648) (hj : j < 2147483648) : (Int32.ofNat i < Int32.ofNat j) ↔ i < j := by
  rw [Int32.lt_iff_toInt_lt, n32_int hi, n32_int hj]; omega
theorem n32_plt {i j : Nat} (h : i < j) (hj : j < 2147483648) : Int32.ofNat i < Int32.ofNat j := (n32_lt (by omega) hj).mpr h
theorem n32_nlt {i j : Nat} (h : ¬ i < j) (hi : i < 2147483648) (hj : j < 2147483648) : ¬ (Int32.ofNat i < Int32.ofNat j) := fun q => h ((n32_lt hi hj).mp q)
theorem n32_nn {i : Nat} (hi : i < 2147483648) : ¬ (Int32.ofNat i < (0 : Int32)) := by
  rw [Int32.lt_iff_toInt_lt, n32_int hi]
  have e : (0 : Int32).toInt = 0 := rfl
  omega
theorem n32_eq {i j : Nat} (hi : i < 2147483648) (hj : j < 2147483648) : (Int32.ofNat i = Int32.ofNat j) ↔ i = j :=
  ⟨fun q => by have := congrArg Int32.toInt q; rw [n32_int hi, n32_int hj] at this; omega, fun q => q ▸ rfl⟩
theorem n32_eq0 {i : Nat} (hi : i < 2147483648) : (Int32.ofNat i = (0 : Int32)) ↔ i = 0 := n32_eq (j := 0) hi (by omega)
theorem n32_add (i j : Nat) : Int32.ofNat i + Int32.ofNat j = Int32.ofNat (i + j) := (Int32.ofNat_add i j).symm
theorem n32_inc (i : Nat) : Int32.ofNat i + (1 : Int32) = Int32.ofNat (i + 1) := n32_add i 1
theorem n32_sub {i j : Nat} (h : j ≤ i) : Int32.ofNat i - Int32.ofNat j = Int32.ofNat (i - j) := by
  have e : Int32.ofNat i = Int32.ofNat (i - j) + Int32.ofNat j := by rw [n32_add]; congr 1; omega
  rw [e, Int32.add_sub_cancel]
theorem n32_cl {i : Nat} (h : i < 2147483648) : (Int32.ofNat i).toNatClampNeg = i := by
  simp only [Int32.toNatClampNeg, n32_int h]; omega
/-- the low byte, and back -/
theorem lo_back {c : Int32} (h0 : ¬ c < 0) (h1 : ¬ (255 : Int32) < c) : c.toInt8.toInt32 &&& 255 = c := by
  rw [Int32.lt_iff_toInt_lt] at h0 h1
  have e0 : (0 : Int32).toInt = 0 := rfl
  have e1 : (255 : Int32).toInt = 255 := rfl
  obtain ⟨j, rfl⟩ : ∃ j : Fin 256, c = Int32.ofNat j.val := ⟨⟨c.toInt.toNat, by omega⟩, Int32.toInt_inj.mp (by rw [n32_int (by show c.toInt.toNat < _; omega)]; show c.toInt = ((c.toInt.toNat : Nat) : Int); omega)⟩
  exact (by decide +kernel : ∀ j : Fin 256, (Int32.ofNat j.val).toInt8.toInt32 &&& 255 = Int32.ofNat j.val) j
theorem lo_inj {c d : Int32} (h0 : ¬ c < 0) (h1 : ¬ (255 : Int32) < c) (k0 : ¬ d < 0) (k1 : ¬ (255 : Int32) < d) (e : c.toInt8.toInt32 = d.toInt8.toInt32) : c = d := by
  rw [← lo_back h0 h1, ← lo_back k0 k1, e]
theorem lo_get {cs : List Int32} {i : Nat} (hi : i < cs.length) : (((cs.map (fun c => c.toInt8.toInt32)).map Value.int).getD i (.int 0)) = .int ((cs.getD i 0).toInt8.toInt32) := by
  simp [List.getD_eq_getElem?_getD, hi]
theorem mem_get {P : Int32 → Prop} {cs : List Int32} (h : ∀ c ∈ cs, P c) {i : Nat} (hi : i < cs.length) : P (cs.getD i 0) := by
  have e : cs.getD i 0 = cs[i] := by simp [List.getD_eq_getElem?_getD, hi]
  rw [e]; exact h _ (List.getElem_mem hi)
def Rng (cs : List Int32) : Prop := ∀ c ∈ cs, ¬ c < 0 ∧ ¬ (255 : Int32) < c
theorem Rng.sub {cs : List Int32} (h : Rng cs) (x d : Nat) : Rng ((cs.drop x).take d) := fun c hc => h c (List.mem_of_mem_drop (List.mem_of_mem_take hc))
/-- the first place from i on -/
def First (q : Int32) (cs : List Int32) (i r : Nat) : Prop := i ≤ r ∧ r < cs.length ∧ cs.getD r 0 = q ∧ ∀ k, i ≤ k → k < r → ¬ cs.getD k 0 = q
def Nowhere (q : Int32) (cs : List Int32) (i : Nat) : Prop := ∀ k, i ≤ k → k < cs.length → ¬ cs.getD k 0 = q
theorem own_copied {cs : List Int32} {x d : Nat} (h : x + d ≤ cs.length) : ∀ i, ((((cs.drop x).take d).map (fun c => c.toInt8.toInt32)).map Value.int).getD i (.int 0) = ((([] ++ List.replicate d (Value.int (0 : Int32))).take 0) ++ ((List.range d).map fun i => (((cs.map (fun c => c.toInt8.toInt32)).map Value.int).getD (x + i) (.int 0))) ++ (([] ++ List.replicate d (Value.int (0 : Int32))).drop (0 + d))).getD i (.int 0) := by
  intro i
  by_cases hi : i < d
  · have hl : x + i < cs.length := by omega
    simp [List.getD_eq_getElem?_getD, hi, hl, List.getElem?_append, List.getElem?_take, List.getElem?_drop]
  · simp [List.getD_eq_getElem?_getD, hi, List.getElem?_append, List.getElem?_take, List.getElem?_drop]
end Jvm.RoadKit
namespace Jvm.RoadKit
open Sem ClassFile Op Lib Jvm.Stand Jvm.Free Jvm.LawKit
theorem first_here {q : Int32} {cs : List Int32} : First q (q :: cs) 0 0 := ⟨Nat.le_refl _, by simp, rfl, fun k _ h => absurd h (by omega)⟩
theorem first_cons {q c : Int32} {cs : List Int32} {r : Nat} (h : ¬ c = q) (F : First q cs 0 r) : First q (c :: cs) 0 (r + 1) := by
  obtain ⟨-, h2, h3, h4⟩ := F
  refine ⟨by omega, by simp; omega, h3, fun k _ hk => ?_⟩
  cases k with
  | zero => exact h
  | succ k => exact h4 k (by omega) (by omega)
theorem nowhere_nil {q : Int32} : Nowhere q [] 0 := fun k _ h => absurd h (by simp)
theorem nowhere_cons {q c : Int32} {cs : List Int32} (h : ¬ c = q) (F : Nowhere q cs 0) : Nowhere q (c :: cs) 0 := fun k _ hk => by
  cases k with
  | zero => exact h
  | succ k => exact F k (by omega) (by simpa using hk)
theorem first_no {q : Int32} {cs : List Int32} {i r : Nat} (F : First q cs i r) (N : Nowhere q cs i) : False := N r F.1 F.2.1 F.2.2.1
theorem first_uniq {q : Int32} {cs : List Int32} {i r r' : Nat} (F : First q cs i r) (G : First q cs i r') : r = r' := by
  rcases Nat.lt_trichotomy r r' with h | h | h
  · exact absurd F.2.2.1 (G.2.2.2 r F.1 h)
  · exact h
  · exact absurd G.2.2.1 (F.2.2.2 r' G.1 h)
theorem ds_len {cs ds : List Int32} {x : Nat} (h : ds = (cs.drop x).take (cs.length - x)) : ds.length = cs.length - x := by rw [h]; simp
theorem ds_get {cs ds : List Int32} {x d : Nat} (h : ds = (cs.drop x).take d) {j : Nat} (hj : j < ds.length) : ds.getD j 0 = cs.getD (x + j) 0 := by
  subst h
  have hj' : j < d ∧ x + j < cs.length := by simp at hj; omega
  simp [List.getD_eq_getElem?_getD, List.getElem?_take, List.getElem?_drop, hj'.1]
end Jvm.RoadKit
namespace Jvm.RoadKit
open Sem ClassFile Op Lib Jvm.Stand Jvm.Free Jvm.LawKit
theorem ex_first {q : Int32} {cs : List Int32} : ∀ (d i : Nat), (i + d < cs.length) → cs.getD (i + d) 0 = q → ∃ r, First q cs i r ∧ r ≤ i + d
  | 0, i, h, e => ⟨i, ⟨Nat.le_refl _, h, e, fun k h1 h2 => absurd h2 (by omega)⟩, Nat.le_refl _⟩
  | d + 1, i, h, e => by
    by_cases c : cs.getD i 0 = q
    · exact ⟨i, ⟨Nat.le_refl _, by omega, c, fun k h1 h2 => absurd h2 (by omega)⟩, by omega⟩
    · obtain ⟨r, F, hr⟩ := ex_first (q := q) (cs := cs) d (i + 1) (by omega) (by rw [show i + 1 + d = i + (d + 1) by omega]; exact e)
      exact ⟨r, ⟨by have := F.1; omega, F.2.1, F.2.2.1, fun k h1 h2 => by
        by_cases z : k = i
        · rw [z]; exact c
        · exact F.2.2.2 k (by omega) h2⟩, by omega⟩
def Chr (ch : Int32) : Prop := ¬ ch < 0 ∧ ¬ (255 : Int32) < ch
/-- no place from i to k - 1 holds q -/
def Upto (q : Int32) (cs : List Int32) (i k : Nat) : Prop := ∀ j, i ≤ j → j < k → ¬ cs.getD j 0 = q
theorem upto_0 {q : Int32} {cs : List Int32} {i : Nat} : Upto q cs i 0 := fun j _ h => absurd h (by omega)
theorem upto_lt {q : Int32} {cs : List Int32} {i k : Nat} (U : Upto q cs i k) (h : k < i) : Upto q cs i (k + 1) := fun j h1 h2 => absurd h2 (by omega)
theorem upto_ne {q : Int32} {cs : List Int32} {i k : Nat} (U : Upto q cs i k) (h : ¬ cs.getD k 0 = q) : Upto q cs i (k + 1) := fun j h1 h2 => by
  by_cases z : j = k
  · rw [z]; exact h
  · exact U j h1 (by omega)
end Jvm.RoadKit
/- laws to paste: Road.backV, Road.lenW, Road.chN, Road.codOf (cut by pick.py; bodies as the Statement names them) -/
namespace Jvm.Pilot.@@N@@
namespace StrChars
open Jvm Sem ClassFile Op Lib Jvm.Stand Jvm.Free.XT Jvm.Free.ALB Jvm.Free.JM Jvm.Free
open Jvm.Lib.Cold (StaticIs)
/-- a char array whose places are chars -/
def Ch (a : Addr) (A : Cell) (U : State) : Prop := Arr .char a A U ∧ Typed .char A
theorem Ch.mv {a : Addr} {A : Cell} {U U' : State} (h : Ch a A U) (hal : U.vm.Alike U'.vm) (hh : U'.heap = U.heap) : Ch a A U' := ⟨h.1.mv hal hh, h.2⟩
theorem Ch.keep {a : Addr} {A : Cell} {U U' : State} (h : Ch a A U) (hal : U.vm.Alike U'.vm) (hk : U'.heap[a]? = some A) : Ch a A U' := ⟨h.1.keep hal hk, h.2⟩
/-- what place i of a char[]'s cell holds -/
def cv (A : Cell) (i : Nat) : Int32 := match A.slots[i]? with | some (.int x) => x | _ => 0
theorem Ch.get {a : Addr} {A : Cell} {U : State} (h : Ch a A U) {i : Nat} (hi : i < A.slots.size) : A.slots[i]? = some (.int (cv A i)) := by
  have e := Array.getElem?_eq_getElem hi
  have f := h.2 i _ e
  unfold cv; rw [e]
  generalize A.slots[i] = v at f
  cases v <;> simp [fits] at f ⊢
/-- the byte that i2b leaves of a char -/
def lo8 (x : Int32) : Int32 := x.toInt8.toInt32
theorem fits_lo8 (y : Int32) : fits .byte (.int (lo8 y)) = true := by
  have h1 := y.toInt8.le_toInt
  have h2 := y.toInt8.toInt_lt
  simp only [lo8, fits, Bool.and_eq_true, decide_eq_true_eq, Int32.le_iff_toInt_le, Int8.toInt_toInt32, show (-128 : Int32).toInt = -128 from by decide, show (127 : Int32).toInt = 127 from by decide]
  omega
/-- A' is A but that each place j of lo .. hi - 1 holds f j -/
def Laid (A A' : Cell) (lo hi : Nat) (f : Nat → Value) : Prop := A'.cls = A.cls ∧ A'.vm = A.vm ∧ A'.slots.size = A.slots.size ∧ ∀ i, A'.slots[i]? = if lo ≤ i ∧ i < hi then some (f i) else A.slots[i]?
theorem Laid.zero (A : Cell) (lo : Nat) (f : Nat → Value) : Laid A A lo (lo + 0) f := ⟨rfl, rfl, rfl, fun i => by rw [if_neg (by omega)]⟩
theorem Laid.step {A Ak : Cell} {lo k : Nat} {f : Nat → Value} {v : Value} (h : Laid A Ak lo k f) (hlo : lo ≤ k) (hk : k < Ak.slots.size) (hv : v = f k) : Laid A (Ak.setSlot k v) lo (k + 1) f := by
  refine ⟨h.1, h.2.1, by simpa [Cell.setSlot] using h.2.2.1, fun i => ?_⟩
  by_cases e : k = i
  · subst e; rw [Cell.slots_setSlot_self v hk, if_pos (by omega), hv]
  · rw [Cell.slots_setSlot_ne v e, h.2.2.2 i]
    by_cases q : lo ≤ i ∧ i < k
    · rw [if_pos q, if_pos (by omega)]
    · rw [if_neg q, if_neg (by omega)]
def U16 : String := "java/lang/StringUTF16"
namespace Cmp5
def yN : MethodName := ⟨"java/lang/StringUTF16", "compress", "([CI[BII)I"⟩
abbrev yB : ByteArray := jdk_52_method_21_code
theorem d0 : decode yB 0 = .ok (.iconst 0, 1) := by decide +kernel
theorem d1 : decode yB 1 = .ok (.istore 5, 2) := by decide +kernel
theorem d3 : decode yB 3 = .ok (.iload 5, 2) := by decide +kernel
theorem d5 : decode yB 5 = .ok (.iload 4, 2) := by decide +kernel
theorem d7 : decode yB 7 = .ok (.if_icmp (.ge) 37, 3) := by decide +kernel
theorem d10 : decode yB 10 = .ok (.aload_n 0, 1) := by decide +kernel
theorem d11 : decode yB 11 = .ok (.iload_n 1, 1) := by decide +kernel
theorem d12 : decode yB 12 = .ok (.caload, 1) := by decide +kernel
theorem d13 : decode yB 13 = .ok (.istore 6, 2) := by decide +kernel
theorem d15 : decode yB 15 = .ok (.iload 6, 2) := by decide +kernel
theorem d17 : decode yB 17 = .ok (.sipush 255, 3) := by decide +kernel
theorem d20 : decode yB 20 = .ok (.if_icmp (.le) 6, 3) := by decide +kernel
theorem d26 : decode yB 26 = .ok (.aload_n 2, 1) := by decide +kernel
theorem d27 : decode yB 27 = .ok (.iload_n 3, 1) := by decide +kernel
theorem d28 : decode yB 28 = .ok (.iload 6, 2) := by decide +kernel
theorem d30 : decode yB 30 = .ok (.i2b, 1) := by decide +kernel
theorem d31 : decode yB 31 = .ok (.bastore, 1) := by decide +kernel
theorem d32 : decode yB 32 = .ok (.iinc 1 1, 3) := by decide +kernel
theorem d35 : decode yB 35 = .ok (.iinc 3 1, 3) := by decide +kernel
theorem d38 : decode yB 38 = .ok (.iinc 5 1, 3) := by decide +kernel
theorem d41 : decode yB 41 = .ok (.goto (-38), 3) := by decide +kernel
theorem d44 : decode yB 44 = .ok (.iload 4, 2) := by decide +kernel
theorem d46 : decode yB 46 = .ok (.ireturn, 1) := by decide +kernel
def site : List Cond := []
def tab : Cond := tabOf yN yB 7 (some .int) site
def P (b : Addr) (A : Cell) (d : Addr) (B : Cell) (o q len : Nat) (args : Array Value) (s : State) : Prop := args = #[.ref b, .int (Int32.ofNat o), .ref d, .int (Int32.ofNat q), .int (Int32.ofNat len)] ∧ Ch b A s ∧ Arr .byte d B s ∧ b ≠ d ∧ o + len ≤ A.slots.size ∧ q + len ≤ B.slots.size ∧ ∀ i, i < len → ¬ 255 < cv A (o + i)
def E (b : Addr) (A : Cell) (d : Addr) (B : Cell) (o q len : Nat) (r : Option Value) (s u : State) : Prop := r = some (.int (Int32.ofNat len)) ∧ ∃ B', Put d B' s u ∧ Laid B B' q (q + len) (fun j => Value.int (lo8 (cv A (o + (j - q)))))
/-- no char of the range above 255: len; the places written hold each char's low byte -/
theorem law (l : Launch) (b : Addr) (A : Cell) (d : Addr) (B : Cell) (o q len : Nat) : Law l yN 5 5 0 0 yB 7 (some .int) site (P b A d B o q len) (E b A d B o q len) (copyLocs d q len) 0 0 := by
  refine Law.of_walk (plainFor_of_name (by decide +kernel)) (by decide +kernel) (by decide +kernel) (by decide) (fun _ _ h => by rw [h.1]; rfl) (fun _ U U' hal hh h => ⟨h.1, h.2.1.mv hal hh, h.2.2.1.mv hal hh, h.2.2.2⟩) (fun r U U' V V' h1 hal h2 h => ⟨h.1, h.2.elim fun B' q => ⟨B', q.1.mv h1 h2, q.2⟩⟩) ?_
  intro p e s m args below meth c s₁ X0 hexec hbytes hml hret hlk hnm hown hh0 W hP
  obtain ⟨rfl, hA, hB, hne, l1, l2, hp⟩ := hP
  have c1 : Steps p.tables e below (s₁.setTop (entryFrame m #[.ref b, .int (Int32.ofNat o), .ref d, .int (Int32.ofNat q), .int (Int32.ofNat len)] 7)) (s₁.setTop (mkF m 0 #[.val (.ref b), .val (.int (Int32.ofNat o)), .val (.ref d), .val (.int (Int32.ofNat q)), .val (.int (Int32.ofNat len)), .unset, .unset] [])) := entry rfl
  have hA0 := hA.1.mv X0.warmed.alike hh0
  have hB0 := hB.mv X0.warmed.alike hh0
  have a31 := hA.1.2.2.2
  have c2 : Steps p.tables e below (s₁.setTop (entryFrame m #[.ref b, .int (Int32.ofNat o), .ref d, .int (Int32.ofNat q), .int (Int32.ofNat len)] 7)) (s₁.setTop (mkF m 3 #[.val (.ref b), .val (.int (Int32.ofNat o)), .val (.ref d), .val (.int (Int32.ofNat q)), .val (.int (Int32.ofNat len)), .val (.int 0), .unset] [])) := c1.trans (by
    refine iconstV X0.here hexec rfl 0 (hb hbytes d0) (by decide) ?_
    refine XS.istore X0.here hexec rfl (hb hbytes d1) rfl rfl ?_
    exact Steps.refl _)
  have loop : ∀ (r i : Nat), i + r = len → ∀ (z : Slot), (z = .unset ∨ ∃ w, z = .val w ∧ w.category = 1) → ∀ (Tl : State) (Bk : Cell), Stand p l e { frames := 0, locals := 0, cells := 0, slots := 0 } s m #[.ref b, .int (Int32.ofNat o), .ref d, .int (Int32.ofNat q), .int (Int32.ofNat len)] below meth c Tl ([] ++ copyLocs d q i) 0 0 → Put d Bk s₁ Tl → Laid B Bk q (q + i) (fun j => Value.int (lo8 (cv A (o + (j - q))))) →
      Steps p.tables e below (s₁.setTop (entryFrame m #[.ref b, .int (Int32.ofNat o), .ref d, .int (Int32.ofNat q), .int (Int32.ofNat len)] 7)) (Tl.setTop (mkF m 3 #[.val (.ref b), .val (.int (Int32.ofNat (o + i))), .val (.ref d), .val (.int (Int32.ofNat (q + i))), .val (.int (Int32.ofNat len)), .val (.int (Int32.ofNat i)), z] [])) → ∃ (T' : State) (B' : Cell) (z' : Slot), Stand p l e { frames := 0, locals := 0, cells := 0, slots := 0 } s m #[.ref b, .int (Int32.ofNat o), .ref d, .int (Int32.ofNat q), .int (Int32.ofNat len)] below meth c T' ([] ++ copyLocs d q len) 0 0 ∧ Put d B' s₁ T' ∧ Laid B B' q (q + len) (fun j => Value.int (lo8 (cv A (o + (j - q))))) ∧
      Steps p.tables e below (s₁.setTop (entryFrame m #[.ref b, .int (Int32.ofNat o), .ref d, .int (Int32.ofNat q), .int (Int32.ofNat len)] 7)) (T'.setTop (mkF m 3 #[.val (.ref b), .val (.int (Int32.ofNat (o + len))), .val (.ref d), .val (.int (Int32.ofNat (q + len))), .val (.int (Int32.ofNat len)), .val (.int (Int32.ofNat len)), z'] [])) := by
    intro r
    induction r with
    | zero =>
      intro i hi z hz Tl Bk Xl pl fl cl
      have hil : i = len := by omega
      rw [hil] at Xl fl cl
      exact ⟨Tl, Bk, z, Xl, pl, fl, cl⟩
    | succ r ih =>
      intro i hi z hz Tl Bk Xl pl fl cl
      have all := X0.warmed.alike.symm.trans Xl.warmed.alike
      have hAl := hA0.keep all (pl.other hne hA0.1)
      have hBk := hB0.like all pl.1 fl.1 fl.2.1 fl.2.2.1
      have hlt : q + i < Bk.slots.size := by rw [fl.2.2.1]; omega
      have c3 : Steps p.tables e below (s₁.setTop (entryFrame m #[.ref b, .int (Int32.ofNat o), .ref d, .int (Int32.ofNat q), .int (Int32.ofNat len)] 7)) (Tl.setTop (mkF m 12 #[.val (.ref b), .val (.int (Int32.ofNat (o + i))), .val (.ref d), .val (.int (Int32.ofNat (q + i))), .val (.int (Int32.ofNat len)), .val (.int (Int32.ofNat i)), z] [.int (Int32.ofNat (o + i)), .ref b])) := cl.trans (by
        refine XS.iload Xl.here hexec rfl (hb hbytes d3) rfl ?_
        refine XS.iload Xl.here hexec rfl (hb hbytes d5) rfl ?_
        refine XS.icmpNo Xl.here hexec rfl (hb hbytes d7) rfl (ii_ge_f (lt32 (by omega) (by omega))) ?_
        refine XS.aloadN Xl.here hexec rfl (hb hbytes d10) rfl rfl ?_
        refine XS.iloadN Xl.here hexec rfl (hb hbytes d11) rfl ?_
        exact Steps.refl _)
      have c4 : Steps p.tables e below (s₁.setTop (entryFrame m #[.ref b, .int (Int32.ofNat o), .ref d, .int (Int32.ofNat q), .int (Int32.ofNat len)] 7)) (Tl.setTop (mkF m 13 #[.val (.ref b), .val (.int (Int32.ofNat (o + i))), .val (.ref d), .val (.int (Int32.ofNat (q + i))), .val (.int (Int32.ofNat len)), .val (.int (Int32.ofNat i)), z] [.int (cv A (o + i))])) := c3.trans (by
        refine Xl.aget hexec hAl rfl (hA.get (i := o + i) (by omega)) rfl rfl (hb hbytes d12) ?_
        exact Steps.refl _)
      have c5 : Steps p.tables e below (s₁.setTop (entryFrame m #[.ref b, .int (Int32.ofNat o), .ref d, .int (Int32.ofNat q), .int (Int32.ofNat len)] 7)) (Tl.setTop (mkF m 15 #[.val (.ref b), .val (.int (Int32.ofNat (o + i))), .val (.ref d), .val (.int (Int32.ofNat (q + i))), .val (.int (Int32.ofNat len)), .val (.int (Int32.ofNat i)), .val (.int (cv A (o + i)))] [])) := c4.trans (by
        refine XS.istoreS Xl.here hexec rfl (hb hbytes d13) rfl rfl hz ?_
        exact Steps.refl _)
      have c6 : Steps p.tables e below (s₁.setTop (entryFrame m #[.ref b, .int (Int32.ofNat o), .ref d, .int (Int32.ofNat q), .int (Int32.ofNat len)] 7)) (Tl.setTop (mkF m 31 #[.val (.ref b), .val (.int (Int32.ofNat (o + i))), .val (.ref d), .val (.int (Int32.ofNat (q + i))), .val (.int (Int32.ofNat len)), .val (.int (Int32.ofNat i)), .val (.int (cv A (o + i)))] [.int (lo8 (cv A (o + i))), .int (Int32.ofNat (q + i)), .ref d])) := c5.trans (by
        refine XS.iload Xl.here hexec rfl (hb hbytes d15) rfl ?_
        refine sipushV Xl.here hexec rfl 255 (hb hbytes d17) (by decide) ?_
        refine XS.icmpYes Xl.here hexec rfl (pc0 := 20) rfl (hb hbytes d20) rfl (ii_le_t (hp i (by omega))) (by decide) rfl ?_
        refine XS.aloadN Xl.here hexec rfl (hb hbytes d26) rfl rfl ?_
        refine XS.iloadN Xl.here hexec rfl (hb hbytes d27) rfl ?_
        refine XS.iload Xl.here hexec rfl (hb hbytes d28) rfl ?_
        refine i2b Xl.here hexec rfl (hb hbytes d30) rfl ?_
        exact Steps.refl _)
      obtain ⟨T7, X7, p7, st7⟩ := Xl.aput hexec hBk rfl hlt rfl (fits_lo8 (cv A (o + i))) (g := (mkF m 31 #[.val (.ref b), .val (.int (Int32.ofNat (o + i))), .val (.ref d), .val (.int (Int32.ofNat (q + i))), .val (.int (Int32.ofNat len)), .val (.int (Int32.ofNat i)), .val (.int (cv A (o + i)))] [.int (lo8 (cv A (o + i))), .int (Int32.ofNat (q + i)), .ref d])) rfl (rest := []) rfl (hb hbytes d31)
      have c8 : Steps p.tables e below (s₁.setTop (entryFrame m #[.ref b, .int (Int32.ofNat o), .ref d, .int (Int32.ofNat q), .int (Int32.ofNat len)] 7)) (T7.setTop (mkF m 32 #[.val (.ref b), .val (.int (Int32.ofNat (o + i))), .val (.ref d), .val (.int (Int32.ofNat (q + i))), .val (.int (Int32.ofNat len)), .val (.int (Int32.ofNat i)), .val (.int (cv A (o + i)))] [])) := c6.trans (st7 _ (Steps.refl _))
      have c9 : Steps p.tables e below (s₁.setTop (entryFrame m #[.ref b, .int (Int32.ofNat o), .ref d, .int (Int32.ofNat q), .int (Int32.ofNat len)] 7)) (T7.setTop (mkF m 3 #[.val (.ref b), .val (.int (Int32.ofNat (o + i) + 1)), .val (.ref d), .val (.int (Int32.ofNat (q + i) + 1)), .val (.int (Int32.ofNat len)), .val (.int (Int32.ofNat i + 1)), .val (.int (cv A (o + i)))] [])) := c8.trans (by
        refine iincV X7.here hexec rfl 1 (hb hbytes d32) (by decide) rfl rfl ?_
        refine iincV X7.here hexec rfl 1 (hb hbytes d35) (by decide) rfl rfl ?_
        refine iincV X7.here hexec rfl 1 (hb hbytes d38) (by decide) rfl rfl ?_
        refine XS.goto X7.here hexec rfl (pc0 := 41) rfl (hb hbytes d41) (by decide) rfl ?_
        exact Steps.refl _)
      have c10 : Steps p.tables e below (s₁.setTop (entryFrame m #[.ref b, .int (Int32.ofNat o), .ref d, .int (Int32.ofNat q), .int (Int32.ofNat len)] 7)) (T7.setTop (mkF m 3 #[.val (.ref b), .val (.int (Int32.ofNat (o + (i + 1)))), .val (.ref d), .val (.int (Int32.ofNat (q + (i + 1)))), .val (.int (Int32.ofNat len)), .val (.int (Int32.ofNat (i + 1))), .val (.int (cv A (o + i)))] [])) := by
        have := c9
        rw [succ32, succ32, succ32] at this
        exact this
      exact ih (i + 1) (by omega) _ (Or.inr ⟨_, rfl, rfl⟩) T7 _ (by rw [copyLocs_step, ← List.append_assoc]; exact X7) (pl.trans p7) (fl.step (by omega) hlt (by simp)) c10
  obtain ⟨T9, B9, z9, X9, p9, f9, g9⟩ := loop len 0 (by omega) .unset (Or.inl rfl) s₁ B (by simpa [copyLocs] using X0) ⟨hB0.1, fun _ _ => rfl, rfl⟩ (Laid.zero _ _ _) c2
  have c11 : Steps p.tables e below (s₁.setTop (entryFrame m #[.ref b, .int (Int32.ofNat o), .ref d, .int (Int32.ofNat q), .int (Int32.ofNat len)] 7)) (T9.setTop (mkF m 46 #[.val (.ref b), .val (.int (Int32.ofNat (o + len))), .val (.ref d), .val (.int (Int32.ofNat (q + len))), .val (.int (Int32.ofNat len)), .val (.int (Int32.ofNat len)), z9] [.int (Int32.ofNat len)])) := g9.trans (by
    refine XS.iload X9.here hexec rfl (hb hbytes d3) rfl ?_
    refine XS.iload X9.here hexec rfl (hb hbytes d5) rfl ?_
    refine XS.icmpYes X9.here hexec rfl (pc0 := 7) rfl (hb hbytes d7) rfl (ii_ge_t (nlt32 (by omega) (Nat.le_refl _))) (by decide) rfl ?_
    refine XS.iload X9.here hexec rfl (hb hbytes d44) rfl ?_
    exact Steps.refl _)
  exact ⟨T9, some (.int (Int32.ofNat len)), _, _, _, X9, by simp, rfl, rfl, (fun h => by cases h), ⟨rfl, B9, p9.from hh0, f9⟩, fun fs hl => c11.trans (X9.ireturnOut hexec hret rfl (Or.inl rfl) (hb hbytes d46) hl)⟩
end Cmp5
namespace Cmp3
def yN : MethodName := ⟨"java/lang/StringUTF16", "compress", "([CII)[B"⟩
abbrev yB : ByteArray := jdk_52_method_16_code
theorem d0 : decode yB 0 = .ok (.iload_n 2, 1) := by decide +kernel
theorem d1 : decode yB 1 = .ok (.newarray .byte, 2) := by decide +kernel
theorem d3 : decode yB 3 = .ok (.astore_n 3, 1) := by decide +kernel
theorem d4 : decode yB 4 = .ok (.aload_n 0, 1) := by decide +kernel
theorem d5 : decode yB 5 = .ok (.iload_n 1, 1) := by decide +kernel
theorem d6 : decode yB 6 = .ok (.aload_n 3, 1) := by decide +kernel
theorem d7 : decode yB 7 = .ok (.iconst 0, 1) := by decide +kernel
theorem d8 : decode yB 8 = .ok (.iload_n 2, 1) := by decide +kernel
theorem d9 : decode yB 9 = .ok (.invokestatic 115, 3) := by decide +kernel
theorem d12 : decode yB 12 = .ok (.istore 4, 2) := by decide +kernel
theorem d14 : decode yB 14 = .ok (.iload 4, 2) := by decide +kernel
theorem d16 : decode yB 16 = .ok (.iload_n 2, 1) := by decide +kernel
theorem d17 : decode yB 17 = .ok (.if_icmp (.eq) 40, 3) := by decide +kernel
theorem d57 : decode yB 57 = .ok (.aload_n 3, 1) := by decide +kernel
theorem d58 : decode yB 58 = .ok (.areturn, 1) := by decide +kernel
def site : List Cond := [.arrayClass .byte, Cmp5.tab] ++ staticW U16 115 Cmp5.yN
def tab : Cond := tabOf yN yB 6 (some (.array .byte)) site
def P (b : Addr) (A : Cell) (o len : Nat) (args : Array Value) (s : State) : Prop := args = #[.ref b, .int (Int32.ofNat o), .int (Int32.ofNat len)] ∧ Ch b A s ∧ o + len ≤ A.slots.size ∧ len ≤ 536870912 ∧ ∀ i, i < len → ¬ 255 < cv A (o + i)
def E (b : Addr) (A : Cell) (o len : Nat) (r : Option Value) (s u : State) : Prop := NewArr .byte "[B" len (fun j => .int (lo8 (cv A (o + j)))) r s u ∧ u.heap.size = s.heap.size + 1
/-- no char of the range above 255: a new byte[] of their low bytes -/
theorem law (l : Launch) (b : Addr) (A : Cell) (o len : Nat) : Law l yN 3 3 1 18 yB 6 (some (.array .byte)) site (P b A o len) (E b A o len) [] 1 len := by
  refine Law.of_walk (plainFor_of_name (by decide +kernel)) (by decide +kernel) (by decide +kernel) (by decide) (fun _ _ h => by rw [h.1]; rfl) (fun _ U U' hal hh h => ⟨h.1, h.2.1.mv hal hh, h.2.2⟩) (fun r U U' V V' h1 hal h2 h => ⟨NewArr.mv r U U' V V' h1 hal h2 h.1, by rw [h1, h2]; exact h.2⟩) ?_
  intro p e s m args below meth c s₁ X0 hexec hbytes hml hret hlk hnm hown hh0 W hP
  obtain ⟨rfl, hA, l1, l2, hp⟩ := hP
  have a31 := hA.1.2.2.2
  have c1 : Steps p.tables e below (s₁.setTop (entryFrame m #[.ref b, .int (Int32.ofNat o), .int (Int32.ofNat len)] 6)) (s₁.setTop (mkF m 0 #[.val (.ref b), .val (.int (Int32.ofNat o)), .val (.int (Int32.ofNat len)), .unset, .unset, .unset] [])) := entry rfl
  have c2 : Steps p.tables e below (s₁.setTop (entryFrame m #[.ref b, .int (Int32.ofNat o), .int (Int32.ofNat len)] 6)) (s₁.setTop (mkF m 1 #[.val (.ref b), .val (.int (Int32.ofNat o)), .val (.int (Int32.ofNat len)), .unset, .unset, .unset] [.int (Int32.ofNat len)])) := c1.trans (by
    refine XS.iloadN X0.here hexec rfl (hb hbytes d0) rfl ?_
    exact Steps.refl _)
  obtain ⟨T3, B3, X3, ba3, bs3, bv3, bh3, bf3, st3⟩ := X0.anew hexec (atype := .byte) (wk W (.arrayClass .byte)) rfl (by show len * 1 ≤ _; omega) (by omega) (g := (mkF m 1 #[.val (.ref b), .val (.int (Int32.ofNat o)), .val (.int (Int32.ofNat len)), .unset, .unset, .unset] [.int (Int32.ofNat len)])) rfl (hb hbytes d1) (rest := []) rfl (Nat.le_refl _) (by show 0 + len ≤ len; omega)
  rw [hh0] at ba3 st3
  have kp3 : XT.Kept s T3 := (XT.Kept.of_eq hh0).push bh3
  have hA3 := hA.keep X3.warmed.alike (kp3 _ _ hA.1.1)
  have hne : b ≠ s.heap.size := hA.1.ne
  have c4 : Steps p.tables e below (s₁.setTop (entryFrame m #[.ref b, .int (Int32.ofNat o), .int (Int32.ofNat len)] 6)) (T3.setTop (mkF m 3 #[.val (.ref b), .val (.int (Int32.ofNat o)), .val (.int (Int32.ofNat len)), .unset, .unset, .unset] [.ref s.heap.size])) := c2.trans (st3 _ (Steps.refl _))
  have c5 : Steps p.tables e below (s₁.setTop (entryFrame m #[.ref b, .int (Int32.ofNat o), .int (Int32.ofNat len)] 6)) (T3.setTop (mkF m 9 #[.val (.ref b), .val (.int (Int32.ofNat o)), .val (.int (Int32.ofNat len)), .val (.ref s.heap.size), .unset, .unset] [.int (Int32.ofNat len), .int 0, .ref s.heap.size, .int (Int32.ofNat o), .ref b])) := c4.trans (by
    refine XS.astoreN X3.here hexec rfl (hb hbytes d3) rfl rfl rfl ?_
    refine XS.aloadN X3.here hexec rfl (hb hbytes d4) rfl rfl ?_
    refine XS.iloadN X3.here hexec rfl (hb hbytes d5) rfl ?_
    refine XS.aloadN X3.here hexec rfl (hb hbytes d6) rfl rfl ?_
    refine iconstV X3.here hexec rfl 0 (hb hbytes d7) (by decide) ?_
    refine XS.iloadN X3.here hexec rfl (hb hbytes d8) rfl ?_
    exact Steps.refl _)
  obtain ⟨v6, T6, X6, E6, g6⟩ := X3.callS hexec (Cmp5.law l b A s.heap.size B3 o 0 len) hown (wks W (staticW U16 115 Cmp5.yN)) (wk W Cmp5.tab) (W := 0) (Nat.le_of_ble_eq_true rfl) (Nat.le_of_ble_eq_true rfl) (Nat.le_refl _) (by show 0 + len + 0 ≤ len; omega) (g := (mkF m 9 #[.val (.ref b), .val (.int (Int32.ofNat o)), .val (.int (Int32.ofNat len)), .val (.ref s.heap.size), .unset, .unset] [.int (Int32.ofNat len), .int (Int32.ofNat 0), .ref s.heap.size, .int (Int32.ofNat o), .ref b])) rfl (by rw [hml]; rfl) c5 (argsL := [.ref b, .int (Int32.ofNat o), .ref s.heap.size, .int (Int32.ofNat 0), .int (Int32.ofNat len)]) (rest := []) rfl rfl (by show 2 * 0 + 0 ≤ _; decide) (hb hbytes d9) (⟨rfl, hA3, ba3, hne, l1, by rw [bs3]; simp, hp⟩)
  obtain ⟨rfl, B6, p6, f6⟩ := E6
  have c7 : Steps p.tables e below (s₁.setTop (entryFrame m #[.ref b, .int (Int32.ofNat o), .int (Int32.ofNat len)] 6)) (T6.setTop (mkF m 12 #[.val (.ref b), .val (.int (Int32.ofNat o)), .val (.int (Int32.ofNat len)), .val (.ref s.heap.size), .unset, .unset] [.int (Int32.ofNat len)])) := g6
  have c8 : Steps p.tables e below (s₁.setTop (entryFrame m #[.ref b, .int (Int32.ofNat o), .int (Int32.ofNat len)] 6)) (T6.setTop (mkF m 58 #[.val (.ref b), .val (.int (Int32.ofNat o)), .val (.int (Int32.ofNat len)), .val (.ref s.heap.size), .val (.int (Int32.ofNat len)), .unset] [.ref s.heap.size])) := c7.trans (by
    refine XS.istore X6.here hexec rfl (hb hbytes d12) rfl rfl ?_
    refine XS.iload X6.here hexec rfl (hb hbytes d14) rfl ?_
    refine XS.iloadN X6.here hexec rfl (hb hbytes d16) rfl ?_
    refine XS.icmpYes X6.here hexec rfl (pc0 := 17) rfl (hb hbytes d17) rfl (ii_eq_t rfl) (by decide) rfl ?_
    refine XS.aloadN X6.here hexec rfl (hb hbytes d57) rfl rfl ?_
    exact Steps.refl _)
  have X8 := X6.wide (L' := []) (cells' := 1) (slots' := len) (fun x hx hlt => by
    simp only [List.nil_append, copyLocs, List.mem_map, List.mem_range] at hx
    obtain ⟨i, -, rfl⟩ := hx
    exact absurd hlt (Nat.lt_irrefl _)) (Nat.le_refl _) (by omega)
  exact ⟨T6, some (.ref s.heap.size), _, _, _, X8, rfl, rfl, rfl, (fun h => by cases h), ⟨⟨rfl, B6, ba3.like (X3.warmed.alike.symm.trans X6.warmed.alike) p6.1 f6.1 f6.2.1 f6.2.2.1, f6.2.1.trans bv3, by rw [X6.warmed.alike.findClass, f6.1]; exact bf3, by rw [f6.2.2.1, bs3]; simp, fun j hj => by rw [f6.2.2.2 j, if_pos (by omega)]; rfl, kp3.put p6 (Nat.le_refl _)⟩, by rw [p6.2.2, bh3, hh0]; simp⟩, fun fs hl => c8.trans (X8.areturnOut hexec rfl hret rfl (hb hbytes d58) hl)⟩
end Cmp3
namespace CodL
def yN : MethodName := ⟨"java/lang/StringUTF16", "coderFromArrayLen", "([BI)B"⟩
abbrev yB : ByteArray := jdk_52_method_15_code
theorem d0 : decode yB 0 = .ok (.iload_n 1, 1) := by decide +kernel
theorem d1 : decode yB 1 = .ok (.aload_n 0, 1) := by decide +kernel
theorem d2 : decode yB 2 = .ok (.arraylength, 1) := by decide +kernel
theorem d3 : decode yB 3 = .ok (.isub, 1) := by decide +kernel
theorem d4 : decode yB 4 = .ok (.bipush 31, 2) := by decide +kernel
theorem d6 : decode yB 6 = .ok (.iushr, 1) := by decide +kernel
theorem d7 : decode yB 7 = .ok (.i2b, 1) := by decide +kernel
theorem d8 : decode yB 8 = .ok (.ireturn, 1) := by decide +kernel
def site : List Cond := []
def tab : Cond := tabOf yN yB 2 (some .byte) site
def P (d : Addr) (B : Cell) (args : Array Value) (s : State) : Prop := args = #[.ref d, .int (Int32.ofNat B.slots.size)] ∧ Arr .byte d B s
def E (r : Option Value) (s u : State) : Prop := XT.PureE (some (.int 0)) r s u
/-- an array as long as the number of chars: LATIN1 -/
theorem law (l : Launch) (d : Addr) (B : Cell) : Law l yN 2 2 0 0 yB 2 (some .byte) site (P d B) E [] 0 0 := by
  refine Law.of_walk (plainFor_of_name (by decide +kernel)) (by decide +kernel) (by decide +kernel) (by decide) (fun _ _ h => by rw [h.1]; rfl) (fun _ U U' hal hh h => ⟨h.1, h.2.mv hal hh⟩) (fun r U U' V V' h1 hal h2 h => XT.PureE.mv r U U' V V' h1 hal h2 h) ?_
  intro p e s m args below meth c s₁ X0 hexec hbytes hml hret hlk hnm hown hh0 W hP
  obtain ⟨rfl, hB⟩ := hP
  have hB0 := hB.mv X0.warmed.alike hh0
  have c1 : Steps p.tables e below (s₁.setTop (entryFrame m #[.ref d, .int (Int32.ofNat B.slots.size)] 2)) (s₁.setTop (mkF m 0 #[.val (.ref d), .val (.int (Int32.ofNat B.slots.size))] [])) := entry rfl
  have c2 : Steps p.tables e below (s₁.setTop (entryFrame m #[.ref d, .int (Int32.ofNat B.slots.size)] 2)) (s₁.setTop (mkF m 2 #[.val (.ref d), .val (.int (Int32.ofNat B.slots.size))] [.ref d, .int (Int32.ofNat B.slots.size)])) := c1.trans (by
    refine XS.iloadN X0.here hexec rfl (hb hbytes d0) rfl ?_
    refine XS.aloadN X0.here hexec rfl (hb hbytes d1) rfl rfl ?_
    exact Steps.refl _)
  have c3 : Steps p.tables e below (s₁.setTop (entryFrame m #[.ref d, .int (Int32.ofNat B.slots.size)] 2)) (s₁.setTop (mkF m 8 #[.val (.ref d), .val (.int (Int32.ofNat B.slots.size))] [.int (lo8 (ushr (Int32.ofNat B.slots.size - Int32.ofNat B.slots.size) 31))])) := c2.trans (by
    refine X0.alen hexec hB0 rfl rfl (hb hbytes d2) ?_
    refine XS.isub X0.here hexec rfl (hb hbytes d3) rfl ?_
    refine bipushV X0.here hexec rfl 31 (hb hbytes d4) (by decide) ?_
    refine iushr X0.here hexec rfl (hb hbytes d6) rfl ?_
    refine i2b X0.here hexec rfl (hb hbytes d7) rfl ?_
    exact Steps.refl _)
  have e0 : lo8 (ushr (Int32.ofNat B.slots.size - Int32.ofNat B.slots.size) 31) = 0 := by rw [Int32.sub_self]; decide
  rw [e0] at c3
  exact ⟨s₁, some (.int 0), _, _, _, X0, rfl, rfl, rfl, (fun h => by cases h), ⟨rfl, hh0⟩, fun fs hl => c3.trans (X0.ireturnOut hexec hret rfl (Or.inr (Or.inr (Or.inl rfl))) (hb hbytes d8) hl)⟩
end CodL
/-- the String at a is Latin-1 over a new byte[] (the heap's one new cell): the low bytes of the len chars of A from o on; every cell but a is kept -/
def Got (a : Addr) (D : Cell) (fV fC : Field) (A : Cell) (o len : Nat) (r : Option Value) (s u : State) : Prop := r = none ∧ ∃ D' V : Cell, Blank "java/lang/String" a D' u ∧ Same D D' [fV.slot, fC.slot] ∧ D'.slots[fV.slot]? = some (.ref s.heap.size) ∧ D'.slots[fC.slot]? = some (.int 0) ∧ Arr .byte s.heap.size V u ∧ V.vm = .none ∧ u.vm.findClass "[B" = some V.cls ∧ V.slots.size = len ∧ (∀ j, j < len → V.slots[j]? = some (.int (lo8 (cv A (o + j))))) ∧ (∀ (y : Addr) (c : Cell), y ≠ a → s.heap[y]? = some c → u.heap[y]? = some c) ∧ u.heap.size = s.heap.size + 1
theorem Got.mv {a : Addr} {D A : Cell} {fV fC : Field} {o len : Nat} : ∀ r (U U' V V' : State), U'.heap = U.heap → V.vm.Alike V'.vm → V'.heap = V.heap → Got a D fV fC A o len r U V → Got a D fV fC A o len r U' V' :=
  fun r U U' V V' h1 hal h2 ⟨e0, D', X, a1, a2, a3, a4, a5, a6, a7, a8, a9, a10, a11⟩ => ⟨e0, D', X, a1.mv hal h2, a2, by rw [h1]; exact a3, a4, by rw [h1]; exact a5.mv hal h2, a6, by rw [hal.findClass]; exact a7, a8, a9, by rw [h1, h2]; exact a10, by rw [h1, h2]; exact a11⟩
namespace New4
def yN : MethodName := ⟨"java/lang/String", "<init>", "([CIILjava/lang/Void;)V"⟩
abbrev yB : ByteArray := jdk_42_method_149_code
theorem d0 : decode yB 0 = .ok (.aload_n 0, 1) := by decide +kernel
theorem d1 : decode yB 1 = .ok (.invokespecial 1, 3) := by decide +kernel
theorem d4 : decode yB 4 = .ok (.iload_n 3, 1) := by decide +kernel
theorem d5 : decode yB 5 = .ok (.ifCond (.ne) 22, 3) := by decide +kernel
theorem d27 : decode yB 27 = .ok (.getstatic 38, 3) := by decide +kernel
theorem d30 : decode yB 30 = .ok (.ifCond (.eq) 28, 3) := by decide +kernel
theorem d33 : decode yB 33 = .ok (.aload_n 1, 1) := by decide +kernel
theorem d34 : decode yB 34 = .ok (.iload_n 2, 1) := by decide +kernel
theorem d35 : decode yB 35 = .ok (.iload_n 3, 1) := by decide +kernel
theorem d36 : decode yB 36 = .ok (.invokestatic 177, 3) := by decide +kernel
theorem d39 : decode yB 39 = .ok (.astore 5, 2) := by decide +kernel
theorem d41 : decode yB 41 = .ok (.aload_n 0, 1) := by decide +kernel
theorem d42 : decode yB 42 = .ok (.aload 5, 2) := by decide +kernel
theorem d44 : decode yB 44 = .ok (.iload_n 3, 1) := by decide +kernel
theorem d45 : decode yB 45 = .ok (.invokestatic 47, 3) := by decide +kernel
theorem d48 : decode yB 48 = .ok (.putfield 15, 3) := by decide +kernel
theorem d51 : decode yB 51 = .ok (.aload_n 0, 1) := by decide +kernel
theorem d52 : decode yB 52 = .ok (.aload 5, 2) := by decide +kernel
theorem d54 : decode yB 54 = .ok (.putfield 9, 3) := by decide +kernel
theorem d57 : decode yB 57 = .ok (.return_, 1) := by decide +kernel
def site : List Cond := [.fieldLink "java/lang/String" 38 "java/lang/String" "COMPACT_STRINGS" "Z", Cmp3.tab, CodL.tab, .laysFinal "java/lang/String" "java/lang/String" "value" "[B", .fieldLink "java/lang/String" 9 "java/lang/String" "value" "[B", .laysFinal "java/lang/String" "java/lang/String" "coder" "B", .fieldLink "java/lang/String" 15 "java/lang/String" "coder" "B"] ++ objW "java/lang/String" 1 ++ staticW "java/lang/String" 177 Cmp3.yN ++ staticW "java/lang/String" 47 CodL.yN
def tab : Cond := tabOf yN yB 6 none site
def P (a : Addr) (D : Cell) (fV fC : Field) (b : Addr) (A : Cell) (z : Int32) (o len : Nat) (args : Array Value) (s : State) : Prop := args = #[.ref a, .ref b, .int (Int32.ofNat o), .int (Int32.ofNat len), .null] ∧ Blank "java/lang/String" a D s ∧ Found "java/lang/String" "value" "[B" fV s ∧ Found "java/lang/String" "coder" "B" fC s ∧ Ch b A s ∧ StaticIs s "java/lang/String" "COMPACT_STRINGS" "Z" (.int z) ∧ ¬ z = 0 ∧ 0 < len ∧ o + len ≤ A.slots.size ∧ len ≤ 536870912 ∧ ∀ i, i < len → ¬ 255 < cv A (o + i)
def E (a : Addr) (D : Cell) (fV fC : Field) (A : Cell) (o len : Nat) (r : Option Value) (s u : State) : Prop := Got a D fV fC A o len r s u
/-- len > 0, no char of the range above 255: a Latin-1 String of their low bytes -/
theorem law (l : Launch) (a : Addr) (D : Cell) (fV fC : Field) (b : Addr) (A : Cell) (z : Int32) (o len : Nat) : Law l yN 5 4 2 35 yB 6 none site (P a D fV fC b A z o len) (E a D fV fC A o len) [⟨a, fC.slot⟩, ⟨a, fV.slot⟩] 1 len := by
  refine Law.of_walk (plainFor_of_name (by decide +kernel)) (by decide +kernel) (by decide +kernel) (by decide) (fun _ _ h => by rw [h.1]; rfl) (fun _ U U' hal hh h => ⟨h.1, h.2.1.mv hal hh, h.2.2.1.al hal, h.2.2.2.1.al hal, h.2.2.2.2.1.mv hal hh, h.2.2.2.2.2.1.there hal hh, h.2.2.2.2.2.2⟩) (fun r U U' V V' h1 hal h2 h => Got.mv r U U' V V' h1 hal h2 h) ?_
  intro p e s m args below meth c s₁ X0 hexec hbytes hml hret hlk hnm hown hh0 W hP
  obtain ⟨rfl, hB, f1, f2, hA, s1, hz, l0, l1, l2, hp⟩ := hP
  have a31 := hA.1.2.2.2
  have c1 : Steps p.tables e below (s₁.setTop (entryFrame m #[.ref a, .ref b, .int (Int32.ofNat o), .int (Int32.ofNat len), .null] 6)) (s₁.setTop (mkF m 0 #[.val (.ref a), .val (.ref b), .val (.int (Int32.ofNat o)), .val (.int (Int32.ofNat len)), .val .null, .unset] [])) := entry rfl
  have c2 : Steps p.tables e below (s₁.setTop (entryFrame m #[.ref a, .ref b, .int (Int32.ofNat o), .int (Int32.ofNat len), .null] 6)) (s₁.setTop (mkF m 1 #[.val (.ref a), .val (.ref b), .val (.int (Int32.ofNat o)), .val (.int (Int32.ofNat len)), .val .null, .unset] [.ref a])) := c1.trans (by
    refine XS.aloadN X0.here hexec rfl (hb hbytes d0) rfl rfl ?_
    exact Steps.refl _)
  obtain ⟨T3, X3, q3, st3⟩ := X0.oinit hexec hown (wks W (objW "java/lang/String" 1)) (g := (mkF m 1 #[.val (.ref a), .val (.ref b), .val (.int (Int32.ofNat o)), .val (.int (Int32.ofNat len)), .val .null, .unset] [.ref a])) rfl (by rw [hml]; rfl) (rest := []) rfl (hb hbytes d1) (W := 0) (by show 2 * 0 + 0 ≤ _; decide) (Nat.le_of_ble_eq_true rfl) (Nat.le_of_ble_eq_true rfl)
  have hh3 := q3.trans hh0
  have c4 : Steps p.tables e below (s₁.setTop (entryFrame m #[.ref a, .ref b, .int (Int32.ofNat o), .int (Int32.ofNat len), .null] 6)) (T3.setTop (mkF m 27 #[.val (.ref a), .val (.ref b), .val (.int (Int32.ofNat o)), .val (.int (Int32.ofNat len)), .val .null, .unset] [])) := (c2.trans (st3 _ (Steps.refl _))).trans (by
    refine XS.iloadN X3.here hexec rfl (hb hbytes d4) rfl ?_
    refine XS.ifYes X3.here hexec rfl (pc0 := 5) rfl (hb hbytes d5) rfl (i0_ne_t (nz32 (by omega) l0)) (by decide) rfl ?_
    exact Steps.refl _)
  obtain ⟨T5, X5, q5, st5⟩ := X3.sget hexec hown (wk W (.fieldLink "java/lang/String" 38 "java/lang/String" "COMPACT_STRINGS" "Z")) s1 (fun _ _ h => by rw [hh3]; exact h) (g := (mkF m 27 #[.val (.ref a), .val (.ref b), .val (.int (Int32.ofNat o)), .val (.int (Int32.ofNat len)), .val .null, .unset] [])) rfl (hb hbytes d27)
  have hh5 := q5.trans hh3
  have c6 : Steps p.tables e below (s₁.setTop (entryFrame m #[.ref a, .ref b, .int (Int32.ofNat o), .int (Int32.ofNat len), .null] 6)) (T5.setTop (mkF m 30 #[.val (.ref a), .val (.ref b), .val (.int (Int32.ofNat o)), .val (.int (Int32.ofNat len)), .val .null, .unset] [.int z])) := c4.trans (st5 _ (Steps.refl _))
  have c7 : Steps p.tables e below (s₁.setTop (entryFrame m #[.ref a, .ref b, .int (Int32.ofNat o), .int (Int32.ofNat len), .null] 6)) (T5.setTop (mkF m 36 #[.val (.ref a), .val (.ref b), .val (.int (Int32.ofNat o)), .val (.int (Int32.ofNat len)), .val .null, .unset] [.int (Int32.ofNat len), .int (Int32.ofNat o), .ref b])) := c6.trans (by
    refine XS.ifNo X5.here hexec rfl (hb hbytes d30) rfl (i0_eq_f hz) ?_
    refine XS.aloadN X5.here hexec rfl (hb hbytes d33) rfl rfl ?_
    refine XS.iloadN X5.here hexec rfl (hb hbytes d34) rfl ?_
    refine XS.iloadN X5.here hexec rfl (hb hbytes d35) rfl ?_
    exact Steps.refl _)
  obtain ⟨v8, T8, X8, E8, g8⟩ := X5.callS hexec (Cmp3.law l b A o len) hown (wks W (staticW "java/lang/String" 177 Cmp3.yN)) (wk W Cmp3.tab) (W := 0) (Nat.le_of_ble_eq_true rfl) (Nat.le_of_ble_eq_true rfl) (Nat.le_refl _) (by show 0 + len ≤ len; omega) (g := (mkF m 36 #[.val (.ref a), .val (.ref b), .val (.int (Int32.ofNat o)), .val (.int (Int32.ofNat len)), .val .null, .unset] [.int (Int32.ofNat len), .int (Int32.ofNat o), .ref b])) rfl (by rw [hml]; rfl) c7 (argsL := [.ref b, .int (Int32.ofNat o), .int (Int32.ofNat len)]) (rest := []) rfl rfl (by show 2 * 0 + 0 ≤ _; decide) (hb hbytes d36) (⟨rfl, hA.mv X5.warmed.alike hh5, l1, l2, hp⟩)
  obtain ⟨e8, z8⟩ := E8
  obtain ⟨rfl, N, n1, n2, n3, n4, n5, n6⟩ := NewArr.mv _ T5 s _ _ hh5.symm (Vm.Alike.refl _) rfl e8
  rw [hh5] at z8
  have hB1 := hB.keep X8.warmed.alike (n6 _ _ hB.1)
  have hne : s.heap.size ≠ a := (Nat.ne_of_lt (Array.getElem?_eq_some_iff.mp hB.1).1).symm
  have c9 : Steps p.tables e below (s₁.setTop (entryFrame m #[.ref a, .ref b, .int (Int32.ofNat o), .int (Int32.ofNat len), .null] 6)) (T8.setTop (mkF m 39 #[.val (.ref a), .val (.ref b), .val (.int (Int32.ofNat o)), .val (.int (Int32.ofNat len)), .val .null, .unset] [.ref s.heap.size])) := g8
  have c10 : Steps p.tables e below (s₁.setTop (entryFrame m #[.ref a, .ref b, .int (Int32.ofNat o), .int (Int32.ofNat len), .null] 6)) (T8.setTop (mkF m 45 #[.val (.ref a), .val (.ref b), .val (.int (Int32.ofNat o)), .val (.int (Int32.ofNat len)), .val .null, .val (.ref s.heap.size)] [.int (Int32.ofNat N.slots.size), .ref s.heap.size, .ref a])) := by
    have hc : Steps p.tables e below (s₁.setTop (entryFrame m #[.ref a, .ref b, .int (Int32.ofNat o), .int (Int32.ofNat len), .null] 6)) (T8.setTop (mkF m 45 #[.val (.ref a), .val (.ref b), .val (.int (Int32.ofNat o)), .val (.int (Int32.ofNat len)), .val .null, .val (.ref s.heap.size)] [.int (Int32.ofNat len), .ref s.heap.size, .ref a])) := c9.trans (by
      refine XS.astore X8.here hexec rfl (hb hbytes d39) rfl rfl rfl ?_
      refine XS.aloadN X8.here hexec rfl (hb hbytes d41) rfl rfl ?_
      refine XS.aload X8.here hexec rfl (hb hbytes d42) rfl rfl ?_
      refine XS.iloadN X8.here hexec rfl (hb hbytes d44) rfl ?_
      exact Steps.refl _)
    rw [n4]; exact hc
  obtain ⟨v11, T11, X11, E11, g11⟩ := X8.callS hexec (CodL.law l s.heap.size N) hown (wks W (staticW "java/lang/String" 47 CodL.yN)) (wk W CodL.tab) (W := 1) (Nat.le_of_ble_eq_true rfl) (Nat.le_of_ble_eq_true rfl) (Nat.le_refl _) (by show 0 + len + 0 ≤ len; omega) (g := (mkF m 45 #[.val (.ref a), .val (.ref b), .val (.int (Int32.ofNat o)), .val (.int (Int32.ofNat len)), .val .null, .val (.ref s.heap.size)] [.int (Int32.ofNat N.slots.size), .ref s.heap.size, .ref a])) rfl (by rw [hml]; rfl) c10 (argsL := [.ref s.heap.size, .int (Int32.ofNat N.slots.size)]) (rest := [.ref a]) rfl rfl (by show 2 * 0 + (1 + 0) ≤ _; decide) (hb hbytes d45) (⟨rfl, n1⟩)
  obtain ⟨rfl, q11⟩ := E11
  have hB11 := hB1.mv (X8.warmed.alike.symm.trans X11.warmed.alike) q11
  have c12 : Steps p.tables e below (s₁.setTop (entryFrame m #[.ref a, .ref b, .int (Int32.ofNat o), .int (Int32.ofNat len), .null] 6)) (T11.setTop (mkF m 48 #[.val (.ref a), .val (.ref b), .val (.int (Int32.ofNat o)), .val (.int (Int32.ofNat len)), .val .null, .val (.ref s.heap.size)] [.int 0, .ref a])) := g11
  obtain ⟨T13, X13, p13, bl13, sl13, st13⟩ := X11.finit hexec hown (wk W (.fieldLink "java/lang/String" 15 "java/lang/String" "coder" "B")) (Or.inr ⟨_, (wk W (.laysFinal "java/lang/String" "java/lang/String" "coder" "B"))⟩) (Or.inl ⟨rfl, hnm⟩) f2 (Or.inl rfl) hB11 (t := .byte) (by decide +kernel) rfl (g := (mkF m 48 #[.val (.ref a), .val (.ref b), .val (.int (Int32.ofNat o)), .val (.int (Int32.ofNat len)), .val .null, .val (.ref s.heap.size)] [.int 0, .ref a])) rfl (rest := []) rfl (hb hbytes d48)
  have c14 : Steps p.tables e below (s₁.setTop (entryFrame m #[.ref a, .ref b, .int (Int32.ofNat o), .int (Int32.ofNat len), .null] 6)) (T13.setTop (mkF m 54 #[.val (.ref a), .val (.ref b), .val (.int (Int32.ofNat o)), .val (.int (Int32.ofNat len)), .val .null, .val (.ref s.heap.size)] [.ref s.heap.size, .ref a])) := (c12.trans (st13 _ (Steps.refl _))).trans (by
    refine XS.aloadN X13.here hexec rfl (hb hbytes d51) rfl rfl ?_
    refine XS.aload X13.here hexec rfl (hb hbytes d52) rfl rfl ?_
    exact Steps.refl _)
  obtain ⟨T15, X15, p15, bl15, sl15, st15⟩ := X13.finit hexec hown (wk W (.fieldLink "java/lang/String" 9 "java/lang/String" "value" "[B")) (Or.inr ⟨_, (wk W (.laysFinal "java/lang/String" "java/lang/String" "value" "[B"))⟩) (Or.inl ⟨rfl, hnm⟩) f1 (Or.inl rfl) bl13 (t := (.array .byte)) (by decide +kernel) rfl (g := (mkF m 54 #[.val (.ref a), .val (.ref b), .val (.int (Int32.ofNat o)), .val (.int (Int32.ofNat len)), .val .null, .val (.ref s.heap.size)] [.ref s.heap.size, .ref a])) rfl (rest := []) rfl (hb hbytes d54)
  have c16 : Steps p.tables e below (s₁.setTop (entryFrame m #[.ref a, .ref b, .int (Int32.ofNat o), .int (Int32.ofNat len), .null] 6)) (T15.setTop (mkF m 57 #[.val (.ref a), .val (.ref b), .val (.int (Int32.ofNat o)), .val (.int (Int32.ofNat len)), .val .null, .val (.ref s.heap.size)] [])) := c14.trans (st15 _ (Steps.refl _))
  have ap := apart (Or.inr ⟨_, (wk W (.laysFinal "java/lang/String" "java/lang/String" "value" "[B"))⟩) (Or.inr ⟨_, (wk W (.laysFinal "java/lang/String" "java/lang/String" "coder" "B"))⟩) f1 f2 (t₁ := .array .byte) (t₂ := .byte) (by decide +kernel) (by decide +kernel) (by decide)
  have al := X8.warmed.alike.symm.trans X15.warmed.alike
  have n7 : T11.heap[s.heap.size]? = some N := by rw [q11]; exact n1.1
  exact ⟨T15, none, _, _, _, X15, by simp, rfl, by omega, (fun _ => rfl), ⟨rfl, _, N, bl15, ((Same.refl D _).set _ (by simp)).set _ (by simp), sl15, (Cell.slots_setSlot_ne _ ap).trans sl13, n1.keep al (p15.other hne (p13.other hne n7)), n2, by rw [al.findClass]; exact n3, n4, n5, fun y c h1 h2 => p15.other h1 (p13.other h1 (by rw [q11]; exact n6 y c h2)), by rw [p15.2.2, p13.2.2, q11]; exact z8⟩, fun fs hl => c16.trans (X15.returnOut hexec hret (hb hbytes d57) hl)⟩
end New4
namespace New1
def yN : MethodName := ⟨"java/lang/String", "<init>", "([C)V"⟩
abbrev yB : ByteArray := jdk_42_method_3_code
theorem d0 : decode yB 0 = .ok (.aload_n 0, 1) := by decide +kernel
theorem d1 : decode yB 1 = .ok (.aload_n 1, 1) := by decide +kernel
theorem d2 : decode yB 2 = .ok (.iconst 0, 1) := by decide +kernel
theorem d3 : decode yB 3 = .ok (.aload_n 1, 1) := by decide +kernel
theorem d4 : decode yB 4 = .ok (.arraylength, 1) := by decide +kernel
theorem d5 : decode yB 5 = .ok (.aconst_null, 1) := by decide +kernel
theorem d6 : decode yB 6 = .ok (.invokespecial 27, 3) := by decide +kernel
theorem d9 : decode yB 9 = .ok (.return_, 1) := by decide +kernel
def site : List Cond := [New4.tab] ++ initW "java/lang/String" 27 New4.yN
def tab : Cond := tabOf yN yB 2 none site
def P (a : Addr) (D : Cell) (fV fC : Field) (b : Addr) (A : Cell) (z : Int32) (args : Array Value) (s : State) : Prop := args = #[.ref a, .ref b] ∧ Blank "java/lang/String" a D s ∧ Found "java/lang/String" "value" "[B" fV s ∧ Found "java/lang/String" "coder" "B" fC s ∧ Ch b A s ∧ StaticIs s "java/lang/String" "COMPACT_STRINGS" "Z" (.int z) ∧ ¬ z = 0 ∧ 0 < A.slots.size ∧ A.slots.size ≤ 536870912 ∧ ∀ i, i < A.slots.size → ¬ 255 < cv A i
def E (a : Addr) (D : Cell) (fV fC : Field) (A : Cell) (r : Option Value) (s u : State) : Prop := Got a D fV fC A 0 A.slots.size r s u
/-- new String(chars), not empty, no char above 255: a Latin-1 String of their low bytes -/
theorem law (l : Launch) (a : Addr) (D : Cell) (fV fC : Field) (b : Addr) (A : Cell) (z : Int32) : Law l yN 2 1 3 52 yB 2 none site (P a D fV fC b A z) (E a D fV fC A) [⟨a, fC.slot⟩, ⟨a, fV.slot⟩] 1 A.slots.size := by
  refine Law.of_walk (plainFor_of_name (by decide +kernel)) (by decide +kernel) (by decide +kernel) (by decide) (fun _ _ h => by rw [h.1]; rfl) (fun _ U U' hal hh h => ⟨h.1, h.2.1.mv hal hh, h.2.2.1.al hal, h.2.2.2.1.al hal, h.2.2.2.2.1.mv hal hh, h.2.2.2.2.2.1.there hal hh, h.2.2.2.2.2.2⟩) (fun r U U' V V' h1 hal h2 h => Got.mv r U U' V V' h1 hal h2 h) ?_
  intro p e s m args below meth c s₁ X0 hexec hbytes hml hret hlk hnm hown hh0 W hP
  obtain ⟨rfl, hB, f1, f2, hA, s1, hz, l0, l2, hp⟩ := hP
  have c1 : Steps p.tables e below (s₁.setTop (entryFrame m #[.ref a, .ref b] 2)) (s₁.setTop (mkF m 0 #[.val (.ref a), .val (.ref b)] [])) := entry rfl
  have c2 : Steps p.tables e below (s₁.setTop (entryFrame m #[.ref a, .ref b] 2)) (s₁.setTop (mkF m 6 #[.val (.ref a), .val (.ref b)] [.null, .int (Int32.ofNat A.slots.size), .int 0, .ref b, .ref a])) := c1.trans (by
    refine XS.aloadN X0.here hexec rfl (hb hbytes d0) rfl rfl ?_
    refine XS.aloadN X0.here hexec rfl (hb hbytes d1) rfl rfl ?_
    refine iconstV X0.here hexec rfl 0 (hb hbytes d2) (by decide) ?_
    refine XS.aloadN X0.here hexec rfl (hb hbytes d3) rfl rfl ?_
    refine X0.alen hexec (hA.1.mv X0.warmed.alike hh0) rfl rfl (hb hbytes d4) ?_
    refine XS.aconstNull X0.here hexec rfl (hb hbytes d5) ?_
    exact Steps.refl _)
  obtain ⟨v3, T3, X3, E3, g3⟩ := X0.callN hexec (New4.law l a D fV fC b A z 0 A.slots.size) rfl hown (wks W (initW "java/lang/String" 27 New4.yN)) (W New4.tab (by simp only [site, List.mem_cons, List.mem_append, true_or, or_true])) (W := 0) (Nat.le_of_ble_eq_true rfl) (Nat.le_of_ble_eq_true rfl) (Nat.le_refl _) (by show 0 + A.slots.size ≤ A.slots.size; omega) (g := (mkF m 6 #[.val (.ref a), .val (.ref b)] [.null, .int (Int32.ofNat A.slots.size), .int (Int32.ofNat 0), .ref b, .ref a])) rfl (by rw [hml]; rfl) c2 (argsL := [.ref b, .int (Int32.ofNat 0), .int (Int32.ofNat A.slots.size), .null]) (rest := []) rfl rfl (by show 2 * 0 + 0 ≤ _; decide) (hb hbytes d6) (⟨rfl, hB.mv X0.warmed.alike hh0, f1.al X0.warmed.alike, f2.al X0.warmed.alike, hA.mv X0.warmed.alike hh0, s1.there X0.warmed.alike hh0, hz, l0, by omega, l2, fun i hi => by rw [Nat.zero_add]; exact hp i hi⟩)
  have e0 := Got.mv _ s₁ s _ _ hh0.symm (Vm.Alike.refl _) rfl E3
  obtain rfl := e0.1
  have c4 : Steps p.tables e below (s₁.setTop (entryFrame m #[.ref a, .ref b] 2)) (T3.setTop (mkF m 9 #[.val (.ref a), .val (.ref b)] [])) := g3
  exact ⟨T3, none, _, _, _, X3, by simp, rfl, by omega, (fun _ => rfl), e0, fun fs hl => c4.trans (X3.returnOut hexec hret (hb hbytes d9) hl)⟩
theorem pays {l : Launch} {R : Room} {p : Program} {e : Env} {below : List Frame} {s : State} {sargs : Array Value} {len W : Nat} (a : Addr) (D : Cell) (fV fC : Field) (b : Addr) (A : Cell) (z : Int32) (htab : tab.before sargs s = true) (hfr : 4 ≤ R.frames) (hlo : W + 65 ≤ R.locals) :
    Back l R p e below s sargs yN len W (fun A₁ a₁ => A₁.cells + 1 ≤ R.cells ∧ A₁.slots + A.slots.size ≤ R.slots ∧ P a D fV fC b A z a₁ A₁.U) (fun A₁ _ v₁ B₁ => E a D fV fC A v₁ A₁.U B₁.U ∧ B₁.locs = A₁.locs ++ [⟨a, fC.slot⟩, ⟨a, fV.slot⟩] ∧ B₁.cells = A₁.cells + 1 ∧ B₁.slots = A₁.slots + A.slots.size) :=
  (law l a D fV fC b A z).pays htab hfr (by omega)
end New1
/-- the byte, read back as charAt reads it, is the char -/
theorem lo8_mask {x : Int32} (h0 : ¬ x < 0) (h1 : ¬ 255 < x) : lo8 x &&& 255 = x := by
  have t : ∀ k : Fin 256, lo8 (Int32.ofNat k.val) &&& 255 = Int32.ofNat k.val := by decide +kernel
  rw [Int32.lt_iff_toInt_lt] at h0 h1
  have e0 : (0 : Int32).toInt = 0 := rfl
  have e1 : (255 : Int32).toInt = 255 := rfl
  obtain ⟨k, hk⟩ : ∃ k : Nat, x.toInt = k := ⟨x.toInt.toNat, by omega⟩
  have hx : x = Int32.ofNat k := Int32.toInt_inj.mp (by rw [hk, Int32.toInt_ofNat_small (by omega)])
  rw [hx]
  exact t ⟨k, by omega⟩
end StrChars
namespace StrChars.Road
open Jvm Sem ClassFile Op Lib Jvm.Stand Jvm.Free Jvm.Free.XT
open Jvm.Lib.Cold (StaticIs)
abbrev ST : String := "java/lang/String"
/-- every table word that New1's law asks, flat -/
abbrev words : List Jvm.Cond := [.code New1.yN New1.yB 2 none, .initialized ST, .methodLink ST 27 New4.yN, .instanceMethod New4.yN,
  .code New4.yN New4.yB 6 none, .fieldLink ST 38 ST "COMPACT_STRINGS" "Z", .laysFinal ST ST "value" "[B", .fieldLink ST 9 ST "value" "[B", .laysFinal ST ST "coder" "B", .fieldLink ST 15 ST "coder" "B",
  .methodLink ST 1 Lib.objectInit, .instanceMethod Lib.objectInit, .code Lib.objectInit ⟨#[0xb1]⟩ 1 none, .methodLink ST 177 Cmp3.yN, .static Cmp3.yN, .methodLink ST 47 CodL.yN, .static CodL.yN,
  .code Cmp3.yN Cmp3.yB 6 (some (.array .byte)), .initialized U16, .arrayClass .byte, .methodLink U16 115 Cmp5.yN, .static Cmp5.yN, .code Cmp5.yN Cmp5.yB 7 (some .int), .code CodL.yN CodL.yB 2 (some .byte)]
theorem tab_of {a : Array Value} {s : State} (h : ∀ w ∈ words, w.before a s = true) : New1.tab.before a s = true := by
  have h5 : Cmp5.tab.before a s = true := unparts (wk h (.code Cmp5.yN Cmp5.yB 7 (some .int))) (wks h (.initialized Cmp5.yN.cls :: Cmp5.site))
  have hc : CodL.tab.before a s = true := unparts (wk h (.code CodL.yN CodL.yB 2 (some .byte))) (wks h (.initialized CodL.yN.cls :: CodL.site))
  have q5 : ∀ w ∈ Cmp5.tab :: words, w.before a s = true := fun w hw => (List.mem_cons.mp hw).elim (fun e => e ▸ h5) (h w)
  have h3 : Cmp3.tab.before a s = true := unparts (wk q5 (.code Cmp3.yN Cmp3.yB 6 (some (.array .byte)))) (wks q5 (.initialized Cmp3.yN.cls :: Cmp3.site))
  have q3 : ∀ w ∈ Cmp3.tab :: CodL.tab :: words, w.before a s = true := fun w hw => (List.mem_cons.mp hw).elim (fun e => e ▸ h3) fun hw => (List.mem_cons.mp hw).elim (fun e => e ▸ hc) (h w)
  have h4 : New4.tab.before a s = true := unparts (wk q3 (.code New4.yN New4.yB 6 none)) (wks q3 (.initialized New4.yN.cls :: New4.site))
  have q4 : ∀ w ∈ New4.tab :: words, w.before a s = true := fun w hw => (List.mem_cons.mp hw).elim (fun e => e ▸ h4) (h w)
  exact unparts (wk q4 (.code New1.yN New1.yB 2 none)) (wks q4 (.initialized New1.yN.cls :: New1.site))
/-- the words ride from the start Z to the walk's own state -/
theorem moved {Z s : State} {a0 args : Array Value} (hZ : Z.Warmed39 s.vm) (hw : ∀ d ∈ words, d.before a0 Z = true) : ∀ d ∈ words, d.before args s = true := fun d hd => by
  have q := hw d hd
  have t : ∀ d ∈ words, d = .arrayClass .byte ∨ (d.onTables && d.keepsFace) = true := by decide +kernel
  rcases t d hd with rfl | t
  · exact RoadKit.mvA hZ q
  · exact RoadKit.mv hZ q t
/-- WHAT COMES BACK, over the tables of the start Z: h the heap at the call, h' behind it -/
def Q (Z : State) (x : Addr) (A : Cell) (h : Heap) (v : Option Value) (h' : Heap) (L : List Loc) : Prop := v = none ∧ (∀ y ∈ L, y.base = x) ∧ RoadKit.Keep h h' [x] ∧ h'.size = h.size + 1 ∧ RoadKit.Exa Z h' x ST ∧ RoadKit.Fld Z h' x ST "value" "[B" (.ref h.size) ∧ RoadKit.Fld Z h' x ST "coder" "B" (.int 0) ∧
  (∃ V : Cell, RoadKit.Arr Z h' h.size V .byte ∧ V.vm = .none ∧ Z.vm.findClass "[B" = some V.cls ∧ V.slots.size = A.slots.size ∧ ∀ j, j < A.slots.size → V.slots[j]? = some (.int (lo8 (cv A j)))) ∧
  ∀ (O n d : String) (w : Value), RoadKit.Fld Z h x O n d w → RoadKit.slotOf Z O n d ≠ RoadKit.slotOf Z ST "value" "[B" → RoadKit.slotOf Z O n d ≠ RoadKit.slotOf Z ST "coder" "B" → RoadKit.Fld Z h' x O n d w
/-- **new String(chars) AT A CALL, IN THE ROAD'S FORM**: for specialBack behind newO: x the fresh String, b the char[] with the cell A -/
theorem back {p : Program} {l : Launch} {e : Env} {R : Room} {s : State} {args : Array Value} {below : List Frame} {len W : Nat} {Z : State} {a0 : Array Value} {h : Heap} (hZ : Z.Warmed39 s.vm) (hw : ∀ d ∈ words, d.before a0 Z = true) {kI : Nat} (wi : (Jvm.Cond.instantiable ST kI).before a0 Z = true)
    {x b : Addr} {A : Cell} {z : Int32} {v0 c0 : Value} (E : RoadKit.Exa Z h x ST) (V : RoadKit.Fld Z h x ST "value" "[B" v0) (C : RoadKit.Fld Z h x ST "coder" "B" c0) (K : RoadKit.Arr Z h b A .char) (hty : Typed .char A) (S : RoadKit.Sta Z h ST "COMPACT_STRINGS" "Z" (.int z)) (hz : ¬ z = 0)
    (l0 : 0 < A.slots.size) (l2 : A.slots.size ≤ 536870912) (hp : ∀ i, i < A.slots.size → ¬ 255 < cv A i) (hfr : 4 ≤ R.frames) (hlo : W + 65 ≤ R.locals) :
    Back l R p e below s args New1.yN len W (fun P a => a = #[.ref x, .ref b] ∧ P.U.heap = h ∧ P.cells + 1 ≤ R.cells ∧ P.slots + A.slots.size ≤ R.slots)
      (fun P _ v B => ∃ L, Q Z x A h v B.U.heap L ∧ B.locs = P.locs ++ L ∧ B.cells = P.cells + 1 ∧ B.slots = P.slots + A.slots.size) := by
  intro m meth c P g ig mk a X hg hsize hdg hW hn hp'
  obtain ⟨rfl, rfl, r1, r2⟩ := hp'
  have al : Z.vm.Alike P.U.vm := hZ.alike.trans X.warmed.alike
  obtain ⟨D, cfV, kV, iV, fV, hD, gV, stV, knV, obV, asV, slV⟩ := id V
  obtain ⟨D', cfC, kC, iC, fC, hD', gC, stC, -, -, asC, slC⟩ := id C
  cases hD.symm.trans hD'
  obtain ⟨D2, kD, e1, e2, e3, e4, e5⟩ := id E
  cases hD.symm.trans e1
  obtain ⟨c2, k2, i1, i2, i3, -⟩ := Cond.instantiable_spec wi
  cases e2.symm.trans i1
  cases e3.symm.trans i2
  obtain ⟨kU, u1, u2⟩ := al.2.2 _ _ e3
  have hB : Blank ST x D P.U := ⟨hD, ⟨knV, fun q hq => by rw [hq] at obV; cases obV⟩, by rw [al.findClass]; exact e2, kU, u1, by rw [u2]; exact i3, by rw [u2]; exact e5 i3⟩
  have F1 : Found ST "value" "[B" fV P.U := ⟨SBG.found_only al ⟨cfV, kV, iV, gV⟩, stV⟩
  have F2 : Found ST "coder" "B" fC P.U := ⟨SBG.found_only al ⟨cfC, kC, iC, gC⟩, stC⟩
  have hA : Ch b A P.U := ⟨⟨K.1, State.isArrayOf_alike al K.2.1, K.2.2, by omega⟩, hty⟩
  have hS : StaticIs P.U ST "COMPACT_STRINGS" "Z" (.int z) := by
    obtain ⟨cfS, iS, kS, fS, st, cS, t1, t2, t3, t4, t5, t6, t7⟩ := S
    exact StaticIs.there (s := { Z with heap := P.U.heap }) ⟨cfS, iS, kS, fS, st, cS, t1, t2, t3, t4, t5, (fun q => by rw [q] at t6; cases t6), t7⟩ al rfl
  obtain ⟨v, B, X', ⟨⟨hv, E', V', q1, q2, q3, q4, q5, q6, q7, q8, q9, q10, q11⟩, hl, hc, hs⟩, st⟩ := New1.pays x D fV fC b A z (tab_of (moved hZ hw)) hfr hlo m meth c P g ig mk _ X hg hsize hdg hW hn ⟨r1, r2, rfl, hB, F1, F2, hA, hS, hz, l0, l2, hp⟩
  have al' : Z.vm.Alike B.U.vm := hZ.alike.trans X'.warmed.alike
  have hsz : E'.slots.size = D.slots.size := by
    obtain ⟨-, -, -, kB, w1, w2, w3⟩ := q1
    obtain ⟨kB', y1, y2⟩ := al'.2.2 _ _ e3
    rw [q2.2.1] at w1
    cases w1.symm.trans y1
    rw [w3, e5 i3, y2]
  refine ⟨v, B, X', ⟨_, ⟨hv, ?_, ⟨by omega, fun y cy hy hn' => q10 y cy (by simpa using hn') hy, fun y cy hy => ?_⟩, q11, ⟨E', _, q1.1, by rw [q2.2.1]; exact e2, by rw [q2.2.1]; exact e3, by rw [q2.1]; exact obV, fun _ => by rw [hsz]; exact e5 i3⟩,
    ⟨E', cfV, kV, iV, fV, q1.1, gV, stV, by rw [q2.1]; exact knV, by rw [q2.1]; exact obV, by rw [q2.2.1]; exact asV, q3⟩, ⟨E', cfC, kC, iC, fC, q1.1, gC, stC, by rw [q2.1]; exact knV, by rw [q2.1]; exact obV, by rw [q2.2.1]; exact asC, q4⟩,
    ⟨V', ⟨q5.1, State.isArrayOf_alike al'.symm q5.2.1, q5.2.2.1⟩, q6, by rw [← al'.findClass]; exact q7, q8, fun j hj => by have := q9 j hj; rwa [Nat.zero_add] at this⟩, fun O n d w F n1 n2 => ?_⟩, hl, hc, hs⟩, st⟩
  · intro y hy
    simp only [List.mem_cons, List.not_mem_nil, or_false] at hy
    rcases hy with rfl | rfl <;> rfl
  · by_cases q : y = x
    · subst q
      cases hD.symm.trans hy
      exact ⟨E', q1.1, q2.2.1, q2.1, hsz⟩
    · exact ⟨cy, q10 y cy q hy, rfl, rfl, rfl⟩
  · obtain ⟨D3, cf, k, i, f, g1, g2, g3, g4, g5, g6, g7⟩ := F
    cases hD.symm.trans g1
    simp only [RoadKit.slotOf, g2, gV, gC, Option.map_some, Option.getD_some] at n1 n2
    exact ⟨E', cf, k, i, f, q1.1, g2, g3, by rw [q2.1]; exact g4, by rw [q2.1]; exact g5, by rw [q2.2.1]; exact g6, by rw [q2.2.2 f.slot (by simp [n1, n2])]; exact g7⟩
end StrChars.Road
namespace StrChars.Road
open Jvm Sem ClassFile Op Lib Jvm.Stand Jvm.Free Jvm.Free.XT
/-- WHAT COMES BACK, the byte[] as a list of values -/
def QA (Z : State) (x : Addr) (zn : Int32) (cs : List Int32) (h : Heap) (v : Option Value) (h' : Heap) (L : List Loc) : Prop := v = none ∧ (∀ y ∈ L, y.base = x) ∧ RoadKit.Keep h h' [x] ∧ h'.size = h.size + 1 ∧ RoadKit.Exa Z h' x ST ∧ RoadKit.Fld Z h' x ST "value" "[B" (.ref h.size) ∧ RoadKit.Fld Z h' x ST "coder" "B" (.int 0) ∧
  (∃ kb, Z.vm.findClass "[B" = some kb ∧ RoadKit.Arv Z h' h.size kb .byte zn (cs.map fun c => .int (lo8 c)) (.int 0)) ∧
  ∀ (O n d : String) (w : Value), RoadKit.Fld Z h x O n d w → RoadKit.slotOf Z O n d ≠ RoadKit.slotOf Z ST "value" "[B" → RoadKit.slotOf Z O n d ≠ RoadKit.slotOf Z ST "coder" "B" → RoadKit.Fld Z h' x O n d w
/-- **new String(chars) AT A CALL, THE ARRAYS AS LISTS**: the char[] at b holds cs, not empty, no char above 255 -/
theorem backArv {p : Program} {l : Launch} {e : Env} {R : Room} {s : State} {args : Array Value} {below : List Frame} {len W : Nat} {Z : State} {a0 : Array Value} {h : Heap} (hZ : Z.Warmed39 s.vm) (hw : ∀ d ∈ words, d.before a0 Z = true) {kI : Nat} (wi : (Jvm.Cond.instantiable ST kI).before a0 Z = true)
    {x b : Addr} {k : ClassId} {zn z : Int32} {cs : List Int32} {dv v0 c0 : Value} (E : RoadKit.Exa Z h x ST) (V : RoadKit.Fld Z h x ST "value" "[B" v0) (C : RoadKit.Fld Z h x ST "coder" "B" c0) (K : RoadKit.Arv Z h b k .char zn (cs.map Value.int) dv) (S : RoadKit.Sta Z h ST "COMPACT_STRINGS" "Z" (.int z)) (hz : ¬ z = 0)
    (hlen : zn.toNatClampNeg = cs.length) (h0 : 0 < cs.length) (hbig : cs.length ≤ 536870912) (hall : ∀ c ∈ cs, ¬ 255 < c) (hfr : 4 ≤ R.frames) (hlo : W + 65 ≤ R.locals) :
    Back l R p e below s args New1.yN len W (fun P a => a = #[.ref x, .ref b] ∧ P.U.heap = h ∧ P.cells + 1 ≤ R.cells ∧ P.slots + cs.length ≤ R.slots)
      (fun P _ v B => ∃ L, QA Z x zn cs h v B.U.heap L ∧ B.locs = P.locs ++ L ∧ B.cells = P.cells + 1 ∧ B.slots = P.slots + cs.length) := by
  obtain ⟨A, K1, K2, K3, K4, K5, K6⟩ := K
  have e : A.slots.size = cs.length := K3.trans hlen
  have hat : ∀ (i : Nat) (hi : i < cs.length), A.slots[i]? = some (.int cs[i]) := fun i hi => by rw [K5 i (by omega)]; simp [List.getD_eq_getElem?_getD, hi]
  have hcv : ∀ (i : Nat) (hi : i < cs.length), cv A i = cs[i] := fun i hi => by unfold cv; rw [hat i hi]
  have hty : Typed .char A := fun i v hv => by
    have hi : i < A.slots.size := (Array.getElem?_eq_some_iff.mp hv).1
    have q := K5 i hi
    rw [hv] at q
    rw [Option.some.inj q]
    exact K6 i hi
  refine Back.mono (back hZ hw wi E V C K1 hty S hz (by omega) (by omega) (fun i hi => by rw [hcv i (by omega)]; exact hall _ (List.getElem_mem _)) hfr hlo) (fun P a hp => ⟨hp.1, hp.2.1, hp.2.2.1, by rw [e]; exact hp.2.2.2⟩) (fun P a v B hp hq => ?_)
  obtain ⟨L, ⟨q1, q2, q3, q4, q5, q6, q7, ⟨V', v1, v2, v3, v4, v5⟩, q9⟩, hl, hc, hs⟩ := hq
  refine ⟨L, ⟨q1, q2, q3, q4, q5, q6, q7, ⟨V'.cls, v3, V', v1, rfl, by rw [v4, e, hlen], K4, fun i hi => ?_, fun i hi => ?_⟩, q9⟩, hl, hc, by rw [hs, e]⟩
  · have hi' : i < cs.length := by omega
    rw [v5 i (by omega), hcv i hi']; simp [List.getD_eq_getElem?_getD, hi']
  · have hi' : i < cs.length := by omega
    simp only [List.getD_eq_getElem?_getD, List.getElem?_map, List.getElem?_eq_getElem hi', Option.map_some, Option.getD_some]
    exact fits_lo8 _
end StrChars.Road
namespace StrChars.Road
open Jvm Sem ClassFile Op Lib Jvm.Stand Jvm.Free Jvm.Free.XT
/-- WHAT COMES BACK, in the writer's own shape -/
def QV (Z : State) (x : Addr) (N : Int32) (bs : List Int32) (h : Heap) (n0 : Nat) (v : Option Value) (h' : Heap) (L : List Loc) : Prop := v = none ∧ RoadKit.Fr n0 L ∧ RoadKit.Keep h h' [x] ∧ RoadKit.Exa Z h' x ST ∧ RoadKit.Fld Z h' x ST "coder" "B" (.int 0) ∧
  ∃ (t : Addr) (kb : ClassId), n0 ≤ t ∧ h.size ≤ t ∧ ¬ t = x ∧ RoadKit.Fld Z h' x ST "value" "[B" (.ref t) ∧ RoadKit.Arv Z h' t kb .byte N (bs.map Value.int) (.int 0)
/-- **new String(chars) AT A CALL, FOR THE WRITER**: a char[] of n known ints, each 0 to 255 -/
theorem backV {p : Program} {l : Launch} {e : Env} {R : Room} {s : State} {args : Array Value} {below : List Frame} {len W : Nat} {Z : State} {a0 : Array Value} {h : Heap} (hZ : Z.Warmed39 s.vm) (hw : ∀ d ∈ words, d.before a0 Z = true) {kI : Nat} (wi : (Jvm.Cond.instantiable ST kI).before a0 Z = true)
    {x b : Addr} {kC : ClassId} {cs bs : List Int32} {d v0 c0 : Value} {z N : Int32} {n n0 : Nat} (hx0 : n0 ≤ x) (hh0 : n0 ≤ h.size) (E : RoadKit.Exa Z h x ST) (V : RoadKit.Fld Z h x ST "value" "[B" v0) (C : RoadKit.Fld Z h x ST "coder" "B" c0) (K : RoadKit.Arv Z h b kC .char N (cs.map Value.int) d) (S : RoadKit.Sta Z h ST "COMPACT_STRINGS" "Z" (.int z)) (hz : ¬ z = 0)
    (hn : cs.length = n) (hN : N = Int32.ofNat n) (l0 : 0 < n) (l2 : n ≤ 4000) (hp : ∀ c ∈ cs, ¬ c < 0 ∧ ¬ (255 : Int32) < c) (hb : bs = cs.map (fun c => c.toInt8.toInt32)) (hfr : 4 ≤ R.frames) (hlo : W + 65 ≤ R.locals) :
    Back l R p e below s args (⟨"java/lang/String", "<init>", "([C)V"⟩ : MethodName) len W (fun P a => a = #[.ref x, .ref b] ∧ P.U.heap = h ∧ P.cells + 1 ≤ R.cells ∧ P.slots + n ≤ R.slots)
      (fun P _ v B => ∃ L, QV Z x N bs h n0 v B.U.heap L ∧ B.locs = P.locs ++ L ∧ B.cells = P.cells + 1 ∧ B.slots = P.slots + n) := by
  subst hn hN hb
  refine Back.mono (backArv hZ hw wi E V C K S hz (n32 (by omega)) l0 (by omega) (fun c hc => (hp c hc).2) hfr hlo) (fun P a hp => hp) (fun P a v B hp hq => ?_)
  obtain ⟨L, ⟨q1, q2, q3, q4, q5, q6, q7, ⟨kb, v1, v2⟩, q9⟩, hl, hc, hs⟩ := hq
  exact ⟨L, ⟨q1, fun y hy => by rw [q2 y hy]; exact hx0, q3, q5, q7, h.size, kb, hh0, Nat.le_refl _, Nat.ne_of_gt E.lt, q6, by rw [List.map_map]; exact v2⟩, hl, hc, hs⟩
end StrChars.Road
namespace StrChars
open Jvm Sem ClassFile Op Lib Jvm.Stand Jvm.Free.XT Jvm.Free.ALB Jvm.Free.JM Jvm.Free
open Jvm.Lib.Cold (StaticIs)
def hi8 (x : Int32) : Int32 := lo8 (x >>> ((8 : Int32) &&& 31))
/-- what StringUTF16.getChar makes of two bytes -/
def pairCh (u v : Int32) : Int32 := (((u &&& 255) <<< ((0 : Int32) &&& 31)) ||| ((v &&& 255) <<< ((8 : Int32) &&& 31))).toUInt32.toUInt16.toUInt32.toInt32
theorem shr0 (c : Int32) : c >>> ((0 : Int32) &&& 31) = c := by
  have e : ((0 : Int32) &&& 31) = 0 := by decide
  rw [e]
  apply Int32.toBitVec_inj.mp
  rw [Int32.toBitVec_shiftRight]
  have e1 : ((0 : Int32).toBitVec.smod 32) = 0#32 := by decide
  rw [e1, BitVec.sshiftRight_eq']
  exact BitVec.sshiftRight_zero
theorem lo8_and (x : Int32) : (lo8 x &&& 255).toBitVec.toNat = x.toBitVec.toNat % 256 := by
  have h : (lo8 x).toBitVec = (x.toBitVec.signExtend 8).signExtend 32 := by rw [lo8, Int8.toBitVec_toInt32, Int32.toBitVec_toInt8]
  rw [Int32.toBitVec_and, BitVec.toNat_and, h]
  have e : ((x.toBitVec.signExtend 8).signExtend 32).toNat % 256 = x.toBitVec.toNat % 256 := by
    rw [BitVec.toNat_signExtend]
    have hlt := x.toBitVec.isLt
    simp only [BitVec.toNat_setWidth, BitVec.toNat_signExtend]
    split <;> split <;> omega
  rw [← e]
  exact Nat.and_two_pow_sub_one_eq_mod _ 8
theorem pair_says {c : Int32} (h0 : ¬ c < 0) (h1 : ¬ 65535 < c) : pairCh (lo8 c) (hi8 c) = c := by
  rw [Int32.lt_iff_toInt_lt] at h0 h1
  have e0 : (0 : Int32).toInt = 0 := rfl
  have e1 : (65535 : Int32).toInt = 65535 := rfl
  have hc : c.toInt = c.toBitVec.toNat := by
    have := c.toBitVec.isLt
    have e : c.toInt = c.toBitVec.toInt := rfl
    rw [e] at h0 h1
    rw [e]
    rw [BitVec.toInt_eq_toNat_cond] at h0 h1 ⊢
    split at h0 <;> split <;> omega
  have hn : c.toBitVec.toNat < 65536 := by omega
  have a1 := lo8_and c
  have a2 : (hi8 c &&& 255).toBitVec.toNat = c.toBitVec.toNat / 256 := by
    rw [hi8, lo8_and]
    have e : ((8 : Int32) &&& 31) = 8 := by decide
    rw [e, Int32.toBitVec_shiftRight]
    have e2 : ((8 : Int32).toBitVec.smod 32) = 8#32 := by decide
    rw [e2, BitVec.sshiftRight_eq', BitVec.toNat_sshiftRight_of_msb_false (by rw [BitVec.msb_eq_false_iff_two_mul_lt]; omega)]
    show c.toBitVec.toNat >>> 8 % 256 = _
    rw [Nat.shiftRight_eq_div_pow]
    omega
  unfold pairCh
  apply Int32.toBitVec_inj.mp
  apply BitVec.eq_of_toNat_eq
  have f0 : ((0 : Int32) &&& 31) = 0 := by decide
  have f8 : ((8 : Int32) &&& 31) = 8 := by decide
  rw [f0, f8]
  have g : (((lo8 c &&& 255) <<< (0 : Int32)) ||| ((hi8 c &&& 255) <<< (8 : Int32))).toBitVec.toNat = c.toBitVec.toNat := by
    rw [Int32.toBitVec_or, Int32.toBitVec_shiftLeft, Int32.toBitVec_shiftLeft]
    have s0 : ((0 : Int32).toBitVec.smod 32) = 0#32 := by decide
    have s8 : ((8 : Int32).toBitVec.smod 32) = 8#32 := by decide
    rw [s0, s8, BitVec.toNat_or]
    simp only [BitVec.shiftLeft_eq', BitVec.toNat_shiftLeft, a1, a2]
    show (c.toBitVec.toNat % 256) <<< 0 % 2 ^ 32 ||| (c.toBitVec.toNat / 256) <<< 8 % 2 ^ 32 = _
    rw [Nat.shiftLeft_zero, Nat.mod_eq_of_lt (show c.toBitVec.toNat % 256 < 2 ^ 32 by omega), Nat.mod_eq_of_lt (show (c.toBitVec.toNat / 256) <<< 8 < 2 ^ 32 by rw [Nat.shiftLeft_eq]; omega), Nat.or_comm, ← Nat.shiftLeft_add_eq_or_of_lt (by omega), Nat.shiftLeft_eq]
    omega
  show BitVec.toNat (((((lo8 c &&& 255) <<< (0 : Int32)) ||| ((hi8 c &&& 255) <<< (8 : Int32))).toBitVec.setWidth 16).setWidth 32) = _
  rw [BitVec.toNat_setWidth, BitVec.toNat_setWidth, g]
  omega
end StrChars
namespace StrChars
open Jvm Sem ClassFile Op Lib Jvm.Stand Jvm.Free.XT Jvm.Free.ALB Jvm.Free.JM Jvm.Free
open Jvm.Lib.Cold (StaticIs)
theorem shr1 {n : Nat} (h : 2 * n < 2 ^ 31) : Int32.ofNat (2 * n) >>> ((1 : Int32) &&& 31) = Int32.ofNat n := by
  have e : ((1 : Int32) &&& 31) = 1 := by decide
  rw [e]
  apply Int32.toBitVec_inj.mp
  rw [Int32.toBitVec_shiftRight]
  have e1 : ((1 : Int32).toBitVec.smod 32) = 1#32 := by decide
  have hm : (BitVec.ofNat 32 (2 * n)).toNat = 2 * n := by rw [BitVec.toNat_ofNat, Nat.mod_eq_of_lt (by omega)]
  rw [e1, BitVec.sshiftRight_eq']
  apply BitVec.eq_of_toNat_eq
  show ((BitVec.ofNat 32 (2 * n)).sshiftRight 1).toNat = (BitVec.ofNat 32 n).toNat
  rw [BitVec.toNat_sshiftRight_of_msb_false (by rw [BitVec.msb_eq_false_iff_two_mul_lt, hm]; omega), hm, BitVec.toNat_ofNat, Nat.shiftRight_eq_div_pow]
  omega
/-- charAt's cast of a byte read back -/
def chr8 (u : Int32) : Int32 := (u &&& 255).toUInt32.toUInt16.toUInt32.toInt32
theorem chr8_lo8 {c : Int32} (h0 : ¬ c < 0) (h1 : ¬ 255 < c) : chr8 (lo8 c) = c := by
  have t : ∀ k : Fin 256, (Int32.ofNat k.val).toUInt32.toUInt16.toUInt32.toInt32 = Int32.ofNat k.val := by decide +kernel
  unfold chr8
  rw [lo8_mask h0 h1]
  rw [Int32.lt_iff_toInt_lt] at h0 h1
  have e0 : (0 : Int32).toInt = 0 := rfl
  have e1 : (255 : Int32).toInt = 255 := rfl
  obtain ⟨k, hk⟩ : ∃ k : Nat, c.toInt = k := ⟨c.toInt.toNat, by omega⟩
  have hx : c = Int32.ofNat k := Int32.toInt_inj.mp (by rw [hk, Int32.toInt_ofNat_small (by omega)])
  rw [hx]
  exact t ⟨k, by omega⟩
theorem narrow_ch {c : Int32} (h0 : ¬ c < 0) (h1 : ¬ 65535 < c) : narrow .char (.int c) = .int c := by
  have q : narrow .char (.int (pairCh (lo8 c) (hi8 c))) = .int (pairCh (lo8 c) (hi8 c)) := narrow_c _
  rwa [pair_says h0 h1] at q
/-- the array's cell V codes the n chars f 0 .. f (n - 1) by the coder cd, as the JDK does: coder 1 just where some char is above 255 -/
def Cod (cd : Int32) (n : Nat) (f : Nat → Int32) (V : Cell) : Prop := (cd = 0 ∧ V.slots.size = n ∧ ∀ j, j < n → V.slots[j]? = some (.int (lo8 (f j))) ∧ ¬ 255 < f j) ∨ (cd = 1 ∧ V.slots.size = 2 * n ∧ (∀ j, j < n → V.slots[2 * j]? = some (.int (lo8 (f j))) ∧ V.slots[2 * j + 1]? = some (.int (hi8 (f j)))) ∧ ∃ j, j < n ∧ 255 < f j)
theorem Cod.cd {cd : Int32} {n : Nat} {f : Nat → Int32} {V : Cell} (h : Cod cd n f V) : cd = 0 ∨ cd = 1 := h.imp (fun q => q.1) fun q => q.1
theorem Cod.len {cd : Int32} {n : Nat} {f : Nat → Int32} {V : Cell} (h : Cod cd n f V) (hs : V.slots.size < 2 ^ 31) : Int32.ofNat V.slots.size >>> (cd &&& 31) = Int32.ofNat n := by
  rcases h with ⟨rfl, h, -⟩ | ⟨rfl, h, -⟩
  · rw [shr0, h]
  · rw [h, shr1 (by omega)]
/-- **x is a String of the n chars f 0 .. f (n - 1)**, Latin-1 or UTF-16; its array at t has the cell V -/
def Txt (x t : Addr) (V : Cell) (cd : Int32) (n : Nat) (f : Nat → Int32) (U : State) : Prop := Exact "java/lang/String" x U ∧ Has x "java/lang/String" "value" "[B" (.ref t) U ∧ Has x "java/lang/String" "coder" "B" (.int cd) U ∧ XT.Arr .byte t V U ∧ Cod cd n f V ∧ ∀ j, j < n → ¬ f j < 0 ∧ ¬ 65535 < f j
theorem Txt.mv {x t : Addr} {V : Cell} {cd : Int32} {n : Nat} {f : Nat → Int32} {U U' : State} (h : Txt x t V cd n f U) (hal : U.vm.Alike U'.vm) (hh : U'.heap = U.heap) : Txt x t V cd n f U' := ⟨h.1.mv hal hh, h.2.1.mv hal hh, h.2.2.1.mv hal hh, h.2.2.2.1.mv hal hh, h.2.2.2.2⟩
namespace Cdr
def yN : MethodName := ⟨"java/lang/String", "coder", "()B"⟩
abbrev yB : ByteArray := jdk_42_method_152_code
theorem d0 : decode yB 0 = .ok (.getstatic 38, 3) := by decide +kernel
theorem d3 : decode yB 3 = .ok (.ifCond (.eq) 10, 3) := by decide +kernel
theorem d6 : decode yB 6 = .ok (.aload_n 0, 1) := by decide +kernel
theorem d7 : decode yB 7 = .ok (.getfield 15, 3) := by decide +kernel
theorem d10 : decode yB 10 = .ok (.goto 4, 3) := by decide +kernel
theorem d14 : decode yB 14 = .ok (.ireturn, 1) := by decide +kernel
def site : List Cond := [.fieldLink "java/lang/String" 38 "java/lang/String" "COMPACT_STRINGS" "Z", .fieldLink "java/lang/String" 15 "java/lang/String" "coder" "B"]
def tab : Cond := tabOf yN yB 1 (some .byte) site
def P (x : Addr) (cd z : Int32) (args : Array Value) (s : State) : Prop := args = #[.ref x] ∧ Has x "java/lang/String" "coder" "B" (.int cd) s ∧ (cd = 0 ∨ cd = 1) ∧ StaticIs s "java/lang/String" "COMPACT_STRINGS" "Z" (.int z) ∧ ¬ z = 0
def E (cd : Int32) (r : Option Value) (s u : State) : Prop := XT.PureE (some (.int cd)) r s u
theorem law (l : Launch) (x : Addr) (cd z : Int32) : Law l yN 1 0 0 0 yB 1 (some .byte) site (P x cd z) (E cd) [] 0 0 := by
  refine Law.of_walk (plainFor_of_name (by decide +kernel)) (by decide +kernel) (by decide +kernel) (by decide) (fun _ _ h => by rw [h.1]; rfl) (fun _ U U' hal hh h => ⟨h.1, h.2.1.mv hal hh, h.2.2.1, h.2.2.2.1.there hal hh, h.2.2.2.2⟩) (fun r U U' V V' h1 hal h2 h => XT.PureE.mv r U U' V V' h1 hal h2 h) ?_
  intro p e s m args below meth c s₁ X0 hexec hbytes hml hret hlk hnm hown hh0 W hP
  obtain ⟨rfl, hx, hc, s1, hz⟩ := hP
  have c1 : Steps p.tables e below (s₁.setTop (entryFrame m #[.ref x] 1)) (s₁.setTop (mkF m 0 #[.val (.ref x)] [])) := entry rfl
  obtain ⟨T2, X2, q2, st2⟩ := X0.sget hexec hown (wk W (.fieldLink "java/lang/String" 38 "java/lang/String" "COMPACT_STRINGS" "Z")) s1 (fun _ _ h => by rw [hh0]; exact h) (g := (mkF m 0 #[.val (.ref x)] [])) rfl (hb hbytes d0)
  have hh2 := q2.trans hh0
  have c3 : Steps p.tables e below (s₁.setTop (entryFrame m #[.ref x] 1)) (T2.setTop (mkF m 7 #[.val (.ref x)] [.ref x])) := (c1.trans (st2 _ (Steps.refl _))).trans (by
    refine XS.ifNo X2.here hexec rfl (hb hbytes d3) rfl (i0_eq_f hz) ?_
    refine XS.aloadN X2.here hexec rfl (hb hbytes d6) rfl rfl ?_
    exact Steps.refl _)
  obtain ⟨T4, X4, q4, st4⟩ := X2.hget hexec hown (wk W (.fieldLink "java/lang/String" 15 "java/lang/String" "coder" "B")) (hx.mv X2.warmed.alike hh2) (g := (mkF m 7 #[.val (.ref x)] [.ref x])) rfl (rest := []) rfl (hb hbytes d7)
  have c5 : Steps p.tables e below (s₁.setTop (entryFrame m #[.ref x] 1)) (T4.setTop (mkF m 14 #[.val (.ref x)] [.int cd])) := (c3.trans (st4 _ (Steps.refl _))).trans (by
    refine XS.goto X4.here hexec rfl (pc0 := 10) rfl (hb hbytes d10) (by decide) rfl ?_
    exact Steps.refl _)
  exact ⟨T4, some (.int cd), _, _, _, X4, rfl, rfl, rfl, (fun h => by cases h), ⟨rfl, q4.trans hh2⟩, fun fs hl => c5.trans (X4.ireturnOut hexec hret (by rcases hc with rfl | rfl <;> rfl) (Or.inr (Or.inr (Or.inl rfl))) (hb hbytes d14) hl)⟩
end Cdr
namespace Len
def yN : MethodName := ⟨"java/lang/String", "length", "()I"⟩
abbrev yB : ByteArray := jdk_42_method_54_code
theorem d0 : decode yB 0 = .ok (.aload_n 0, 1) := by decide +kernel
theorem d1 : decode yB 1 = .ok (.getfield 9, 3) := by decide +kernel
theorem d4 : decode yB 4 = .ok (.arraylength, 1) := by decide +kernel
theorem d5 : decode yB 5 = .ok (.aload_n 0, 1) := by decide +kernel
theorem d6 : decode yB 6 = .ok (.invokevirtual 335, 3) := by decide +kernel
theorem d9 : decode yB 9 = .ok (.ishr, 1) := by decide +kernel
theorem d10 : decode yB 10 = .ok (.ireturn, 1) := by decide +kernel
def site : List Cond := [.fieldLink "java/lang/String" 9 "java/lang/String" "value" "[B", Cdr.tab] ++ virtW "java/lang/String" 335 "java/lang/String" Cdr.yN Cdr.yN
def tab : Cond := tabOf yN yB 1 (some .int) site
def P (x t : Addr) (V : Cell) (cd : Int32) (n : Nat) (f : Nat → Int32) (z : Int32) (args : Array Value) (s : State) : Prop := args = #[.ref x] ∧ Txt x t V cd n f s ∧ StaticIs s "java/lang/String" "COMPACT_STRINGS" "Z" (.int z) ∧ ¬ z = 0
def E (n : Nat) (r : Option Value) (s u : State) : Prop := XT.PureE (some (.int (Int32.ofNat n))) r s u
/-- length() of a String of n chars, in either coding -/
theorem law (l : Launch) (x t : Addr) (V : Cell) (cd : Int32) (n : Nat) (f : Nat → Int32) (z : Int32) : Law l yN 1 0 1 13 yB 1 (some .int) site (P x t V cd n f z) (E n) [] 0 0 := by
  refine Law.of_walk (plainFor_of_name (by decide +kernel)) (by decide +kernel) (by decide +kernel) (by decide) (fun _ _ h => by rw [h.1]; rfl) (fun _ U U' hal hh h => ⟨h.1, h.2.1.mv hal hh, h.2.2.1.there hal hh, h.2.2.2⟩) (fun r U U' V V' h1 hal h2 h => XT.PureE.mv r U U' V V' h1 hal h2 h) ?_
  intro p e s m args below meth c s₁ X0 hexec hbytes hml hret hlk hnm hown hh0 W hP
  obtain ⟨rfl, hx, s1, hz⟩ := hP
  have v31 := hx.2.2.2.1.2.2.2
  have c1 : Steps p.tables e below (s₁.setTop (entryFrame m #[.ref x] 1)) (s₁.setTop (mkF m 1 #[.val (.ref x)] [.ref x])) := Steps.trans (entry rfl) (by
    show Steps p.tables e below (s₁.setTop (mkF m 0 #[.val (.ref x)] [])) _
    refine XS.aloadN X0.here hexec rfl (hb hbytes d0) rfl rfl ?_
    exact Steps.refl _)
  obtain ⟨T2, X2, q2, st2⟩ := X0.hget hexec hown (wk W (.fieldLink "java/lang/String" 9 "java/lang/String" "value" "[B")) (hx.mv X0.warmed.alike hh0).2.1 (g := (mkF m 1 #[.val (.ref x)] [.ref x])) rfl (rest := []) rfl (hb hbytes d1)
  have hh2 := q2.trans hh0
  have hx2 := hx.mv X2.warmed.alike hh2
  have c3 : Steps p.tables e below (s₁.setTop (entryFrame m #[.ref x] 1)) (T2.setTop (mkF m 6 #[.val (.ref x)] [.ref x, .int (Int32.ofNat V.slots.size)])) := (c1.trans (st2 _ (Steps.refl _))).trans (by
    refine X2.alen hexec hx2.2.2.2.1 rfl rfl (hb hbytes d4) ?_
    refine XS.aloadN X2.here hexec rfl (hb hbytes d5) rfl rfl ?_
    exact Steps.refl _)
  obtain ⟨v4, T4, X4, E4, g4⟩ := X2.callV hexec (Cdr.law l x cd z) hown (wks W (virtW "java/lang/String" 335 "java/lang/String" Cdr.yN Cdr.yN)) rfl (by decide) (wk W Cdr.tab) (W := 1) (Nat.le_of_ble_eq_true rfl) (Nat.le_of_ble_eq_true rfl) (Nat.le_refl _) (Nat.le_refl _) (hx2.1.fc X2.warmed.alike) hx2.1.is (g := (mkF m 6 #[.val (.ref x)] [.ref x, .int (Int32.ofNat V.slots.size)])) rfl (by rw [hml]; rfl) c3 (argsL := []) (rest := [.int (Int32.ofNat V.slots.size)]) rfl rfl (by show 2 * 0 + (1 + 0) ≤ _; decide) (hb hbytes d6) (⟨rfl, hx2.2.2.1, hx.2.2.2.2.1.cd, s1.there X2.warmed.alike hh2, hz⟩)
  obtain ⟨rfl, q4⟩ := E4
  have c5 : Steps p.tables e below (s₁.setTop (entryFrame m #[.ref x] 1)) (T4.setTop (mkF m 10 #[.val (.ref x)] [.int (Int32.ofNat V.slots.size >>> (cd &&& 31))])) := Steps.trans g4 (by
    refine ishr X4.here hexec rfl (hb hbytes d9) rfl ?_
    exact Steps.refl _)
  rw [hx.2.2.2.2.1.len v31] at c5
  exact ⟨T4, some (.int (Int32.ofNat n)), _, _, _, X4, rfl, rfl, rfl, (fun h => by cases h), ⟨rfl, q4.trans hh2⟩, fun fs hl => c5.trans (X4.ireturnOut hexec hret rfl (Or.inl rfl) (hb hbytes d10) hl)⟩
theorem pays {l : Launch} {R : Room} {p : Program} {e : Env} {below : List Frame} {s : State} {sargs : Array Value} {len W : Nat} (x t : Addr) (V : Cell) (cd : Int32) (n : Nat) (f : Nat → Int32) (z : Int32) (htab : tab.before sargs s = true) (hfr : 2 ≤ R.frames) (hlo : W + 25 ≤ R.locals) :
    Back l R p e below s sargs yN len W (fun A₁ a₁ => A₁.cells + 0 ≤ R.cells ∧ A₁.slots + 0 ≤ R.slots ∧ P x t V cd n f z a₁ A₁.U) (fun A₁ _ v₁ B₁ => E n v₁ A₁.U B₁.U ∧ B₁.locs = A₁.locs ++ [] ∧ B₁.cells = A₁.cells + 0 ∧ B₁.slots = A₁.slots + 0) :=
  (law l x t V cd n f z).pays htab hfr (by omega)
end Len
namespace IsL
def yN : MethodName := ⟨"java/lang/String", "isLatin1", "()Z"⟩
abbrev yB : ByteArray := jdk_42_method_154_code
theorem d0 : decode yB 0 = .ok (.getstatic 38, 3) := by decide +kernel
theorem d3 : decode yB 3 = .ok (.ifCond (.eq) 14, 3) := by decide +kernel
theorem d6 : decode yB 6 = .ok (.aload_n 0, 1) := by decide +kernel
theorem d7 : decode yB 7 = .ok (.getfield 15, 3) := by decide +kernel
theorem d10 : decode yB 10 = .ok (.ifCond (.ne) 7, 3) := by decide +kernel
theorem d13 : decode yB 13 = .ok (.iconst 1, 1) := by decide +kernel
theorem d14 : decode yB 14 = .ok (.goto 4, 3) := by decide +kernel
theorem d17 : decode yB 17 = .ok (.iconst 0, 1) := by decide +kernel
theorem d18 : decode yB 18 = .ok (.ireturn, 1) := by decide +kernel
def site : List Cond := [.fieldLink "java/lang/String" 38 "java/lang/String" "COMPACT_STRINGS" "Z", .fieldLink "java/lang/String" 15 "java/lang/String" "coder" "B"]
def tab : Cond := tabOf yN yB 1 (some .boolean) site
def P (x : Addr) (cd z : Int32) (args : Array Value) (s : State) : Prop := args = #[.ref x] ∧ Has x "java/lang/String" "coder" "B" (.int cd) s ∧ (cd = 0 ∨ cd = 1) ∧ StaticIs s "java/lang/String" "COMPACT_STRINGS" "Z" (.int z) ∧ ¬ z = 0
def E (cd : Int32) (r : Option Value) (s u : State) : Prop := XT.PureE (some (.int (1 - cd))) r s u
theorem law (l : Launch) (x : Addr) (cd z : Int32) : Law l yN 1 0 0 0 yB 1 (some .boolean) site (P x cd z) (E cd) [] 0 0 := by
  refine Law.of_walk (plainFor_of_name (by decide +kernel)) (by decide +kernel) (by decide +kernel) (by decide) (fun _ _ h => by rw [h.1]; rfl) (fun _ U U' hal hh h => ⟨h.1, h.2.1.mv hal hh, h.2.2.1, h.2.2.2.1.there hal hh, h.2.2.2.2⟩) (fun r U U' V V' h1 hal h2 h => XT.PureE.mv r U U' V V' h1 hal h2 h) ?_
  intro p e s m args below meth c s₁ X0 hexec hbytes hml hret hlk hnm hown hh0 W hP
  obtain ⟨rfl, hx, hc, s1, hz⟩ := hP
  have c1 : Steps p.tables e below (s₁.setTop (entryFrame m #[.ref x] 1)) (s₁.setTop (mkF m 0 #[.val (.ref x)] [])) := entry rfl
  obtain ⟨T2, X2, q2, st2⟩ := X0.sget hexec hown (wk W (.fieldLink "java/lang/String" 38 "java/lang/String" "COMPACT_STRINGS" "Z")) s1 (fun _ _ h => by rw [hh0]; exact h) (g := (mkF m 0 #[.val (.ref x)] [])) rfl (hb hbytes d0)
  have hh2 := q2.trans hh0
  have c3 : Steps p.tables e below (s₁.setTop (entryFrame m #[.ref x] 1)) (T2.setTop (mkF m 7 #[.val (.ref x)] [.ref x])) := (c1.trans (st2 _ (Steps.refl _))).trans (by
    refine XS.ifNo X2.here hexec rfl (hb hbytes d3) rfl (i0_eq_f hz) ?_
    refine XS.aloadN X2.here hexec rfl (hb hbytes d6) rfl rfl ?_
    exact Steps.refl _)
  obtain ⟨T4, X4, q4, st4⟩ := X2.hget hexec hown (wk W (.fieldLink "java/lang/String" 15 "java/lang/String" "coder" "B")) (hx.mv X2.warmed.alike hh2) (g := (mkF m 7 #[.val (.ref x)] [.ref x])) rfl (rest := []) rfl (hb hbytes d7)
  have c5 : Steps p.tables e below (s₁.setTop (entryFrame m #[.ref x] 1)) (T4.setTop (mkF m 10 #[.val (.ref x)] [.int cd])) := c3.trans (st4 _ (Steps.refl _))
  have c6 : Steps p.tables e below (s₁.setTop (entryFrame m #[.ref x] 1)) (T4.setTop (mkF m 18 #[.val (.ref x)] [.int (1 - cd)])) := by
    rcases hc with rfl | rfl
    · exact c5.trans (by
        refine XS.ifNo X4.here hexec rfl (hb hbytes d10) rfl (i0_ne_f rfl) ?_
        refine iconstV X4.here hexec rfl 1 (hb hbytes d13) (by decide) ?_
        refine XS.goto X4.here hexec rfl (pc0 := 14) rfl (hb hbytes d14) (by decide) rfl ?_
        exact Steps.refl _)
    · exact c5.trans (by
        refine XS.ifYes X4.here hexec rfl (pc0 := 10) rfl (hb hbytes d10) rfl (i0_ne_t (by decide)) (by decide) rfl ?_
        refine iconstV X4.here hexec rfl 0 (hb hbytes d17) (by decide) ?_
        exact Steps.refl _)
  exact ⟨T4, some (.int (1 - cd)), _, _, _, X4, rfl, rfl, rfl, (fun h => by cases h), ⟨rfl, q4.trans hh2⟩, fun fs hl => c6.trans (X4.ireturnOut hexec hret (by rcases hc with rfl | rfl <;> rfl) (Or.inr (Or.inl rfl)) (hb hbytes d18) hl)⟩
end IsL
namespace LChA
def yN : MethodName := ⟨"java/lang/StringLatin1", "charAt", "([BI)C"⟩
abbrev yB : ByteArray := jdk_43_method_2_code
theorem d0 : decode yB 0 = .ok (.iload_n 1, 1) := by decide +kernel
theorem d1 : decode yB 1 = .ok (.aload_n 0, 1) := by decide +kernel
theorem d2 : decode yB 2 = .ok (.arraylength, 1) := by decide +kernel
theorem d3 : decode yB 3 = .ok (.invokestatic 9, 3) := by decide +kernel
theorem d6 : decode yB 6 = .ok (.aload_n 0, 1) := by decide +kernel
theorem d7 : decode yB 7 = .ok (.iload_n 1, 1) := by decide +kernel
theorem d8 : decode yB 8 = .ok (.baload, 1) := by decide +kernel
theorem d9 : decode yB 9 = .ok (.sipush 255, 3) := by decide +kernel
theorem d12 : decode yB 12 = .ok (.iand, 1) := by decide +kernel
theorem d13 : decode yB 13 = .ok (.i2c, 1) := by decide +kernel
theorem d14 : decode yB 14 = .ok (.ireturn, 1) := by decide +kernel
def site : List Cond := [JO.Str_checkIndex.tab] ++ staticW "java/lang/StringLatin1" 9 JO.Str_checkIndex.yN
def tab : Cond := tabOf yN yB 2 (some .char) site
def P (t : Addr) (V : Cell) (i : Nat) (u : Int32) (fm : Value) (args : Array Value) (s : State) : Prop := args = #[.ref t, .int (Int32.ofNat i)] ∧ XT.Arr .byte t V s ∧ V.slots[i]? = some (.int u) ∧ (StaticIs s "jdk/internal/util/Preconditions" "SIOOBE_FORMATTER" "Ljava/util/function/BiFunction;" fm ∧ fm.isRef = true)
def E (u : Int32) (r : Option Value) (s w : State) : Prop := XT.PureE (some (.int (chr8 u))) r s w
theorem law (l : Launch) (t : Addr) (V : Cell) (i : Nat) (u : Int32) (fm : Value) : Law l yN 2 2 2 27 yB 2 (some .char) site (P t V i u fm) (E u) [] 0 0 := by
  refine Law.of_walk (plainFor_of_name (by decide +kernel)) (by decide +kernel) (by decide +kernel) (by decide) (fun _ _ h => by rw [h.1]; rfl) (fun _ U U' hal hh h => ⟨h.1, h.2.1.mv hal hh, h.2.2.1, h.2.2.2.1.there hal hh, h.2.2.2.2⟩) (fun r U U' V V' h1 hal h2 h => XT.PureE.mv r U U' V V' h1 hal h2 h) ?_
  intro p e s m args below meth c s₁ X0 hexec hbytes hml hret hlk hnm hown hh0 W hP
  obtain ⟨rfl, hV, hu, s1, rf⟩ := hP
  have v31 := hV.2.2.2
  have hi : i < V.slots.size := (Array.getElem?_eq_some_iff.mp hu).1
  have c1 : Steps p.tables e below (s₁.setTop (entryFrame m #[.ref t, .int (Int32.ofNat i)] 2)) (s₁.setTop (mkF m 0 #[.val (.ref t), .val (.int (Int32.ofNat i))] [])) := entry rfl
  have c2 : Steps p.tables e below (s₁.setTop (entryFrame m #[.ref t, .int (Int32.ofNat i)] 2)) (s₁.setTop (mkF m 3 #[.val (.ref t), .val (.int (Int32.ofNat i))] [.int (Int32.ofNat V.slots.size), .int (Int32.ofNat i)])) := c1.trans (by
    refine XS.iloadN X0.here hexec rfl (hb hbytes d0) rfl ?_
    refine XS.aloadN X0.here hexec rfl (hb hbytes d1) rfl rfl ?_
    refine X0.alen hexec (hV.mv X0.warmed.alike hh0) rfl rfl (hb hbytes d2) ?_
    exact Steps.refl _)
  obtain ⟨v3, T3, X3, E3, g3⟩ := X0.callS hexec (JO.Str_checkIndex.law l (Int32.ofNat i) (Int32.ofNat V.slots.size) fm) hown (wks W (staticW "java/lang/StringLatin1" 9 JO.Str_checkIndex.yN)) (wk W JO.Str_checkIndex.tab) (W := 0) (Nat.le_of_ble_eq_true rfl) (Nat.le_of_ble_eq_true rfl) (Nat.le_refl _) (Nat.le_refl _) (g := (mkF m 3 #[.val (.ref t), .val (.int (Int32.ofNat i))] [.int (Int32.ofNat V.slots.size), .int (Int32.ofNat i)])) rfl (by rw [hml]; rfl) c2 (argsL := [.int (Int32.ofNat i), .int (Int32.ofNat V.slots.size)]) (rest := []) rfl rfl (by show 2 * 0 + 0 ≤ _; decide) (hb hbytes d3) (⟨rfl, rf, s1.there X0.warmed.alike hh0, Int32.ofNat_not_neg (by omega), lt32 v31 hi⟩)
  obtain ⟨rfl, q3⟩ := E3
  have hh3 := q3.trans hh0
  have c4 : Steps p.tables e below (s₁.setTop (entryFrame m #[.ref t, .int (Int32.ofNat i)] 2)) (T3.setTop (mkF m 14 #[.val (.ref t), .val (.int (Int32.ofNat i))] [.int (chr8 u)])) := Steps.trans g3 (by
    refine XS.aloadN X3.here hexec rfl (hb hbytes d6) rfl rfl ?_
    refine XS.iloadN X3.here hexec rfl (hb hbytes d7) rfl ?_
    refine X3.aget hexec (hV.mv X3.warmed.alike hh3) rfl hu rfl rfl (hb hbytes d8) ?_
    refine sipushV X3.here hexec rfl 255 (hb hbytes d9) (by decide) ?_
    refine XS.iand X3.here hexec rfl (hb hbytes d12) rfl ?_
    refine i2c X3.here hexec rfl (hb hbytes d13) rfl ?_
    exact Steps.refl _)
  exact ⟨T3, some (.int (chr8 u)), _, _, _, X3, rfl, rfl, rfl, (fun h => by cases h), ⟨rfl, hh3⟩, fun fs hl => c4.trans (X3.ireturnOut hexec hret (narrow_c _) (Or.inr (Or.inr (Or.inr (Or.inl rfl)))) (hb hbytes d14) hl)⟩
end LChA
end StrChars
namespace StrChars.Road
open Jvm Sem ClassFile Op Lib Jvm.Stand Jvm.Free Jvm.Free.XT
open Jvm.Lib.Cold (StaticIs)
theorem consq {a : Array Value} {s : State} {c : Jvm.Cond} {L : List Jvm.Cond} (h0 : c.before a s = true) (h : ∀ w ∈ L, w.before a s = true) : ∀ w ∈ c :: L, w.before a s = true := fun w hw => (List.mem_cons.mp hw).elim (fun e => e ▸ h0) (h w)
/-- the words of String.length(), either coding -/
abbrev wordsLen : List Jvm.Cond := [.code Len.yN Len.yB 1 (some .int), .initialized ST, .fieldLink ST 9 ST "value" "[B", .fieldLink ST 38 ST "COMPACT_STRINGS" "Z", .fieldLink ST 15 ST "coder" "B", .code Cdr.yN Cdr.yB 1 (some .byte), .methodLink ST 335 Cdr.yN, .declares Cdr.yN, .selects ST Cdr.yN Cdr.yN, .instanceMethod Cdr.yN]
theorem tabLen_of {a : Array Value} {s : State} (h : ∀ w ∈ wordsLen, w.before a s = true) : Len.tab.before a s = true := by
  have hc : Cdr.tab.before a s = true := unparts (wk h (.code Cdr.yN Cdr.yB 1 (some .byte))) (wks h (.initialized Cdr.yN.cls :: Cdr.site))
  have q := consq hc h
  exact unparts (wk q (.code Len.yN Len.yB 1 (some .int))) (wks q (.initialized Len.yN.cls :: Len.site))
theorem movedLen {Z s : State} {a0 args : Array Value} (hZ : Z.Warmed39 s.vm) (hw : ∀ d ∈ wordsLen, d.before a0 Z = true) : ∀ d ∈ wordsLen, d.before args s = true := fun d hd => by
  have q := hw d hd
  have t : ∀ d ∈ wordsLen, d = .arrayClass .byte ∨ (d.onTables && d.keepsFace) = true := by decide +kernel
  rcases t d hd with rfl | t
  · exact RoadKit.mvA hZ q
  · exact RoadKit.mv hZ q t
/-- the bytes of the chars cs, low before high -/
def wideBytes : List Int32 → List Value
  | [] => []
  | c :: cs => .int (lo8 c) :: .int (hi8 c) :: wideBytes cs
theorem wide_lo (d : Value) : ∀ (cs : List Int32) (j : Nat), j < cs.length → (wideBytes cs).getD (2 * j) d = .int (lo8 (cs.getD j 0))
  | [], j, h => absurd h (Nat.not_lt_zero j)
  | c :: cs, 0, _ => rfl
  | c :: cs, j + 1, h => by
    have q := wide_lo d cs j (by simpa using h)
    rw [show 2 * (j + 1) = 2 * j + 1 + 1 from by omega]
    simpa [wideBytes] using q
theorem wide_hi (d : Value) : ∀ (cs : List Int32) (j : Nat), j < cs.length → (wideBytes cs).getD (2 * j + 1) d = .int (hi8 (cs.getD j 0))
  | [], j, h => absurd h (Nat.not_lt_zero j)
  | c :: cs, 0, _ => rfl
  | c :: cs, j + 1, h => by
    have q := wide_hi d cs j (by simpa using h)
    rw [show 2 * (j + 1) + 1 = 2 * j + 1 + 1 + 1 from by omega]
    simpa [wideBytes] using q
theorem low_at (d : Value) (cs : List Int32) (j : Nat) (h : j < cs.length) : (cs.map fun c => Value.int (lo8 c)).getD j d = .int (lo8 (cs.getD j 0)) := by
  simp [List.getD_eq_getElem?_getD, h]
/-- an array of N2 bytes vs codes the chars cs by the coder cd -/
def CodA (cs : List Int32) (cd N2 : Int32) (vs : List Value) : Prop := (cd = 0 ∧ N2 = Int32.ofNat cs.length ∧ vs = (cs.map fun c => Value.int (lo8 c)) ∧ ∀ c ∈ cs, ¬ 255 < c) ∨ (cd = 1 ∧ N2 = Int32.ofNat (2 * cs.length) ∧ vs = wideBytes cs ∧ ∃ c ∈ cs, 255 < c)
theorem CodA.cod {cs : List Int32} {cd N2 : Int32} {vs : List Value} {V : Cell} (h : CodA cs cd N2 vs) (hn : 2 * cs.length < 2 ^ 31) (hs : V.slots.size = N2.toNatClampNeg) (hv : RoadKit.Has V vs (.int 0)) : Cod cd cs.length (fun j => cs.getD j 0) V := by
  rcases h with ⟨rfl, rfl, rfl, h⟩ | ⟨rfl, rfl, rfl, c, hc, hw⟩
  · rw [n32 (by omega)] at hs
    exact Or.inl ⟨rfl, hs, fun j hj => ⟨by rw [hv j (by omega), low_at _ _ _ hj], by
      have e : cs.getD j 0 = cs[j] := by simp [List.getD_eq_getElem?_getD, hj]
      show ¬ 255 < cs.getD j 0
      rw [e]; exact h _ (List.getElem_mem _)⟩⟩
  · rw [n32 (by omega)] at hs
    obtain ⟨j, hj, rfl⟩ := List.getElem_of_mem hc
    exact Or.inr ⟨rfl, hs, fun j hj => ⟨by rw [hv _ (by omega), wide_lo _ _ _ hj], by rw [hv _ (by omega), wide_hi _ _ _ hj]⟩, j, hj, by
      have e : cs.getD j 0 = cs[j] := by simp [List.getD_eq_getElem?_getD, hj]
      show 255 < cs.getD j 0
      rw [e]; exact hw⟩
/-- an object of exactly java/lang/String, its two fields found: as the laws ask it -/
theorem strObj {Z U : State} {a0 : Array Value} {kI : Nat} (wi : (Jvm.Cond.instantiable ST kI).before a0 Z = true) (al : Z.vm.Alike U.vm) {x : Addr} {v0 c0 : Value} (E : RoadKit.Exa Z U.heap x ST) (V : RoadKit.Fld Z U.heap x ST "value" "[B" v0) (C : RoadKit.Fld Z U.heap x ST "coder" "B" c0) :
    ∃ (D : Cell) (fV fC : Field), Blank ST x D U ∧ Found ST "value" "[B" fV U ∧ Found ST "coder" "B" fC U ∧ D.slots[fV.slot]? = some v0 ∧ D.slots[fC.slot]? = some c0 ∧ RoadKit.slotOf Z ST "value" "[B" = fV.slot ∧ RoadKit.slotOf Z ST "coder" "B" = fC.slot := by
  obtain ⟨D, cfV, kV, iV, fV, hD, gV, stV, knV, obV, asV, slV⟩ := V
  obtain ⟨D', cfC, kC, iC, fC, hD', gC, stC, -, -, asC, slC⟩ := C
  cases hD.symm.trans hD'
  obtain ⟨D2, kD, e1, e2, e3, e4, e5⟩ := E
  cases hD.symm.trans e1
  obtain ⟨c2, k2, i1, i2, i3, -⟩ := Cond.instantiable_spec wi
  cases e2.symm.trans i1
  cases e3.symm.trans i2
  obtain ⟨kU, u1, u2⟩ := al.2.2 _ _ e3
  exact ⟨D, fV, fC, ⟨hD, ⟨knV, fun q hq => by rw [hq] at obV; cases obV⟩, by rw [al.findClass]; exact e2, kU, u1, by rw [u2]; exact i3, by rw [u2]; exact e5 i3⟩, ⟨SBG.found_only al ⟨cfV, kV, iV, gV⟩, stV⟩, ⟨SBG.found_only al ⟨cfC, kC, iC, gC⟩, stC⟩, slV, slC, by simp [RoadKit.slotOf, gV], by simp [RoadKit.slotOf, gC]⟩
theorem sta_is {Z U : State} (al : Z.vm.Alike U.vm) {C n d : String} {v : Value} (S : RoadKit.Sta Z U.heap C n d v) : StaticIs U C n d v := by
  obtain ⟨cfS, iS, kS, fS, st, cS, t1, t2, t3, t4, t5, t6, t7⟩ := S
  exact StaticIs.there (s := { Z with heap := U.heap }) ⟨cfS, iS, kS, fS, st, cS, t1, t2, t3, t4, t5, (fun q => by rw [q] at t6; cases t6), t7⟩ al rfl
/-- **length() OF SUCH A STRING** -/
theorem lenW {p : Program} {l : Launch} {e : Env} {R : Room} {s : State} {args : Array Value} {below : List Frame} {len W : Nat} {Z : State} {a0 : Array Value} {h : Heap} (hZ : Z.Warmed39 s.vm) (hw : ∀ d ∈ wordsLen, d.before a0 Z = true) {kI : Nat} (wi : (Jvm.Cond.instantiable ST kI).before a0 Z = true)
    {x t : Addr} {kb : ClassId} {cs : List Int32} {cd N2 z : Int32} {vs : List Value} (E : RoadKit.Exa Z h x ST) (V : RoadKit.Fld Z h x ST "value" "[B" (.ref t)) (C : RoadKit.Fld Z h x ST "coder" "B" (.int cd)) (K : RoadKit.Arv Z h t kb .byte N2 vs (.int 0)) (hc : CodA cs cd N2 vs) (hb : ∀ c ∈ cs, ¬ c < 0 ∧ ¬ (65535 : Int32) < c)
    (S : RoadKit.Sta Z h ST "COMPACT_STRINGS" "Z" (.int z)) (hz : ¬ z = 0) (l2 : cs.length ≤ 4000) (hfr : 2 ≤ R.frames) (hlo : W + 25 ≤ R.locals) :
    Back l R p e below s args (⟨"java/lang/String", "length", "()I"⟩ : MethodName) len W (fun P a => a = #[.ref x] ∧ P.U.heap = h ∧ P.cells + 0 ≤ R.cells ∧ P.slots + 0 ≤ R.slots)
      (fun P _ v B => ∃ L, (v = some (.int (Int32.ofNat cs.length)) ∧ L = [] ∧ B.U.heap = h) ∧ B.locs = P.locs ++ L ∧ B.cells = P.cells + 0 ∧ B.slots = P.slots + 0) := by
  obtain ⟨A, K1, K2, K3, K4, K5, K6⟩ := K
  have hcod := hc.cod (by omega) K3 K5
  intro m meth c P g ig mk a X hg hsize hdg hW hn hp'
  obtain ⟨rfl, rfl, r1, r2⟩ := hp'
  have al : Z.vm.Alike P.U.vm := hZ.alike.trans X.warmed.alike
  obtain ⟨D, fV, fC, hB, F1, F2, g1, g2, -, -⟩ := strObj wi al E V C
  have hx : Txt x t A cd cs.length (fun j => cs.getD j 0) P.U := ⟨⟨_, hB.2.2.1, D, hB.1, rfl, by cases q : D.vm <;> first | rfl | exact absurd q (hB.2.1.2 _)⟩, Has.of hB F1 g1, Has.of hB F2 g2, ⟨K1.1, State.isArrayOf_alike al K1.2.1, K1.2.2, by rcases hcod with ⟨-, q, -⟩ | ⟨-, q, -⟩ <;> omega⟩, hcod, fun j hj => by
    have e : cs.getD j 0 = cs[j] := by simp [List.getD_eq_getElem?_getD, hj]
    show ¬ cs.getD j 0 < 0 ∧ ¬ 65535 < cs.getD j 0
    rw [e]; exact hb _ (List.getElem_mem _)⟩
  obtain ⟨v, B, X', ⟨⟨hv, hh⟩, hl, hk, hs⟩, st⟩ := Len.pays x t A cd cs.length (fun j => cs.getD j 0) z (tabLen_of (movedLen hZ hw)) hfr hlo m meth c P g ig mk _ X hg hsize hdg hW hn ⟨r1, r2, rfl, hx, sta_is al S, hz⟩
  exact ⟨v, B, X', ⟨[], ⟨hv, rfl, hh⟩, hl, hk, hs⟩, st⟩
end StrChars.Road
namespace StrChars.Road
open Jvm Sem ClassFile Op Lib Jvm.Stand Jvm.Free Jvm.Free.XT
open Jvm.Lib.Cold (StaticIs)
/-- the road's facts of a String, as the laws ask it -/
theorem txt_of {Z U : State} {a0 : Array Value} {kI : Nat} (wi : (Jvm.Cond.instantiable ST kI).before a0 Z = true) (al : Z.vm.Alike U.vm) {x t : Addr} {kb : ClassId} {cs : List Int32} {cd N2 : Int32} {vs : List Value} (E : RoadKit.Exa Z U.heap x ST) (V : RoadKit.Fld Z U.heap x ST "value" "[B" (.ref t)) (C : RoadKit.Fld Z U.heap x ST "coder" "B" (.int cd)) (K : RoadKit.Arv Z U.heap t kb .byte N2 vs (.int 0)) (hc : CodA cs cd N2 vs) (hb : ∀ c ∈ cs, ¬ c < 0 ∧ ¬ (65535 : Int32) < c) (l2 : cs.length ≤ 4000) :
    ∃ A, Txt x t A cd cs.length (fun j => cs.getD j 0) U := by
  obtain ⟨A, K1, K2, K3, K4, K5, K6⟩ := K
  have hcod := hc.cod (by omega) K3 K5
  obtain ⟨D, fV, fC, hB, F1, F2, g1, g2, -, -⟩ := strObj wi al E V C
  exact ⟨A, ⟨_, hB.2.2.1, D, hB.1, rfl, by cases q : D.vm <;> first | rfl | exact absurd q (hB.2.1.2 _)⟩, Has.of hB F1 g1, Has.of hB F2 g2, ⟨K1.1, State.isArrayOf_alike al K1.2.1, K1.2.2, by rcases hcod with ⟨-, q, -⟩ | ⟨-, q, -⟩ <;> omega⟩, hcod, fun j hj => by
    have e : cs.getD j 0 = cs[j] := by simp [List.getD_eq_getElem?_getD, hj]
    show ¬ cs.getD j 0 < 0 ∧ ¬ 65535 < cs.getD j 0
    rw [e]; exact hb _ (List.getElem_mem _)⟩
end StrChars.Road
namespace StrChars
open Jvm Sem ClassFile Op Lib Jvm.Stand Jvm.Free.XT Jvm.Free.ALB Jvm.Free.JM Jvm.Free
open Jvm.Lib.Cold (StaticIs)
namespace ChN
def yN : MethodName := ⟨"java/lang/String", "charAt", "(I)C"⟩
abbrev yB : ByteArray := jdk_42_method_56_code
theorem d0 : decode yB 0 = .ok (.aload_n 0, 1) := by decide +kernel
theorem d1 : decode yB 1 = .ok (.invokevirtual 492, 3) := by decide +kernel
theorem d4 : decode yB 4 = .ok (.ifCond (.eq) 12, 3) := by decide +kernel
theorem d7 : decode yB 7 = .ok (.aload_n 0, 1) := by decide +kernel
theorem d8 : decode yB 8 = .ok (.getfield 9, 3) := by decide +kernel
theorem d11 : decode yB 11 = .ok (.iload_n 1, 1) := by decide +kernel
theorem d12 : decode yB 12 = .ok (.invokestatic 495, 3) := by decide +kernel
theorem d15 : decode yB 15 = .ok (.ireturn, 1) := by decide +kernel
def site : List Cond := [.fieldLink "java/lang/String" 9 "java/lang/String" "value" "[B", IsL.tab, LChA.tab] ++ virtW "java/lang/String" 492 "java/lang/String" IsL.yN IsL.yN ++ staticW "java/lang/String" 495 LChA.yN
def tab : Cond := tabOf yN yB 2 (some .char) site
def P (x t : Addr) (V : Cell) (n : Nat) (f : Nat → Int32) (z : Int32) (fm : Value) (i : Nat) (args : Array Value) (s : State) : Prop := args = #[.ref x, .int (Int32.ofNat i)] ∧ Txt x t V 0 n f s ∧ i < n ∧ StaticIs s "java/lang/String" "COMPACT_STRINGS" "Z" (.int z) ∧ ¬ z = 0 ∧ StaticIs s "jdk/internal/util/Preconditions" "SIOOBE_FORMATTER" "Ljava/util/function/BiFunction;" fm ∧ fm.isRef = true
def E (f : Nat → Int32) (i : Nat) (r : Option Value) (s u : State) : Prop := XT.PureE (some (.int (f i))) r s u
/-- charAt(i) of a Latin-1 String of n chars, i < n: f i -/
theorem law (l : Launch) (x t : Addr) (V : Cell) (n : Nat) (f : Nat → Int32) (z : Int32) (fm : Value) (i : Nat) : Law l yN 2 1 3 40 yB 2 (some .char) site (P x t V n f z fm i) (E f i) [] 0 0 := by
  refine Law.of_walk (plainFor_of_name (by decide +kernel)) (by decide +kernel) (by decide +kernel) (by decide) (fun _ _ h => by rw [h.1]; rfl) (fun _ U U' hal hh h => ⟨h.1, h.2.1.mv hal hh, h.2.2.1, h.2.2.2.1.there hal hh, h.2.2.2.2.1, h.2.2.2.2.2.1.there hal hh, h.2.2.2.2.2.2⟩) (fun r U U' V V' h1 hal h2 h => XT.PureE.mv r U U' V V' h1 hal h2 h) ?_
  intro p e s m args below meth c s₁ X0 hexec hbytes hml hret hlk hnm hown hh0 W hP
  obtain ⟨rfl, hx, hi, s1, hz, s3, rf⟩ := hP
  have v31 := hx.2.2.2.1.2.2.2
  have hr := hx.2.2.2.2.2 i hi
  have hx0 := hx.mv X0.warmed.alike hh0
  have c1 : Steps p.tables e below (s₁.setTop (entryFrame m #[.ref x, .int (Int32.ofNat i)] 2)) (s₁.setTop (mkF m 1 #[.val (.ref x), .val (.int (Int32.ofNat i))] [.ref x])) := Steps.trans (entry rfl) (by
    show Steps p.tables e below (s₁.setTop (mkF m 0 #[.val (.ref x), .val (.int (Int32.ofNat i))] [])) _
    refine XS.aloadN X0.here hexec rfl (hb hbytes d0) rfl rfl ?_
    exact Steps.refl _)
  obtain ⟨v2, T2, X2, E2, g2⟩ := X0.callV hexec (IsL.law l x 0 z) hown (wks W (virtW "java/lang/String" 492 "java/lang/String" IsL.yN IsL.yN)) rfl (by decide) (wk W IsL.tab) (W := 0) (Nat.le_of_ble_eq_true rfl) (Nat.le_of_ble_eq_true rfl) (Nat.le_refl _) (Nat.le_refl _) (hx0.1.fc X0.warmed.alike) hx0.1.is (g := (mkF m 1 #[.val (.ref x), .val (.int (Int32.ofNat i))] [.ref x])) rfl (by rw [hml]; rfl) c1 (argsL := []) (rest := []) rfl rfl (by show 2 * 0 + 0 ≤ _; decide) (hb hbytes d1) (⟨rfl, hx0.2.2.1, hx.2.2.2.2.1.cd, s1.there X0.warmed.alike hh0, hz⟩)
  obtain ⟨rfl, q2⟩ := E2
  have hh2 := q2.trans hh0
  have hx2 := hx.mv X2.warmed.alike hh2
  obtain ⟨-, k1, k2⟩ | ⟨k0, -⟩ := hx.2.2.2.2.1
  · have c3 : Steps p.tables e below (s₁.setTop (entryFrame m #[.ref x, .int (Int32.ofNat i)] 2)) (T2.setTop (mkF m 8 #[.val (.ref x), .val (.int (Int32.ofNat i))] [.ref x])) := Steps.trans g2 (by
      refine XS.ifNo X2.here hexec rfl (hb hbytes d4) rfl (i0_eq_f (by decide)) ?_
      refine XS.aloadN X2.here hexec rfl (hb hbytes d7) rfl rfl ?_
      exact Steps.refl _)
    obtain ⟨T4, X4, q4, st4⟩ := X2.hget hexec hown (wk W (.fieldLink "java/lang/String" 9 "java/lang/String" "value" "[B")) hx2.2.1 (g := (mkF m 8 #[.val (.ref x), .val (.int (Int32.ofNat i))] [.ref x])) rfl (rest := []) rfl (hb hbytes d8)
    have hh4 := q4.trans hh2
    have c5 : Steps p.tables e below (s₁.setTop (entryFrame m #[.ref x, .int (Int32.ofNat i)] 2)) (T4.setTop (mkF m 12 #[.val (.ref x), .val (.int (Int32.ofNat i))] [.int (Int32.ofNat i), .ref t])) := (c3.trans (st4 _ (Steps.refl _))).trans (by
      refine XS.iloadN X4.here hexec rfl (hb hbytes d11) rfl ?_
      exact Steps.refl _)
    obtain ⟨v6, T6, X6, E6, g6⟩ := X4.callS hexec (LChA.law l t V i (lo8 (f i)) fm) hown (wks W (staticW "java/lang/String" 495 LChA.yN)) (wk W LChA.tab) (W := 0) (Nat.le_of_ble_eq_true rfl) (Nat.le_of_ble_eq_true rfl) (Nat.le_refl _) (Nat.le_refl _) (g := (mkF m 12 #[.val (.ref x), .val (.int (Int32.ofNat i))] [.int (Int32.ofNat i), .ref t])) rfl (by rw [hml]; rfl) c5 (argsL := [.ref t, .int (Int32.ofNat i)]) (rest := []) rfl rfl (by show 2 * 0 + 0 ≤ _; decide) (hb hbytes d12) (⟨rfl, hx.2.2.2.1.mv X4.warmed.alike hh4, (k2 i hi).1, s3.there X4.warmed.alike hh4, rf⟩)
    obtain ⟨rfl, q6⟩ := E6
    rw [chr8_lo8 hr.1 (k2 i hi).2] at g6
    exact ⟨T6, some (.int (f i)), _, _, _, X6, rfl, rfl, rfl, (fun h => by cases h), ⟨rfl, q6.trans hh4⟩, fun fs hl => Steps.trans g6 (X6.ireturnOut hexec hret (narrow_ch hr.1 hr.2) (Or.inr (Or.inr (Or.inr (Or.inl rfl)))) (hb hbytes d15) hl)⟩
  · exact absurd k0 (by decide)
theorem pays {l : Launch} {R : Room} {p : Program} {e : Env} {below : List Frame} {s : State} {sargs : Array Value} {len W : Nat} (x t : Addr) (V : Cell) (n : Nat) (f : Nat → Int32) (z : Int32) (fm : Value) (i : Nat) (htab : tab.before sargs s = true) (hfr : 4 ≤ R.frames) (hlo : W + 53 ≤ R.locals) :
    Back l R p e below s sargs yN len W (fun A₁ a₁ => A₁.cells + 0 ≤ R.cells ∧ A₁.slots + 0 ≤ R.slots ∧ P x t V n f z fm i a₁ A₁.U) (fun A₁ _ v₁ B₁ => E f i v₁ A₁.U B₁.U ∧ B₁.locs = A₁.locs ++ [] ∧ B₁.cells = A₁.cells + 0 ∧ B₁.slots = A₁.slots + 0) :=
  (law l x t V n f z fm i).pays htab hfr (by omega)
end ChN
end StrChars
namespace StrChars.Road
open Jvm Sem ClassFile Op Lib Jvm.Stand Jvm.Free Jvm.Free.XT
open Jvm.Lib.Cold (StaticIs)
/-- the words of String.charAt(int), the Latin-1 road alone -/
abbrev wordsChN : List Jvm.Cond := [.code ChN.yN ChN.yB 2 (some .char), .initialized ST, .fieldLink ST 9 ST "value" "[B", .fieldLink ST 38 ST "COMPACT_STRINGS" "Z", .fieldLink ST 15 ST "coder" "B", .code IsL.yN IsL.yB 1 (some .boolean), .methodLink ST 492 IsL.yN, .declares IsL.yN, .selects ST IsL.yN IsL.yN, .instanceMethod IsL.yN,
  .methodLink ST 495 LChA.yN, .static LChA.yN, .code LChA.yN LChA.yB 2 (some .char), .initialized "java/lang/StringLatin1", .methodLink "java/lang/StringLatin1" 9 JO.Str_checkIndex.yN, .static JO.Str_checkIndex.yN, .code JO.Str_checkIndex.yN JO.Str_checkIndex.yB 2 none,
  .fieldLink ST 1053 "jdk/internal/util/Preconditions" "SIOOBE_FORMATTER" "Ljava/util/function/BiFunction;", .methodLink ST 1059 JC.PreCheck.yN, .static JC.PreCheck.yN, .code JC.PreCheck.yN JC.PreCheck.yB 3 (some .int), .initialized "jdk/internal/util/Preconditions"]
theorem tabChN_of {a : Array Value} {s : State} (h : ∀ w ∈ wordsChN, w.before a s = true) : ChN.tab.before a s = true := by
  have hp : JC.PreCheck.tab.before a s = true := unparts (wk h (.code JC.PreCheck.yN JC.PreCheck.yB 3 (some .int))) (wks h (.initialized JC.PreCheck.yN.cls :: JC.PreCheck.site))
  have qk := consq hp h
  have hk : JO.Str_checkIndex.tab.before a s = true := unparts (wk qk (.code JO.Str_checkIndex.yN JO.Str_checkIndex.yB 2 none)) (wks qk (.initialized JO.Str_checkIndex.yN.cls :: JO.Str_checkIndex.site))
  have ql := consq hk h
  have hl : LChA.tab.before a s = true := unparts (wk ql (.code LChA.yN LChA.yB 2 (some .char))) (wks ql (.initialized LChA.yN.cls :: LChA.site))
  have hi : IsL.tab.before a s = true := unparts (wk h (.code IsL.yN IsL.yB 1 (some .boolean))) (wks h (.initialized IsL.yN.cls :: IsL.site))
  have q := consq hi (consq hl h)
  exact unparts (wk q (.code ChN.yN ChN.yB 2 (some .char))) (wks q (.initialized ChN.yN.cls :: ChN.site))
theorem movedChN {Z s : State} {a0 args : Array Value} (hZ : Z.Warmed39 s.vm) (hw : ∀ d ∈ wordsChN, d.before a0 Z = true) : ∀ d ∈ wordsChN, d.before args s = true := fun d hd => by
  have t : ∀ d ∈ wordsChN, (d.onTables && d.keepsFace) = true := by decide +kernel
  exact RoadKit.mv hZ (hw d hd) (t d hd)
/-- **charAt(i) OF A LATIN-1 STRING**, i < n: the char -/
theorem chN {p : Program} {l : Launch} {e : Env} {R : Room} {s : State} {args : Array Value} {below : List Frame} {len W : Nat} {Z : State} {a0 : Array Value} {h : Heap} (hZ : Z.Warmed39 s.vm) (hw : ∀ d ∈ wordsChN, d.before a0 Z = true) {kI : Nat} (wi : (Jvm.Cond.instantiable ST kI).before a0 Z = true)
    {x t : Addr} {kb : ClassId} {cs : List Int32} {N2 z : Int32} {vs : List Value} {fm : Value} {i : Nat} {j : Int32} (E : RoadKit.Exa Z h x ST) (V : RoadKit.Fld Z h x ST "value" "[B" (.ref t)) (C : RoadKit.Fld Z h x ST "coder" "B" (.int 0)) (K : RoadKit.Arv Z h t kb .byte N2 vs (.int 0)) (hc : CodA cs 0 N2 vs) (hb : ∀ c ∈ cs, ¬ c < 0 ∧ ¬ (65535 : Int32) < c)
    (S : RoadKit.Sta Z h ST "COMPACT_STRINGS" "Z" (.int z)) (hz : ¬ z = 0) (F : RoadKit.Sta Z h "jdk/internal/util/Preconditions" "SIOOBE_FORMATTER" "Ljava/util/function/BiFunction;" fm) (rf : fm.isRef = true) (l2 : cs.length ≤ 4000) (hi : i < cs.length) (hj : j = Int32.ofNat i) (hfr : 4 ≤ R.frames) (hlo : W + 53 ≤ R.locals) :
    Back l R p e below s args (⟨"java/lang/String", "charAt", "(I)C"⟩ : MethodName) len W (fun P a => a = #[.ref x, .int j] ∧ P.U.heap = h ∧ P.cells + 0 ≤ R.cells ∧ P.slots + 0 ≤ R.slots)
      (fun P _ v B => ∃ L, (v = some (.int (cs.getD i 0)) ∧ L = [] ∧ B.U.heap = h) ∧ B.locs = P.locs ++ L ∧ B.cells = P.cells + 0 ∧ B.slots = P.slots + 0) := by
  subst hj
  intro m meth c P g ig mk a X hg hsize hdg hW hn hp'
  obtain ⟨rfl, rfl, r1, r2⟩ := hp'
  have al : Z.vm.Alike P.U.vm := hZ.alike.trans X.warmed.alike
  obtain ⟨A, hx⟩ := txt_of wi al E V C K hc hb l2
  obtain ⟨v, B, X', ⟨⟨hv, hh⟩, hl, hk, hs⟩, st⟩ := ChN.pays x t A cs.length (fun j => cs.getD j 0) z fm i (tabChN_of (movedChN hZ hw)) hfr hlo m meth c P g ig mk _ X hg hsize hdg hW hn ⟨r1, r2, rfl, hx, hi, sta_is al S, hz, sta_is al F, rf⟩
  exact ⟨v, B, X', ⟨[], ⟨hv, rfl, hh⟩, hl, hk, hs⟩, st⟩
/-- what backV says of its String, as the contracts of this text ask it: cs's low bytes, coder 0 -/
theorem codOf {cs : List Int32} {n : Nat} (hn : cs.length = n) (hb : ∀ c ∈ cs, ¬ 255 < c) : CodA cs 0 (Int32.ofNat n) ((cs.map lo8).map Value.int) := Or.inl ⟨rfl, by rw [hn], by simp [List.map_map, Function.comp_def], hb⟩
end StrChars.Road
end Jvm.Pilot.@@N@@
namespace Jvm.Pilot.@@N@@
open Jvm Jvm.ClassFile Sem Op Lib Jvm.Free Jvm.Stand Jvm.LawKit Jvm.RoadKit Bundle Jvm.Pilot.@@N@@.Jvm.D
theorem tw {a0 : Array Value} {Z : State} (hw : ∀ d ∈ tables_1, d.before a0 Z = true) (i : Nat) {d : Jvm.Cond} (h : tables_1[i]? = some d) : d.before a0 Z = true := hw d (List.mem_of_getElem? h)
theorem strW {a0 : Array Value} {Z : State} (hw : ∀ d ∈ tables_1, d.before a0 Z = true) : ∀ a ∈ Bundle.stringAtoms, a.before a0 Z = true := fun d hd => hw d ((by decide +kernel : ∀ d ∈ Bundle.stringAtoms, d ∈ tables_1) d hd)
theorem pn_com_example_neighbor_keys_neighborkeys_model_Composite : plainName "com/example/neighbor_keys/neighborkeys/model/Composite" = true := by first | (simp [plainName, overriddenIn]; done) | decide +kernel
theorem pn_com_example_neighbor_keys_neighborkeys_model_CompositeKeepsOrderPinLaw : plainName "com/example/neighbor_keys/neighborkeys/model/CompositeKeepsOrderPinLaw" = true := by first | (simp [plainName, overriddenIn]; done) | decide +kernel
theorem pn_java_lang_String : plainName "java/lang/String" = true := by first | (simp [plainName, overriddenIn]; done) | decide +kernel
theorem pn_java_lang_StringUTF16 : plainName "java/lang/StringUTF16" = true := by first | (simp [plainName, overriddenIn]; done) | decide +kernel
theorem pn_jdk_internal_util_Preconditions : plainName "jdk/internal/util/Preconditions" = true := by first | (simp [plainName, overriddenIn]; done) | decide +kernel
theorem pd___CIILjava_lang_Void__V : parseMethodDescriptor "([CIILjava/lang/Void;)V" = some ⟨[(.array .char), .int, .int, (.object "java/lang/Void")], none⟩ := by decide +kernel
theorem pd__IILjava_util_function_BiFunction__I : parseMethodDescriptor "(IILjava/util/function/BiFunction;)I" = some ⟨[.int, .int, (.object "java/util/function/BiFunction")], some .int⟩ := by decide +kernel
theorem pd___B_I : parseMethodDescriptor "([B)I" = some ⟨[(.array .byte)], some .int⟩ := by decide +kernel
theorem pd__II_V : parseMethodDescriptor "(II)V" = some ⟨[.int, .int], none⟩ := by decide +kernel
theorem pd__I_B_V : parseMethodDescriptor "(I[B)V" = some ⟨[.int, (.array .byte)], none⟩ := by decide +kernel
theorem pd___BI_C : parseMethodDescriptor "([BI)C" = some ⟨[(.array .byte), .int], some .char⟩ := by decide +kernel
theorem pd___Z : parseMethodDescriptor "()Z" = some ⟨[], some .boolean⟩ := by decide +kernel
theorem pd___B : parseMethodDescriptor "()B" = some ⟨[], some .byte⟩ := by decide +kernel
theorem pd___I : parseMethodDescriptor "()I" = some ⟨[], some .int⟩ := by decide +kernel
theorem pd__I_C : parseMethodDescriptor "(I)C" = some ⟨[.int], some .char⟩ := by decide +kernel
theorem pd__I_I : parseMethodDescriptor "(I)I" = some ⟨[.int], some .int⟩ := by decide +kernel
theorem pd__I__B : parseMethodDescriptor "(I)[B" = some ⟨[.int], some (.array .byte)⟩ := by decide +kernel
theorem pd___BII_V : parseMethodDescriptor "([BII)V" = some ⟨[(.array .byte), .int, .int], none⟩ := by decide +kernel
theorem pd___CI_BII_I : parseMethodDescriptor "([CI[BII)I" = some ⟨[(.array .char), .int, (.array .byte), .int, .int], some .int⟩ := by decide +kernel
theorem pd___CII__B : parseMethodDescriptor "([CII)[B" = some ⟨[(.array .char), .int, .int], some (.array .byte)⟩ := by decide +kernel
theorem pd___BI_B : parseMethodDescriptor "([BI)B" = some ⟨[(.array .byte), .int], some .byte⟩ := by decide +kernel
theorem pd___C_V : parseMethodDescriptor "([C)V" = some ⟨[(.array .char)], none⟩ := by decide +kernel
theorem pd__Ljava_lang_String__Z : parseMethodDescriptor "(Ljava/lang/String;)Z" = some ⟨[(.object "java/lang/String")], some .boolean⟩ := by decide +kernel
theorem pd__C_Z : parseMethodDescriptor "(C)Z" = some ⟨[.char], some .boolean⟩ := by decide +kernel
theorem litc_16 : (∀ c ∈ "".toList, c.toNat < 256) ∧ "".toList.map (fun c => Value.int (Jvm.Lit.byteI c.toNat.toUInt16)) = [] := ⟨by decide, by decide +kernel⟩
theorem elW {a0 : Array Value} {Z : State} (hw : ∀ d ∈ tables_1, d.before a0 Z = true) : EW Z a0 consts_1 := (EW.cons (tw hw 16 rfl) (by decide) EW.nil)
theorem sm256 {c : Int32} (h0 : ¬ c < 0) (h1 : ¬ (255 : Int32) < c) : ∃ j : Fin 256, c = Int32.ofNat j.val := by
  rw [Int32.lt_iff_toInt_lt] at h0 h1
  have e0 : (0 : Int32).toInt = 0 := rfl
  have e1 : (255 : Int32).toInt = 255 := rfl
  refine ⟨⟨c.toInt.toNat, by omega⟩, ?_⟩
  apply Int32.toInt_inj.mp
  rw [Int32.toInt_ofNat_small (by show c.toInt.toNat < _; omega)]
  show c.toInt = ((c.toInt.toNat : Nat) : Int)
  omega
theorem nar_id {c : Int32} (h0 : ¬ c < 0) (h1 : ¬ (255 : Int32) < c) : nar .char c = c := by
  obtain ⟨j, rfl⟩ := sm256 h0 h1
  exact (by decide +kernel : ∀ j : Fin 256, nar .char (Int32.ofNat j.val) = Int32.ofNat j.val) j

def own_h (c : Int32) : Prop := ¬ c < 0 ∧ ¬ (65535 : Int32) < c
def own_b0 (c : Int32) : Int32 := nar .byte ((c >>> ((0 : Int32) &&& 31)).toInt8.toInt32)
def own_b1 (c : Int32) : Int32 := nar .byte ((c >>> ((8 : Int32) &&& 31)).toInt8.toInt32)
theorem own_hI {c : Int32} (h : own_h c) : 0 ≤ c.toInt ∧ c.toInt ≤ 65535 := by
  obtain ⟨a, b⟩ := h
  rw [Int32.lt_iff_toInt_lt] at a b
  have e0 : (0 : Int32).toInt = 0 := rfl
  have e1 : (65535 : Int32).toInt = 65535 := rfl
  omega
theorem nar16 {c : Int32} (h : own_h c) : nar .char c = c := by
  have q := own_hI h
  have r := c_i2c c
  apply Int32.toInt_inj.mp
  show c.toUInt32.toUInt16.toUInt32.toInt32.toInt = c.toInt
  omega
theorem own_i2c (x : Int32) : own_h ((x &&& (65535 : Int32)).toUInt32.toUInt16.toUInt32.toInt32) := by
  have r := c_i2c (x &&& (65535 : Int32))
  refine ⟨?_, ?_⟩ <;> rw [Int32.lt_iff_toInt_lt]
  · have e0 : (0 : Int32).toInt = 0 := rfl
    omega
  · have e1 : (65535 : Int32).toInt = 65535 := rfl
    omega
theorem own_gc {c : Int32} (h : own_h c) : (((own_b0 c &&& (255 : Int32)) <<< ((0 : Int32) &&& 31)) ||| ((own_b1 c &&& (255 : Int32)) <<< ((8 : Int32) &&& 31))).toUInt32.toUInt16.toUInt32.toInt32 = c := by
  have q := own_hI h
  have s0 : (c >>> ((0 : Int32) &&& 31)).toInt = c.toInt / (2 ^ 0 : Nat) := c_ishr c 0 0 rfl
  have s1 : (c >>> ((8 : Int32) &&& 31)).toInt = c.toInt / (2 ^ 8 : Nat) := c_ishr c 8 8 rfl
  have b0 := c_i2b (c >>> ((0 : Int32) &&& 31))
  have b0' := c_i2b ((c >>> ((0 : Int32) &&& 31)).toInt8.toInt32)
  have b1 := c_i2b (c >>> ((8 : Int32) &&& 31))
  have b1' := c_i2b ((c >>> ((8 : Int32) &&& 31)).toInt8.toInt32)
  have m0 : (own_b0 c &&& (255 : Int32)).toInt = (own_b0 c).toInt % (2 ^ 8 : Nat) := c_mask (own_b0 c) 255 8 (by decide) rfl
  have m1 : (own_b1 c &&& (255 : Int32)).toInt = (own_b1 c).toInt % (2 ^ 8 : Nat) := c_mask (own_b1 c) 255 8 (by decide) rfl
  have e0 : (own_b0 c).toInt = ((c >>> ((0 : Int32) &&& 31)).toInt8.toInt32).toInt8.toInt32.toInt := rfl
  have e1 : (own_b1 c).toInt = ((c >>> ((8 : Int32) &&& 31)).toInt8.toInt32).toInt8.toInt32.toInt := rfl
  have l0 := c_ishl (own_b0 c &&& (255 : Int32)) 0 0 rfl
  have l1 := c_ishl (own_b1 c &&& (255 : Int32)) 8 8 rfl
  have g0 := rng32 ((own_b0 c &&& (255 : Int32)) <<< ((0 : Int32) &&& 31))
  have g1 := rng32 ((own_b1 c &&& (255 : Int32)) <<< ((8 : Int32) &&& 31))
  have f0 : ((own_b0 c &&& (255 : Int32)) <<< ((0 : Int32) &&& 31)).toInt = c.toInt % 256 := by omega
  have f1 : ((own_b1 c &&& (255 : Int32)) <<< ((8 : Int32) &&& 31)).toInt = c.toInt / 256 * 256 := by omega
  have o := c_or' ((own_b0 c &&& (255 : Int32)) <<< ((0 : Int32) &&& 31)) ((own_b1 c &&& (255 : Int32)) <<< ((8 : Int32) &&& 31)) 8 (by decide) 256 rfl (by omega) (by omega) (by omega)
  have g := rng32 (((own_b0 c &&& (255 : Int32)) <<< ((0 : Int32) &&& 31)) ||| ((own_b1 c &&& (255 : Int32)) <<< ((8 : Int32) &&& 31)))
  have r := c_i2c (((own_b0 c &&& (255 : Int32)) <<< ((0 : Int32) &&& 31)) ||| ((own_b1 c &&& (255 : Int32)) <<< ((8 : Int32) &&& 31)))
  apply Int32.toInt_inj.mp
  omega
theorem own_37 {c : Int32} (h : ¬ c < (36 : Int32)) : (35 : Int32) < c := by
  rw [Int32.lt_iff_toInt_lt] at h ⊢
  have e0 : (35 : Int32).toInt = 35 := rfl
  have e1 : (36 : Int32).toInt = 36 := rfl
  omega
theorem own_38 {c : Int32} (h : c < (36 : Int32)) : ¬ (35 : Int32) < c := by
  rw [Int32.lt_iff_toInt_lt] at h ⊢
  have e0 : (35 : Int32).toInt = 35 := rfl
  have e1 : (36 : Int32).toInt = 36 := rfl
  omega
theorem own_35 {c : Int32} (h : (35 : Int32) < c) : ¬ c < (36 : Int32) := by
  rw [Int32.lt_iff_toInt_lt] at h ⊢
  have e0 : (35 : Int32).toInt = 35 := rfl
  have e1 : (36 : Int32).toInt = 36 := rfl
  omega
theorem own_36 {c : Int32} (h : ¬ (35 : Int32) < c) : c < (36 : Int32) := by
  rw [Int32.lt_iff_toInt_lt] at h ⊢
  have e0 : (35 : Int32).toInt = 35 := rfl
  have e1 : (36 : Int32).toInt = 36 := rfl
  omega
def own_us : List Int32 → List Value
  | [] => []
  | c :: cs => .int (own_b0 c) :: .int (own_b1 c) :: own_us cs
theorem own_u0 : ∀ (cs : List Int32) (i : Nat), i < cs.length → (own_us cs).getD (2 * i) (.int 0) = .int (own_b0 (cs.getD i 0))
  | [], i, h => absurd h (by simp)
  | c :: cs, 0, _ => rfl
  | c :: cs, i + 1, h => own_u0 cs i (by simpa using h)
theorem own_u1 : ∀ (cs : List Int32) (i : Nat), i < cs.length → (own_us cs).getD (2 * i + 1) (.int 0) = .int (own_b1 (cs.getD i 0))
  | [], i, h => absurd h (by simp)
  | c :: cs, 0, _ => rfl
  | c :: cs, i + 1, h => own_u1 cs i (by simpa using h)
theorem own_dbl {i : Nat} (h : i ≤ 4) : Int32.ofNat i <<< ((1 : Int32) &&& 31) = Int32.ofNat (2 * i) := by
  have q : i = 0 ∨ i = 1 ∨ i = 2 ∨ i = 3 ∨ i = 4 := by omega
  rcases q with rfl | rfl | rfl | rfl | rfl <;> rfl
theorem own_hlf {i : Nat} (h : i ≤ 4) : Int32.ofNat (2 * i) >>> ((1 : Int32) &&& 31) = Int32.ofNat i := by
  have q : i = 0 ∨ i = 1 ∨ i = 2 ∨ i = 3 ∨ i = 4 := by omega
  rcases q with rfl | rfl | rfl | rfl | rfl <;> rfl
/-- every sign above '#' -/
def own_ko : List Int32 → Int32
  | [] => 1
  | c :: cs => if (35 : Int32) < c then own_ko cs else 0
theorem own_ko_get : ∀ (cs : List Int32) (i : Nat), i < cs.length → ¬ (35 : Int32) < cs.getD i 0 → own_ko cs = 0
  | [], i, h, _ => absurd h (by simp)
  | c :: cs, 0, _, q => if_neg q
  | c :: cs, i + 1, h, q => by
    show (if (35 : Int32) < c then own_ko cs else 0) = 0
    rw [own_ko_get cs i (by simpa using h) q]; simp
theorem own_ko_all : ∀ (cs : List Int32), (∀ i, i < cs.length → (35 : Int32) < cs.getD i 0) → own_ko cs = 1
  | [], _ => rfl
  | c :: cs, h => by
    show (if (35 : Int32) < c then own_ko cs else 0) = 1
    have h0 : (35 : Int32) < c := h 0 (by simp)
    rw [if_pos h0, own_ko_all cs fun i hi => h (i + 1) (by simpa using hi)]
theorem own_c8 {c : Int32} (h : own_h c) (q : ¬ (255 : Int32) < c) : ¬ c < 0 ∧ ¬ (255 : Int32) < c := ⟨h.1, q⟩
theorem wdNew {a0 : Array Value} {Z : State} (hw : ∀ d ∈ tables_1, d.before a0 Z = true) : ∀ d ∈ StrChars.Road.words, d.before a0 Z = true := fun d hd => hw d ((by decide +kernel : ∀ d ∈ StrChars.Road.words, d ∈ tables_1) d hd)
theorem wdLen {a0 : Array Value} {Z : State} (hw : ∀ d ∈ tables_1, d.before a0 Z = true) : ∀ d ∈ StrChars.Road.wordsLen, d.before a0 Z = true := fun d hd => hw d ((by decide +kernel : ∀ d ∈ StrChars.Road.wordsLen, d ∈ tables_1) d hd)
theorem wdCh {a0 : Array Value} {Z : State} (hw : ∀ d ∈ tables_1, d.before a0 Z = true) : ∀ d ∈ StrChars.Road.wordsChN, d.before a0 Z = true := fun d hd => hw d ((by decide +kernel : ∀ d ∈ StrChars.Road.wordsChN, d ∈ tables_1) d hd)
theorem d2_0 : decode jdk_42_method_149_code 0 = .ok (.aload_n 0, 1) := by decide +kernel
theorem d2_1 : decode jdk_42_method_149_code 1 = .ok (.invokespecial 1, 3) := by decide +kernel
theorem d2_4 : decode jdk_42_method_149_code 4 = .ok (.iload_n 3, 1) := by decide +kernel
theorem d2_5 : decode jdk_42_method_149_code 5 = .ok (.ifCond .ne 22, 3) := by decide +kernel
theorem d2_8 : decode jdk_42_method_149_code 8 = .ok (.aload_n 0, 1) := by decide +kernel
theorem d2_9 : decode jdk_42_method_149_code 9 = .ok (.ldc 7, 2) := by decide +kernel
theorem d2_11 : decode jdk_42_method_149_code 11 = .ok (.getfield 9, 3) := by decide +kernel
theorem d2_14 : decode jdk_42_method_149_code 14 = .ok (.putfield 9, 3) := by decide +kernel
theorem d2_17 : decode jdk_42_method_149_code 17 = .ok (.aload_n 0, 1) := by decide +kernel
theorem d2_18 : decode jdk_42_method_149_code 18 = .ok (.ldc 7, 2) := by decide +kernel
theorem d2_20 : decode jdk_42_method_149_code 20 = .ok (.getfield 15, 3) := by decide +kernel
theorem d2_23 : decode jdk_42_method_149_code 23 = .ok (.putfield 15, 3) := by decide +kernel
theorem d2_26 : decode jdk_42_method_149_code 26 = .ok (.return_, 1) := by decide +kernel
theorem ef_se4 (m : MethodId) (a : Addr) (b : Addr) : entryFrame m #[(.ref a), (.ref b), (.int 0), (.int 0), .null] 6 = mkF m 0 #[.val (.ref a), .val (.ref b), .val (.int 0), .val (.int 0), .val .null, .unset] [] := by first | (simp [entryFrame, mkF, argsToLocals, Value.category]; done) | rfl
def Q_se4 (Z : State) (a : Addr) (b : Addr) (o2 : Int32) (h0 : Heap) (n0 : Nat) (v : Option Value) (h : Heap) (L : List Loc) : Prop := (∃ t : Addr, ∃ k : ClassId, v = none ∧ Fr n0 L ∧ Keep h0 h [a] ∧ Exa Z h a "java/lang/String" ∧ Fld Z h a "java/lang/String" "coder" "B" (.int 0) ∧ Fld Z h a "java/lang/String" "value" "[B" (.ref t) ∧ Arv Z h t k .byte (Int32.ofNat ([] : List Int32).length) ((([] : List Int32).map (fun c => c.toInt8.toInt32)).map Value.int) (.int 0))
set_option maxRecDepth 65536 in
set_option maxHeartbeats 40000000 in
theorem rm_se4 (l : Launch) (Z : State) (a0 : Array Value) (hw : ∀ d ∈ tables_1, d.before a0 Z = true) (ws : List Jvm.Cond) (a : Addr) (b : Addr) (o2 : Int32) (h0 : Heap) (n0 : Nat) (Z0 : n0 ≤ h0.size) (pf0 : Exa Z h0 a "java/lang/String") (pf1 : Fld Z h0 a "java/lang/String" "value" "[B" .null) (pf2 : Fld Z h0 a "java/lang/String" "coder" "B" (.int o2)) (ga : n0 ≤ a) :
    MetFree l (⟨"java/lang/String", "<init>", "([CIILjava/lang/Void;)V"⟩ : MethodName) (head1 (Jvm.Cond.code (⟨"java/lang/String", "<init>", "([CIILjava/lang/Void;)V"⟩ : MethodName) jdk_42_method_149_code 6 none :: ws) ({ frames := 1, cells := 4, slots := 8, locals := 12 } : Room)) (fun aa U => aa = #[(.ref a), (.ref b), (.int 0), (.int 0), .null] ∧ Z.Warmed39 U.vm ∧ U.heap = h0 ∧ CHv Z consts_1 U.vm h0) (fun _ _ _ _ _ => True) (fun _ U o U' => ∃ v L, o = .returned v ∧ Q_se4 Z a b o2 h0 n0 v U'.heap L ∧ CHr Z consts_1 U.vm U.heap U'.vm U'.heap ∧ ReturnedEndW U o U' L ({ frames := 1, cells := 4, slots := 8, locals := 12 } : Room).cells ({ frames := 1, cells := 4, slots := 8, locals := 12 } : Room).slots) := by
  refine MetFree.of_bodySF (plainFor_of_name pn_java_lang_String) hisR ?_
  intro p e s m args below meth c s₁ Bd hml0 hP hK
  obtain ⟨rfl, hZ, hh, hH⟩ := hP
  have hx := Bd.exec
  have hby := Bd.bytes
  have hlk : meth.locks = false := BodyLoose.notSynchronized Bd
  have hml : c.maxLocals = 6 := hml0
  have hown : s.vm.findClass "java/lang/String" = some m.cls := findClass_of_methodNamed Bd.named
  have hnm := (name_of_methodNamed Bd.named Bd.method).1
  have X0 : Stand p l e ({ frames := 1, cells := 4, slots := 8, locals := 12 } : Room) (s.setVm s.vm) m #[(.ref a), (.ref b), (.int 0), (.int 0), .null] below meth c s₁ [] 0 0 := Stand.of_body Bd
  have e0 : s₁.heap = h0 := by rw [← hh, Bd.state]; rfl
  have N0 := Fr.nil n0
  show Gl p.tables e below (EndH s Z consts_1 (Q_se4 Z a b o2 h0 n0) ({ frames := 1, cells := 4, slots := 8, locals := 12 } : Room).cells ({ frames := 1, cells := 4, slots := 8, locals := 12 } : Room).slots) _
  refine Gl.cast (ef_se4 m a b) ?_
  show Gl p.tables e below _ (s₁.setTop (mkF m 0 #[.val (.ref a), .val (.ref b), .val (.int 0), .val (.int 0), .val .null, .unset] []))
  have hS0 : s.Since s.vm s₁.heap.size := (State.WarmedH.refl s).since _
  have C0 : CHr Z consts_1 s.vm h0 s.vm h0 := CHr.refl hH
  refine Gl.st (fun _ kq => XS.aloadN X0.here hx rfl (hb hby d2_0) rfl rfl kq) ?_
  show Gl p.tables e below _ (s₁.setTop (mkF m 1 #[.val (.ref a), .val (.ref b), .val (.int 0), .val (.int 0), .val .null, .unset] [(.ref a)]))
  obtain ⟨T1, X1, e1, st1⟩ := initO X0 hx hZ hown (tw hw 13 rfl) (tw hw 14 rfl) (tw hw 15 rfl) e0 (g := (mkF m 1 #[.val (.ref a), .val (.ref b), .val (.int 0), .val (.int 0), .val .null, .unset] [(.ref a)])) rfl (by rw [hml]; rfl) rfl (hb hby d2_1) (by decide) (W := 0) (by show 2 * 0 + _ ≤ _; exact Nat.le_of_eq rfl) (by decide)
  refine Gl.st st1 ?_
  show Gl p.tables e below _ (T1.setTop (mkF m 4 #[.val (.ref a), .val (.ref b), .val (.int 0), .val (.int 0), .val .null, .unset] []))
  refine Gl.st (fun _ kq => XS.iloadN X1.here hx rfl (hb hby d2_4) rfl kq) ?_
  show Gl p.tables e below _ (T1.setTop (mkF m 5 #[.val (.ref a), .val (.ref b), .val (.int 0), .val (.int 0), .val .null, .unset] [(.int 0)]))
  refine Gl.st (fun _ kq => XS.ifNo X1.here hx rfl (hb hby d2_5) rfl ((if0 _ _).trans (teq ((by decide) : (0 : Int32) = (0 : Int32))).2) kq) ?_
  show Gl p.tables e below _ (T1.setTop (mkF m 8 #[.val (.ref a), .val (.ref b), .val (.int 0), .val (.int 0), .val .null, .unset] []))
  refine Gl.st (fun _ kq => XS.aloadN X1.here hx rfl (hb hby d2_8) rfl rfl kq) ?_
  show Gl p.tables e below _ (T1.setTop (mkF m 9 #[.val (.ref a), .val (.ref b), .val (.int 0), .val (.int 0), .val .null, .unset] [(.ref a)]))
  obtain ⟨b2, T2, h2, k2, t2, kc2, X2, e2, E2, S2, q2, hZ2, ho2, A2, F2, G2, V2, la2, lb2, R2, L2, sa2, st2⟩ := ldcCH X1 hx hZ hown (tw hw 16 rfl) (strW hw) e1 hS0 (Nat.le_of_eq (congrArg Array.size e0)) (elW hw) (by decide) C0.1 (vs := []) (z := (0 : Int32)) (litc_16) (by decide) (by decide) (g := (mkF m 9 #[.val (.ref a), .val (.ref b), .val (.int 0), .val (.int 0), .val .null, .unset] [(.ref a)])) rfl (hb hby d2_9) (n := 0) (by decide) (by decide) (by decide) (by decide)
  refine Gl.st st2 ?_
  have C3 : CHr Z consts_1 s.vm h0 T2.vm h2 := C0.trans R2
  have V2 : Arv Z h2 t2 kc2 .byte (Int32.ofNat ([] : List Int32).length) ((([] : List Int32).map (fun c => c.toInt8.toInt32)).map Value.int) (.int 0) := V2
  have f4 : Exa Z h2 a "java/lang/String" := (pf0.ext E2)
  have f5 : Fld Z h2 a "java/lang/String" "value" "[B" .null := (pf1.ext E2)
  have Sf6 : Safe Z consts_1 T2.vm h2 a := (safe_nul hZ2.alike f4 f5)
  have d7 := sa2 a Sf6
  show Gl p.tables e below _ (T2.setTop (mkF m 11 #[.val (.ref a), .val (.ref b), .val (.int 0), .val (.int 0), .val .null, .unset] [(.ref b2), (.ref a)]))
  obtain ⟨T8, X8, e8, st8⟩ := getF X2 hx hZ2 ho2 (host := "") (Or.inl (tw hw 22 rfl)) Via.refl e2 G2 (g := (mkF m 11 #[.val (.ref a), .val (.ref b), .val (.int 0), .val (.int 0), .val .null, .unset] [(.ref b2), (.ref a)])) rfl rfl (hb hby d2_11)
  refine Gl.st st8 ?_
  show Gl p.tables e below _ (T8.setTop (mkF m 14 #[.val (.ref a), .val (.ref b), .val (.int 0), .val (.int 0), .val .null, .unset] [(.ref t2), (.ref a)]))
  obtain ⟨T9, h9, X9, e9, W9, st9⟩ := putF X8 hx hZ2 ho2 (host := "") (Or.inl (tw hw 22 rfl)) Via.refl e8 f5 f4 (Or.inr ⟨(tw hw 18 rfl), rfl, hnm⟩) (tw hw 3 rfl) (ty := (.array .byte)) (by decide) rfl rfl (g := (mkF m 14 #[.val (.ref a), .val (.ref b), .val (.int 0), .val (.int 0), .val .null, .unset] [(.ref t2), (.ref a)])) rfl rfl (hb hby d2_14)
  refine Gl.st st9 ?_
  have C10 : CHr Z consts_1 s.vm h0 T2.vm h9 := C3.trans (CHr.wr W9 Sf6 C3.1)
  have F9 : Fld Z h9 a "java/lang/String" "value" "[B" (.ref t2) := Fld.same W9 f5
  have N9 := Fr.snoc X9 N0 ga
  show Gl p.tables e below _ (T9.setTop (mkF m 17 #[.val (.ref a), .val (.ref b), .val (.int 0), .val (.int 0), .val .null, .unset] []))
  refine Gl.st (fun _ kq => XS.aloadN X9.here hx rfl (hb hby d2_17) rfl rfl kq) ?_
  show Gl p.tables e below _ (T9.setTop (mkF m 18 #[.val (.ref a), .val (.ref b), .val (.int 0), .val (.int 0), .val .null, .unset] [(.ref a)]))
  obtain ⟨b11, T11, h11, k11, t11, kc11, X11, e11, E11, S11, q11, hZ11, ho11, A11, F11, G11, V11, la11, lb11, R11, L11, sa11, st11⟩ := ldcCH X9 hx hZ2 ho2 (tw hw 16 rfl) (strW hw) e9 S2 (Nat.le_trans q2 (Keep.of_wr W9).1) (elW hw) (by decide) C10.1 (vs := []) (z := (0 : Int32)) (litc_16) (by decide) (by decide) (g := (mkF m 18 #[.val (.ref a), .val (.ref b), .val (.int 0), .val (.int 0), .val .null, .unset] [(.ref a)])) rfl (hb hby d2_18) (n := 0) (by decide) (by decide) (by decide) (by decide)
  refine Gl.st st11 ?_
  have C12 : CHr Z consts_1 s.vm h0 T11.vm h11 := C10.trans R11
  have V11 : Arv Z h11 t11 kc11 .byte (Int32.ofNat ([] : List Int32).length) ((([] : List Int32).map (fun c => c.toInt8.toInt32)).map Value.int) (.int 0) := V11
  have Sf13 : Safe Z consts_1 T11.vm h11 a := (CHr.safe R11 (Nat.lt_of_lt_of_le (Nat.lt_of_lt_of_le pf0.lt E2.1) (Keep.of_wr W9).1) (Safe.wr W9 Sf6 C3.1 Sf6))
  have d14 := sa11 a Sf13
  show Gl p.tables e below _ (T11.setTop (mkF m 20 #[.val (.ref a), .val (.ref b), .val (.int 0), .val (.int 0), .val .null, .unset] [(.ref b11), (.ref a)]))
  obtain ⟨T15, X15, e15, st15⟩ := getF X11 hx hZ11 ho11 (host := "") (Or.inl (tw hw 23 rfl)) Via.refl e11 F11 (g := (mkF m 20 #[.val (.ref a), .val (.ref b), .val (.int 0), .val (.int 0), .val .null, .unset] [(.ref b11), (.ref a)])) rfl rfl (hb hby d2_20)
  refine Gl.st st15 ?_
  show Gl p.tables e below _ (T15.setTop (mkF m 23 #[.val (.ref a), .val (.ref b), .val (.int 0), .val (.int 0), .val .null, .unset] [(.int 0), (.ref a)]))
  have f16 : Fld Z h11 a "java/lang/String" "coder" "B" (.int o2) := (((pf2.ext E2).other W9 (Or.inr (slot_ne (Or.inr (tw hw 19 rfl)) (Or.inr (tw hw 18 rfl)) (by decide) (t := .byte) (t' := (.array .byte)) (by decide) (by decide)))).ext E11)
  have f17 : Exa Z h11 a "java/lang/String" := ((f4.wr W9).ext E11)
  obtain ⟨T18, h18, X18, e18, W18, st18⟩ := putFN X15 hx hZ11 ho11 (tw hw 23 rfl) Via.refl e15 f16 f17 (Or.inr ⟨(tw hw 19 rfl), rfl, hnm⟩) (tw hw 3 rfl) (ty := .byte) (v' := (.int 0)) (by decide) rfl (by decide) (g := (mkF m 23 #[.val (.ref a), .val (.ref b), .val (.int 0), .val (.int 0), .val .null, .unset] [(.int 0), (.ref a)])) rfl rfl (hb hby d2_23)
  refine Gl.st st18 ?_
  have C19 : CHr Z consts_1 s.vm h0 T11.vm h18 := C12.trans (CHr.wr W18 Sf13 C12.1)
  have F18 : Fld Z h18 a "java/lang/String" "coder" "B" (.int 0) := Fld.same W18 f16
  have N18 := Fr.snoc X18 N9 ga
  show Gl p.tables e below _ (T18.setTop (mkF m 26 #[.val (.ref a), .val (.ref b), .val (.int 0), .val (.int 0), .val .null, .unset] []))
  have K20 : Keep h0 h18 [a] := (((((Keep.refl h0 [a]).ext E2).wr W9 (Or.inl (List.mem_of_getElem? (i := 0) rfl))).ext E11).wr W18 (Or.inl (List.mem_of_getElem? (i := 0) rfl)))
  have f21 : Exa Z h18 a "java/lang/String" := (f17.wr W18)
  have f22 : Fld Z h18 a "java/lang/String" "value" "[B" (.ref t2) := ((F9.ext E11).other W18 (Or.inr (slot_ne (Or.inr (tw hw 18 rfl)) (Or.inr (tw hw 19 rfl)) (by decide) (t := (.array .byte)) (t' := .byte) (by decide) (by decide))))
  have f23 : Arv Z h18 t2 kc2 .byte (Int32.ofNat ([] : List Int32).length) ((([] : List Int32).map (fun c => c.toInt8.toInt32)).map Value.int) (.int 0) := (((V2.other W9 (Ne.symm d7.2)).ext E11).other W18 (Ne.symm d7.2))
  exact Gl.ret0H X18 hx S11 (Nat.le_trans (Nat.le_trans q11 (Keep.of_wr W18).1) (Nat.le_of_eq (congrArg Array.size e18).symm)) (by rw [hh, e18]; exact C19.trans (CHv.at X18 hZ11 (elW hw) C19.1)) Bd.returns (hb hby d2_26) hlk (by decide) (by decide) (by rw [e18]; exact ⟨t2, kc2, rfl, N18, K20, f21, F18, f22, f23⟩)
theorem d1_0 : decode jdk_42_method_3_code 0 = .ok (.aload_n 0, 1) := by decide +kernel
theorem d1_1 : decode jdk_42_method_3_code 1 = .ok (.aload_n 1, 1) := by decide +kernel
theorem d1_2 : decode jdk_42_method_3_code 2 = .ok (.iconst 0, 1) := by decide +kernel
theorem d1_3 : decode jdk_42_method_3_code 3 = .ok (.aload_n 1, 1) := by decide +kernel
theorem d1_4 : decode jdk_42_method_3_code 4 = .ok (.arraylength, 1) := by decide +kernel
theorem d1_5 : decode jdk_42_method_3_code 5 = .ok (.aconst_null, 1) := by decide +kernel
theorem d1_6 : decode jdk_42_method_3_code 6 = .ok (.invokespecial 27, 3) := by decide +kernel
theorem d1_9 : decode jdk_42_method_3_code 9 = .ok (.return_, 1) := by decide +kernel
theorem ef_se1 (m : MethodId) (a : Addr) (b : Addr) : entryFrame m #[(.ref a), (.ref b)] 2 = mkF m 0 #[.val (.ref a), .val (.ref b)] [] := by first | (simp [entryFrame, mkF, argsToLocals, Value.category]; done) | rfl
def Q_se1 (Z : State) (a : Addr) (b : Addr) (o2 : Int32) (kb : ClassId) (h0 : Heap) (n0 : Nat) (v : Option Value) (h : Heap) (L : List Loc) : Prop := (∃ t : Addr, ∃ k : ClassId, v = none ∧ Fr n0 L ∧ Keep h0 h [a] ∧ Exa Z h a "java/lang/String" ∧ Fld Z h a "java/lang/String" "coder" "B" (.int 0) ∧ Fld Z h a "java/lang/String" "value" "[B" (.ref t) ∧ Arv Z h t k .byte (Int32.ofNat ([] : List Int32).length) ((([] : List Int32).map (fun c => c.toInt8.toInt32)).map Value.int) (.int 0))
set_option maxRecDepth 65536 in
set_option maxHeartbeats 40000000 in
theorem rm_se1 (l : Launch) (Z : State) (a0 : Array Value) (hw : ∀ d ∈ tables_1, d.before a0 Z = true) (ws : List Jvm.Cond) (a : Addr) (b : Addr) (o2 : Int32) (kb : ClassId) (h0 : Heap) (n0 : Nat) (Z0 : n0 ≤ h0.size) (pf0 : Exa Z h0 a "java/lang/String") (pf1 : Fld Z h0 a "java/lang/String" "value" "[B" .null) (pf2 : Fld Z h0 a "java/lang/String" "coder" "B" (.int o2)) (pf3 : Arv Z h0 b kb .char (0 : Int32) [] (.int 0)) (ga : n0 ≤ a) :
    MetFree l (⟨"java/lang/String", "<init>", "([C)V"⟩ : MethodName) (head1 (Jvm.Cond.code (⟨"java/lang/String", "<init>", "([C)V"⟩ : MethodName) jdk_42_method_3_code 2 none :: ws) ({ frames := 2, cells := 4, slots := 8, locals := 29 } : Room)) (fun aa U => aa = #[(.ref a), (.ref b)] ∧ Z.Warmed39 U.vm ∧ U.heap = h0 ∧ CHv Z consts_1 U.vm h0) (fun _ _ _ _ _ => True) (fun _ U o U' => ∃ v L, o = .returned v ∧ Q_se1 Z a b o2 kb h0 n0 v U'.heap L ∧ CHr Z consts_1 U.vm U.heap U'.vm U'.heap ∧ ReturnedEndW U o U' L ({ frames := 2, cells := 4, slots := 8, locals := 29 } : Room).cells ({ frames := 2, cells := 4, slots := 8, locals := 29 } : Room).slots) := by
  refine MetFree.of_bodySF (plainFor_of_name pn_java_lang_String) hisR ?_
  intro p e s m args below meth c s₁ Bd hml0 hP hK
  obtain ⟨rfl, hZ, hh, hH⟩ := hP
  have hx := Bd.exec
  have hby := Bd.bytes
  have hlk : meth.locks = false := BodyLoose.notSynchronized Bd
  have hml : c.maxLocals = 2 := hml0
  have hown : s.vm.findClass "java/lang/String" = some m.cls := findClass_of_methodNamed Bd.named
  have hnm := (name_of_methodNamed Bd.named Bd.method).1
  have X0 : Stand p l e ({ frames := 2, cells := 4, slots := 8, locals := 29 } : Room) (s.setVm s.vm) m #[(.ref a), (.ref b)] below meth c s₁ [] 0 0 := Stand.of_body Bd
  have e0 : s₁.heap = h0 := by rw [← hh, Bd.state]; rfl
  have N0 := Fr.nil n0
  show Gl p.tables e below (EndH s Z consts_1 (Q_se1 Z a b o2 kb h0 n0) ({ frames := 2, cells := 4, slots := 8, locals := 29 } : Room).cells ({ frames := 2, cells := 4, slots := 8, locals := 29 } : Room).slots) _
  refine Gl.cast (ef_se1 m a b) ?_
  show Gl p.tables e below _ (s₁.setTop (mkF m 0 #[.val (.ref a), .val (.ref b)] []))
  have hS0 : s.Since s.vm s₁.heap.size := (State.WarmedH.refl s).since _
  have C0 : CHr Z consts_1 s.vm h0 s.vm h0 := CHr.refl hH
  refine Gl.st (fun _ kq => XS.aloadN X0.here hx rfl (hb hby d1_0) rfl rfl kq) ?_
  refine Gl.st (fun _ kq => XS.aloadN X0.here hx rfl (hb hby d1_1) rfl rfl kq) ?_
  refine Gl.st (fun _ kq => XS.iconst X0.here hx rfl (hb hby d1_2) kq) ?_
  refine Gl.st (fun _ kq => XS.aloadN X0.here hx rfl (hb hby d1_3) rfl rfl kq) ?_
  show Gl p.tables e below _ (s₁.setTop (mkF m 4 #[.val (.ref a), .val (.ref b)] [(.ref b), (.int 0), (.ref b), (.ref a)]))
  obtain ⟨c1, a1, q1, S1, M1, H1, G1⟩ := id pf3
  refine Gl.st (fun _ kq => X0.arraylength hx (by rw [e0]; exact a1.1) (State.isArrayOf_alike hZ.alike a1.2.1) (g := (mkF m 4 #[.val (.ref a), .val (.ref b)] [(.ref b), (.int 0), (.ref b), (.ref a)])) rfl rfl (hb hby d1_4) _ kq) ?_
  rw [len_of S1 M1]
  show Gl p.tables e below _ (s₁.setTop (mkF m 5 #[.val (.ref a), .val (.ref b)] [(.int 0), (.int 0), (.ref b), (.ref a)]))
  refine Gl.st (fun _ kq => XS.aconstNull X0.here hx rfl (hb hby d1_5) kq) ?_
  show Gl p.tables e below _ (s₁.setTop (mkF m 6 #[.val (.ref a), .val (.ref b)] [.null, (.int 0), (.int 0), (.ref b), (.ref a)]))
  obtain ⟨_, _, ⟨T4, L4, k4, n4⟩, -, X4, S4, g4, ⟨Lc4, hQ4, l4, y4, z4, R4⟩, st4⟩ := X0.specialBackS hx (y := (⟨"java/lang/String", "<init>", "([CIILjava/lang/Void;)V"⟩ : MethodName)) rfl hown (mvT hZ (tw hw 9 rfl)) (mvT hZ (tw hw 10 rfl)) (mvT hZ (tw hw 12 rfl)) (by decide) (backOfSH (W := 0) (rm_se4 l Z a0 hw [] (a) (b) (o2) h0 n0 Z0 pf0 pf1 pf2 ga) hZ (tw hw 12 rfl) (tw hw 4 rfl) (by decide) (by decide) (elW hw) C0.1) (g := (mkF m 6 #[.val (.ref a), .val (.ref b)] [.null, (.int 0), (.int 0), (.ref b), (.ref a)])) rfl (by rw [hml]; rfl) (Steps.refl _) (a := a) (argsL := [(.ref b), (.int 0), (.int 0), .null]) (rest := []) (lenOf pd___CIILjava_lang_Void__V rfl) rfl (by show 2 * 0 + _ ≤ _; exact Nat.le_of_eq rfl) (hb hby d1_6) (fun _ _ => ⟨rfl, e0, (by decide : 0 + 4 ≤ _), (by decide : 0 + 8 ≤ _)⟩)
  dsimp only [Pt.U, Pt.locs, Pt.cells, Pt.slots] at X4 l4 y4 z4 st4 hQ4 R4
  subst l4 y4 z4
  obtain ⟨X4, S4, hZ4, ho4⟩ := rebS hS0 (Nat.le_trans (Nat.le_of_eq (congrArg Array.size e0)) (Nat.le_of_eq (congrArg Array.size e0).symm)) X4 S4 g4 hZ hown
  obtain ⟨v2, v3, rfl, N4, K4, q4_0, q4_1, q4_2, q4_3⟩ := hQ4
  have C5 : CHr Z consts_1 s.vm h0 T4.vm T4.heap := C0.trans R4
  have M4 := Fr.app N0 N4
  refine Gl.to st4 ?_
  show Gl p.tables e below _ (T4.setTop (mkF m 9 #[.val (.ref a), .val (.ref b)] []))
  show Gl p.tables e below _ (T4.setTop (mkF m 9 #[.val (.ref a), .val (.ref b)] []))
  have K6 : Keep h0 T4.heap [a] := ((Keep.refl h0 [a]).trans K4 (allS (Or.inl (List.mem_of_getElem? (i := 0) rfl)) all0))
  exact Gl.ret0H X4 hx S4 (Nat.le_refl _) (by rw [hh]; exact C5.trans (CHv.at X4 hZ4 (elW hw) C5.1)) Bd.returns (hb hby d1_9) hlk (by decide) (by decide) ⟨v2, v3, rfl, M4, K6, q4_0, q4_1, q4_2, q4_3⟩
theorem d15_0 : decode jdk_41_method_11_code 0 = .ok (.iload_n 0, 1) := by decide +kernel
theorem d15_1 : decode jdk_41_method_11_code 1 = .ok (.ifCond .lt 8, 3) := by decide +kernel
theorem d15_4 : decode jdk_41_method_11_code 4 = .ok (.iload_n 0, 1) := by decide +kernel
theorem d15_5 : decode jdk_41_method_11_code 5 = .ok (.iload_n 1, 1) := by decide +kernel
theorem d15_6 : decode jdk_41_method_11_code 6 = .ok (.if_icmp .lt 10, 3) := by decide +kernel
theorem d15_16 : decode jdk_41_method_11_code 16 = .ok (.iload_n 0, 1) := by decide +kernel
theorem d15_17 : decode jdk_41_method_11_code 17 = .ok (.ireturn, 1) := by decide +kernel
theorem ef_pci (m : MethodId) (x : Int32) (y : Int32) (fm : Value) (hfm : fm.isRef = true) : entryFrame m #[(.int x), (.int y), fm] 3 = mkF m 0 #[.val (.int x), .val (.int y), .val fm] [] := by simp [entryFrame, mkF, argsToLocals, refc hfm, show ∀ a, (Value.ref a).category = 1 from fun _ => rfl, show ∀ a, (Value.int a).category = 1 from fun _ => rfl]
def Q_pci (Z : State) (x : Int32) (y : Int32) (fm : Value) (h0 : Heap) (n0 : Nat) (v : Option Value) (h : Heap) (L : List Loc) : Prop := (v = some (.int x) ∧ Fr n0 L ∧ h = h0)
set_option maxRecDepth 65536 in
set_option maxHeartbeats 40000000 in
theorem rm_pci (l : Launch) (Z : State) (a0 : Array Value) (hw : ∀ d ∈ tables_1, d.before a0 Z = true) (ws : List Jvm.Cond) (x : Int32) (y : Int32) (fm : Value) (h0 : Heap) (n0 : Nat) (Z0 : n0 ≤ h0.size) (hx0 : ¬ (x < (0 : Int32))) (hxy : x < y) (hf : fm.isRef = true) :
    MetFree l (⟨"jdk/internal/util/Preconditions", "checkIndex", "(IILjava/util/function/BiFunction;)I"⟩ : MethodName) (head1 (Jvm.Cond.code (⟨"jdk/internal/util/Preconditions", "checkIndex", "(IILjava/util/function/BiFunction;)I"⟩ : MethodName) jdk_41_method_11_code 3 (some .int) :: ws) ({ frames := 0, cells := 0, slots := 0, locals := 0 } : Room)) (fun aa U => aa = #[(.int x), (.int y), fm] ∧ Z.Warmed39 U.vm ∧ U.heap = h0) (fun _ _ _ _ _ => True) (fun _ U o U' => ∃ v L, o = .returned v ∧ Q_pci Z x y fm h0 n0 v U'.heap L ∧ FrameEnd U o U' L ({ frames := 0, cells := 0, slots := 0, locals := 0 } : Room).cells ({ frames := 0, cells := 0, slots := 0, locals := 0 } : Room).slots) := by
  refine MetFree.of_bodySF (plainFor_of_name pn_jdk_internal_util_Preconditions) hisR ?_
  intro p e s m args below meth c s₁ Bd hml0 hP hK
  obtain ⟨rfl, hZ, hh⟩ := hP
  have hx := Bd.exec
  have hby := Bd.bytes
  have hlk : meth.locks = false := BodyLoose.notSynchronized Bd
  have hml : c.maxLocals = 3 := hml0
  have hown : s.vm.findClass "jdk/internal/util/Preconditions" = some m.cls := findClass_of_methodNamed Bd.named
  have hnm := (name_of_methodNamed Bd.named Bd.method).1
  have X0 : Stand p l e ({ frames := 0, cells := 0, slots := 0, locals := 0 } : Room) s m #[(.int x), (.int y), fm] below meth c s₁ [] 0 0 := Stand.of_body Bd
  have e0 : s₁.heap = h0 := by rw [← hh, Bd.state]; rfl
  have N0 := Fr.nil n0
  show Gl p.tables e below (EndN s (Q_pci Z x y fm h0 n0) ({ frames := 0, cells := 0, slots := 0, locals := 0 } : Room).cells ({ frames := 0, cells := 0, slots := 0, locals := 0 } : Room).slots) _
  refine Gl.cast (ef_pci m x y fm hf) ?_
  show Gl p.tables e below _ (s₁.setTop (mkF m 0 #[.val (.int x), .val (.int y), .val fm] []))
  refine Gl.st (fun _ kq => XS.iloadN X0.here hx rfl (hb hby d15_0) rfl kq) ?_
  show Gl p.tables e below _ (s₁.setTop (mkF m 1 #[.val (.int x), .val (.int y), .val fm] [(.int x)]))
  refine Gl.st (fun _ kq => XS.ifNo X0.here hx rfl (hb hby d15_1) rfl ((if0 _ _).trans (flt (hx0 : ¬ (x < (0 : Int32)))).1) kq) ?_
  show Gl p.tables e below _ (s₁.setTop (mkF m 4 #[.val (.int x), .val (.int y), .val fm] []))
  refine Gl.st (fun _ kq => XS.iloadN X0.here hx rfl (hb hby d15_4) rfl kq) ?_
  refine Gl.st (fun _ kq => XS.iloadN X0.here hx rfl (hb hby d15_5) rfl kq) ?_
  show Gl p.tables e below _ (s₁.setTop (mkF m 6 #[.val (.int x), .val (.int y), .val fm] [(.int y), (.int x)]))
  refine Gl.st (fun _ kq => XS.icmpYes X0.here hx rfl (pc0 := 6) (pc' := 16) rfl (hb hby d15_6) rfl (tlt (hxy : x < y)).1 (by decide) (by decide) kq) ?_
  show Gl p.tables e below _ (s₁.setTop (mkF m 16 #[.val (.int x), .val (.int y), .val fm] []))
  refine Gl.st (fun _ kq => XS.iloadN X0.here hx rfl (hb hby d15_16) rfl kq) ?_
  exact Gl.retI X0 hx Bd.returns (hb hby d15_17) hlk (by decide) (by decide) (by rw [e0]; exact ⟨rfl, N0, rfl⟩)
theorem d14_0 : decode jdk_42_method_155_code 0 = .ok (.iload_n 0, 1) := by decide +kernel
theorem d14_1 : decode jdk_42_method_155_code 1 = .ok (.iload_n 1, 1) := by decide +kernel
theorem d14_2 : decode jdk_42_method_155_code 2 = .ok (.getstatic 1053, 3) := by decide +kernel
theorem d14_5 : decode jdk_42_method_155_code 5 = .ok (.invokestatic 1059, 3) := by decide +kernel
theorem d14_8 : decode jdk_42_method_155_code 8 = .ok (.pop, 1) := by decide +kernel
theorem d14_9 : decode jdk_42_method_155_code 9 = .ok (.return_, 1) := by decide +kernel
theorem ef_sci (m : MethodId) (x : Int32) (y : Int32) : entryFrame m #[(.int x), (.int y)] 2 = mkF m 0 #[.val (.int x), .val (.int y)] [] := by first | (simp [entryFrame, mkF, argsToLocals, Value.category]; done) | rfl
def Q_sci (Z : State) (x : Int32) (y : Int32) (Y3 : Value) (h0 : Heap) (n0 : Nat) (v : Option Value) (h : Heap) (L : List Loc) : Prop := (v = none ∧ Fr n0 L ∧ h = h0)
set_option maxRecDepth 65536 in
set_option maxHeartbeats 40000000 in
theorem rm_sci (l : Launch) (Z : State) (a0 : Array Value) (hw : ∀ d ∈ tables_1, d.before a0 Z = true) (ws : List Jvm.Cond) (x : Int32) (y : Int32) (Y3 : Value) (h0 : Heap) (n0 : Nat) (Z0 : n0 ≤ h0.size) (pf0 : Old Z n0 h0) (hx0 : ¬ (x < (0 : Int32))) (hxy : x < y) (O4 : Sta Z Z.heap "jdk/internal/util/Preconditions" "SIOOBE_FORMATTER" "Ljava/util/function/BiFunction;" Y3) (rG3 : Y3.isRef = true) :
    MetFree l (⟨"java/lang/String", "checkIndex", "(II)V"⟩ : MethodName) (head1 (Jvm.Cond.code (⟨"java/lang/String", "checkIndex", "(II)V"⟩ : MethodName) jdk_42_method_155_code 2 none :: ws) ({ frames := 1, cells := 0, slots := 0, locals := 14 } : Room)) (fun aa U => aa = #[(.int x), (.int y)] ∧ Z.Warmed39 U.vm ∧ U.heap = h0) (fun _ _ _ _ _ => True) (fun _ U o U' => ∃ v L, o = .returned v ∧ Q_sci Z x y Y3 h0 n0 v U'.heap L ∧ FrameEnd U o U' L ({ frames := 1, cells := 0, slots := 0, locals := 14 } : Room).cells ({ frames := 1, cells := 0, slots := 0, locals := 14 } : Room).slots) := by
  refine MetFree.of_bodySF (plainFor_of_name pn_java_lang_String) hisR ?_
  intro p e s m args below meth c s₁ Bd hml0 hP hK
  obtain ⟨rfl, hZ, hh⟩ := hP
  have hx := Bd.exec
  have hby := Bd.bytes
  have hlk : meth.locks = false := BodyLoose.notSynchronized Bd
  have hml : c.maxLocals = 2 := hml0
  have hown : s.vm.findClass "java/lang/String" = some m.cls := findClass_of_methodNamed Bd.named
  have hnm := (name_of_methodNamed Bd.named Bd.method).1
  have X0 : Stand p l e ({ frames := 1, cells := 0, slots := 0, locals := 14 } : Room) s m #[(.int x), (.int y)] below meth c s₁ [] 0 0 := Stand.of_body Bd
  have e0 : s₁.heap = h0 := by rw [← hh, Bd.state]; rfl
  have N0 := Fr.nil n0
  show Gl p.tables e below (EndN s (Q_sci Z x y Y3 h0 n0) ({ frames := 1, cells := 0, slots := 0, locals := 14 } : Room).cells ({ frames := 1, cells := 0, slots := 0, locals := 14 } : Room).slots) _
  refine Gl.cast (ef_sci m x y) ?_
  show Gl p.tables e below _ (s₁.setTop (mkF m 0 #[.val (.int x), .val (.int y)] []))
  refine Gl.st (fun _ kq => XS.iloadN X0.here hx rfl (hb hby d14_0) rfl kq) ?_
  refine Gl.st (fun _ kq => XS.iloadN X0.here hx rfl (hb hby d14_1) rfl kq) ?_
  show Gl p.tables e below _ (s₁.setTop (mkF m 2 #[.val (.int x), .val (.int y)] [(.int y), (.int x)]))
  obtain ⟨T1, X1, e1, st1⟩ := getS2 X0 hx hZ hown (host := "") (Or.inl (tw hw 70 rfl)) Via.refl e0 (O4.ext pf0.2) (g := (mkF m 2 #[.val (.int x), .val (.int y)] [(.int y), (.int x)])) rfl (hb hby d14_2)
  refine Gl.st st1 ?_
  show Gl p.tables e below _ (T1.setTop (mkF m 5 #[.val (.int x), .val (.int y)] [Y3, (.int y), (.int x)]))
  obtain ⟨_, _, ⟨T2, L2, k2, n2⟩, -, X2, ⟨Lc2, hQ2, l2, y2, z2⟩, st2⟩ := Jvm.LawKit.callS X1 hx (y := (⟨"jdk/internal/util/Preconditions", "checkIndex", "(IILjava/util/function/BiFunction;)I"⟩ : MethodName)) hown (mvT hZ (tw hw 72 rfl)) (mvT hZ (tw hw 73 rfl)) (mvT hZ (tw hw 71 rfl)) (mvT hZ (tw hw 74 rfl)) (by decide) (backOf (W := 0) (rm_pci l Z a0 hw [] (x) (y) (Y3) h0 n0 Z0 hx0 hxy rG3) hZ (tw hw 74 rfl) (tw hw 71 rfl) (by decide) (by decide)) (g := (mkF m 5 #[.val (.int x), .val (.int y)] [Y3, (.int y), (.int x)])) rfl (by rw [hml]; rfl) (argsL := [(.int x), (.int y), Y3]) (rest := []) (lenOf pd__IILjava_util_function_BiFunction__I rfl) rfl (by show 2 * 0 + _ ≤ _; exact Nat.le_of_eq rfl) (hb hby d14_5) (fun _ _ => ⟨rfl, e1, (by decide : 0 + 0 ≤ _), (by decide : 0 + 0 ≤ _)⟩)
  dsimp only [Pt.U, Pt.locs, Pt.cells, Pt.slots] at X2 l2 y2 z2 st2 hQ2
  subst l2 y2 z2
  obtain ⟨rfl, N2, e2⟩ := hQ2
  have M2 := Fr.app N0 N2
  refine Gl.st st2 ?_
  show Gl p.tables e below _ (T2.setTop (mkF m 8 #[.val (.int x), .val (.int y)] [(.int x)]))
  show Gl p.tables e below _ (T2.setTop (mkF m 8 #[.val (.int x), .val (.int y)] [(.int x)]))
  refine Gl.st (fun _ kq => XS.pop X2.here hx rfl (hb hby d14_8) rfl rfl kq) ?_
  show Gl p.tables e below _ (T2.setTop (mkF m 9 #[.val (.int x), .val (.int y)] []))
  exact Gl.ret0 X2 hx Bd.returns (hb hby d14_9) hlk (by decide) (by decide) (by rw [e2]; exact ⟨rfl, M2, rfl⟩)
theorem d12_0 : decode jdk_42_method_154_code 0 = .ok (.getstatic 38, 3) := by decide +kernel
theorem d12_3 : decode jdk_42_method_154_code 3 = .ok (.ifCond .eq 14, 3) := by decide +kernel
theorem d12_6 : decode jdk_42_method_154_code 6 = .ok (.aload_n 0, 1) := by decide +kernel
theorem d12_7 : decode jdk_42_method_154_code 7 = .ok (.getfield 15, 3) := by decide +kernel
theorem d12_10 : decode jdk_42_method_154_code 10 = .ok (.ifCond .ne 7, 3) := by decide +kernel
theorem d12_17 : decode jdk_42_method_154_code 17 = .ok (.iconst 0, 1) := by decide +kernel
theorem d12_18 : decode jdk_42_method_154_code 18 = .ok (.ireturn, 1) := by decide +kernel
theorem ef_il1 (m : MethodId) (b : Addr) : entryFrame m #[(.ref b)] 1 = mkF m 0 #[.val (.ref b)] [] := by first | (simp [entryFrame, mkF, argsToLocals, Value.category]; done) | rfl
def Q_il1 (Z : State) (b : Addr) (Y1 : Int32) (h0 : Heap) (n0 : Nat) (v : Option Value) (h : Heap) (L : List Loc) : Prop := (v = some (.int 0) ∧ Fr n0 L ∧ h = h0)
set_option maxRecDepth 65536 in
set_option maxHeartbeats 40000000 in
theorem rm_il1 (l : Launch) (Z : State) (a0 : Array Value) (hw : ∀ d ∈ tables_1, d.before a0 Z = true) (ws : List Jvm.Cond) (b : Addr) (Y1 : Int32) (h0 : Heap) (n0 : Nat) (Z0 : n0 ≤ h0.size) (pf0 : Fld Z h0 b "java/lang/String" "coder" "B" (.int 1)) (pf1 : Old Z n0 h0) (O2 : Sta Z Z.heap "java/lang/String" "COMPACT_STRINGS" "Z" (.int Y1)) (P5 : ¬ (Y1 = (0 : Int32))) :
    MetFree l (⟨"java/lang/String", "isLatin1", "()Z"⟩ : MethodName) (head1 (Jvm.Cond.code (⟨"java/lang/String", "isLatin1", "()Z"⟩ : MethodName) jdk_42_method_154_code 1 (some .boolean) :: ws) ({ frames := 0, cells := 0, slots := 0, locals := 0 } : Room)) (fun aa U => aa = #[(.ref b)] ∧ Z.Warmed39 U.vm ∧ U.heap = h0) (fun _ _ _ _ _ => True) (fun _ U o U' => ∃ v L, o = .returned v ∧ Q_il1 Z b Y1 h0 n0 v U'.heap L ∧ FrameEnd U o U' L ({ frames := 0, cells := 0, slots := 0, locals := 0 } : Room).cells ({ frames := 0, cells := 0, slots := 0, locals := 0 } : Room).slots) := by
  refine MetFree.of_bodySF (plainFor_of_name pn_java_lang_String) hisR ?_
  intro p e s m args below meth c s₁ Bd hml0 hP hK
  obtain ⟨rfl, hZ, hh⟩ := hP
  have hx := Bd.exec
  have hby := Bd.bytes
  have hlk : meth.locks = false := BodyLoose.notSynchronized Bd
  have hml : c.maxLocals = 1 := hml0
  have hown : s.vm.findClass "java/lang/String" = some m.cls := findClass_of_methodNamed Bd.named
  have hnm := (name_of_methodNamed Bd.named Bd.method).1
  have X0 : Stand p l e ({ frames := 0, cells := 0, slots := 0, locals := 0 } : Room) s m #[(.ref b)] below meth c s₁ [] 0 0 := Stand.of_body Bd
  have e0 : s₁.heap = h0 := by rw [← hh, Bd.state]; rfl
  have N0 := Fr.nil n0
  show Gl p.tables e below (EndN s (Q_il1 Z b Y1 h0 n0) ({ frames := 0, cells := 0, slots := 0, locals := 0 } : Room).cells ({ frames := 0, cells := 0, slots := 0, locals := 0 } : Room).slots) _
  refine Gl.cast (ef_il1 m b) ?_
  show Gl p.tables e below _ (s₁.setTop (mkF m 0 #[.val (.ref b)] []))
  obtain ⟨T1, X1, e1, st1⟩ := getS2 X0 hx hZ hown (host := "") (Or.inl (tw hw 38 rfl)) Via.refl e0 (O2.ext pf1.2) (g := (mkF m 0 #[.val (.ref b)] [])) rfl (hb hby d12_0)
  refine Gl.st st1 ?_
  show Gl p.tables e below _ (T1.setTop (mkF m 3 #[.val (.ref b)] [(.int Y1)]))
  refine Gl.st (fun _ kq => XS.ifNo X1.here hx rfl (hb hby d12_3) rfl ((if0 _ _).trans (feq (P5 : ¬ (Y1 = (0 : Int32)))).1) kq) ?_
  show Gl p.tables e below _ (T1.setTop (mkF m 6 #[.val (.ref b)] []))
  refine Gl.st (fun _ kq => XS.aloadN X1.here hx rfl (hb hby d12_6) rfl rfl kq) ?_
  show Gl p.tables e below _ (T1.setTop (mkF m 7 #[.val (.ref b)] [(.ref b)]))
  obtain ⟨T2, X2, e2, st2⟩ := getF X1 hx hZ hown (host := "") (Or.inl (tw hw 23 rfl)) Via.refl e1 pf0 (g := (mkF m 7 #[.val (.ref b)] [(.ref b)])) rfl rfl (hb hby d12_7)
  refine Gl.st st2 ?_
  show Gl p.tables e below _ (T2.setTop (mkF m 10 #[.val (.ref b)] [(.int 1)]))
  refine Gl.st (fun _ kq => XS.ifYes X2.here hx rfl (pc0 := 10) (pc' := 17) rfl (hb hby d12_10) rfl ((if0 _ _).trans (feq ((by decide) : ¬ ((1 : Int32) = (0 : Int32)))).2) (by decide) (by decide) kq) ?_
  show Gl p.tables e below _ (T2.setTop (mkF m 17 #[.val (.ref b)] []))
  refine Gl.st (fun _ kq => XS.iconst X2.here hx rfl (hb hby d12_17) kq) ?_
  exact Gl.retN X2 hx (t := .boolean) Bd.returns (by simp) (hb hby d12_18) hlk (by decide) (by decide) (by rw [e2]; exact ⟨rfl, N0, rfl⟩)
theorem d6_0 : decode jdk_42_method_152_code 0 = .ok (.getstatic 38, 3) := by decide +kernel
theorem d6_3 : decode jdk_42_method_152_code 3 = .ok (.ifCond .eq 10, 3) := by decide +kernel
theorem d6_6 : decode jdk_42_method_152_code 6 = .ok (.aload_n 0, 1) := by decide +kernel
theorem d6_7 : decode jdk_42_method_152_code 7 = .ok (.getfield 15, 3) := by decide +kernel
theorem d6_10 : decode jdk_42_method_152_code 10 = .ok (.goto 4, 3) := by decide +kernel
theorem d6_14 : decode jdk_42_method_152_code 14 = .ok (.ireturn, 1) := by decide +kernel
theorem ef_cd1 (m : MethodId) (b : Addr) : entryFrame m #[(.ref b)] 1 = mkF m 0 #[.val (.ref b)] [] := by first | (simp [entryFrame, mkF, argsToLocals, Value.category]; done) | rfl
def Q_cd1 (Z : State) (b : Addr) (Y1 : Int32) (h0 : Heap) (n0 : Nat) (v : Option Value) (h : Heap) (L : List Loc) : Prop := (v = some (.int 1) ∧ Fr n0 L ∧ h = h0)
set_option maxRecDepth 65536 in
set_option maxHeartbeats 40000000 in
theorem rm_cd1 (l : Launch) (Z : State) (a0 : Array Value) (hw : ∀ d ∈ tables_1, d.before a0 Z = true) (ws : List Jvm.Cond) (b : Addr) (Y1 : Int32) (h0 : Heap) (n0 : Nat) (Z0 : n0 ≤ h0.size) (pf0 : Fld Z h0 b "java/lang/String" "coder" "B" (.int 1)) (pf1 : Old Z n0 h0) (O2 : Sta Z Z.heap "java/lang/String" "COMPACT_STRINGS" "Z" (.int Y1)) (P5 : ¬ (Y1 = (0 : Int32))) :
    MetFree l (⟨"java/lang/String", "coder", "()B"⟩ : MethodName) (head1 (Jvm.Cond.code (⟨"java/lang/String", "coder", "()B"⟩ : MethodName) jdk_42_method_152_code 1 (some .byte) :: ws) ({ frames := 0, cells := 0, slots := 0, locals := 0 } : Room)) (fun aa U => aa = #[(.ref b)] ∧ Z.Warmed39 U.vm ∧ U.heap = h0) (fun _ _ _ _ _ => True) (fun _ U o U' => ∃ v L, o = .returned v ∧ Q_cd1 Z b Y1 h0 n0 v U'.heap L ∧ FrameEnd U o U' L ({ frames := 0, cells := 0, slots := 0, locals := 0 } : Room).cells ({ frames := 0, cells := 0, slots := 0, locals := 0 } : Room).slots) := by
  refine MetFree.of_bodySF (plainFor_of_name pn_java_lang_String) hisR ?_
  intro p e s m args below meth c s₁ Bd hml0 hP hK
  obtain ⟨rfl, hZ, hh⟩ := hP
  have hx := Bd.exec
  have hby := Bd.bytes
  have hlk : meth.locks = false := BodyLoose.notSynchronized Bd
  have hml : c.maxLocals = 1 := hml0
  have hown : s.vm.findClass "java/lang/String" = some m.cls := findClass_of_methodNamed Bd.named
  have hnm := (name_of_methodNamed Bd.named Bd.method).1
  have X0 : Stand p l e ({ frames := 0, cells := 0, slots := 0, locals := 0 } : Room) s m #[(.ref b)] below meth c s₁ [] 0 0 := Stand.of_body Bd
  have e0 : s₁.heap = h0 := by rw [← hh, Bd.state]; rfl
  have N0 := Fr.nil n0
  show Gl p.tables e below (EndN s (Q_cd1 Z b Y1 h0 n0) ({ frames := 0, cells := 0, slots := 0, locals := 0 } : Room).cells ({ frames := 0, cells := 0, slots := 0, locals := 0 } : Room).slots) _
  refine Gl.cast (ef_cd1 m b) ?_
  show Gl p.tables e below _ (s₁.setTop (mkF m 0 #[.val (.ref b)] []))
  obtain ⟨T1, X1, e1, st1⟩ := getS2 X0 hx hZ hown (host := "") (Or.inl (tw hw 38 rfl)) Via.refl e0 (O2.ext pf1.2) (g := (mkF m 0 #[.val (.ref b)] [])) rfl (hb hby d6_0)
  refine Gl.st st1 ?_
  show Gl p.tables e below _ (T1.setTop (mkF m 3 #[.val (.ref b)] [(.int Y1)]))
  refine Gl.st (fun _ kq => XS.ifNo X1.here hx rfl (hb hby d6_3) rfl ((if0 _ _).trans (feq (P5 : ¬ (Y1 = (0 : Int32)))).1) kq) ?_
  show Gl p.tables e below _ (T1.setTop (mkF m 6 #[.val (.ref b)] []))
  refine Gl.st (fun _ kq => XS.aloadN X1.here hx rfl (hb hby d6_6) rfl rfl kq) ?_
  show Gl p.tables e below _ (T1.setTop (mkF m 7 #[.val (.ref b)] [(.ref b)]))
  obtain ⟨T2, X2, e2, st2⟩ := getF X1 hx hZ hown (host := "") (Or.inl (tw hw 23 rfl)) Via.refl e1 pf0 (g := (mkF m 7 #[.val (.ref b)] [(.ref b)])) rfl rfl (hb hby d6_7)
  refine Gl.st st2 ?_
  show Gl p.tables e below _ (T2.setTop (mkF m 10 #[.val (.ref b)] [(.int 1)]))
  refine Gl.st (fun _ kq => XS.goto X2.here hx rfl (pc0 := 10) (pc' := 14) rfl (hb hby d6_10) (by decide) (by decide) kq) ?_
  exact Gl.retN X2 hx (t := .byte) Bd.returns (by simp) (hb hby d6_14) hlk (by decide) (by decide) (by rw [e2]; exact ⟨rfl, N0, rfl⟩)
theorem d10_0 : decode method_2_code 0 = .ok (.iload_n 0, 1) := by decide +kernel
theorem d10_1 : decode method_2_code 1 = .ok (.bipush 36, 2) := by decide +kernel
theorem d10_3 : decode method_2_code 3 = .ok (.if_icmp .lt 7, 3) := by decide +kernel
theorem d10_6 : decode method_2_code 6 = .ok (.iconst 1, 1) := by decide +kernel
theorem d10_7 : decode method_2_code 7 = .ok (.goto 4, 3) := by decide +kernel
theorem d10_10 : decode method_2_code 10 = .ok (.iconst 0, 1) := by decide +kernel
theorem d10_11 : decode method_2_code 11 = .ok (.ireturn, 1) := by decide +kernel
theorem ef_ab (m : MethodId) (ch : Int32) : entryFrame m #[(.int ch)] 1 = mkF m 0 #[.val (.int ch)] [] := by first | (simp [entryFrame, mkF, argsToLocals, Value.category]; done) | rfl
def Q_ab (Z : State) (ch : Int32) (h0 : Heap) (n0 : Nat) (v : Option Value) (h : Heap) (L : List Loc) : Prop := (v = some (.int 1) ∧ Fr n0 L ∧ h = h0 ∧ (¬ (ch < (36 : Int32)))) ∨ (v = some (.int 0) ∧ Fr n0 L ∧ h = h0 ∧ (ch < (36 : Int32)))
set_option maxRecDepth 65536 in
set_option maxHeartbeats 40000000 in
theorem rm_ab (l : Launch) (Z : State) (a0 : Array Value) (hw : ∀ d ∈ tables_1, d.before a0 Z = true) (ws : List Jvm.Cond) (ch : Int32) (h0 : Heap) (n0 : Nat) (Z0 : n0 ≤ h0.size) :
    MetFree l (⟨"com/example/neighbor_keys/neighborkeys/model/CompositeKeepsOrderPinLaw", "above", "(C)Z"⟩ : MethodName) (head1 (Jvm.Cond.code (⟨"com/example/neighbor_keys/neighborkeys/model/CompositeKeepsOrderPinLaw", "above", "(C)Z"⟩ : MethodName) method_2_code 1 (some .boolean) :: ws) ({ frames := 0, cells := 0, slots := 0, locals := 0 } : Room)) (fun aa U => aa = #[(.int ch)] ∧ Z.Warmed39 U.vm ∧ U.heap = h0) (fun _ _ _ _ _ => True) (fun _ U o U' => ∃ v L, o = .returned v ∧ Q_ab Z ch h0 n0 v U'.heap L ∧ FrameEnd U o U' L ({ frames := 0, cells := 0, slots := 0, locals := 0 } : Room).cells ({ frames := 0, cells := 0, slots := 0, locals := 0 } : Room).slots) := by
  refine MetFree.of_bodySF (plainFor_of_name pn_com_example_neighbor_keys_neighborkeys_model_CompositeKeepsOrderPinLaw) hisR ?_
  intro p e s m args below meth c s₁ Bd hml0 hP hK
  obtain ⟨rfl, hZ, hh⟩ := hP
  have hx := Bd.exec
  have hby := Bd.bytes
  have hlk : meth.locks = false := BodyLoose.notSynchronized Bd
  have hml : c.maxLocals = 1 := hml0
  have hown : s.vm.findClass "com/example/neighbor_keys/neighborkeys/model/CompositeKeepsOrderPinLaw" = some m.cls := findClass_of_methodNamed Bd.named
  have hnm := (name_of_methodNamed Bd.named Bd.method).1
  have X0 : Stand p l e ({ frames := 0, cells := 0, slots := 0, locals := 0 } : Room) s m #[(.int ch)] below meth c s₁ [] 0 0 := Stand.of_body Bd
  have e0 : s₁.heap = h0 := by rw [← hh, Bd.state]; rfl
  have N0 := Fr.nil n0
  show Gl p.tables e below (EndN s (Q_ab Z ch h0 n0) ({ frames := 0, cells := 0, slots := 0, locals := 0 } : Room).cells ({ frames := 0, cells := 0, slots := 0, locals := 0 } : Room).slots) _
  refine Gl.cast (ef_ab m ch) ?_
  show Gl p.tables e below _ (s₁.setTop (mkF m 0 #[.val (.int ch)] []))
  refine Gl.st (fun _ kq => XS.iloadN X0.here hx rfl (hb hby d10_0) rfl kq) ?_
  refine Gl.st (fun _ kq => XS.bipush X0.here hx rfl (hb hby d10_1) kq) ?_
  show Gl p.tables e below _ (s₁.setTop (mkF m 3 #[.val (.int ch)] [(.int 36), (.int ch)]))
  by_cases hc1 : ch < (36 : Int32)
  · refine Gl.st (fun _ kq => XS.icmpYes X0.here hx rfl (pc0 := 3) (pc' := 10) rfl (hb hby d10_3) rfl (tlt (hc1 : ch < (36 : Int32))).1 (by decide) (by decide) kq) ?_
    show Gl p.tables e below _ (s₁.setTop (mkF m 10 #[.val (.int ch)] []))
    refine Gl.st (fun _ kq => XS.iconst X0.here hx rfl (hb hby d10_10) kq) ?_
    exact Gl.retN X0 hx (t := .boolean) Bd.returns (by simp) (hb hby d10_11) hlk (by decide) (by decide) (by rw [e0]; exact (Or.inr (⟨rfl, N0, rfl, hc1⟩)))
  · refine Gl.st (fun _ kq => XS.icmpNo X0.here hx rfl (hb hby d10_3) rfl (flt (hc1 : ¬ (ch < (36 : Int32)))).1 kq) ?_
    show Gl p.tables e below _ (s₁.setTop (mkF m 6 #[.val (.int ch)] []))
    refine Gl.st (fun _ kq => XS.iconst X0.here hx rfl (hb hby d10_6) kq) ?_
    refine Gl.st (fun _ kq => XS.goto X0.here hx rfl (pc0 := 7) (pc' := 11) rfl (hb hby d10_7) (by decide) (by decide) kq) ?_
    exact Gl.retN X0 hx (t := .boolean) Bd.returns (by simp) (hb hby d10_11) hlk (by decide) (by decide) (by rw [e0]; exact (Or.inl ⟨rfl, N0, rfl, hc1⟩))
theorem d23_0 : decode jdk_52_method_6_code 0 = .ok (.aload_n 0, 1) := by decide +kernel
theorem d23_1 : decode jdk_52_method_6_code 1 = .ok (.arraylength, 1) := by decide +kernel
theorem d23_2 : decode jdk_52_method_6_code 2 = .ok (.iconst 1, 1) := by decide +kernel
theorem d23_3 : decode jdk_52_method_6_code 3 = .ok (.ishr, 1) := by decide +kernel
theorem d23_4 : decode jdk_52_method_6_code 4 = .ok (.ireturn, 1) := by decide +kernel
theorem ef_ul (m : MethodId) (t : Addr) : entryFrame m #[(.ref t)] 1 = mkF m 0 #[.val (.ref t)] [] := by first | (simp [entryFrame, mkF, argsToLocals, Value.category]; done) | rfl
def Q_ul (Z : State) (t : Addr) (k : ClassId) (cs : List Int32) (h0 : Heap) (n0 : Nat) (v : Option Value) (h : Heap) (L : List Loc) : Prop := (v = some (.int (Int32.ofNat cs.length)) ∧ Fr n0 L ∧ h = h0)
set_option maxRecDepth 65536 in
set_option maxHeartbeats 40000000 in
theorem rm_ul (l : Launch) (Z : State) (a0 : Array Value) (hw : ∀ d ∈ tables_1, d.before a0 Z = true) (ws : List Jvm.Cond) (t : Addr) (k : ClassId) (cs : List Int32) (h0 : Heap) (n0 : Nat) (Z0 : n0 ≤ h0.size) (pf0 : Arv Z h0 t k .byte (Int32.ofNat (2 * cs.length)) (own_us cs) (.int 0)) (hl : cs.length ≤ 4) :
    MetFree l (⟨"java/lang/StringUTF16", "length", "([B)I"⟩ : MethodName) (head1 (Jvm.Cond.code (⟨"java/lang/StringUTF16", "length", "([B)I"⟩ : MethodName) jdk_52_method_6_code 1 (some .int) :: ws) ({ frames := 0, cells := 0, slots := 0, locals := 0 } : Room)) (fun aa U => aa = #[(.ref t)] ∧ Z.Warmed39 U.vm ∧ U.heap = h0) (fun _ _ _ _ _ => True) (fun _ U o U' => ∃ v L, o = .returned v ∧ Q_ul Z t k cs h0 n0 v U'.heap L ∧ FrameEnd U o U' L ({ frames := 0, cells := 0, slots := 0, locals := 0 } : Room).cells ({ frames := 0, cells := 0, slots := 0, locals := 0 } : Room).slots) := by
  refine MetFree.of_bodySF (plainFor_of_name pn_java_lang_StringUTF16) hisR ?_
  intro p e s m args below meth c s₁ Bd hml0 hP hK
  obtain ⟨rfl, hZ, hh⟩ := hP
  have hx := Bd.exec
  have hby := Bd.bytes
  have hlk : meth.locks = false := BodyLoose.notSynchronized Bd
  have hml : c.maxLocals = 1 := hml0
  have hown : s.vm.findClass "java/lang/StringUTF16" = some m.cls := findClass_of_methodNamed Bd.named
  have hnm := (name_of_methodNamed Bd.named Bd.method).1
  have X0 : Stand p l e ({ frames := 0, cells := 0, slots := 0, locals := 0 } : Room) s m #[(.ref t)] below meth c s₁ [] 0 0 := Stand.of_body Bd
  have e0 : s₁.heap = h0 := by rw [← hh, Bd.state]; rfl
  have N0 := Fr.nil n0
  show Gl p.tables e below (EndN s (Q_ul Z t k cs h0 n0) ({ frames := 0, cells := 0, slots := 0, locals := 0 } : Room).cells ({ frames := 0, cells := 0, slots := 0, locals := 0 } : Room).slots) _
  refine Gl.cast (ef_ul m t) ?_
  show Gl p.tables e below _ (s₁.setTop (mkF m 0 #[.val (.ref t)] []))
  refine Gl.st (fun _ kq => XS.aloadN X0.here hx rfl (hb hby d23_0) rfl rfl kq) ?_
  show Gl p.tables e below _ (s₁.setTop (mkF m 1 #[.val (.ref t)] [(.ref t)]))
  obtain ⟨c1, a1, q1, S1, M1, H1, G1⟩ := id pf0
  refine Gl.st (fun _ kq => X0.arraylength hx (by rw [e0]; exact a1.1) (State.isArrayOf_alike hZ.alike a1.2.1) (g := (mkF m 1 #[.val (.ref t)] [(.ref t)])) rfl rfl (hb hby d23_1) _ kq) ?_
  rw [len_of S1 M1]
  show Gl p.tables e below _ (s₁.setTop (mkF m 2 #[.val (.ref t)] [(.int (Int32.ofNat (2 * cs.length)))]))
  refine Gl.st (fun _ kq => XS.iconst X0.here hx rfl (hb hby d23_2) kq) ?_
  refine Gl.st (fun _ kq => XS.ishr X0.here hx rfl (hb hby d23_3) rfl kq) ?_
  show Gl p.tables e below _ (s₁.setTop (mkF m 4 #[.val (.ref t)] [(.int ((Int32.ofNat (2 * cs.length)) >>> ((1 : Int32) &&& 31)))]))
  rw [own_hlf hl]
  show Gl p.tables e below _ (s₁.setTop (mkF m 4 #[.val (.ref t)] [(.int (Int32.ofNat cs.length))]))
  exact Gl.retI X0 hx Bd.returns (hb hby d23_4) hlk (by decide) (by decide) (by rw [e0]; exact ⟨rfl, N0, rfl⟩)
theorem d20_0 : decode jdk_52_method_5_code 0 = .ok (.getstatic 44, 3) := by decide +kernel
theorem d20_3 : decode jdk_52_method_5_code 3 = .ok (.ifCond .ne 25, 3) := by decide +kernel
theorem d20_28 : decode jdk_52_method_5_code 28 = .ok (.iload_n 1, 1) := by decide +kernel
theorem d20_29 : decode jdk_52_method_5_code 29 = .ok (.iconst 1, 1) := by decide +kernel
theorem d20_30 : decode jdk_52_method_5_code 30 = .ok (.ishl, 1) := by decide +kernel
theorem d20_31 : decode jdk_52_method_5_code 31 = .ok (.istore_n 1, 1) := by decide +kernel
theorem d20_32 : decode jdk_52_method_5_code 32 = .ok (.aload_n 0, 1) := by decide +kernel
theorem d20_33 : decode jdk_52_method_5_code 33 = .ok (.iload_n 1, 1) := by decide +kernel
theorem d20_34 : decode jdk_52_method_5_code 34 = .ok (.iinc 1 1, 3) := by decide +kernel
theorem d20_37 : decode jdk_52_method_5_code 37 = .ok (.baload, 1) := by decide +kernel
theorem d20_38 : decode jdk_52_method_5_code 38 = .ok (.sipush 255, 3) := by decide +kernel
theorem d20_41 : decode jdk_52_method_5_code 41 = .ok (.iand, 1) := by decide +kernel
theorem d20_42 : decode jdk_52_method_5_code 42 = .ok (.getstatic 59, 3) := by decide +kernel
theorem d20_45 : decode jdk_52_method_5_code 45 = .ok (.ishl, 1) := by decide +kernel
theorem d20_46 : decode jdk_52_method_5_code 46 = .ok (.aload_n 0, 1) := by decide +kernel
theorem d20_47 : decode jdk_52_method_5_code 47 = .ok (.iload_n 1, 1) := by decide +kernel
theorem d20_48 : decode jdk_52_method_5_code 48 = .ok (.baload, 1) := by decide +kernel
theorem d20_49 : decode jdk_52_method_5_code 49 = .ok (.sipush 255, 3) := by decide +kernel
theorem d20_52 : decode jdk_52_method_5_code 52 = .ok (.iand, 1) := by decide +kernel
theorem d20_53 : decode jdk_52_method_5_code 53 = .ok (.getstatic 63, 3) := by decide +kernel
theorem d20_56 : decode jdk_52_method_5_code 56 = .ok (.ishl, 1) := by decide +kernel
theorem d20_57 : decode jdk_52_method_5_code 57 = .ok (.ior, 1) := by decide +kernel
theorem d20_58 : decode jdk_52_method_5_code 58 = .ok (.i2c, 1) := by decide +kernel
theorem d20_59 : decode jdk_52_method_5_code 59 = .ok (.ireturn, 1) := by decide +kernel
theorem ef_gc (m : MethodId) (t : Addr) (i : Nat) : entryFrame m #[(.ref t), (.int (Int32.ofNat i))] 2 = mkF m 0 #[.val (.ref t), .val (.int (Int32.ofNat i))] [] := by first | (simp [entryFrame, mkF, argsToLocals, Value.category]; done) | rfl
def Q_gc (Z : State) (t : Addr) (k : ClassId) (cs : List Int32) (i : Nat) (h0 : Heap) (n0 : Nat) (v : Option Value) (h : Heap) (L : List Loc) : Prop := (v = some (.int (cs.getD i 0)) ∧ Fr n0 L ∧ h = h0)
set_option maxRecDepth 65536 in
set_option maxHeartbeats 40000000 in
theorem rm_gc (l : Launch) (Z : State) (a0 : Array Value) (hw : ∀ d ∈ tables_1, d.before a0 Z = true) (ws : List Jvm.Cond) (t : Addr) (k : ClassId) (cs : List Int32) (i : Nat) (h0 : Heap) (n0 : Nat) (Z0 : n0 ≤ h0.size) (pf0 : Arv Z h0 t k .byte (Int32.ofNat (2 * cs.length)) (own_us cs) (.int 0)) (pf1 : Old Z n0 h0) (hl : cs.length ≤ 4) (ha : ∀ c ∈ cs, own_h c) (hi : i < cs.length) (OA : Sta Z Z.heap "java/lang/StringUTF16" "$assertionsDisabled" "Z" (.int 1)) (OH : Sta Z Z.heap "java/lang/StringUTF16" "HI_BYTE_SHIFT" "I" (.int 0)) (OL : Sta Z Z.heap "java/lang/StringUTF16" "LO_BYTE_SHIFT" "I" (.int 8)) :
    MetFree l (⟨"java/lang/StringUTF16", "getChar", "([BI)C"⟩ : MethodName) (head1 (Jvm.Cond.code (⟨"java/lang/StringUTF16", "getChar", "([BI)C"⟩ : MethodName) jdk_52_method_5_code 2 (some .char) :: ws) ({ frames := 0, cells := 0, slots := 0, locals := 0 } : Room)) (fun aa U => aa = #[(.ref t), (.int (Int32.ofNat i))] ∧ Z.Warmed39 U.vm ∧ U.heap = h0) (fun _ _ _ _ _ => True) (fun _ U o U' => ∃ v L, o = .returned v ∧ Q_gc Z t k cs i h0 n0 v U'.heap L ∧ FrameEnd U o U' L ({ frames := 0, cells := 0, slots := 0, locals := 0 } : Room).cells ({ frames := 0, cells := 0, slots := 0, locals := 0 } : Room).slots) := by
  refine MetFree.of_bodySF (plainFor_of_name pn_java_lang_StringUTF16) hisR ?_
  intro p e s m args below meth c s₁ Bd hml0 hP hK
  obtain ⟨rfl, hZ, hh⟩ := hP
  have hx := Bd.exec
  have hby := Bd.bytes
  have hlk : meth.locks = false := BodyLoose.notSynchronized Bd
  have hml : c.maxLocals = 2 := hml0
  have hown : s.vm.findClass "java/lang/StringUTF16" = some m.cls := findClass_of_methodNamed Bd.named
  have hnm := (name_of_methodNamed Bd.named Bd.method).1
  have X0 : Stand p l e ({ frames := 0, cells := 0, slots := 0, locals := 0 } : Room) s m #[(.ref t), (.int (Int32.ofNat i))] below meth c s₁ [] 0 0 := Stand.of_body Bd
  have e0 : s₁.heap = h0 := by rw [← hh, Bd.state]; rfl
  have N0 := Fr.nil n0
  show Gl p.tables e below (EndN s (Q_gc Z t k cs i h0 n0) ({ frames := 0, cells := 0, slots := 0, locals := 0 } : Room).cells ({ frames := 0, cells := 0, slots := 0, locals := 0 } : Room).slots) _
  refine Gl.cast (ef_gc m t i) ?_
  show Gl p.tables e below _ (s₁.setTop (mkF m 0 #[.val (.ref t), .val (.int (Int32.ofNat i))] []))
  obtain ⟨T1, X1, e1, st1⟩ := getS2 X0 hx hZ hown (host := "") (Or.inl (tw hw 88 rfl)) Via.refl e0 (OA.ext pf1.2) (g := (mkF m 0 #[.val (.ref t), .val (.int (Int32.ofNat i))] [])) rfl (hb hby d20_0)
  refine Gl.st st1 ?_
  show Gl p.tables e below _ (T1.setTop (mkF m 3 #[.val (.ref t), .val (.int (Int32.ofNat i))] [(.int 1)]))
  refine Gl.st (fun _ kq => XS.ifYes X1.here hx rfl (pc0 := 3) (pc' := 28) rfl (hb hby d20_3) rfl ((if0 _ _).trans (feq ((by decide) : ¬ ((1 : Int32) = (0 : Int32)))).2) (by decide) (by decide) kq) ?_
  show Gl p.tables e below _ (T1.setTop (mkF m 28 #[.val (.ref t), .val (.int (Int32.ofNat i))] []))
  refine Gl.st (fun _ kq => XS.iloadN X1.here hx rfl (hb hby d20_28) rfl kq) ?_
  refine Gl.st (fun _ kq => XS.iconst X1.here hx rfl (hb hby d20_29) kq) ?_
  refine Gl.st (fun _ kq => XS.ishl X1.here hx rfl (hb hby d20_30) rfl kq) ?_
  show Gl p.tables e below _ (T1.setTop (mkF m 31 #[.val (.ref t), .val (.int (Int32.ofNat i))] [(.int ((Int32.ofNat i) <<< ((1 : Int32) &&& 31)))]))
  rw [own_dbl (i := i) (by omega)]
  show Gl p.tables e below _ (T1.setTop (mkF m 31 #[.val (.ref t), .val (.int (Int32.ofNat i))] [(.int (Int32.ofNat (2 * i)))]))
  refine Gl.st (fun _ kq => XS.istoreN X1.here hx rfl (hb hby d20_31) rfl (l' := #[.val (.ref t), .val (.int (Int32.ofNat (2 * i)))]) rfl kq) ?_
  refine Gl.st (fun _ kq => XS.aloadN X1.here hx rfl (hb hby d20_32) rfl rfl kq) ?_
  refine Gl.st (fun _ kq => XS.iloadN X1.here hx rfl (hb hby d20_33) rfl kq) ?_
  refine Gl.st (fun _ kq => XS.iinc X1.here hx rfl (hb hby d20_34) rfl (l' := #[.val (.ref t), .val (.int ((Int32.ofNat (2 * i)) + (1 : Int32)))]) rfl kq) ?_
  show Gl p.tables e below _ (T1.setTop (mkF m 37 #[.val (.ref t), .val (.int ((Int32.ofNat (2 * i)) + (1 : Int32)))] [(.int (Int32.ofNat (2 * i))), (.ref t)]))
  rw [n32_inc (2 * i)]
  show Gl p.tables e below _ (T1.setTop (mkF m 37 #[.val (.ref t), .val (.int (Int32.ofNat (2 * i + 1)))] [(.int (Int32.ofNat (2 * i))), (.ref t)]))
  obtain ⟨c2, a2, q2, S2, M2, H2, G2⟩ := id pf0
  refine Gl.st (fun _ kq => X1.baloadBytes hx (j := (Int32.ofNat (2 * i))) (v := (.int (own_b0 (cs.getD i 0)))) (by rw [e1]; exact a2.1) (State.isArrayOf_alike hZ.alike a2.2.1) a2.2.2 (inb_of S2 ⟨n32_nn (by omega), n32_plt (i := (2 * i)) (by omega) (by omega)⟩) (Has.at H2 (inb_of S2 ⟨n32_nn (by omega), n32_plt (i := (2 * i)) (by omega) (by omega)⟩) (by rw [n32_cl (by omega)]; exact own_u0 cs i hi)) (g := (mkF m 37 #[.val (.ref t), .val (.int (Int32.ofNat (2 * i + 1)))] [(.int (Int32.ofNat (2 * i))), (.ref t)])) rfl rfl (hb hby d20_37) _ kq) ?_
  show Gl p.tables e below _ (T1.setTop (mkF m 38 #[.val (.ref t), .val (.int (Int32.ofNat (2 * i + 1)))] [(.int (own_b0 (cs.getD i 0)))]))
  refine Gl.st (fun _ kq => XS.sipush X1.here hx rfl (hb hby d20_38) kq) ?_
  refine Gl.st (fun _ kq => XS.iand X1.here hx rfl (hb hby d20_41) rfl kq) ?_
  show Gl p.tables e below _ (T1.setTop (mkF m 42 #[.val (.ref t), .val (.int (Int32.ofNat (2 * i + 1)))] [(.int ((own_b0 (cs.getD i 0)) &&& (255 : Int32)))]))
  obtain ⟨T3, X3, e3, st3⟩ := getS2 X1 hx hZ hown (host := "") (Or.inl (tw hw 89 rfl)) Via.refl e1 (OH.ext pf1.2) (g := (mkF m 42 #[.val (.ref t), .val (.int (Int32.ofNat (2 * i + 1)))] [(.int ((own_b0 (cs.getD i 0)) &&& (255 : Int32)))])) rfl (hb hby d20_42)
  refine Gl.st st3 ?_
  show Gl p.tables e below _ (T3.setTop (mkF m 45 #[.val (.ref t), .val (.int (Int32.ofNat (2 * i + 1)))] [(.int 0), (.int ((own_b0 (cs.getD i 0)) &&& (255 : Int32)))]))
  refine Gl.st (fun _ kq => XS.ishl X3.here hx rfl (hb hby d20_45) rfl kq) ?_
  refine Gl.st (fun _ kq => XS.aloadN X3.here hx rfl (hb hby d20_46) rfl rfl kq) ?_
  refine Gl.st (fun _ kq => XS.iloadN X3.here hx rfl (hb hby d20_47) rfl kq) ?_
  show Gl p.tables e below _ (T3.setTop (mkF m 48 #[.val (.ref t), .val (.int (Int32.ofNat (2 * i + 1)))] [(.int (Int32.ofNat (2 * i + 1))), (.ref t), (.int (((own_b0 (cs.getD i 0)) &&& (255 : Int32)) <<< ((0 : Int32) &&& 31)))]))
  obtain ⟨c4, a4, q4, S4, M4, H4, G4⟩ := id pf0
  refine Gl.st (fun _ kq => X3.baloadBytes hx (j := (Int32.ofNat (2 * i + 1))) (v := (.int (own_b1 (cs.getD i 0)))) (by rw [e3]; exact a4.1) (State.isArrayOf_alike hZ.alike a4.2.1) a4.2.2 (inb_of S4 ⟨n32_nn (by omega), n32_plt (i := (2 * i + 1)) (by omega) (by omega)⟩) (Has.at H4 (inb_of S4 ⟨n32_nn (by omega), n32_plt (i := (2 * i + 1)) (by omega) (by omega)⟩) (by rw [n32_cl (by omega)]; exact own_u1 cs i hi)) (g := (mkF m 48 #[.val (.ref t), .val (.int (Int32.ofNat (2 * i + 1)))] [(.int (Int32.ofNat (2 * i + 1))), (.ref t), (.int (((own_b0 (cs.getD i 0)) &&& (255 : Int32)) <<< ((0 : Int32) &&& 31)))])) rfl rfl (hb hby d20_48) _ kq) ?_
  show Gl p.tables e below _ (T3.setTop (mkF m 49 #[.val (.ref t), .val (.int (Int32.ofNat (2 * i + 1)))] [(.int (own_b1 (cs.getD i 0))), (.int (((own_b0 (cs.getD i 0)) &&& (255 : Int32)) <<< ((0 : Int32) &&& 31)))]))
  refine Gl.st (fun _ kq => XS.sipush X3.here hx rfl (hb hby d20_49) kq) ?_
  refine Gl.st (fun _ kq => XS.iand X3.here hx rfl (hb hby d20_52) rfl kq) ?_
  show Gl p.tables e below _ (T3.setTop (mkF m 53 #[.val (.ref t), .val (.int (Int32.ofNat (2 * i + 1)))] [(.int ((own_b1 (cs.getD i 0)) &&& (255 : Int32))), (.int (((own_b0 (cs.getD i 0)) &&& (255 : Int32)) <<< ((0 : Int32) &&& 31)))]))
  obtain ⟨T5, X5, e5, st5⟩ := getS2 X3 hx hZ hown (host := "") (Or.inl (tw hw 90 rfl)) Via.refl e3 (OL.ext pf1.2) (g := (mkF m 53 #[.val (.ref t), .val (.int (Int32.ofNat (2 * i + 1)))] [(.int ((own_b1 (cs.getD i 0)) &&& (255 : Int32))), (.int (((own_b0 (cs.getD i 0)) &&& (255 : Int32)) <<< ((0 : Int32) &&& 31)))])) rfl (hb hby d20_53)
  refine Gl.st st5 ?_
  show Gl p.tables e below _ (T5.setTop (mkF m 56 #[.val (.ref t), .val (.int (Int32.ofNat (2 * i + 1)))] [(.int 8), (.int ((own_b1 (cs.getD i 0)) &&& (255 : Int32))), (.int (((own_b0 (cs.getD i 0)) &&& (255 : Int32)) <<< ((0 : Int32) &&& 31)))]))
  refine Gl.st (fun _ kq => XS.ishl X5.here hx rfl (hb hby d20_56) rfl kq) ?_
  refine Gl.st (fun _ kq => XS.ior X5.here hx rfl (hb hby d20_57) rfl kq) ?_
  refine Gl.st (fun _ kq => XS.i2c X5.here hx rfl (hb hby d20_58) rfl kq) ?_
  show Gl p.tables e below _ (T5.setTop (mkF m 59 #[.val (.ref t), .val (.int (Int32.ofNat (2 * i + 1)))] [(.int (((((own_b0 (cs.getD i 0)) &&& (255 : Int32)) <<< ((0 : Int32) &&& 31)) ||| (((own_b1 (cs.getD i 0)) &&& (255 : Int32)) <<< ((8 : Int32) &&& 31))).toUInt32.toUInt16.toUInt32.toInt32))]))
  rw [own_gc (mem_get ha hi)]
  show Gl p.tables e below _ (T5.setTop (mkF m 59 #[.val (.ref t), .val (.int (Int32.ofNat (2 * i + 1)))] [(.int (cs.getD i 0))]))
  exact Gl.retN X5 hx (t := .char) Bd.returns (by simp) (hb hby d20_59) hlk (by decide) (by decide) (by rw [e5]; exact (by rw [nar16 (mem_get ha hi)]; exact ⟨rfl, N0, rfl⟩))
theorem d22_0 : decode jdk_52_method_91_code 0 = .ok (.iload_n 0, 1) := by decide +kernel
theorem d22_1 : decode jdk_52_method_91_code 1 = .ok (.aload_n 1, 1) := by decide +kernel
theorem d22_2 : decode jdk_52_method_91_code 2 = .ok (.invokestatic 48, 3) := by decide +kernel
theorem d22_5 : decode jdk_52_method_91_code 5 = .ok (.invokestatic 414, 3) := by decide +kernel
theorem d22_8 : decode jdk_52_method_91_code 8 = .ok (.return_, 1) := by decide +kernel
theorem ef_uci (m : MethodId) (t : Addr) (i : Nat) : entryFrame m #[(.int (Int32.ofNat i)), (.ref t)] 2 = mkF m 0 #[.val (.int (Int32.ofNat i)), .val (.ref t)] [] := by first | (simp [entryFrame, mkF, argsToLocals, Value.category]; done) | rfl
def Q_uci (Z : State) (t : Addr) (k : ClassId) (cs : List Int32) (i : Nat) (Y3 : Value) (h0 : Heap) (n0 : Nat) (v : Option Value) (h : Heap) (L : List Loc) : Prop := (v = none ∧ Fr n0 L ∧ h = h0)
set_option maxRecDepth 65536 in
set_option maxHeartbeats 40000000 in
theorem rm_uci (l : Launch) (Z : State) (a0 : Array Value) (hw : ∀ d ∈ tables_1, d.before a0 Z = true) (ws : List Jvm.Cond) (t : Addr) (k : ClassId) (cs : List Int32) (i : Nat) (Y3 : Value) (h0 : Heap) (n0 : Nat) (Z0 : n0 ≤ h0.size) (pf0 : Arv Z h0 t k .byte (Int32.ofNat (2 * cs.length)) (own_us cs) (.int 0)) (pf1 : Old Z n0 h0) (hl : cs.length ≤ 4) (hi : i < cs.length) (O4 : Sta Z Z.heap "jdk/internal/util/Preconditions" "SIOOBE_FORMATTER" "Ljava/util/function/BiFunction;" Y3) (rG3 : Y3.isRef = true) :
    MetFree l (⟨"java/lang/StringUTF16", "checkIndex", "(I[B)V"⟩ : MethodName) (head1 (Jvm.Cond.code (⟨"java/lang/StringUTF16", "checkIndex", "(I[B)V"⟩ : MethodName) jdk_52_method_91_code 2 none :: ws) ({ frames := 2, cells := 0, slots := 0, locals := 27 } : Room)) (fun aa U => aa = #[(.int (Int32.ofNat i)), (.ref t)] ∧ Z.Warmed39 U.vm ∧ U.heap = h0) (fun _ _ _ _ _ => True) (fun _ U o U' => ∃ v L, o = .returned v ∧ Q_uci Z t k cs i Y3 h0 n0 v U'.heap L ∧ FrameEnd U o U' L ({ frames := 2, cells := 0, slots := 0, locals := 27 } : Room).cells ({ frames := 2, cells := 0, slots := 0, locals := 27 } : Room).slots) := by
  refine MetFree.of_bodySF (plainFor_of_name pn_java_lang_StringUTF16) hisR ?_
  intro p e s m args below meth c s₁ Bd hml0 hP hK
  obtain ⟨rfl, hZ, hh⟩ := hP
  have hx := Bd.exec
  have hby := Bd.bytes
  have hlk : meth.locks = false := BodyLoose.notSynchronized Bd
  have hml : c.maxLocals = 2 := hml0
  have hown : s.vm.findClass "java/lang/StringUTF16" = some m.cls := findClass_of_methodNamed Bd.named
  have hnm := (name_of_methodNamed Bd.named Bd.method).1
  have X0 : Stand p l e ({ frames := 2, cells := 0, slots := 0, locals := 27 } : Room) s m #[(.int (Int32.ofNat i)), (.ref t)] below meth c s₁ [] 0 0 := Stand.of_body Bd
  have e0 : s₁.heap = h0 := by rw [← hh, Bd.state]; rfl
  have N0 := Fr.nil n0
  show Gl p.tables e below (EndN s (Q_uci Z t k cs i Y3 h0 n0) ({ frames := 2, cells := 0, slots := 0, locals := 27 } : Room).cells ({ frames := 2, cells := 0, slots := 0, locals := 27 } : Room).slots) _
  refine Gl.cast (ef_uci m t i) ?_
  show Gl p.tables e below _ (s₁.setTop (mkF m 0 #[.val (.int (Int32.ofNat i)), .val (.ref t)] []))
  refine Gl.st (fun _ kq => XS.iloadN X0.here hx rfl (hb hby d22_0) rfl kq) ?_
  refine Gl.st (fun _ kq => XS.aloadN X0.here hx rfl (hb hby d22_1) rfl rfl kq) ?_
  show Gl p.tables e below _ (s₁.setTop (mkF m 2 #[.val (.int (Int32.ofNat i)), .val (.ref t)] [(.ref t), (.int (Int32.ofNat i))]))
  obtain ⟨_, _, ⟨T1, L1, k1, n1⟩, -, X1, ⟨Lc1, hQ1, l1, y1, z1⟩, st1⟩ := Jvm.LawKit.callS X0 hx (y := (⟨"java/lang/StringUTF16", "length", "([B)I"⟩ : MethodName)) hown (mvT hZ (tw hw 100 rfl)) (mvT hZ (tw hw 101 rfl)) (mvT hZ (tw hw 41 rfl)) (mvT hZ (tw hw 102 rfl)) (by decide) (backOf (W := 1) (rm_ul l Z a0 hw [] (t) (k) (cs) h0 n0 Z0 pf0 hl) hZ (tw hw 102 rfl) (tw hw 41 rfl) (by decide) (by decide)) (g := (mkF m 2 #[.val (.int (Int32.ofNat i)), .val (.ref t)] [(.ref t), (.int (Int32.ofNat i))])) rfl (by rw [hml]; rfl) (argsL := [(.ref t)]) (rest := [(.int (Int32.ofNat i))]) (lenOf pd___B_I rfl) rfl (by show 2 * 0 + _ ≤ _; exact Nat.le_of_eq rfl) (hb hby d22_2) (fun _ _ => ⟨rfl, e0, (by decide : 0 + 0 ≤ _), (by decide : 0 + 0 ≤ _)⟩)
  dsimp only [Pt.U, Pt.locs, Pt.cells, Pt.slots] at X1 l1 y1 z1 st1 hQ1
  subst l1 y1 z1
  obtain ⟨rfl, N1, e1⟩ := hQ1
  have M1 := Fr.app N0 N1
  refine Gl.st st1 ?_
  show Gl p.tables e below _ (T1.setTop (mkF m 5 #[.val (.int (Int32.ofNat i)), .val (.ref t)] [(.int (Int32.ofNat cs.length)), (.int (Int32.ofNat i))]))
  show Gl p.tables e below _ (T1.setTop (mkF m 5 #[.val (.int (Int32.ofNat i)), .val (.ref t)] [(.int (Int32.ofNat cs.length)), (.int (Int32.ofNat i))]))
  obtain ⟨_, _, ⟨T2, L2, k2, n2⟩, -, X2, ⟨Lc2, hQ2, l2, y2, z2⟩, st2⟩ := Jvm.LawKit.callS X1 hx (y := (⟨"java/lang/String", "checkIndex", "(II)V"⟩ : MethodName)) hown (mvT hZ (tw hw 103 rfl)) (mvT hZ (tw hw 68 rfl)) (mvT hZ (tw hw 4 rfl)) (mvT hZ (tw hw 69 rfl)) (by decide) (backOf (W := 0) (rm_sci l Z a0 hw [] ((Int32.ofNat i)) ((Int32.ofNat cs.length)) (Y3) h0 n0 Z0 pf1 (n32_nn (by omega)) (n32_plt hi (by omega)) O4 rG3) hZ (tw hw 69 rfl) (tw hw 4 rfl) (by decide) (by decide)) (g := (mkF m 5 #[.val (.int (Int32.ofNat i)), .val (.ref t)] [(.int (Int32.ofNat cs.length)), (.int (Int32.ofNat i))])) rfl (by rw [hml]; rfl) (argsL := [(.int (Int32.ofNat i)), (.int (Int32.ofNat cs.length))]) (rest := []) (lenOf pd__II_V rfl) rfl (by show 2 * 0 + _ ≤ _; exact Nat.le_of_eq rfl) (hb hby d22_5) (fun _ _ => ⟨rfl, e1, (by decide : 0 + 0 ≤ _), (by decide : 0 + 0 ≤ _)⟩)
  dsimp only [Pt.U, Pt.locs, Pt.cells, Pt.slots] at X2 l2 y2 z2 st2 hQ2
  subst l2 y2 z2
  obtain ⟨rfl, N2, e2⟩ := hQ2
  have M2 := Fr.app M1 N2
  refine Gl.st st2 ?_
  show Gl p.tables e below _ (T2.setTop (mkF m 8 #[.val (.int (Int32.ofNat i)), .val (.ref t)] []))
  show Gl p.tables e below _ (T2.setTop (mkF m 8 #[.val (.int (Int32.ofNat i)), .val (.ref t)] []))
  exact Gl.ret0 X2 hx Bd.returns (hb hby d22_8) hlk (by decide) (by decide) (by rw [e2]; exact ⟨rfl, M2, rfl⟩)
theorem d21_0 : decode jdk_52_method_83_code 0 = .ok (.iload_n 1, 1) := by decide +kernel
theorem d21_1 : decode jdk_52_method_83_code 1 = .ok (.aload_n 0, 1) := by decide +kernel
theorem d21_2 : decode jdk_52_method_83_code 2 = .ok (.invokestatic 67, 3) := by decide +kernel
theorem d21_5 : decode jdk_52_method_83_code 5 = .ok (.aload_n 0, 1) := by decide +kernel
theorem d21_6 : decode jdk_52_method_83_code 6 = .ok (.iload_n 1, 1) := by decide +kernel
theorem d21_7 : decode jdk_52_method_83_code 7 = .ok (.invokestatic 71, 3) := by decide +kernel
theorem d21_10 : decode jdk_52_method_83_code 10 = .ok (.ireturn, 1) := by decide +kernel
theorem ef_uc (m : MethodId) (t : Addr) (i : Nat) : entryFrame m #[(.ref t), (.int (Int32.ofNat i))] 2 = mkF m 0 #[.val (.ref t), .val (.int (Int32.ofNat i))] [] := by first | (simp [entryFrame, mkF, argsToLocals, Value.category]; done) | rfl
def Q_uc (Z : State) (t : Addr) (k : ClassId) (cs : List Int32) (i : Nat) (Y3 : Value) (h0 : Heap) (n0 : Nat) (v : Option Value) (h : Heap) (L : List Loc) : Prop := (v = some (.int (cs.getD i 0)) ∧ Fr n0 L ∧ h = h0)
set_option maxRecDepth 65536 in
set_option maxHeartbeats 40000000 in
theorem rm_uc (l : Launch) (Z : State) (a0 : Array Value) (hw : ∀ d ∈ tables_1, d.before a0 Z = true) (ws : List Jvm.Cond) (t : Addr) (k : ClassId) (cs : List Int32) (i : Nat) (Y3 : Value) (h0 : Heap) (n0 : Nat) (Z0 : n0 ≤ h0.size) (pf0 : Arv Z h0 t k .byte (Int32.ofNat (2 * cs.length)) (own_us cs) (.int 0)) (pf1 : Old Z n0 h0) (hl : cs.length ≤ 4) (ha : ∀ c ∈ cs, own_h c) (hi : i < cs.length) (OA : Sta Z Z.heap "java/lang/StringUTF16" "$assertionsDisabled" "Z" (.int 1)) (OH : Sta Z Z.heap "java/lang/StringUTF16" "HI_BYTE_SHIFT" "I" (.int 0)) (OL : Sta Z Z.heap "java/lang/StringUTF16" "LO_BYTE_SHIFT" "I" (.int 8)) (O4 : Sta Z Z.heap "jdk/internal/util/Preconditions" "SIOOBE_FORMATTER" "Ljava/util/function/BiFunction;" Y3) (rG3 : Y3.isRef = true) :
    MetFree l (⟨"java/lang/StringUTF16", "charAt", "([BI)C"⟩ : MethodName) (head1 (Jvm.Cond.code (⟨"java/lang/StringUTF16", "charAt", "([BI)C"⟩ : MethodName) jdk_52_method_83_code 2 (some .char) :: ws) ({ frames := 3, cells := 0, slots := 0, locals := 40 } : Room)) (fun aa U => aa = #[(.ref t), (.int (Int32.ofNat i))] ∧ Z.Warmed39 U.vm ∧ U.heap = h0) (fun _ _ _ _ _ => True) (fun _ U o U' => ∃ v L, o = .returned v ∧ Q_uc Z t k cs i Y3 h0 n0 v U'.heap L ∧ FrameEnd U o U' L ({ frames := 3, cells := 0, slots := 0, locals := 40 } : Room).cells ({ frames := 3, cells := 0, slots := 0, locals := 40 } : Room).slots) := by
  refine MetFree.of_bodySF (plainFor_of_name pn_java_lang_StringUTF16) hisR ?_
  intro p e s m args below meth c s₁ Bd hml0 hP hK
  obtain ⟨rfl, hZ, hh⟩ := hP
  have hx := Bd.exec
  have hby := Bd.bytes
  have hlk : meth.locks = false := BodyLoose.notSynchronized Bd
  have hml : c.maxLocals = 2 := hml0
  have hown : s.vm.findClass "java/lang/StringUTF16" = some m.cls := findClass_of_methodNamed Bd.named
  have hnm := (name_of_methodNamed Bd.named Bd.method).1
  have X0 : Stand p l e ({ frames := 3, cells := 0, slots := 0, locals := 40 } : Room) s m #[(.ref t), (.int (Int32.ofNat i))] below meth c s₁ [] 0 0 := Stand.of_body Bd
  have e0 : s₁.heap = h0 := by rw [← hh, Bd.state]; rfl
  have N0 := Fr.nil n0
  show Gl p.tables e below (EndN s (Q_uc Z t k cs i Y3 h0 n0) ({ frames := 3, cells := 0, slots := 0, locals := 40 } : Room).cells ({ frames := 3, cells := 0, slots := 0, locals := 40 } : Room).slots) _
  refine Gl.cast (ef_uc m t i) ?_
  show Gl p.tables e below _ (s₁.setTop (mkF m 0 #[.val (.ref t), .val (.int (Int32.ofNat i))] []))
  refine Gl.st (fun _ kq => XS.iloadN X0.here hx rfl (hb hby d21_0) rfl kq) ?_
  refine Gl.st (fun _ kq => XS.aloadN X0.here hx rfl (hb hby d21_1) rfl rfl kq) ?_
  show Gl p.tables e below _ (s₁.setTop (mkF m 2 #[.val (.ref t), .val (.int (Int32.ofNat i))] [(.ref t), (.int (Int32.ofNat i))]))
  obtain ⟨_, _, ⟨T1, L1, k1, n1⟩, -, X1, ⟨Lc1, hQ1, l1, y1, z1⟩, st1⟩ := Jvm.LawKit.callS X0 hx (y := (⟨"java/lang/StringUTF16", "checkIndex", "(I[B)V"⟩ : MethodName)) hown (mvT hZ (tw hw 97 rfl)) (mvT hZ (tw hw 98 rfl)) (mvT hZ (tw hw 41 rfl)) (mvT hZ (tw hw 99 rfl)) (by decide) (backOf (W := 0) (rm_uci l Z a0 hw [] (t) (k) (cs) (i) (Y3) h0 n0 Z0 pf0 pf1 hl hi O4 rG3) hZ (tw hw 99 rfl) (tw hw 41 rfl) (by decide) (by decide)) (g := (mkF m 2 #[.val (.ref t), .val (.int (Int32.ofNat i))] [(.ref t), (.int (Int32.ofNat i))])) rfl (by rw [hml]; rfl) (argsL := [(.int (Int32.ofNat i)), (.ref t)]) (rest := []) (lenOf pd__I_B_V rfl) rfl (by show 2 * 0 + _ ≤ _; exact Nat.le_of_eq rfl) (hb hby d21_2) (fun _ _ => ⟨rfl, e0, (by decide : 0 + 0 ≤ _), (by decide : 0 + 0 ≤ _)⟩)
  dsimp only [Pt.U, Pt.locs, Pt.cells, Pt.slots] at X1 l1 y1 z1 st1 hQ1
  subst l1 y1 z1
  obtain ⟨rfl, N1, e1⟩ := hQ1
  have M1 := Fr.app N0 N1
  refine Gl.st st1 ?_
  show Gl p.tables e below _ (T1.setTop (mkF m 5 #[.val (.ref t), .val (.int (Int32.ofNat i))] []))
  show Gl p.tables e below _ (T1.setTop (mkF m 5 #[.val (.ref t), .val (.int (Int32.ofNat i))] []))
  refine Gl.st (fun _ kq => XS.aloadN X1.here hx rfl (hb hby d21_5) rfl rfl kq) ?_
  refine Gl.st (fun _ kq => XS.iloadN X1.here hx rfl (hb hby d21_6) rfl kq) ?_
  show Gl p.tables e below _ (T1.setTop (mkF m 7 #[.val (.ref t), .val (.int (Int32.ofNat i))] [(.int (Int32.ofNat i)), (.ref t)]))
  obtain ⟨_, _, ⟨T2, L2, k2, n2⟩, -, X2, ⟨Lc2, hQ2, l2, y2, z2⟩, st2⟩ := Jvm.LawKit.callS X1 hx (y := (⟨"java/lang/StringUTF16", "getChar", "([BI)C"⟩ : MethodName)) hown (mvT hZ (tw hw 91 rfl)) (mvT hZ (tw hw 92 rfl)) (mvT hZ (tw hw 41 rfl)) (mvT hZ (tw hw 93 rfl)) (by decide) (backOf (W := 0) (rm_gc l Z a0 hw [] (t) (k) (cs) (i) h0 n0 Z0 pf0 pf1 hl ha hi OA OH OL) hZ (tw hw 93 rfl) (tw hw 41 rfl) (by decide) (by decide)) (g := (mkF m 7 #[.val (.ref t), .val (.int (Int32.ofNat i))] [(.int (Int32.ofNat i)), (.ref t)])) rfl (by rw [hml]; rfl) (argsL := [(.ref t), (.int (Int32.ofNat i))]) (rest := []) (lenOf pd___BI_C rfl) rfl (by show 2 * 0 + _ ≤ _; exact Nat.le_of_eq rfl) (hb hby d21_7) (fun _ _ => ⟨rfl, e1, (by decide : 0 + 0 ≤ _), (by decide : 0 + 0 ≤ _)⟩)
  dsimp only [Pt.U, Pt.locs, Pt.cells, Pt.slots] at X2 l2 y2 z2 st2 hQ2
  subst l2 y2 z2
  obtain ⟨rfl, N2, e2⟩ := hQ2
  have M2 := Fr.app M1 N2
  refine Gl.st st2 ?_
  show Gl p.tables e below _ (T2.setTop (mkF m 10 #[.val (.ref t), .val (.int (Int32.ofNat i))] [(.int (cs.getD i 0))]))
  show Gl p.tables e below _ (T2.setTop (mkF m 10 #[.val (.ref t), .val (.int (Int32.ofNat i))] [(.int (cs.getD i 0))]))
  exact Gl.retN X2 hx (t := .char) Bd.returns (by simp) (hb hby d21_10) hlk (by decide) (by decide) (by rw [e2]; exact (by rw [nar16 (mem_get ha hi)]; exact ⟨rfl, M2, rfl⟩))
theorem d11_0 : decode jdk_42_method_56_code 0 = .ok (.aload_n 0, 1) := by decide +kernel
theorem d11_1 : decode jdk_42_method_56_code 1 = .ok (.invokevirtual 492, 3) := by decide +kernel
theorem d11_4 : decode jdk_42_method_56_code 4 = .ok (.ifCond .eq 12, 3) := by decide +kernel
theorem d11_16 : decode jdk_42_method_56_code 16 = .ok (.aload_n 0, 1) := by decide +kernel
theorem d11_17 : decode jdk_42_method_56_code 17 = .ok (.getfield 9, 3) := by decide +kernel
theorem d11_20 : decode jdk_42_method_56_code 20 = .ok (.iload_n 1, 1) := by decide +kernel
theorem d11_21 : decode jdk_42_method_56_code 21 = .ok (.invokestatic 498, 3) := by decide +kernel
theorem d11_24 : decode jdk_42_method_56_code 24 = .ok (.ireturn, 1) := by decide +kernel
theorem ef_sc (m : MethodId) (b : Addr) (i : Nat) : entryFrame m #[(.ref b), (.int (Int32.ofNat i))] 2 = mkF m 0 #[.val (.ref b), .val (.int (Int32.ofNat i))] [] := by first | (simp [entryFrame, mkF, argsToLocals, Value.category]; done) | rfl
def Q_sc (Z : State) (b : Addr) (t : Addr) (k : ClassId) (cs : List Int32) (i : Nat) (Y1 : Int32) (Y3 : Value) (h0 : Heap) (n0 : Nat) (v : Option Value) (h : Heap) (L : List Loc) : Prop := (v = some (.int (cs.getD i 0)) ∧ Fr n0 L ∧ h = h0)
set_option maxRecDepth 65536 in
set_option maxHeartbeats 40000000 in
theorem rm_sc (l : Launch) (Z : State) (a0 : Array Value) (hw : ∀ d ∈ tables_1, d.before a0 Z = true) (ws : List Jvm.Cond) (b : Addr) (t : Addr) (k : ClassId) (cs : List Int32) (i : Nat) (Y1 : Int32) (Y3 : Value) (h0 : Heap) (n0 : Nat) (Z0 : n0 ≤ h0.size) (pf0 : Exa Z h0 b "java/lang/String") (pf1 : Fld Z h0 b "java/lang/String" "coder" "B" (.int 1)) (pf2 : Fld Z h0 b "java/lang/String" "value" "[B" (.ref t)) (pf3 : Arv Z h0 t k .byte (Int32.ofNat (2 * cs.length)) (own_us cs) (.int 0)) (pf4 : Old Z n0 h0) (hl : cs.length ≤ 4) (ha : ∀ c ∈ cs, own_h c) (hi : i < cs.length) (OA : Sta Z Z.heap "java/lang/StringUTF16" "$assertionsDisabled" "Z" (.int 1)) (OH : Sta Z Z.heap "java/lang/StringUTF16" "HI_BYTE_SHIFT" "I" (.int 0)) (OL : Sta Z Z.heap "java/lang/StringUTF16" "LO_BYTE_SHIFT" "I" (.int 8)) (O2 : Sta Z Z.heap "java/lang/String" "COMPACT_STRINGS" "Z" (.int Y1)) (P5 : ¬ (Y1 = (0 : Int32))) (O4 : Sta Z Z.heap "jdk/internal/util/Preconditions" "SIOOBE_FORMATTER" "Ljava/util/function/BiFunction;" Y3) (rG3 : Y3.isRef = true) :
    MetFree l (⟨"java/lang/String", "charAt", "(I)C"⟩ : MethodName) (head1 (Jvm.Cond.code (⟨"java/lang/String", "charAt", "(I)C"⟩ : MethodName) jdk_42_method_56_code 2 (some .char) :: ws) ({ frames := 4, cells := 0, slots := 0, locals := 53 } : Room)) (fun aa U => aa = #[(.ref b), (.int (Int32.ofNat i))] ∧ Z.Warmed39 U.vm ∧ U.heap = h0) (fun _ _ _ _ _ => True) (fun _ U o U' => ∃ v L, o = .returned v ∧ Q_sc Z b t k cs i Y1 Y3 h0 n0 v U'.heap L ∧ FrameEnd U o U' L ({ frames := 4, cells := 0, slots := 0, locals := 53 } : Room).cells ({ frames := 4, cells := 0, slots := 0, locals := 53 } : Room).slots) := by
  refine MetFree.of_bodySF (plainFor_of_name pn_java_lang_String) hisR ?_
  intro p e s m args below meth c s₁ Bd hml0 hP hK
  obtain ⟨rfl, hZ, hh⟩ := hP
  have hx := Bd.exec
  have hby := Bd.bytes
  have hlk : meth.locks = false := BodyLoose.notSynchronized Bd
  have hml : c.maxLocals = 2 := hml0
  have hown : s.vm.findClass "java/lang/String" = some m.cls := findClass_of_methodNamed Bd.named
  have hnm := (name_of_methodNamed Bd.named Bd.method).1
  have X0 : Stand p l e ({ frames := 4, cells := 0, slots := 0, locals := 53 } : Room) s m #[(.ref b), (.int (Int32.ofNat i))] below meth c s₁ [] 0 0 := Stand.of_body Bd
  have e0 : s₁.heap = h0 := by rw [← hh, Bd.state]; rfl
  have N0 := Fr.nil n0
  show Gl p.tables e below (EndN s (Q_sc Z b t k cs i Y1 Y3 h0 n0) ({ frames := 4, cells := 0, slots := 0, locals := 53 } : Room).cells ({ frames := 4, cells := 0, slots := 0, locals := 53 } : Room).slots) _
  refine Gl.cast (ef_sc m b i) ?_
  show Gl p.tables e below _ (s₁.setTop (mkF m 0 #[.val (.ref b), .val (.int (Int32.ofNat i))] []))
  refine Gl.st (fun _ kq => XS.aloadN X0.here hx rfl (hb hby d11_0) rfl rfl kq) ?_
  show Gl p.tables e below _ (s₁.setTop (mkF m 1 #[.val (.ref b), .val (.int (Int32.ofNat i))] [(.ref b)]))
  obtain ⟨cq1, kq1, q1a, q1b, q1c⟩ := isOf hZ e0 pf0
  obtain ⟨_, _, ⟨T1, L1, k1, n1⟩, -, X1, ⟨Lc1, hQ1, l1, y1, z1⟩, st1⟩ := X0.virtualBack hx (y := (⟨"java/lang/String", "isLatin1", "()Z"⟩ : MethodName)) (z := (⟨"java/lang/String", "isLatin1", "()Z"⟩ : MethodName)) hown (mvT hZ (tw hw 58 rfl)) (mvT hZ (tw hw 59 rfl)) (notFace_of_selects (args := #[]) (mvT hZ (tw hw 61 rfl))) (mvT hZ (tw hw 61 rfl)) (mvT hZ (tw hw 60 rfl)) (by decide) (backOf (W := 0) (rm_il1 l Z a0 hw [] (b) (Y1) h0 n0 Z0 pf1 pf4 O2 P5) hZ (tw hw 62 rfl) (tw hw 4 rfl) (by decide) (by decide)) q1a q1c (g := (mkF m 1 #[.val (.ref b), .val (.int (Int32.ofNat i))] [(.ref b)])) rfl (by rw [hml]; rfl) (Steps.refl _) (argsL := []) (rest := []) (lenOf pd___Z rfl) rfl (by show 2 * 0 + _ ≤ _; exact Nat.le_of_eq rfl) (hb hby d11_1) (fun _ _ => ⟨rfl, e0, (by decide : 0 + 0 ≤ _), (by decide : 0 + 0 ≤ _)⟩)
  dsimp only [Pt.U, Pt.locs, Pt.cells, Pt.slots] at X1 l1 y1 z1 st1 hQ1
  subst l1 y1 z1
  obtain ⟨rfl, N1, e1⟩ := hQ1
  have M1 := Fr.app N0 N1
  refine Gl.to st1 ?_
  show Gl p.tables e below _ (T1.setTop (mkF m 4 #[.val (.ref b), .val (.int (Int32.ofNat i))] [(.int 0)]))
  show Gl p.tables e below _ (T1.setTop (mkF m 4 #[.val (.ref b), .val (.int (Int32.ofNat i))] [(.int 0)]))
  refine Gl.st (fun _ kq => XS.ifYes X1.here hx rfl (pc0 := 4) (pc' := 16) rfl (hb hby d11_4) rfl ((if0 _ _).trans (teq ((by decide) : (0 : Int32) = (0 : Int32))).1) (by decide) (by decide) kq) ?_
  show Gl p.tables e below _ (T1.setTop (mkF m 16 #[.val (.ref b), .val (.int (Int32.ofNat i))] []))
  refine Gl.st (fun _ kq => XS.aloadN X1.here hx rfl (hb hby d11_16) rfl rfl kq) ?_
  show Gl p.tables e below _ (T1.setTop (mkF m 17 #[.val (.ref b), .val (.int (Int32.ofNat i))] [(.ref b)]))
  obtain ⟨T2, X2, e2, st2⟩ := getF X1 hx hZ hown (host := "") (Or.inl (tw hw 22 rfl)) Via.refl e1 pf2 (g := (mkF m 17 #[.val (.ref b), .val (.int (Int32.ofNat i))] [(.ref b)])) rfl rfl (hb hby d11_17)
  refine Gl.st st2 ?_
  show Gl p.tables e below _ (T2.setTop (mkF m 20 #[.val (.ref b), .val (.int (Int32.ofNat i))] [(.ref t)]))
  refine Gl.st (fun _ kq => XS.iloadN X2.here hx rfl (hb hby d11_20) rfl kq) ?_
  show Gl p.tables e below _ (T2.setTop (mkF m 21 #[.val (.ref b), .val (.int (Int32.ofNat i))] [(.int (Int32.ofNat i)), (.ref t)]))
  obtain ⟨_, _, ⟨T3, L3, k3, n3⟩, -, X3, ⟨Lc3, hQ3, l3, y3, z3⟩, st3⟩ := Jvm.LawKit.callS X2 hx (y := (⟨"java/lang/StringUTF16", "charAt", "([BI)C"⟩ : MethodName)) hown (mvT hZ (tw hw 94 rfl)) (mvT hZ (tw hw 95 rfl)) (mvT hZ (tw hw 41 rfl)) (mvT hZ (tw hw 96 rfl)) (by decide) (backOf (W := 0) (rm_uc l Z a0 hw [] (t) (k) (cs) (i) (Y3) h0 n0 Z0 pf3 pf4 hl ha hi OA OH OL O4 rG3) hZ (tw hw 96 rfl) (tw hw 41 rfl) (by decide) (by decide)) (g := (mkF m 21 #[.val (.ref b), .val (.int (Int32.ofNat i))] [(.int (Int32.ofNat i)), (.ref t)])) rfl (by rw [hml]; rfl) (argsL := [(.ref t), (.int (Int32.ofNat i))]) (rest := []) (lenOf pd___BI_C rfl) rfl (by show 2 * 0 + _ ≤ _; exact Nat.le_of_eq rfl) (hb hby d11_21) (fun _ _ => ⟨rfl, e2, (by decide : 0 + 0 ≤ _), (by decide : 0 + 0 ≤ _)⟩)
  dsimp only [Pt.U, Pt.locs, Pt.cells, Pt.slots] at X3 l3 y3 z3 st3 hQ3
  subst l3 y3 z3
  obtain ⟨rfl, N3, e3⟩ := hQ3
  have M3 := Fr.app M1 N3
  refine Gl.st st3 ?_
  show Gl p.tables e below _ (T3.setTop (mkF m 24 #[.val (.ref b), .val (.int (Int32.ofNat i))] [(.int (cs.getD i 0))]))
  show Gl p.tables e below _ (T3.setTop (mkF m 24 #[.val (.ref b), .val (.int (Int32.ofNat i))] [(.int (cs.getD i 0))]))
  exact Gl.retN X3 hx (t := .char) Bd.returns (by simp) (hb hby d11_24) hlk (by decide) (by decide) (by rw [e3]; exact (by rw [nar16 (mem_get ha hi)]; exact ⟨rfl, M3, rfl⟩))
theorem d5_0 : decode jdk_42_method_54_code 0 = .ok (.aload_n 0, 1) := by decide +kernel
theorem d5_1 : decode jdk_42_method_54_code 1 = .ok (.getfield 9, 3) := by decide +kernel
theorem d5_4 : decode jdk_42_method_54_code 4 = .ok (.arraylength, 1) := by decide +kernel
theorem d5_5 : decode jdk_42_method_54_code 5 = .ok (.aload_n 0, 1) := by decide +kernel
theorem d5_6 : decode jdk_42_method_54_code 6 = .ok (.invokevirtual 335, 3) := by decide +kernel
theorem d5_9 : decode jdk_42_method_54_code 9 = .ok (.ishr, 1) := by decide +kernel
theorem d5_10 : decode jdk_42_method_54_code 10 = .ok (.ireturn, 1) := by decide +kernel
theorem ef_sl (m : MethodId) (b : Addr) : entryFrame m #[(.ref b)] 1 = mkF m 0 #[.val (.ref b)] [] := by first | (simp [entryFrame, mkF, argsToLocals, Value.category]; done) | rfl
def Q_sl (Z : State) (b : Addr) (t : Addr) (k : ClassId) (cs : List Int32) (Y1 : Int32) (h0 : Heap) (n0 : Nat) (v : Option Value) (h : Heap) (L : List Loc) : Prop := (v = some (.int (Int32.ofNat cs.length)) ∧ Fr n0 L ∧ h = h0)
set_option maxRecDepth 65536 in
set_option maxHeartbeats 40000000 in
theorem rm_sl (l : Launch) (Z : State) (a0 : Array Value) (hw : ∀ d ∈ tables_1, d.before a0 Z = true) (ws : List Jvm.Cond) (b : Addr) (t : Addr) (k : ClassId) (cs : List Int32) (Y1 : Int32) (h0 : Heap) (n0 : Nat) (Z0 : n0 ≤ h0.size) (pf0 : Exa Z h0 b "java/lang/String") (pf1 : Fld Z h0 b "java/lang/String" "coder" "B" (.int 1)) (pf2 : Fld Z h0 b "java/lang/String" "value" "[B" (.ref t)) (pf3 : Arv Z h0 t k .byte (Int32.ofNat (2 * cs.length)) (own_us cs) (.int 0)) (pf4 : Old Z n0 h0) (hl : cs.length ≤ 4) (O2 : Sta Z Z.heap "java/lang/String" "COMPACT_STRINGS" "Z" (.int Y1)) (P5 : ¬ (Y1 = (0 : Int32))) :
    MetFree l (⟨"java/lang/String", "length", "()I"⟩ : MethodName) (head1 (Jvm.Cond.code (⟨"java/lang/String", "length", "()I"⟩ : MethodName) jdk_42_method_54_code 1 (some .int) :: ws) ({ frames := 1, cells := 0, slots := 0, locals := 13 } : Room)) (fun aa U => aa = #[(.ref b)] ∧ Z.Warmed39 U.vm ∧ U.heap = h0) (fun _ _ _ _ _ => True) (fun _ U o U' => ∃ v L, o = .returned v ∧ Q_sl Z b t k cs Y1 h0 n0 v U'.heap L ∧ FrameEnd U o U' L ({ frames := 1, cells := 0, slots := 0, locals := 13 } : Room).cells ({ frames := 1, cells := 0, slots := 0, locals := 13 } : Room).slots) := by
  refine MetFree.of_bodySF (plainFor_of_name pn_java_lang_String) hisR ?_
  intro p e s m args below meth c s₁ Bd hml0 hP hK
  obtain ⟨rfl, hZ, hh⟩ := hP
  have hx := Bd.exec
  have hby := Bd.bytes
  have hlk : meth.locks = false := BodyLoose.notSynchronized Bd
  have hml : c.maxLocals = 1 := hml0
  have hown : s.vm.findClass "java/lang/String" = some m.cls := findClass_of_methodNamed Bd.named
  have hnm := (name_of_methodNamed Bd.named Bd.method).1
  have X0 : Stand p l e ({ frames := 1, cells := 0, slots := 0, locals := 13 } : Room) s m #[(.ref b)] below meth c s₁ [] 0 0 := Stand.of_body Bd
  have e0 : s₁.heap = h0 := by rw [← hh, Bd.state]; rfl
  have N0 := Fr.nil n0
  show Gl p.tables e below (EndN s (Q_sl Z b t k cs Y1 h0 n0) ({ frames := 1, cells := 0, slots := 0, locals := 13 } : Room).cells ({ frames := 1, cells := 0, slots := 0, locals := 13 } : Room).slots) _
  refine Gl.cast (ef_sl m b) ?_
  show Gl p.tables e below _ (s₁.setTop (mkF m 0 #[.val (.ref b)] []))
  refine Gl.st (fun _ kq => XS.aloadN X0.here hx rfl (hb hby d5_0) rfl rfl kq) ?_
  show Gl p.tables e below _ (s₁.setTop (mkF m 1 #[.val (.ref b)] [(.ref b)]))
  obtain ⟨T1, X1, e1, st1⟩ := getF X0 hx hZ hown (host := "") (Or.inl (tw hw 22 rfl)) Via.refl e0 pf2 (g := (mkF m 1 #[.val (.ref b)] [(.ref b)])) rfl rfl (hb hby d5_1)
  refine Gl.st st1 ?_
  show Gl p.tables e below _ (T1.setTop (mkF m 4 #[.val (.ref b)] [(.ref t)]))
  obtain ⟨c2, a2, q2, S2, M2, H2, G2⟩ := id pf3
  refine Gl.st (fun _ kq => X1.arraylength hx (by rw [e1]; exact a2.1) (State.isArrayOf_alike hZ.alike a2.2.1) (g := (mkF m 4 #[.val (.ref b)] [(.ref t)])) rfl rfl (hb hby d5_4) _ kq) ?_
  rw [len_of S2 M2]
  show Gl p.tables e below _ (T1.setTop (mkF m 5 #[.val (.ref b)] [(.int (Int32.ofNat (2 * cs.length)))]))
  refine Gl.st (fun _ kq => XS.aloadN X1.here hx rfl (hb hby d5_5) rfl rfl kq) ?_
  show Gl p.tables e below _ (T1.setTop (mkF m 6 #[.val (.ref b)] [(.ref b), (.int (Int32.ofNat (2 * cs.length)))]))
  obtain ⟨cq3, kq3, q3a, q3b, q3c⟩ := isOf hZ e1 pf0
  obtain ⟨_, _, ⟨T3, L3, k3, n3⟩, -, X3, ⟨Lc3, hQ3, l3, y3, z3⟩, st3⟩ := X1.virtualBack hx (y := (⟨"java/lang/String", "coder", "()B"⟩ : MethodName)) (z := (⟨"java/lang/String", "coder", "()B"⟩ : MethodName)) hown (mvT hZ (tw hw 33 rfl)) (mvT hZ (tw hw 34 rfl)) (notFace_of_selects (args := #[]) (mvT hZ (tw hw 36 rfl))) (mvT hZ (tw hw 36 rfl)) (mvT hZ (tw hw 35 rfl)) (by decide) (backOf (W := 1) (rm_cd1 l Z a0 hw [] (b) (Y1) h0 n0 Z0 pf1 pf4 O2 P5) hZ (tw hw 37 rfl) (tw hw 4 rfl) (by decide) (by decide)) q3a q3c (g := (mkF m 6 #[.val (.ref b)] [(.ref b), (.int (Int32.ofNat (2 * cs.length)))])) rfl (by rw [hml]; rfl) (Steps.refl _) (argsL := []) (rest := [(.int (Int32.ofNat (2 * cs.length)))]) (lenOf pd___B rfl) rfl (by show 2 * 0 + _ ≤ _; exact Nat.le_of_eq rfl) (hb hby d5_6) (fun _ _ => ⟨rfl, e1, (by decide : 0 + 0 ≤ _), (by decide : 0 + 0 ≤ _)⟩)
  dsimp only [Pt.U, Pt.locs, Pt.cells, Pt.slots] at X3 l3 y3 z3 st3 hQ3
  subst l3 y3 z3
  obtain ⟨rfl, N3, e3⟩ := hQ3
  have M3 := Fr.app N0 N3
  refine Gl.to st3 ?_
  show Gl p.tables e below _ (T3.setTop (mkF m 9 #[.val (.ref b)] [(.int 1), (.int (Int32.ofNat (2 * cs.length)))]))
  show Gl p.tables e below _ (T3.setTop (mkF m 9 #[.val (.ref b)] [(.int 1), (.int (Int32.ofNat (2 * cs.length)))]))
  refine Gl.st (fun _ kq => XS.ishr X3.here hx rfl (hb hby d5_9) rfl kq) ?_
  show Gl p.tables e below _ (T3.setTop (mkF m 10 #[.val (.ref b)] [(.int ((Int32.ofNat (2 * cs.length)) >>> ((1 : Int32) &&& 31)))]))
  rw [own_hlf hl]
  show Gl p.tables e below _ (T3.setTop (mkF m 10 #[.val (.ref b)] [(.int (Int32.ofNat cs.length))]))
  exact Gl.retI X3 hx Bd.returns (hb hby d5_10) hlk (by decide) (by decide) (by rw [e3]; exact ⟨rfl, M3, rfl⟩)
theorem d4_0 : decode prog_7_method_2_code 0 = .ok (.iconst 1, 1) := by decide +kernel
theorem d4_1 : decode prog_7_method_2_code 1 = .ok (.istore_n 1, 1) := by decide +kernel
theorem d4_2 : decode prog_7_method_2_code 2 = .ok (.iconst 0, 1) := by decide +kernel
theorem d4_3 : decode prog_7_method_2_code 3 = .ok (.istore_n 2, 1) := by decide +kernel
theorem d4_4 : decode prog_7_method_2_code 4 = .ok (.iload_n 2, 1) := by decide +kernel
theorem d4_5 : decode prog_7_method_2_code 5 = .ok (.aload_n 0, 1) := by decide +kernel
theorem d4_6 : decode prog_7_method_2_code 6 = .ok (.invokevirtual 23, 3) := by decide +kernel
theorem d4_9 : decode prog_7_method_2_code 9 = .ok (.if_icmp .ge 29, 3) := by decide +kernel
theorem d4_12 : decode prog_7_method_2_code 12 = .ok (.iload_n 1, 1) := by decide +kernel
theorem d4_13 : decode prog_7_method_2_code 13 = .ok (.ifCond .eq 17, 3) := by decide +kernel
theorem d4_16 : decode prog_7_method_2_code 16 = .ok (.aload_n 0, 1) := by decide +kernel
theorem d4_17 : decode prog_7_method_2_code 17 = .ok (.iload_n 2, 1) := by decide +kernel
theorem d4_18 : decode prog_7_method_2_code 18 = .ok (.invokevirtual 29, 3) := by decide +kernel
theorem d4_21 : decode prog_7_method_2_code 21 = .ok (.bipush 35, 2) := by decide +kernel
theorem d4_23 : decode prog_7_method_2_code 23 = .ok (.if_icmp .le 7, 3) := by decide +kernel
theorem d4_26 : decode prog_7_method_2_code 26 = .ok (.iconst 1, 1) := by decide +kernel
theorem d4_27 : decode prog_7_method_2_code 27 = .ok (.goto 4, 3) := by decide +kernel
theorem d4_30 : decode prog_7_method_2_code 30 = .ok (.iconst 0, 1) := by decide +kernel
theorem d4_31 : decode prog_7_method_2_code 31 = .ok (.istore_n 1, 1) := by decide +kernel
theorem d4_32 : decode prog_7_method_2_code 32 = .ok (.iinc 2 1, 3) := by decide +kernel
theorem d4_35 : decode prog_7_method_2_code 35 = .ok (.goto (-31), 3) := by decide +kernel
theorem d4_38 : decode prog_7_method_2_code 38 = .ok (.iload_n 1, 1) := by decide +kernel
theorem d4_39 : decode prog_7_method_2_code 39 = .ok (.ireturn, 1) := by decide +kernel
theorem ef_kl (m : MethodId) (b : Addr) : entryFrame m #[(.ref b)] 3 = mkF m 0 #[.val (.ref b), .unset, .unset] [] := by first | (simp [entryFrame, mkF, argsToLocals, Value.category]; done) | rfl
def Q_kl (Z : State) (b : Addr) (t : Addr) (k : ClassId) (cs : List Int32) (Y1 : Int32) (Y3 : Value) (h0 : Heap) (n0 : Nat) (v : Option Value) (h : Heap) (L : List Loc) : Prop := (∃ r : Int32, v = some (.int r) ∧ Fr n0 L ∧ h = h0 ∧ (r = own_ko cs))
set_option maxRecDepth 65536 in
set_option maxHeartbeats 40000000 in
theorem rm_kl (l : Launch) (Z : State) (a0 : Array Value) (hw : ∀ d ∈ tables_1, d.before a0 Z = true) (ws : List Jvm.Cond) (b : Addr) (t : Addr) (k : ClassId) (cs : List Int32) (Y1 : Int32) (Y3 : Value) (h0 : Heap) (n0 : Nat) (Z0 : n0 ≤ h0.size) (pf0 : Exa Z h0 b "java/lang/String") (pf1 : Fld Z h0 b "java/lang/String" "coder" "B" (.int 0)) (pf2 : Fld Z h0 b "java/lang/String" "value" "[B" (.ref t)) (pf3 : Arv Z h0 t k .byte (Int32.ofNat cs.length) ((cs.map (fun c => c.toInt8.toInt32)).map Value.int) (.int 0)) (pf4 : Old Z n0 h0) (hl : cs.length ≤ 4) (ha : ∀ c ∈ cs, own_h c) (h8 : ∀ c ∈ cs, ¬ ((255 : Int32) < c)) (O2 : Sta Z Z.heap "java/lang/String" "COMPACT_STRINGS" "Z" (.int Y1)) (P5 : ¬ (Y1 = (0 : Int32))) (O4 : Sta Z Z.heap "jdk/internal/util/Preconditions" "SIOOBE_FORMATTER" "Ljava/util/function/BiFunction;" Y3) (rG3 : Y3.isRef = true) :
    MetFree l (⟨"com/example/neighbor_keys/neighborkeys/model/Composite", "keepsOrder", "(Ljava/lang/String;)Z"⟩ : MethodName) (head1 (Jvm.Cond.code (⟨"com/example/neighbor_keys/neighborkeys/model/Composite", "keepsOrder", "(Ljava/lang/String;)Z"⟩ : MethodName) prog_7_method_2_code 3 (some .boolean) :: ws) ({ frames := 4, cells := 0, slots := 0, locals := 53 } : Room)) (fun aa U => aa = #[(.ref b)] ∧ Z.Warmed39 U.vm ∧ U.heap = h0) (fun _ _ _ _ _ => True) (fun _ U o U' => ∃ v L, o = .returned v ∧ Q_kl Z b t k cs Y1 Y3 h0 n0 v U'.heap L ∧ FrameEnd U o U' L ({ frames := 4, cells := 0, slots := 0, locals := 53 } : Room).cells ({ frames := 4, cells := 0, slots := 0, locals := 53 } : Room).slots) := by
  refine MetFree.of_bodySF (plainFor_of_name pn_com_example_neighbor_keys_neighborkeys_model_Composite) hisR ?_
  intro p e s m args below meth c s₁ Bd hml0 hP hK
  obtain ⟨rfl, hZ, hh⟩ := hP
  have hx := Bd.exec
  have hby := Bd.bytes
  have hlk : meth.locks = false := BodyLoose.notSynchronized Bd
  have hml : c.maxLocals = 3 := hml0
  have hown : s.vm.findClass "com/example/neighbor_keys/neighborkeys/model/Composite" = some m.cls := findClass_of_methodNamed Bd.named
  have hnm := (name_of_methodNamed Bd.named Bd.method).1
  have X0 : Stand p l e ({ frames := 4, cells := 0, slots := 0, locals := 53 } : Room) s m #[(.ref b)] below meth c s₁ [] 0 0 := Stand.of_body Bd
  have e0 : s₁.heap = h0 := by rw [← hh, Bd.state]; rfl
  have N0 := Fr.nil n0
  show Gl p.tables e below (EndN s (Q_kl Z b t k cs Y1 Y3 h0 n0) ({ frames := 4, cells := 0, slots := 0, locals := 53 } : Room).cells ({ frames := 4, cells := 0, slots := 0, locals := 53 } : Room).slots) _
  refine Gl.cast (ef_kl m b) ?_
  show Gl p.tables e below _ (s₁.setTop (mkF m 0 #[.val (.ref b), .unset, .unset] []))
  refine Gl.st (fun _ kq => XS.iconst X0.here hx rfl (hb hby d4_0) kq) ?_
  refine Gl.st (fun _ kq => XS.istoreN X0.here hx rfl (hb hby d4_1) rfl (l' := #[.val (.ref b), .val (.int 1), .unset]) rfl kq) ?_
  refine Gl.st (fun _ kq => XS.iconst X0.here hx rfl (hb hby d4_2) kq) ?_
  refine Gl.st (fun _ kq => XS.istoreN X0.here hx rfl (hb hby d4_3) rfl (l' := #[.val (.ref b), .val (.int 1), .val (.int 0)]) rfl kq) ?_
  show Gl p.tables e below _ (s₁.setTop (mkF m 4 #[.val (.ref b), .val (.int 1), .val (.int 0)] []))
  have loop : ∀ (d i : Nat) (fl : Int32) (Ti : State) (Li : List Loc) (Xi : Stand p l e ({ frames := 4, cells := 0, slots := 0, locals := 53 } : Room) s m #[(.ref b)] below meth c Ti Li 0 0) (ei : Ti.heap = h0) (Ni : Fr n0 Li) (hd : i + d = cs.length) (hf : (fl = 1 ∧ ∀ j, j < i → (35 : Int32) < cs.getD j 0) ∨ (fl = 0 ∧ own_ko cs = 0)), Gl p.tables e below (EndN s (Q_kl Z b t k cs Y1 Y3 h0 n0) ({ frames := 4, cells := 0, slots := 0, locals := 53 } : Room).cells ({ frames := 4, cells := 0, slots := 0, locals := 53 } : Room).slots) (Ti.setTop (mkF m 4 #[.val (.ref b), .val (.int fl), .val (.int (Int32.ofNat i))] [])) := by
    intro d
    induction d with
    | zero =>
      intro i fl Ti Li Xi ei Ni hd hf
      have hlt := n32_nlt (i := i) (j := cs.length) (by omega) (by omega) (by omega)
      rcases hf with ⟨hf1, hall⟩ | ⟨hf1, hz⟩
      · subst hf1
        have hk : own_ko cs = 1 := own_ko_all cs fun j hj => hall j (by omega)
        show Gl p.tables e below _ (Ti.setTop (mkF m 4 #[.val (.ref b), .val (.int 1), .val (.int (Int32.ofNat i))] []))
        refine Gl.st (fun _ kq => XS.iloadN Xi.here hx rfl (hb hby d4_4) rfl kq) ?_
        refine Gl.st (fun _ kq => XS.aloadN Xi.here hx rfl (hb hby d4_5) rfl rfl kq) ?_
        show Gl p.tables e below _ (Ti.setTop (mkF m 6 #[.val (.ref b), .val (.int 1), .val (.int (Int32.ofNat i))] [(.ref b), (.int (Int32.ofNat i))]))
        obtain ⟨cq1, kq1, q1a, q1b, q1c⟩ := isOf hZ ei pf0
        obtain ⟨_, _, ⟨T1, L1, k1, n1⟩, -, X1, ⟨Lc1, hQ1, l1, y1, z1⟩, st1⟩ := Xi.virtualBack hx (y := (⟨"java/lang/String", "length", "()I"⟩ : MethodName)) (z := (⟨"java/lang/String", "length", "()I"⟩ : MethodName)) hown (mvT hZ (tw hw 28 rfl)) (mvT hZ (tw hw 29 rfl)) (notFace_of_selects (args := #[]) (mvT hZ (tw hw 31 rfl))) (mvT hZ (tw hw 31 rfl)) (mvT hZ (tw hw 30 rfl)) (by decide) (StrChars.Road.lenW (W := 1) hZ (wdLen hw) (kI := 4) (tw hw 3 rfl) pf0 pf2 pf1 pf3 (StrChars.Road.codOf (cs := cs) rfl (fun x hx => ((fun c hc => own_c8 (ha c hc) (h8 c hc)) x hx).2)) (up255 _ (fun c hc => own_c8 (ha c hc) (h8 c hc))) (O2.ext pf4.2) P5 (by omega) (by decide) (by decide)) q1a q1c (g := (mkF m 6 #[.val (.ref b), .val (.int 1), .val (.int (Int32.ofNat i))] [(.ref b), (.int (Int32.ofNat i))])) rfl (by rw [hml]; rfl) (Steps.refl _) (argsL := []) (rest := [(.int (Int32.ofNat i))]) (lenOf pd___I rfl) rfl (by show 2 * 0 + _ ≤ _; exact Nat.le_of_eq rfl) (hb hby d4_6) (fun _ _ => ⟨rfl, ei, (by decide : 0 + 0 ≤ _), (by decide : 0 + 0 ≤ _)⟩)
        dsimp only [Pt.U, Pt.locs, Pt.cells, Pt.slots] at X1 l1 y1 z1 st1 hQ1
        subst l1 y1 z1
        obtain ⟨rfl, rfl, e1⟩ := hQ1
        have N1 : Fr n0 ([] : List Loc) := Fr.nil n0
        have M1 := Fr.app Ni N1
        refine Gl.to st1 ?_
        show Gl p.tables e below _ (T1.setTop (mkF m 9 #[.val (.ref b), .val (.int 1), .val (.int (Int32.ofNat i))] [(.int (Int32.ofNat cs.length)), (.int (Int32.ofNat i))]))
        show Gl p.tables e below _ (T1.setTop (mkF m 9 #[.val (.ref b), .val (.int 1), .val (.int (Int32.ofNat i))] [(.int (Int32.ofNat cs.length)), (.int (Int32.ofNat i))]))
        refine Gl.st (fun _ kq => XS.icmpYes X1.here hx rfl (pc0 := 9) (pc' := 38) rfl (hb hby d4_9) rfl (flt (hlt : ¬ ((Int32.ofNat i) < (Int32.ofNat cs.length)))).2.1 (by decide) (by decide) kq) ?_
        show Gl p.tables e below _ (T1.setTop (mkF m 38 #[.val (.ref b), .val (.int 1), .val (.int (Int32.ofNat i))] []))
        refine Gl.st (fun _ kq => XS.iloadN X1.here hx rfl (hb hby d4_38) rfl kq) ?_
        exact Gl.retN X1 hx (t := .boolean) Bd.returns (by simp) (hb hby d4_39) hlk (by decide) (by decide) (by rw [e1]; exact ⟨(1 : Int32), rfl, M1, rfl, hk.symm⟩)
      · subst hf1
        have hk : own_ko cs = 0 := hz
        show Gl p.tables e below _ (Ti.setTop (mkF m 4 #[.val (.ref b), .val (.int 0), .val (.int (Int32.ofNat i))] []))
        refine Gl.st (fun _ kq => XS.iloadN Xi.here hx rfl (hb hby d4_4) rfl kq) ?_
        refine Gl.st (fun _ kq => XS.aloadN Xi.here hx rfl (hb hby d4_5) rfl rfl kq) ?_
        show Gl p.tables e below _ (Ti.setTop (mkF m 6 #[.val (.ref b), .val (.int 0), .val (.int (Int32.ofNat i))] [(.ref b), (.int (Int32.ofNat i))]))
        obtain ⟨cq2, kq2, q2a, q2b, q2c⟩ := isOf hZ ei pf0
        obtain ⟨_, _, ⟨T2, L2, k2, n2⟩, -, X2, ⟨Lc2, hQ2, l2, y2, z2⟩, st2⟩ := Xi.virtualBack hx (y := (⟨"java/lang/String", "length", "()I"⟩ : MethodName)) (z := (⟨"java/lang/String", "length", "()I"⟩ : MethodName)) hown (mvT hZ (tw hw 28 rfl)) (mvT hZ (tw hw 29 rfl)) (notFace_of_selects (args := #[]) (mvT hZ (tw hw 31 rfl))) (mvT hZ (tw hw 31 rfl)) (mvT hZ (tw hw 30 rfl)) (by decide) (StrChars.Road.lenW (W := 1) hZ (wdLen hw) (kI := 4) (tw hw 3 rfl) pf0 pf2 pf1 pf3 (StrChars.Road.codOf (cs := cs) rfl (fun x hx => ((fun c hc => own_c8 (ha c hc) (h8 c hc)) x hx).2)) (up255 _ (fun c hc => own_c8 (ha c hc) (h8 c hc))) (O2.ext pf4.2) P5 (by omega) (by decide) (by decide)) q2a q2c (g := (mkF m 6 #[.val (.ref b), .val (.int 0), .val (.int (Int32.ofNat i))] [(.ref b), (.int (Int32.ofNat i))])) rfl (by rw [hml]; rfl) (Steps.refl _) (argsL := []) (rest := [(.int (Int32.ofNat i))]) (lenOf pd___I rfl) rfl (by show 2 * 0 + _ ≤ _; exact Nat.le_of_eq rfl) (hb hby d4_6) (fun _ _ => ⟨rfl, ei, (by decide : 0 + 0 ≤ _), (by decide : 0 + 0 ≤ _)⟩)
        dsimp only [Pt.U, Pt.locs, Pt.cells, Pt.slots] at X2 l2 y2 z2 st2 hQ2
        subst l2 y2 z2
        obtain ⟨rfl, rfl, e2⟩ := hQ2
        have N2 : Fr n0 ([] : List Loc) := Fr.nil n0
        have M2 := Fr.app Ni N2
        refine Gl.to st2 ?_
        show Gl p.tables e below _ (T2.setTop (mkF m 9 #[.val (.ref b), .val (.int 0), .val (.int (Int32.ofNat i))] [(.int (Int32.ofNat cs.length)), (.int (Int32.ofNat i))]))
        show Gl p.tables e below _ (T2.setTop (mkF m 9 #[.val (.ref b), .val (.int 0), .val (.int (Int32.ofNat i))] [(.int (Int32.ofNat cs.length)), (.int (Int32.ofNat i))]))
        refine Gl.st (fun _ kq => XS.icmpYes X2.here hx rfl (pc0 := 9) (pc' := 38) rfl (hb hby d4_9) rfl (flt (hlt : ¬ ((Int32.ofNat i) < (Int32.ofNat cs.length)))).2.1 (by decide) (by decide) kq) ?_
        show Gl p.tables e below _ (T2.setTop (mkF m 38 #[.val (.ref b), .val (.int 0), .val (.int (Int32.ofNat i))] []))
        refine Gl.st (fun _ kq => XS.iloadN X2.here hx rfl (hb hby d4_38) rfl kq) ?_
        exact Gl.retN X2 hx (t := .boolean) Bd.returns (by simp) (hb hby d4_39) hlk (by decide) (by decide) (by rw [e2]; exact ⟨(0 : Int32), rfl, M2, rfl, hk.symm⟩)
    | succ d ih =>
      intro i fl Ti Li Xi ei Ni hd hf
      have hi : i < cs.length := by omega
      have hlt := n32_plt (i := i) (j := cs.length) hi (by omega)
      rcases hf with ⟨hf1, hall⟩ | ⟨hf1, hz⟩
      · subst hf1
        show Gl p.tables e below _ (Ti.setTop (mkF m 4 #[.val (.ref b), .val (.int 1), .val (.int (Int32.ofNat i))] []))
        refine Gl.st (fun _ kq => XS.iloadN Xi.here hx rfl (hb hby d4_4) rfl kq) ?_
        refine Gl.st (fun _ kq => XS.aloadN Xi.here hx rfl (hb hby d4_5) rfl rfl kq) ?_
        show Gl p.tables e below _ (Ti.setTop (mkF m 6 #[.val (.ref b), .val (.int 1), .val (.int (Int32.ofNat i))] [(.ref b), (.int (Int32.ofNat i))]))
        obtain ⟨cq3, kq3, q3a, q3b, q3c⟩ := isOf hZ ei pf0
        obtain ⟨_, _, ⟨T3, L3, k3, n3⟩, -, X3, ⟨Lc3, hQ3, l3, y3, z3⟩, st3⟩ := Xi.virtualBack hx (y := (⟨"java/lang/String", "length", "()I"⟩ : MethodName)) (z := (⟨"java/lang/String", "length", "()I"⟩ : MethodName)) hown (mvT hZ (tw hw 28 rfl)) (mvT hZ (tw hw 29 rfl)) (notFace_of_selects (args := #[]) (mvT hZ (tw hw 31 rfl))) (mvT hZ (tw hw 31 rfl)) (mvT hZ (tw hw 30 rfl)) (by decide) (StrChars.Road.lenW (W := 1) hZ (wdLen hw) (kI := 4) (tw hw 3 rfl) pf0 pf2 pf1 pf3 (StrChars.Road.codOf (cs := cs) rfl (fun x hx => ((fun c hc => own_c8 (ha c hc) (h8 c hc)) x hx).2)) (up255 _ (fun c hc => own_c8 (ha c hc) (h8 c hc))) (O2.ext pf4.2) P5 (by omega) (by decide) (by decide)) q3a q3c (g := (mkF m 6 #[.val (.ref b), .val (.int 1), .val (.int (Int32.ofNat i))] [(.ref b), (.int (Int32.ofNat i))])) rfl (by rw [hml]; rfl) (Steps.refl _) (argsL := []) (rest := [(.int (Int32.ofNat i))]) (lenOf pd___I rfl) rfl (by show 2 * 0 + _ ≤ _; exact Nat.le_of_eq rfl) (hb hby d4_6) (fun _ _ => ⟨rfl, ei, (by decide : 0 + 0 ≤ _), (by decide : 0 + 0 ≤ _)⟩)
        dsimp only [Pt.U, Pt.locs, Pt.cells, Pt.slots] at X3 l3 y3 z3 st3 hQ3
        subst l3 y3 z3
        obtain ⟨rfl, rfl, e3⟩ := hQ3
        have N3 : Fr n0 ([] : List Loc) := Fr.nil n0
        have M3 := Fr.app Ni N3
        refine Gl.to st3 ?_
        show Gl p.tables e below _ (T3.setTop (mkF m 9 #[.val (.ref b), .val (.int 1), .val (.int (Int32.ofNat i))] [(.int (Int32.ofNat cs.length)), (.int (Int32.ofNat i))]))
        show Gl p.tables e below _ (T3.setTop (mkF m 9 #[.val (.ref b), .val (.int 1), .val (.int (Int32.ofNat i))] [(.int (Int32.ofNat cs.length)), (.int (Int32.ofNat i))]))
        refine Gl.st (fun _ kq => XS.icmpNo X3.here hx rfl (hb hby d4_9) rfl (tlt (hlt : (Int32.ofNat i) < (Int32.ofNat cs.length))).2.1 kq) ?_
        show Gl p.tables e below _ (T3.setTop (mkF m 12 #[.val (.ref b), .val (.int 1), .val (.int (Int32.ofNat i))] []))
        refine Gl.st (fun _ kq => XS.iloadN X3.here hx rfl (hb hby d4_12) rfl kq) ?_
        show Gl p.tables e below _ (T3.setTop (mkF m 13 #[.val (.ref b), .val (.int 1), .val (.int (Int32.ofNat i))] [(.int 1)]))
        refine Gl.st (fun _ kq => XS.ifNo X3.here hx rfl (hb hby d4_13) rfl ((if0 _ _).trans (feq ((by decide) : ¬ ((1 : Int32) = (0 : Int32)))).1) kq) ?_
        show Gl p.tables e below _ (T3.setTop (mkF m 16 #[.val (.ref b), .val (.int 1), .val (.int (Int32.ofNat i))] []))
        refine Gl.st (fun _ kq => XS.aloadN X3.here hx rfl (hb hby d4_16) rfl rfl kq) ?_
        refine Gl.st (fun _ kq => XS.iloadN X3.here hx rfl (hb hby d4_17) rfl kq) ?_
        show Gl p.tables e below _ (T3.setTop (mkF m 18 #[.val (.ref b), .val (.int 1), .val (.int (Int32.ofNat i))] [(.int (Int32.ofNat i)), (.ref b)]))
        obtain ⟨cq4, kq4, q4a, q4b, q4c⟩ := isOf hZ e3 pf0
        obtain ⟨_, _, ⟨T4, L4, k4, n4⟩, -, X4, ⟨Lc4, hQ4, l4, y4, z4⟩, st4⟩ := X3.virtualBack hx (y := (⟨"java/lang/String", "charAt", "(I)C"⟩ : MethodName)) (z := (⟨"java/lang/String", "charAt", "(I)C"⟩ : MethodName)) hown (mvT hZ (tw hw 53 rfl)) (mvT hZ (tw hw 54 rfl)) (notFace_of_selects (args := #[]) (mvT hZ (tw hw 56 rfl))) (mvT hZ (tw hw 56 rfl)) (mvT hZ (tw hw 55 rfl)) (by decide) (StrChars.Road.chN (W := 0) hZ (wdCh hw) (kI := 4) (tw hw 3 rfl) pf0 pf2 pf1 pf3 (StrChars.Road.codOf (cs := cs) rfl (fun x hx => ((fun c hc => own_c8 (ha c hc) (h8 c hc)) x hx).2)) (up255 _ (fun c hc => own_c8 (ha c hc) (h8 c hc))) (O2.ext pf4.2) P5 (O4.ext pf4.2) rG3 (by omega) (i := i) hi (j := (Int32.ofNat i)) rfl (by decide) (by decide)) q4a q4c (g := (mkF m 18 #[.val (.ref b), .val (.int 1), .val (.int (Int32.ofNat i))] [(.int (Int32.ofNat i)), (.ref b)])) rfl (by rw [hml]; rfl) (Steps.refl _) (argsL := [(.int (Int32.ofNat i))]) (rest := []) (lenOf pd__I_C rfl) rfl (by show 2 * 0 + _ ≤ _; exact Nat.le_of_eq rfl) (hb hby d4_18) (fun _ _ => ⟨rfl, e3, (by decide : 0 + 0 ≤ _), (by decide : 0 + 0 ≤ _)⟩)
        dsimp only [Pt.U, Pt.locs, Pt.cells, Pt.slots] at X4 l4 y4 z4 st4 hQ4
        subst l4 y4 z4
        obtain ⟨rfl, rfl, e4⟩ := hQ4
        have N4 : Fr n0 ([] : List Loc) := Fr.nil n0
        have M4 := Fr.app M3 N4
        refine Gl.to st4 ?_
        show Gl p.tables e below _ (T4.setTop (mkF m 21 #[.val (.ref b), .val (.int 1), .val (.int (Int32.ofNat i))] [(.int (cs.getD i 0))]))
        show Gl p.tables e below _ (T4.setTop (mkF m 21 #[.val (.ref b), .val (.int 1), .val (.int (Int32.ofNat i))] [(.int (cs.getD i 0))]))
        refine Gl.st (fun _ kq => XS.bipush X4.here hx rfl (hb hby d4_21) kq) ?_
        show Gl p.tables e below _ (T4.setTop (mkF m 23 #[.val (.ref b), .val (.int 1), .val (.int (Int32.ofNat i))] [(.int 35), (.int (cs.getD i 0))]))
        by_cases hc5 : (35 : Int32) < (cs.getD i 0)
        · refine Gl.st (fun _ kq => XS.icmpNo X4.here hx rfl (hb hby d4_23) rfl (tlt (hc5 : (35 : Int32) < (cs.getD i 0))).2.2.2 kq) ?_
          show Gl p.tables e below _ (T4.setTop (mkF m 26 #[.val (.ref b), .val (.int 1), .val (.int (Int32.ofNat i))] []))
          refine Gl.st (fun _ kq => XS.iconst X4.here hx rfl (hb hby d4_26) kq) ?_
          refine Gl.st (fun _ kq => XS.goto X4.here hx rfl (pc0 := 27) (pc' := 31) rfl (hb hby d4_27) (by decide) (by decide) kq) ?_
          refine Gl.st (fun _ kq => XS.istoreN X4.here hx rfl (hb hby d4_31) rfl (l' := #[.val (.ref b), .val (.int 1), .val (.int (Int32.ofNat i))]) rfl kq) ?_
          refine Gl.st (fun _ kq => XS.iinc X4.here hx rfl (hb hby d4_32) rfl (l' := #[.val (.ref b), .val (.int 1), .val (.int ((Int32.ofNat i) + (1 : Int32)))]) rfl kq) ?_
          show Gl p.tables e below _ (T4.setTop (mkF m 35 #[.val (.ref b), .val (.int 1), .val (.int ((Int32.ofNat i) + (1 : Int32)))] []))
          refine Gl.st (fun _ kq => XS.goto X4.here hx rfl (pc0 := 35) (pc' := 4) rfl (hb hby d4_35) (by decide) (by decide) kq) ?_
          show Gl p.tables e below _ (T4.setTop (mkF m 4 #[.val (.ref b), .val (.int 1), .val (.int ((Int32.ofNat i) + (1 : Int32)))] []))
          rw [n32_inc i]
          exact ih (i + 1) _ _ _ X4 e4 M4 (by omega) (Or.inl ⟨rfl, fun j hj => by by_cases e : j = i; exact e ▸ hc5; exact hall j (by omega)⟩)
        · refine Gl.st (fun _ kq => XS.icmpYes X4.here hx rfl (pc0 := 23) (pc' := 30) rfl (hb hby d4_23) rfl (flt (hc5 : ¬ ((35 : Int32) < (cs.getD i 0)))).2.2.2 (by decide) (by decide) kq) ?_
          show Gl p.tables e below _ (T4.setTop (mkF m 30 #[.val (.ref b), .val (.int 1), .val (.int (Int32.ofNat i))] []))
          refine Gl.st (fun _ kq => XS.iconst X4.here hx rfl (hb hby d4_30) kq) ?_
          refine Gl.st (fun _ kq => XS.istoreN X4.here hx rfl (hb hby d4_31) rfl (l' := #[.val (.ref b), .val (.int 0), .val (.int (Int32.ofNat i))]) rfl kq) ?_
          refine Gl.st (fun _ kq => XS.iinc X4.here hx rfl (hb hby d4_32) rfl (l' := #[.val (.ref b), .val (.int 0), .val (.int ((Int32.ofNat i) + (1 : Int32)))]) rfl kq) ?_
          show Gl p.tables e below _ (T4.setTop (mkF m 35 #[.val (.ref b), .val (.int 0), .val (.int ((Int32.ofNat i) + (1 : Int32)))] []))
          refine Gl.st (fun _ kq => XS.goto X4.here hx rfl (pc0 := 35) (pc' := 4) rfl (hb hby d4_35) (by decide) (by decide) kq) ?_
          show Gl p.tables e below _ (T4.setTop (mkF m 4 #[.val (.ref b), .val (.int 0), .val (.int ((Int32.ofNat i) + (1 : Int32)))] []))
          rw [n32_inc i]
          exact ih (i + 1) _ _ _ X4 e4 M4 (by omega) (Or.inr ⟨rfl, own_ko_get cs i hi hc5⟩)
      · subst hf1
        show Gl p.tables e below _ (Ti.setTop (mkF m 4 #[.val (.ref b), .val (.int 0), .val (.int (Int32.ofNat i))] []))
        refine Gl.st (fun _ kq => XS.iloadN Xi.here hx rfl (hb hby d4_4) rfl kq) ?_
        refine Gl.st (fun _ kq => XS.aloadN Xi.here hx rfl (hb hby d4_5) rfl rfl kq) ?_
        show Gl p.tables e below _ (Ti.setTop (mkF m 6 #[.val (.ref b), .val (.int 0), .val (.int (Int32.ofNat i))] [(.ref b), (.int (Int32.ofNat i))]))
        obtain ⟨cq6, kq6, q6a, q6b, q6c⟩ := isOf hZ ei pf0
        obtain ⟨_, _, ⟨T6, L6, k6, n6⟩, -, X6, ⟨Lc6, hQ6, l6, y6, z6⟩, st6⟩ := Xi.virtualBack hx (y := (⟨"java/lang/String", "length", "()I"⟩ : MethodName)) (z := (⟨"java/lang/String", "length", "()I"⟩ : MethodName)) hown (mvT hZ (tw hw 28 rfl)) (mvT hZ (tw hw 29 rfl)) (notFace_of_selects (args := #[]) (mvT hZ (tw hw 31 rfl))) (mvT hZ (tw hw 31 rfl)) (mvT hZ (tw hw 30 rfl)) (by decide) (StrChars.Road.lenW (W := 1) hZ (wdLen hw) (kI := 4) (tw hw 3 rfl) pf0 pf2 pf1 pf3 (StrChars.Road.codOf (cs := cs) rfl (fun x hx => ((fun c hc => own_c8 (ha c hc) (h8 c hc)) x hx).2)) (up255 _ (fun c hc => own_c8 (ha c hc) (h8 c hc))) (O2.ext pf4.2) P5 (by omega) (by decide) (by decide)) q6a q6c (g := (mkF m 6 #[.val (.ref b), .val (.int 0), .val (.int (Int32.ofNat i))] [(.ref b), (.int (Int32.ofNat i))])) rfl (by rw [hml]; rfl) (Steps.refl _) (argsL := []) (rest := [(.int (Int32.ofNat i))]) (lenOf pd___I rfl) rfl (by show 2 * 0 + _ ≤ _; exact Nat.le_of_eq rfl) (hb hby d4_6) (fun _ _ => ⟨rfl, ei, (by decide : 0 + 0 ≤ _), (by decide : 0 + 0 ≤ _)⟩)
        dsimp only [Pt.U, Pt.locs, Pt.cells, Pt.slots] at X6 l6 y6 z6 st6 hQ6
        subst l6 y6 z6
        obtain ⟨rfl, rfl, e6⟩ := hQ6
        have N6 : Fr n0 ([] : List Loc) := Fr.nil n0
        have M6 := Fr.app Ni N6
        refine Gl.to st6 ?_
        show Gl p.tables e below _ (T6.setTop (mkF m 9 #[.val (.ref b), .val (.int 0), .val (.int (Int32.ofNat i))] [(.int (Int32.ofNat cs.length)), (.int (Int32.ofNat i))]))
        show Gl p.tables e below _ (T6.setTop (mkF m 9 #[.val (.ref b), .val (.int 0), .val (.int (Int32.ofNat i))] [(.int (Int32.ofNat cs.length)), (.int (Int32.ofNat i))]))
        refine Gl.st (fun _ kq => XS.icmpNo X6.here hx rfl (hb hby d4_9) rfl (tlt (hlt : (Int32.ofNat i) < (Int32.ofNat cs.length))).2.1 kq) ?_
        show Gl p.tables e below _ (T6.setTop (mkF m 12 #[.val (.ref b), .val (.int 0), .val (.int (Int32.ofNat i))] []))
        refine Gl.st (fun _ kq => XS.iloadN X6.here hx rfl (hb hby d4_12) rfl kq) ?_
        show Gl p.tables e below _ (T6.setTop (mkF m 13 #[.val (.ref b), .val (.int 0), .val (.int (Int32.ofNat i))] [(.int 0)]))
        refine Gl.st (fun _ kq => XS.ifYes X6.here hx rfl (pc0 := 13) (pc' := 30) rfl (hb hby d4_13) rfl ((if0 _ _).trans (teq ((by decide) : (0 : Int32) = (0 : Int32))).1) (by decide) (by decide) kq) ?_
        show Gl p.tables e below _ (T6.setTop (mkF m 30 #[.val (.ref b), .val (.int 0), .val (.int (Int32.ofNat i))] []))
        refine Gl.st (fun _ kq => XS.iconst X6.here hx rfl (hb hby d4_30) kq) ?_
        refine Gl.st (fun _ kq => XS.istoreN X6.here hx rfl (hb hby d4_31) rfl (l' := #[.val (.ref b), .val (.int 0), .val (.int (Int32.ofNat i))]) rfl kq) ?_
        refine Gl.st (fun _ kq => XS.iinc X6.here hx rfl (hb hby d4_32) rfl (l' := #[.val (.ref b), .val (.int 0), .val (.int ((Int32.ofNat i) + (1 : Int32)))]) rfl kq) ?_
        show Gl p.tables e below _ (T6.setTop (mkF m 35 #[.val (.ref b), .val (.int 0), .val (.int ((Int32.ofNat i) + (1 : Int32)))] []))
        refine Gl.st (fun _ kq => XS.goto X6.here hx rfl (pc0 := 35) (pc' := 4) rfl (hb hby d4_35) (by decide) (by decide) kq) ?_
        show Gl p.tables e below _ (T6.setTop (mkF m 4 #[.val (.ref b), .val (.int 0), .val (.int ((Int32.ofNat i) + (1 : Int32)))] []))
        rw [n32_inc i]
        exact ih (i + 1) _ _ _ X6 e6 M6 (by omega) (Or.inr ⟨rfl, hz⟩)
  exact loop cs.length 0 1 _ _ (X0.more (by decide) (by decide)) e0 N0 (by omega) (Or.inl ⟨rfl, fun j hj => absurd hj (by omega)⟩)
theorem ef_ku (m : MethodId) (b : Addr) : entryFrame m #[(.ref b)] 3 = mkF m 0 #[.val (.ref b), .unset, .unset] [] := by first | (simp [entryFrame, mkF, argsToLocals, Value.category]; done) | rfl
def Q_ku (Z : State) (b : Addr) (t : Addr) (k : ClassId) (cs : List Int32) (Y1 : Int32) (Y3 : Value) (h0 : Heap) (n0 : Nat) (v : Option Value) (h : Heap) (L : List Loc) : Prop := (∃ r : Int32, v = some (.int r) ∧ Fr n0 L ∧ h = h0 ∧ (r = own_ko cs))
set_option maxRecDepth 65536 in
set_option maxHeartbeats 40000000 in
theorem rm_ku (l : Launch) (Z : State) (a0 : Array Value) (hw : ∀ d ∈ tables_1, d.before a0 Z = true) (ws : List Jvm.Cond) (b : Addr) (t : Addr) (k : ClassId) (cs : List Int32) (Y1 : Int32) (Y3 : Value) (h0 : Heap) (n0 : Nat) (Z0 : n0 ≤ h0.size) (pf0 : Exa Z h0 b "java/lang/String") (pf1 : Fld Z h0 b "java/lang/String" "coder" "B" (.int 1)) (pf2 : Fld Z h0 b "java/lang/String" "value" "[B" (.ref t)) (pf3 : Arv Z h0 t k .byte (Int32.ofNat (2 * cs.length)) (own_us cs) (.int 0)) (pf4 : Old Z n0 h0) (hl : cs.length ≤ 4) (ha : ∀ c ∈ cs, own_h c) (OA : Sta Z Z.heap "java/lang/StringUTF16" "$assertionsDisabled" "Z" (.int 1)) (OH : Sta Z Z.heap "java/lang/StringUTF16" "HI_BYTE_SHIFT" "I" (.int 0)) (OL : Sta Z Z.heap "java/lang/StringUTF16" "LO_BYTE_SHIFT" "I" (.int 8)) (O2 : Sta Z Z.heap "java/lang/String" "COMPACT_STRINGS" "Z" (.int Y1)) (P5 : ¬ (Y1 = (0 : Int32))) (O4 : Sta Z Z.heap "jdk/internal/util/Preconditions" "SIOOBE_FORMATTER" "Ljava/util/function/BiFunction;" Y3) (rG3 : Y3.isRef = true) :
    MetFree l (⟨"com/example/neighbor_keys/neighborkeys/model/Composite", "keepsOrder", "(Ljava/lang/String;)Z"⟩ : MethodName) (head1 (Jvm.Cond.code (⟨"com/example/neighbor_keys/neighborkeys/model/Composite", "keepsOrder", "(Ljava/lang/String;)Z"⟩ : MethodName) prog_7_method_2_code 3 (some .boolean) :: ws) ({ frames := 5, cells := 0, slots := 0, locals := 66 } : Room)) (fun aa U => aa = #[(.ref b)] ∧ Z.Warmed39 U.vm ∧ U.heap = h0) (fun _ _ _ _ _ => True) (fun _ U o U' => ∃ v L, o = .returned v ∧ Q_ku Z b t k cs Y1 Y3 h0 n0 v U'.heap L ∧ FrameEnd U o U' L ({ frames := 5, cells := 0, slots := 0, locals := 66 } : Room).cells ({ frames := 5, cells := 0, slots := 0, locals := 66 } : Room).slots) := by
  refine MetFree.of_bodySF (plainFor_of_name pn_com_example_neighbor_keys_neighborkeys_model_Composite) hisR ?_
  intro p e s m args below meth c s₁ Bd hml0 hP hK
  obtain ⟨rfl, hZ, hh⟩ := hP
  have hx := Bd.exec
  have hby := Bd.bytes
  have hlk : meth.locks = false := BodyLoose.notSynchronized Bd
  have hml : c.maxLocals = 3 := hml0
  have hown : s.vm.findClass "com/example/neighbor_keys/neighborkeys/model/Composite" = some m.cls := findClass_of_methodNamed Bd.named
  have hnm := (name_of_methodNamed Bd.named Bd.method).1
  have X0 : Stand p l e ({ frames := 5, cells := 0, slots := 0, locals := 66 } : Room) s m #[(.ref b)] below meth c s₁ [] 0 0 := Stand.of_body Bd
  have e0 : s₁.heap = h0 := by rw [← hh, Bd.state]; rfl
  have N0 := Fr.nil n0
  show Gl p.tables e below (EndN s (Q_ku Z b t k cs Y1 Y3 h0 n0) ({ frames := 5, cells := 0, slots := 0, locals := 66 } : Room).cells ({ frames := 5, cells := 0, slots := 0, locals := 66 } : Room).slots) _
  refine Gl.cast (ef_ku m b) ?_
  show Gl p.tables e below _ (s₁.setTop (mkF m 0 #[.val (.ref b), .unset, .unset] []))
  refine Gl.st (fun _ kq => XS.iconst X0.here hx rfl (hb hby d4_0) kq) ?_
  refine Gl.st (fun _ kq => XS.istoreN X0.here hx rfl (hb hby d4_1) rfl (l' := #[.val (.ref b), .val (.int 1), .unset]) rfl kq) ?_
  refine Gl.st (fun _ kq => XS.iconst X0.here hx rfl (hb hby d4_2) kq) ?_
  refine Gl.st (fun _ kq => XS.istoreN X0.here hx rfl (hb hby d4_3) rfl (l' := #[.val (.ref b), .val (.int 1), .val (.int 0)]) rfl kq) ?_
  show Gl p.tables e below _ (s₁.setTop (mkF m 4 #[.val (.ref b), .val (.int 1), .val (.int 0)] []))
  have loop : ∀ (d i : Nat) (fl : Int32) (Ti : State) (Li : List Loc) (Xi : Stand p l e ({ frames := 5, cells := 0, slots := 0, locals := 66 } : Room) s m #[(.ref b)] below meth c Ti Li 0 0) (ei : Ti.heap = h0) (Ni : Fr n0 Li) (hd : i + d = cs.length) (hf : (fl = 1 ∧ ∀ j, j < i → (35 : Int32) < cs.getD j 0) ∨ (fl = 0 ∧ own_ko cs = 0)), Gl p.tables e below (EndN s (Q_ku Z b t k cs Y1 Y3 h0 n0) ({ frames := 5, cells := 0, slots := 0, locals := 66 } : Room).cells ({ frames := 5, cells := 0, slots := 0, locals := 66 } : Room).slots) (Ti.setTop (mkF m 4 #[.val (.ref b), .val (.int fl), .val (.int (Int32.ofNat i))] [])) := by
    intro d
    induction d with
    | zero =>
      intro i fl Ti Li Xi ei Ni hd hf
      have hlt := n32_nlt (i := i) (j := cs.length) (by omega) (by omega) (by omega)
      rcases hf with ⟨hf1, hall⟩ | ⟨hf1, hz⟩
      · subst hf1
        have hk : own_ko cs = 1 := own_ko_all cs fun j hj => hall j (by omega)
        show Gl p.tables e below _ (Ti.setTop (mkF m 4 #[.val (.ref b), .val (.int 1), .val (.int (Int32.ofNat i))] []))
        refine Gl.st (fun _ kq => XS.iloadN Xi.here hx rfl (hb hby d4_4) rfl kq) ?_
        refine Gl.st (fun _ kq => XS.aloadN Xi.here hx rfl (hb hby d4_5) rfl rfl kq) ?_
        show Gl p.tables e below _ (Ti.setTop (mkF m 6 #[.val (.ref b), .val (.int 1), .val (.int (Int32.ofNat i))] [(.ref b), (.int (Int32.ofNat i))]))
        obtain ⟨cq1, kq1, q1a, q1b, q1c⟩ := isOf hZ ei pf0
        obtain ⟨_, _, ⟨T1, L1, k1, n1⟩, -, X1, ⟨Lc1, hQ1, l1, y1, z1⟩, st1⟩ := Xi.virtualBack hx (y := (⟨"java/lang/String", "length", "()I"⟩ : MethodName)) (z := (⟨"java/lang/String", "length", "()I"⟩ : MethodName)) hown (mvT hZ (tw hw 28 rfl)) (mvT hZ (tw hw 29 rfl)) (notFace_of_selects (args := #[]) (mvT hZ (tw hw 31 rfl))) (mvT hZ (tw hw 31 rfl)) (mvT hZ (tw hw 30 rfl)) (by decide) (backOf (W := 1) (rm_sl l Z a0 hw [] (b) (t) (k) (cs) (Y1) h0 n0 Z0 pf0 pf1 pf2 pf3 pf4 hl O2 P5) hZ (tw hw 32 rfl) (tw hw 4 rfl) (by decide) (by decide)) q1a q1c (g := (mkF m 6 #[.val (.ref b), .val (.int 1), .val (.int (Int32.ofNat i))] [(.ref b), (.int (Int32.ofNat i))])) rfl (by rw [hml]; rfl) (Steps.refl _) (argsL := []) (rest := [(.int (Int32.ofNat i))]) (lenOf pd___I rfl) rfl (by show 2 * 0 + _ ≤ _; exact Nat.le_of_eq rfl) (hb hby d4_6) (fun _ _ => ⟨rfl, ei, (by decide : 0 + 0 ≤ _), (by decide : 0 + 0 ≤ _)⟩)
        dsimp only [Pt.U, Pt.locs, Pt.cells, Pt.slots] at X1 l1 y1 z1 st1 hQ1
        subst l1 y1 z1
        obtain ⟨rfl, N1, e1⟩ := hQ1
        have M1 := Fr.app Ni N1
        refine Gl.to st1 ?_
        show Gl p.tables e below _ (T1.setTop (mkF m 9 #[.val (.ref b), .val (.int 1), .val (.int (Int32.ofNat i))] [(.int (Int32.ofNat cs.length)), (.int (Int32.ofNat i))]))
        show Gl p.tables e below _ (T1.setTop (mkF m 9 #[.val (.ref b), .val (.int 1), .val (.int (Int32.ofNat i))] [(.int (Int32.ofNat cs.length)), (.int (Int32.ofNat i))]))
        refine Gl.st (fun _ kq => XS.icmpYes X1.here hx rfl (pc0 := 9) (pc' := 38) rfl (hb hby d4_9) rfl (flt (hlt : ¬ ((Int32.ofNat i) < (Int32.ofNat cs.length)))).2.1 (by decide) (by decide) kq) ?_
        show Gl p.tables e below _ (T1.setTop (mkF m 38 #[.val (.ref b), .val (.int 1), .val (.int (Int32.ofNat i))] []))
        refine Gl.st (fun _ kq => XS.iloadN X1.here hx rfl (hb hby d4_38) rfl kq) ?_
        exact Gl.retN X1 hx (t := .boolean) Bd.returns (by simp) (hb hby d4_39) hlk (by decide) (by decide) (by rw [e1]; exact ⟨(1 : Int32), rfl, M1, rfl, hk.symm⟩)
      · subst hf1
        have hk : own_ko cs = 0 := hz
        show Gl p.tables e below _ (Ti.setTop (mkF m 4 #[.val (.ref b), .val (.int 0), .val (.int (Int32.ofNat i))] []))
        refine Gl.st (fun _ kq => XS.iloadN Xi.here hx rfl (hb hby d4_4) rfl kq) ?_
        refine Gl.st (fun _ kq => XS.aloadN Xi.here hx rfl (hb hby d4_5) rfl rfl kq) ?_
        show Gl p.tables e below _ (Ti.setTop (mkF m 6 #[.val (.ref b), .val (.int 0), .val (.int (Int32.ofNat i))] [(.ref b), (.int (Int32.ofNat i))]))
        obtain ⟨cq2, kq2, q2a, q2b, q2c⟩ := isOf hZ ei pf0
        obtain ⟨_, _, ⟨T2, L2, k2, n2⟩, -, X2, ⟨Lc2, hQ2, l2, y2, z2⟩, st2⟩ := Xi.virtualBack hx (y := (⟨"java/lang/String", "length", "()I"⟩ : MethodName)) (z := (⟨"java/lang/String", "length", "()I"⟩ : MethodName)) hown (mvT hZ (tw hw 28 rfl)) (mvT hZ (tw hw 29 rfl)) (notFace_of_selects (args := #[]) (mvT hZ (tw hw 31 rfl))) (mvT hZ (tw hw 31 rfl)) (mvT hZ (tw hw 30 rfl)) (by decide) (backOf (W := 1) (rm_sl l Z a0 hw [] (b) (t) (k) (cs) (Y1) h0 n0 Z0 pf0 pf1 pf2 pf3 pf4 hl O2 P5) hZ (tw hw 32 rfl) (tw hw 4 rfl) (by decide) (by decide)) q2a q2c (g := (mkF m 6 #[.val (.ref b), .val (.int 0), .val (.int (Int32.ofNat i))] [(.ref b), (.int (Int32.ofNat i))])) rfl (by rw [hml]; rfl) (Steps.refl _) (argsL := []) (rest := [(.int (Int32.ofNat i))]) (lenOf pd___I rfl) rfl (by show 2 * 0 + _ ≤ _; exact Nat.le_of_eq rfl) (hb hby d4_6) (fun _ _ => ⟨rfl, ei, (by decide : 0 + 0 ≤ _), (by decide : 0 + 0 ≤ _)⟩)
        dsimp only [Pt.U, Pt.locs, Pt.cells, Pt.slots] at X2 l2 y2 z2 st2 hQ2
        subst l2 y2 z2
        obtain ⟨rfl, N2, e2⟩ := hQ2
        have M2 := Fr.app Ni N2
        refine Gl.to st2 ?_
        show Gl p.tables e below _ (T2.setTop (mkF m 9 #[.val (.ref b), .val (.int 0), .val (.int (Int32.ofNat i))] [(.int (Int32.ofNat cs.length)), (.int (Int32.ofNat i))]))
        show Gl p.tables e below _ (T2.setTop (mkF m 9 #[.val (.ref b), .val (.int 0), .val (.int (Int32.ofNat i))] [(.int (Int32.ofNat cs.length)), (.int (Int32.ofNat i))]))
        refine Gl.st (fun _ kq => XS.icmpYes X2.here hx rfl (pc0 := 9) (pc' := 38) rfl (hb hby d4_9) rfl (flt (hlt : ¬ ((Int32.ofNat i) < (Int32.ofNat cs.length)))).2.1 (by decide) (by decide) kq) ?_
        show Gl p.tables e below _ (T2.setTop (mkF m 38 #[.val (.ref b), .val (.int 0), .val (.int (Int32.ofNat i))] []))
        refine Gl.st (fun _ kq => XS.iloadN X2.here hx rfl (hb hby d4_38) rfl kq) ?_
        exact Gl.retN X2 hx (t := .boolean) Bd.returns (by simp) (hb hby d4_39) hlk (by decide) (by decide) (by rw [e2]; exact ⟨(0 : Int32), rfl, M2, rfl, hk.symm⟩)
    | succ d ih =>
      intro i fl Ti Li Xi ei Ni hd hf
      have hi : i < cs.length := by omega
      have hlt := n32_plt (i := i) (j := cs.length) hi (by omega)
      rcases hf with ⟨hf1, hall⟩ | ⟨hf1, hz⟩
      · subst hf1
        show Gl p.tables e below _ (Ti.setTop (mkF m 4 #[.val (.ref b), .val (.int 1), .val (.int (Int32.ofNat i))] []))
        refine Gl.st (fun _ kq => XS.iloadN Xi.here hx rfl (hb hby d4_4) rfl kq) ?_
        refine Gl.st (fun _ kq => XS.aloadN Xi.here hx rfl (hb hby d4_5) rfl rfl kq) ?_
        show Gl p.tables e below _ (Ti.setTop (mkF m 6 #[.val (.ref b), .val (.int 1), .val (.int (Int32.ofNat i))] [(.ref b), (.int (Int32.ofNat i))]))
        obtain ⟨cq3, kq3, q3a, q3b, q3c⟩ := isOf hZ ei pf0
        obtain ⟨_, _, ⟨T3, L3, k3, n3⟩, -, X3, ⟨Lc3, hQ3, l3, y3, z3⟩, st3⟩ := Xi.virtualBack hx (y := (⟨"java/lang/String", "length", "()I"⟩ : MethodName)) (z := (⟨"java/lang/String", "length", "()I"⟩ : MethodName)) hown (mvT hZ (tw hw 28 rfl)) (mvT hZ (tw hw 29 rfl)) (notFace_of_selects (args := #[]) (mvT hZ (tw hw 31 rfl))) (mvT hZ (tw hw 31 rfl)) (mvT hZ (tw hw 30 rfl)) (by decide) (backOf (W := 1) (rm_sl l Z a0 hw [] (b) (t) (k) (cs) (Y1) h0 n0 Z0 pf0 pf1 pf2 pf3 pf4 hl O2 P5) hZ (tw hw 32 rfl) (tw hw 4 rfl) (by decide) (by decide)) q3a q3c (g := (mkF m 6 #[.val (.ref b), .val (.int 1), .val (.int (Int32.ofNat i))] [(.ref b), (.int (Int32.ofNat i))])) rfl (by rw [hml]; rfl) (Steps.refl _) (argsL := []) (rest := [(.int (Int32.ofNat i))]) (lenOf pd___I rfl) rfl (by show 2 * 0 + _ ≤ _; exact Nat.le_of_eq rfl) (hb hby d4_6) (fun _ _ => ⟨rfl, ei, (by decide : 0 + 0 ≤ _), (by decide : 0 + 0 ≤ _)⟩)
        dsimp only [Pt.U, Pt.locs, Pt.cells, Pt.slots] at X3 l3 y3 z3 st3 hQ3
        subst l3 y3 z3
        obtain ⟨rfl, N3, e3⟩ := hQ3
        have M3 := Fr.app Ni N3
        refine Gl.to st3 ?_
        show Gl p.tables e below _ (T3.setTop (mkF m 9 #[.val (.ref b), .val (.int 1), .val (.int (Int32.ofNat i))] [(.int (Int32.ofNat cs.length)), (.int (Int32.ofNat i))]))
        show Gl p.tables e below _ (T3.setTop (mkF m 9 #[.val (.ref b), .val (.int 1), .val (.int (Int32.ofNat i))] [(.int (Int32.ofNat cs.length)), (.int (Int32.ofNat i))]))
        refine Gl.st (fun _ kq => XS.icmpNo X3.here hx rfl (hb hby d4_9) rfl (tlt (hlt : (Int32.ofNat i) < (Int32.ofNat cs.length))).2.1 kq) ?_
        show Gl p.tables e below _ (T3.setTop (mkF m 12 #[.val (.ref b), .val (.int 1), .val (.int (Int32.ofNat i))] []))
        refine Gl.st (fun _ kq => XS.iloadN X3.here hx rfl (hb hby d4_12) rfl kq) ?_
        show Gl p.tables e below _ (T3.setTop (mkF m 13 #[.val (.ref b), .val (.int 1), .val (.int (Int32.ofNat i))] [(.int 1)]))
        refine Gl.st (fun _ kq => XS.ifNo X3.here hx rfl (hb hby d4_13) rfl ((if0 _ _).trans (feq ((by decide) : ¬ ((1 : Int32) = (0 : Int32)))).1) kq) ?_
        show Gl p.tables e below _ (T3.setTop (mkF m 16 #[.val (.ref b), .val (.int 1), .val (.int (Int32.ofNat i))] []))
        refine Gl.st (fun _ kq => XS.aloadN X3.here hx rfl (hb hby d4_16) rfl rfl kq) ?_
        refine Gl.st (fun _ kq => XS.iloadN X3.here hx rfl (hb hby d4_17) rfl kq) ?_
        show Gl p.tables e below _ (T3.setTop (mkF m 18 #[.val (.ref b), .val (.int 1), .val (.int (Int32.ofNat i))] [(.int (Int32.ofNat i)), (.ref b)]))
        obtain ⟨cq4, kq4, q4a, q4b, q4c⟩ := isOf hZ e3 pf0
        obtain ⟨_, _, ⟨T4, L4, k4, n4⟩, -, X4, ⟨Lc4, hQ4, l4, y4, z4⟩, st4⟩ := X3.virtualBack hx (y := (⟨"java/lang/String", "charAt", "(I)C"⟩ : MethodName)) (z := (⟨"java/lang/String", "charAt", "(I)C"⟩ : MethodName)) hown (mvT hZ (tw hw 53 rfl)) (mvT hZ (tw hw 54 rfl)) (notFace_of_selects (args := #[]) (mvT hZ (tw hw 56 rfl))) (mvT hZ (tw hw 56 rfl)) (mvT hZ (tw hw 55 rfl)) (by decide) (backOf (W := 0) (rm_sc l Z a0 hw [] (b) (t) (k) (cs) (i) (Y1) (Y3) h0 n0 Z0 pf0 pf1 pf2 pf3 pf4 hl ha hi OA OH OL O2 P5 O4 rG3) hZ (tw hw 57 rfl) (tw hw 4 rfl) (by decide) (by decide)) q4a q4c (g := (mkF m 18 #[.val (.ref b), .val (.int 1), .val (.int (Int32.ofNat i))] [(.int (Int32.ofNat i)), (.ref b)])) rfl (by rw [hml]; rfl) (Steps.refl _) (argsL := [(.int (Int32.ofNat i))]) (rest := []) (lenOf pd__I_C rfl) rfl (by show 2 * 0 + _ ≤ _; exact Nat.le_of_eq rfl) (hb hby d4_18) (fun _ _ => ⟨rfl, e3, (by decide : 0 + 0 ≤ _), (by decide : 0 + 0 ≤ _)⟩)
        dsimp only [Pt.U, Pt.locs, Pt.cells, Pt.slots] at X4 l4 y4 z4 st4 hQ4
        subst l4 y4 z4
        obtain ⟨rfl, N4, e4⟩ := hQ4
        have M4 := Fr.app M3 N4
        refine Gl.to st4 ?_
        show Gl p.tables e below _ (T4.setTop (mkF m 21 #[.val (.ref b), .val (.int 1), .val (.int (Int32.ofNat i))] [(.int (cs.getD i 0))]))
        show Gl p.tables e below _ (T4.setTop (mkF m 21 #[.val (.ref b), .val (.int 1), .val (.int (Int32.ofNat i))] [(.int (cs.getD i 0))]))
        refine Gl.st (fun _ kq => XS.bipush X4.here hx rfl (hb hby d4_21) kq) ?_
        show Gl p.tables e below _ (T4.setTop (mkF m 23 #[.val (.ref b), .val (.int 1), .val (.int (Int32.ofNat i))] [(.int 35), (.int (cs.getD i 0))]))
        by_cases hc5 : (35 : Int32) < (cs.getD i 0)
        · refine Gl.st (fun _ kq => XS.icmpNo X4.here hx rfl (hb hby d4_23) rfl (tlt (hc5 : (35 : Int32) < (cs.getD i 0))).2.2.2 kq) ?_
          show Gl p.tables e below _ (T4.setTop (mkF m 26 #[.val (.ref b), .val (.int 1), .val (.int (Int32.ofNat i))] []))
          refine Gl.st (fun _ kq => XS.iconst X4.here hx rfl (hb hby d4_26) kq) ?_
          refine Gl.st (fun _ kq => XS.goto X4.here hx rfl (pc0 := 27) (pc' := 31) rfl (hb hby d4_27) (by decide) (by decide) kq) ?_
          refine Gl.st (fun _ kq => XS.istoreN X4.here hx rfl (hb hby d4_31) rfl (l' := #[.val (.ref b), .val (.int 1), .val (.int (Int32.ofNat i))]) rfl kq) ?_
          refine Gl.st (fun _ kq => XS.iinc X4.here hx rfl (hb hby d4_32) rfl (l' := #[.val (.ref b), .val (.int 1), .val (.int ((Int32.ofNat i) + (1 : Int32)))]) rfl kq) ?_
          show Gl p.tables e below _ (T4.setTop (mkF m 35 #[.val (.ref b), .val (.int 1), .val (.int ((Int32.ofNat i) + (1 : Int32)))] []))
          refine Gl.st (fun _ kq => XS.goto X4.here hx rfl (pc0 := 35) (pc' := 4) rfl (hb hby d4_35) (by decide) (by decide) kq) ?_
          show Gl p.tables e below _ (T4.setTop (mkF m 4 #[.val (.ref b), .val (.int 1), .val (.int ((Int32.ofNat i) + (1 : Int32)))] []))
          rw [n32_inc i]
          exact ih (i + 1) _ _ _ X4 e4 M4 (by omega) (Or.inl ⟨rfl, fun j hj => by by_cases e : j = i; exact e ▸ hc5; exact hall j (by omega)⟩)
        · refine Gl.st (fun _ kq => XS.icmpYes X4.here hx rfl (pc0 := 23) (pc' := 30) rfl (hb hby d4_23) rfl (flt (hc5 : ¬ ((35 : Int32) < (cs.getD i 0)))).2.2.2 (by decide) (by decide) kq) ?_
          show Gl p.tables e below _ (T4.setTop (mkF m 30 #[.val (.ref b), .val (.int 1), .val (.int (Int32.ofNat i))] []))
          refine Gl.st (fun _ kq => XS.iconst X4.here hx rfl (hb hby d4_30) kq) ?_
          refine Gl.st (fun _ kq => XS.istoreN X4.here hx rfl (hb hby d4_31) rfl (l' := #[.val (.ref b), .val (.int 0), .val (.int (Int32.ofNat i))]) rfl kq) ?_
          refine Gl.st (fun _ kq => XS.iinc X4.here hx rfl (hb hby d4_32) rfl (l' := #[.val (.ref b), .val (.int 0), .val (.int ((Int32.ofNat i) + (1 : Int32)))]) rfl kq) ?_
          show Gl p.tables e below _ (T4.setTop (mkF m 35 #[.val (.ref b), .val (.int 0), .val (.int ((Int32.ofNat i) + (1 : Int32)))] []))
          refine Gl.st (fun _ kq => XS.goto X4.here hx rfl (pc0 := 35) (pc' := 4) rfl (hb hby d4_35) (by decide) (by decide) kq) ?_
          show Gl p.tables e below _ (T4.setTop (mkF m 4 #[.val (.ref b), .val (.int 0), .val (.int ((Int32.ofNat i) + (1 : Int32)))] []))
          rw [n32_inc i]
          exact ih (i + 1) _ _ _ X4 e4 M4 (by omega) (Or.inr ⟨rfl, own_ko_get cs i hi hc5⟩)
      · subst hf1
        show Gl p.tables e below _ (Ti.setTop (mkF m 4 #[.val (.ref b), .val (.int 0), .val (.int (Int32.ofNat i))] []))
        refine Gl.st (fun _ kq => XS.iloadN Xi.here hx rfl (hb hby d4_4) rfl kq) ?_
        refine Gl.st (fun _ kq => XS.aloadN Xi.here hx rfl (hb hby d4_5) rfl rfl kq) ?_
        show Gl p.tables e below _ (Ti.setTop (mkF m 6 #[.val (.ref b), .val (.int 0), .val (.int (Int32.ofNat i))] [(.ref b), (.int (Int32.ofNat i))]))
        obtain ⟨cq6, kq6, q6a, q6b, q6c⟩ := isOf hZ ei pf0
        obtain ⟨_, _, ⟨T6, L6, k6, n6⟩, -, X6, ⟨Lc6, hQ6, l6, y6, z6⟩, st6⟩ := Xi.virtualBack hx (y := (⟨"java/lang/String", "length", "()I"⟩ : MethodName)) (z := (⟨"java/lang/String", "length", "()I"⟩ : MethodName)) hown (mvT hZ (tw hw 28 rfl)) (mvT hZ (tw hw 29 rfl)) (notFace_of_selects (args := #[]) (mvT hZ (tw hw 31 rfl))) (mvT hZ (tw hw 31 rfl)) (mvT hZ (tw hw 30 rfl)) (by decide) (backOf (W := 1) (rm_sl l Z a0 hw [] (b) (t) (k) (cs) (Y1) h0 n0 Z0 pf0 pf1 pf2 pf3 pf4 hl O2 P5) hZ (tw hw 32 rfl) (tw hw 4 rfl) (by decide) (by decide)) q6a q6c (g := (mkF m 6 #[.val (.ref b), .val (.int 0), .val (.int (Int32.ofNat i))] [(.ref b), (.int (Int32.ofNat i))])) rfl (by rw [hml]; rfl) (Steps.refl _) (argsL := []) (rest := [(.int (Int32.ofNat i))]) (lenOf pd___I rfl) rfl (by show 2 * 0 + _ ≤ _; exact Nat.le_of_eq rfl) (hb hby d4_6) (fun _ _ => ⟨rfl, ei, (by decide : 0 + 0 ≤ _), (by decide : 0 + 0 ≤ _)⟩)
        dsimp only [Pt.U, Pt.locs, Pt.cells, Pt.slots] at X6 l6 y6 z6 st6 hQ6
        subst l6 y6 z6
        obtain ⟨rfl, N6, e6⟩ := hQ6
        have M6 := Fr.app Ni N6
        refine Gl.to st6 ?_
        show Gl p.tables e below _ (T6.setTop (mkF m 9 #[.val (.ref b), .val (.int 0), .val (.int (Int32.ofNat i))] [(.int (Int32.ofNat cs.length)), (.int (Int32.ofNat i))]))
        show Gl p.tables e below _ (T6.setTop (mkF m 9 #[.val (.ref b), .val (.int 0), .val (.int (Int32.ofNat i))] [(.int (Int32.ofNat cs.length)), (.int (Int32.ofNat i))]))
        refine Gl.st (fun _ kq => XS.icmpNo X6.here hx rfl (hb hby d4_9) rfl (tlt (hlt : (Int32.ofNat i) < (Int32.ofNat cs.length))).2.1 kq) ?_
        show Gl p.tables e below _ (T6.setTop (mkF m 12 #[.val (.ref b), .val (.int 0), .val (.int (Int32.ofNat i))] []))
        refine Gl.st (fun _ kq => XS.iloadN X6.here hx rfl (hb hby d4_12) rfl kq) ?_
        show Gl p.tables e below _ (T6.setTop (mkF m 13 #[.val (.ref b), .val (.int 0), .val (.int (Int32.ofNat i))] [(.int 0)]))
        refine Gl.st (fun _ kq => XS.ifYes X6.here hx rfl (pc0 := 13) (pc' := 30) rfl (hb hby d4_13) rfl ((if0 _ _).trans (teq ((by decide) : (0 : Int32) = (0 : Int32))).1) (by decide) (by decide) kq) ?_
        show Gl p.tables e below _ (T6.setTop (mkF m 30 #[.val (.ref b), .val (.int 0), .val (.int (Int32.ofNat i))] []))
        refine Gl.st (fun _ kq => XS.iconst X6.here hx rfl (hb hby d4_30) kq) ?_
        refine Gl.st (fun _ kq => XS.istoreN X6.here hx rfl (hb hby d4_31) rfl (l' := #[.val (.ref b), .val (.int 0), .val (.int (Int32.ofNat i))]) rfl kq) ?_
        refine Gl.st (fun _ kq => XS.iinc X6.here hx rfl (hb hby d4_32) rfl (l' := #[.val (.ref b), .val (.int 0), .val (.int ((Int32.ofNat i) + (1 : Int32)))]) rfl kq) ?_
        show Gl p.tables e below _ (T6.setTop (mkF m 35 #[.val (.ref b), .val (.int 0), .val (.int ((Int32.ofNat i) + (1 : Int32)))] []))
        refine Gl.st (fun _ kq => XS.goto X6.here hx rfl (pc0 := 35) (pc' := 4) rfl (hb hby d4_35) (by decide) (by decide) kq) ?_
        show Gl p.tables e below _ (T6.setTop (mkF m 4 #[.val (.ref b), .val (.int 0), .val (.int ((Int32.ofNat i) + (1 : Int32)))] []))
        rw [n32_inc i]
        exact ih (i + 1) _ _ _ X6 e6 M6 (by omega) (Or.inr ⟨rfl, hz⟩)
  exact loop cs.length 0 1 _ _ (X0.more (by decide) (by decide)) e0 N0 (by omega) (Or.inl ⟨rfl, fun j hj => absurd hj (by omega)⟩)
theorem d18_0 : decode jdk_52_method_3_code 0 = .ok (.iload_n 0, 1) := by decide +kernel
theorem d18_1 : decode jdk_52_method_3_code 1 = .ok (.ifCond .ge 11, 3) := by decide +kernel
theorem d18_12 : decode jdk_52_method_3_code 12 = .ok (.iload_n 0, 1) := by decide +kernel
theorem d18_13 : decode jdk_52_method_3_code 13 = .ok (.ldc 20, 2) := by decide +kernel
theorem d18_15 : decode jdk_52_method_3_code 15 = .ok (.if_icmp .lt 40, 3) := by decide +kernel
theorem d18_55 : decode jdk_52_method_3_code 55 = .ok (.iload_n 0, 1) := by decide +kernel
theorem d18_56 : decode jdk_52_method_3_code 56 = .ok (.iconst 1, 1) := by decide +kernel
theorem d18_57 : decode jdk_52_method_3_code 57 = .ok (.ishl, 1) := by decide +kernel
theorem d18_58 : decode jdk_52_method_3_code 58 = .ok (.ireturn, 1) := by decide +kernel
theorem ef_nbl1 (m : MethodId)  : entryFrame m #[(.int 1)] 1 = mkF m 0 #[.val (.int 1)] [] := by first | (simp [entryFrame, mkF, argsToLocals, Value.category]; done) | rfl
def Q_nbl1 (Z : State)  (h0 : Heap) (n0 : Nat) (v : Option Value) (h : Heap) (L : List Loc) : Prop := (v = some (.int 2) ∧ Fr n0 L ∧ h = h0)
set_option maxRecDepth 65536 in
set_option maxHeartbeats 40000000 in
theorem rm_nbl1 (l : Launch) (Z : State) (a0 : Array Value) (hw : ∀ d ∈ tables_1, d.before a0 Z = true) (ws : List Jvm.Cond)  (h0 : Heap) (n0 : Nat) (Z0 : n0 ≤ h0.size) :
    MetFree l (⟨"java/lang/StringUTF16", "newBytesLength", "(I)I"⟩ : MethodName) (head1 (Jvm.Cond.code (⟨"java/lang/StringUTF16", "newBytesLength", "(I)I"⟩ : MethodName) jdk_52_method_3_code 1 (some .int) :: ws) ({ frames := 0, cells := 0, slots := 0, locals := 0 } : Room)) (fun aa U => aa = #[(.int 1)] ∧ Z.Warmed39 U.vm ∧ U.heap = h0) (fun _ _ _ _ _ => True) (fun _ U o U' => ∃ v L, o = .returned v ∧ Q_nbl1 Z  h0 n0 v U'.heap L ∧ FrameEnd U o U' L ({ frames := 0, cells := 0, slots := 0, locals := 0 } : Room).cells ({ frames := 0, cells := 0, slots := 0, locals := 0 } : Room).slots) := by
  refine MetFree.of_bodySF (plainFor_of_name pn_java_lang_StringUTF16) hisR ?_
  intro p e s m args below meth c s₁ Bd hml0 hP hK
  obtain ⟨rfl, hZ, hh⟩ := hP
  have hx := Bd.exec
  have hby := Bd.bytes
  have hlk : meth.locks = false := BodyLoose.notSynchronized Bd
  have hml : c.maxLocals = 1 := hml0
  have hown : s.vm.findClass "java/lang/StringUTF16" = some m.cls := findClass_of_methodNamed Bd.named
  have hnm := (name_of_methodNamed Bd.named Bd.method).1
  have X0 : Stand p l e ({ frames := 0, cells := 0, slots := 0, locals := 0 } : Room) s m #[(.int 1)] below meth c s₁ [] 0 0 := Stand.of_body Bd
  have e0 : s₁.heap = h0 := by rw [← hh, Bd.state]; rfl
  have N0 := Fr.nil n0
  show Gl p.tables e below (EndN s (Q_nbl1 Z  h0 n0) ({ frames := 0, cells := 0, slots := 0, locals := 0 } : Room).cells ({ frames := 0, cells := 0, slots := 0, locals := 0 } : Room).slots) _
  refine Gl.cast (ef_nbl1 m ) ?_
  show Gl p.tables e below _ (s₁.setTop (mkF m 0 #[.val (.int 1)] []))
  refine Gl.st (fun _ kq => XS.iloadN X0.here hx rfl (hb hby d18_0) rfl kq) ?_
  show Gl p.tables e below _ (s₁.setTop (mkF m 1 #[.val (.int 1)] [(.int 1)]))
  refine Gl.st (fun _ kq => XS.ifYes X0.here hx rfl (pc0 := 1) (pc' := 12) rfl (hb hby d18_1) rfl ((if0 _ _).trans (flt ((by decide) : ¬ ((1 : Int32) < (0 : Int32)))).2.1) (by decide) (by decide) kq) ?_
  show Gl p.tables e below _ (s₁.setTop (mkF m 12 #[.val (.int 1)] []))
  refine Gl.st (fun _ kq => XS.iloadN X0.here hx rfl (hb hby d18_12) rfl kq) ?_
  show Gl p.tables e below _ (s₁.setTop (mkF m 13 #[.val (.int 1)] [(.int 1)]))
  refine Gl.st (fun _ kq => X0.ldcInt hx hown (mvT hZ (tw hw 84 rfl)) (g := (mkF m 13 #[.val (.int 1)] [(.int 1)])) rfl (hb hby d18_13) _ kq) ?_
  show Gl p.tables e below _ (s₁.setTop (mkF m 15 #[.val (.int 1)] [(.int 1073741823), (.int 1)]))
  refine Gl.st (fun _ kq => XS.icmpYes X0.here hx rfl (pc0 := 15) (pc' := 55) rfl (hb hby d18_15) rfl (tlt ((by decide) : (1 : Int32) < (1073741823 : Int32))).1 (by decide) (by decide) kq) ?_
  show Gl p.tables e below _ (s₁.setTop (mkF m 55 #[.val (.int 1)] []))
  refine Gl.st (fun _ kq => XS.iloadN X0.here hx rfl (hb hby d18_55) rfl kq) ?_
  refine Gl.st (fun _ kq => XS.iconst X0.here hx rfl (hb hby d18_56) kq) ?_
  refine Gl.st (fun _ kq => XS.ishl X0.here hx rfl (hb hby d18_57) rfl kq) ?_
  exact Gl.retI X0 hx Bd.returns (hb hby d18_58) hlk (by decide) (by decide) (by rw [e0]; exact ⟨rfl, N0, rfl⟩)
theorem ef_nbl2 (m : MethodId)  : entryFrame m #[(.int 2)] 1 = mkF m 0 #[.val (.int 2)] [] := by first | (simp [entryFrame, mkF, argsToLocals, Value.category]; done) | rfl
def Q_nbl2 (Z : State)  (h0 : Heap) (n0 : Nat) (v : Option Value) (h : Heap) (L : List Loc) : Prop := (v = some (.int 4) ∧ Fr n0 L ∧ h = h0)
set_option maxRecDepth 65536 in
set_option maxHeartbeats 40000000 in
theorem rm_nbl2 (l : Launch) (Z : State) (a0 : Array Value) (hw : ∀ d ∈ tables_1, d.before a0 Z = true) (ws : List Jvm.Cond)  (h0 : Heap) (n0 : Nat) (Z0 : n0 ≤ h0.size) :
    MetFree l (⟨"java/lang/StringUTF16", "newBytesLength", "(I)I"⟩ : MethodName) (head1 (Jvm.Cond.code (⟨"java/lang/StringUTF16", "newBytesLength", "(I)I"⟩ : MethodName) jdk_52_method_3_code 1 (some .int) :: ws) ({ frames := 0, cells := 0, slots := 0, locals := 0 } : Room)) (fun aa U => aa = #[(.int 2)] ∧ Z.Warmed39 U.vm ∧ U.heap = h0) (fun _ _ _ _ _ => True) (fun _ U o U' => ∃ v L, o = .returned v ∧ Q_nbl2 Z  h0 n0 v U'.heap L ∧ FrameEnd U o U' L ({ frames := 0, cells := 0, slots := 0, locals := 0 } : Room).cells ({ frames := 0, cells := 0, slots := 0, locals := 0 } : Room).slots) := by
  refine MetFree.of_bodySF (plainFor_of_name pn_java_lang_StringUTF16) hisR ?_
  intro p e s m args below meth c s₁ Bd hml0 hP hK
  obtain ⟨rfl, hZ, hh⟩ := hP
  have hx := Bd.exec
  have hby := Bd.bytes
  have hlk : meth.locks = false := BodyLoose.notSynchronized Bd
  have hml : c.maxLocals = 1 := hml0
  have hown : s.vm.findClass "java/lang/StringUTF16" = some m.cls := findClass_of_methodNamed Bd.named
  have hnm := (name_of_methodNamed Bd.named Bd.method).1
  have X0 : Stand p l e ({ frames := 0, cells := 0, slots := 0, locals := 0 } : Room) s m #[(.int 2)] below meth c s₁ [] 0 0 := Stand.of_body Bd
  have e0 : s₁.heap = h0 := by rw [← hh, Bd.state]; rfl
  have N0 := Fr.nil n0
  show Gl p.tables e below (EndN s (Q_nbl2 Z  h0 n0) ({ frames := 0, cells := 0, slots := 0, locals := 0 } : Room).cells ({ frames := 0, cells := 0, slots := 0, locals := 0 } : Room).slots) _
  refine Gl.cast (ef_nbl2 m ) ?_
  show Gl p.tables e below _ (s₁.setTop (mkF m 0 #[.val (.int 2)] []))
  refine Gl.st (fun _ kq => XS.iloadN X0.here hx rfl (hb hby d18_0) rfl kq) ?_
  show Gl p.tables e below _ (s₁.setTop (mkF m 1 #[.val (.int 2)] [(.int 2)]))
  refine Gl.st (fun _ kq => XS.ifYes X0.here hx rfl (pc0 := 1) (pc' := 12) rfl (hb hby d18_1) rfl ((if0 _ _).trans (flt ((by decide) : ¬ ((2 : Int32) < (0 : Int32)))).2.1) (by decide) (by decide) kq) ?_
  show Gl p.tables e below _ (s₁.setTop (mkF m 12 #[.val (.int 2)] []))
  refine Gl.st (fun _ kq => XS.iloadN X0.here hx rfl (hb hby d18_12) rfl kq) ?_
  show Gl p.tables e below _ (s₁.setTop (mkF m 13 #[.val (.int 2)] [(.int 2)]))
  refine Gl.st (fun _ kq => X0.ldcInt hx hown (mvT hZ (tw hw 84 rfl)) (g := (mkF m 13 #[.val (.int 2)] [(.int 2)])) rfl (hb hby d18_13) _ kq) ?_
  show Gl p.tables e below _ (s₁.setTop (mkF m 15 #[.val (.int 2)] [(.int 1073741823), (.int 2)]))
  refine Gl.st (fun _ kq => XS.icmpYes X0.here hx rfl (pc0 := 15) (pc' := 55) rfl (hb hby d18_15) rfl (tlt ((by decide) : (2 : Int32) < (1073741823 : Int32))).1 (by decide) (by decide) kq) ?_
  show Gl p.tables e below _ (s₁.setTop (mkF m 55 #[.val (.int 2)] []))
  refine Gl.st (fun _ kq => XS.iloadN X0.here hx rfl (hb hby d18_55) rfl kq) ?_
  refine Gl.st (fun _ kq => XS.iconst X0.here hx rfl (hb hby d18_56) kq) ?_
  refine Gl.st (fun _ kq => XS.ishl X0.here hx rfl (hb hby d18_57) rfl kq) ?_
  exact Gl.retI X0 hx Bd.returns (hb hby d18_58) hlk (by decide) (by decide) (by rw [e0]; exact ⟨rfl, N0, rfl⟩)
theorem ef_nbl3 (m : MethodId)  : entryFrame m #[(.int 3)] 1 = mkF m 0 #[.val (.int 3)] [] := by first | (simp [entryFrame, mkF, argsToLocals, Value.category]; done) | rfl
def Q_nbl3 (Z : State)  (h0 : Heap) (n0 : Nat) (v : Option Value) (h : Heap) (L : List Loc) : Prop := (v = some (.int 6) ∧ Fr n0 L ∧ h = h0)
set_option maxRecDepth 65536 in
set_option maxHeartbeats 40000000 in
theorem rm_nbl3 (l : Launch) (Z : State) (a0 : Array Value) (hw : ∀ d ∈ tables_1, d.before a0 Z = true) (ws : List Jvm.Cond)  (h0 : Heap) (n0 : Nat) (Z0 : n0 ≤ h0.size) :
    MetFree l (⟨"java/lang/StringUTF16", "newBytesLength", "(I)I"⟩ : MethodName) (head1 (Jvm.Cond.code (⟨"java/lang/StringUTF16", "newBytesLength", "(I)I"⟩ : MethodName) jdk_52_method_3_code 1 (some .int) :: ws) ({ frames := 0, cells := 0, slots := 0, locals := 0 } : Room)) (fun aa U => aa = #[(.int 3)] ∧ Z.Warmed39 U.vm ∧ U.heap = h0) (fun _ _ _ _ _ => True) (fun _ U o U' => ∃ v L, o = .returned v ∧ Q_nbl3 Z  h0 n0 v U'.heap L ∧ FrameEnd U o U' L ({ frames := 0, cells := 0, slots := 0, locals := 0 } : Room).cells ({ frames := 0, cells := 0, slots := 0, locals := 0 } : Room).slots) := by
  refine MetFree.of_bodySF (plainFor_of_name pn_java_lang_StringUTF16) hisR ?_
  intro p e s m args below meth c s₁ Bd hml0 hP hK
  obtain ⟨rfl, hZ, hh⟩ := hP
  have hx := Bd.exec
  have hby := Bd.bytes
  have hlk : meth.locks = false := BodyLoose.notSynchronized Bd
  have hml : c.maxLocals = 1 := hml0
  have hown : s.vm.findClass "java/lang/StringUTF16" = some m.cls := findClass_of_methodNamed Bd.named
  have hnm := (name_of_methodNamed Bd.named Bd.method).1
  have X0 : Stand p l e ({ frames := 0, cells := 0, slots := 0, locals := 0 } : Room) s m #[(.int 3)] below meth c s₁ [] 0 0 := Stand.of_body Bd
  have e0 : s₁.heap = h0 := by rw [← hh, Bd.state]; rfl
  have N0 := Fr.nil n0
  show Gl p.tables e below (EndN s (Q_nbl3 Z  h0 n0) ({ frames := 0, cells := 0, slots := 0, locals := 0 } : Room).cells ({ frames := 0, cells := 0, slots := 0, locals := 0 } : Room).slots) _
  refine Gl.cast (ef_nbl3 m ) ?_
  show Gl p.tables e below _ (s₁.setTop (mkF m 0 #[.val (.int 3)] []))
  refine Gl.st (fun _ kq => XS.iloadN X0.here hx rfl (hb hby d18_0) rfl kq) ?_
  show Gl p.tables e below _ (s₁.setTop (mkF m 1 #[.val (.int 3)] [(.int 3)]))
  refine Gl.st (fun _ kq => XS.ifYes X0.here hx rfl (pc0 := 1) (pc' := 12) rfl (hb hby d18_1) rfl ((if0 _ _).trans (flt ((by decide) : ¬ ((3 : Int32) < (0 : Int32)))).2.1) (by decide) (by decide) kq) ?_
  show Gl p.tables e below _ (s₁.setTop (mkF m 12 #[.val (.int 3)] []))
  refine Gl.st (fun _ kq => XS.iloadN X0.here hx rfl (hb hby d18_12) rfl kq) ?_
  show Gl p.tables e below _ (s₁.setTop (mkF m 13 #[.val (.int 3)] [(.int 3)]))
  refine Gl.st (fun _ kq => X0.ldcInt hx hown (mvT hZ (tw hw 84 rfl)) (g := (mkF m 13 #[.val (.int 3)] [(.int 3)])) rfl (hb hby d18_13) _ kq) ?_
  show Gl p.tables e below _ (s₁.setTop (mkF m 15 #[.val (.int 3)] [(.int 1073741823), (.int 3)]))
  refine Gl.st (fun _ kq => XS.icmpYes X0.here hx rfl (pc0 := 15) (pc' := 55) rfl (hb hby d18_15) rfl (tlt ((by decide) : (3 : Int32) < (1073741823 : Int32))).1 (by decide) (by decide) kq) ?_
  show Gl p.tables e below _ (s₁.setTop (mkF m 55 #[.val (.int 3)] []))
  refine Gl.st (fun _ kq => XS.iloadN X0.here hx rfl (hb hby d18_55) rfl kq) ?_
  refine Gl.st (fun _ kq => XS.iconst X0.here hx rfl (hb hby d18_56) kq) ?_
  refine Gl.st (fun _ kq => XS.ishl X0.here hx rfl (hb hby d18_57) rfl kq) ?_
  exact Gl.retI X0 hx Bd.returns (hb hby d18_58) hlk (by decide) (by decide) (by rw [e0]; exact ⟨rfl, N0, rfl⟩)
theorem ef_nbl4 (m : MethodId)  : entryFrame m #[(.int 4)] 1 = mkF m 0 #[.val (.int 4)] [] := by first | (simp [entryFrame, mkF, argsToLocals, Value.category]; done) | rfl
def Q_nbl4 (Z : State)  (h0 : Heap) (n0 : Nat) (v : Option Value) (h : Heap) (L : List Loc) : Prop := (v = some (.int 8) ∧ Fr n0 L ∧ h = h0)
set_option maxRecDepth 65536 in
set_option maxHeartbeats 40000000 in
theorem rm_nbl4 (l : Launch) (Z : State) (a0 : Array Value) (hw : ∀ d ∈ tables_1, d.before a0 Z = true) (ws : List Jvm.Cond)  (h0 : Heap) (n0 : Nat) (Z0 : n0 ≤ h0.size) :
    MetFree l (⟨"java/lang/StringUTF16", "newBytesLength", "(I)I"⟩ : MethodName) (head1 (Jvm.Cond.code (⟨"java/lang/StringUTF16", "newBytesLength", "(I)I"⟩ : MethodName) jdk_52_method_3_code 1 (some .int) :: ws) ({ frames := 0, cells := 0, slots := 0, locals := 0 } : Room)) (fun aa U => aa = #[(.int 4)] ∧ Z.Warmed39 U.vm ∧ U.heap = h0) (fun _ _ _ _ _ => True) (fun _ U o U' => ∃ v L, o = .returned v ∧ Q_nbl4 Z  h0 n0 v U'.heap L ∧ FrameEnd U o U' L ({ frames := 0, cells := 0, slots := 0, locals := 0 } : Room).cells ({ frames := 0, cells := 0, slots := 0, locals := 0 } : Room).slots) := by
  refine MetFree.of_bodySF (plainFor_of_name pn_java_lang_StringUTF16) hisR ?_
  intro p e s m args below meth c s₁ Bd hml0 hP hK
  obtain ⟨rfl, hZ, hh⟩ := hP
  have hx := Bd.exec
  have hby := Bd.bytes
  have hlk : meth.locks = false := BodyLoose.notSynchronized Bd
  have hml : c.maxLocals = 1 := hml0
  have hown : s.vm.findClass "java/lang/StringUTF16" = some m.cls := findClass_of_methodNamed Bd.named
  have hnm := (name_of_methodNamed Bd.named Bd.method).1
  have X0 : Stand p l e ({ frames := 0, cells := 0, slots := 0, locals := 0 } : Room) s m #[(.int 4)] below meth c s₁ [] 0 0 := Stand.of_body Bd
  have e0 : s₁.heap = h0 := by rw [← hh, Bd.state]; rfl
  have N0 := Fr.nil n0
  show Gl p.tables e below (EndN s (Q_nbl4 Z  h0 n0) ({ frames := 0, cells := 0, slots := 0, locals := 0 } : Room).cells ({ frames := 0, cells := 0, slots := 0, locals := 0 } : Room).slots) _
  refine Gl.cast (ef_nbl4 m ) ?_
  show Gl p.tables e below _ (s₁.setTop (mkF m 0 #[.val (.int 4)] []))
  refine Gl.st (fun _ kq => XS.iloadN X0.here hx rfl (hb hby d18_0) rfl kq) ?_
  show Gl p.tables e below _ (s₁.setTop (mkF m 1 #[.val (.int 4)] [(.int 4)]))
  refine Gl.st (fun _ kq => XS.ifYes X0.here hx rfl (pc0 := 1) (pc' := 12) rfl (hb hby d18_1) rfl ((if0 _ _).trans (flt ((by decide) : ¬ ((4 : Int32) < (0 : Int32)))).2.1) (by decide) (by decide) kq) ?_
  show Gl p.tables e below _ (s₁.setTop (mkF m 12 #[.val (.int 4)] []))
  refine Gl.st (fun _ kq => XS.iloadN X0.here hx rfl (hb hby d18_12) rfl kq) ?_
  show Gl p.tables e below _ (s₁.setTop (mkF m 13 #[.val (.int 4)] [(.int 4)]))
  refine Gl.st (fun _ kq => X0.ldcInt hx hown (mvT hZ (tw hw 84 rfl)) (g := (mkF m 13 #[.val (.int 4)] [(.int 4)])) rfl (hb hby d18_13) _ kq) ?_
  show Gl p.tables e below _ (s₁.setTop (mkF m 15 #[.val (.int 4)] [(.int 1073741823), (.int 4)]))
  refine Gl.st (fun _ kq => XS.icmpYes X0.here hx rfl (pc0 := 15) (pc' := 55) rfl (hb hby d18_15) rfl (tlt ((by decide) : (4 : Int32) < (1073741823 : Int32))).1 (by decide) (by decide) kq) ?_
  show Gl p.tables e below _ (s₁.setTop (mkF m 55 #[.val (.int 4)] []))
  refine Gl.st (fun _ kq => XS.iloadN X0.here hx rfl (hb hby d18_55) rfl kq) ?_
  refine Gl.st (fun _ kq => XS.iconst X0.here hx rfl (hb hby d18_56) kq) ?_
  refine Gl.st (fun _ kq => XS.ishl X0.here hx rfl (hb hby d18_57) rfl kq) ?_
  exact Gl.retI X0 hx Bd.returns (hb hby d18_58) hlk (by decide) (by decide) (by rw [e0]; exact ⟨rfl, N0, rfl⟩)
theorem d17_0 : decode jdk_52_method_2_code 0 = .ok (.iload_n 0, 1) := by decide +kernel
theorem d17_1 : decode jdk_52_method_2_code 1 = .ok (.invokestatic 11, 3) := by decide +kernel
theorem d17_4 : decode jdk_52_method_2_code 4 = .ok (.newarray .byte, 2) := by decide +kernel
theorem d17_6 : decode jdk_52_method_2_code 6 = .ok (.areturn, 1) := by decide +kernel
theorem ef_nbf1 (m : MethodId)  : entryFrame m #[(.int 1)] 1 = mkF m 0 #[.val (.int 1)] [] := by first | (simp [entryFrame, mkF, argsToLocals, Value.category]; done) | rfl
def Q_nbf1 (Z : State)  (h0 : Heap) (n0 : Nat) (v : Option Value) (h : Heap) (L : List Loc) : Prop := (∃ t : Addr, ∃ k : ClassId, v = some (.ref t) ∧ Fr n0 L ∧ Keep h0 h [] ∧ Arv Z h t k .byte (2 : Int32) [(.int 0), (.int 0)] (.int 0) ∧ (h0.size ≤ t))
set_option maxRecDepth 65536 in
set_option maxHeartbeats 40000000 in
theorem rm_nbf1 (l : Launch) (Z : State) (a0 : Array Value) (hw : ∀ d ∈ tables_1, d.before a0 Z = true) (ws : List Jvm.Cond)  (h0 : Heap) (n0 : Nat) (Z0 : n0 ≤ h0.size) :
    MetFree l (⟨"java/lang/StringUTF16", "newBytesFor", "(I)[B"⟩ : MethodName) (head1 (Jvm.Cond.code (⟨"java/lang/StringUTF16", "newBytesFor", "(I)[B"⟩ : MethodName) jdk_52_method_2_code 1 (some (.array .byte)) :: ws) ({ frames := 1, cells := 1, slots := 2, locals := 12 } : Room)) (fun aa U => aa = #[(.int 1)] ∧ Z.Warmed39 U.vm ∧ U.heap = h0) (fun _ _ _ _ _ => True) (fun _ U o U' => ∃ v L, o = .returned v ∧ Q_nbf1 Z  h0 n0 v U'.heap L ∧ FrameEnd U o U' L ({ frames := 1, cells := 1, slots := 2, locals := 12 } : Room).cells ({ frames := 1, cells := 1, slots := 2, locals := 12 } : Room).slots) := by
  refine MetFree.of_bodySF (plainFor_of_name pn_java_lang_StringUTF16) hisR ?_
  intro p e s m args below meth c s₁ Bd hml0 hP hK
  obtain ⟨rfl, hZ, hh⟩ := hP
  have hx := Bd.exec
  have hby := Bd.bytes
  have hlk : meth.locks = false := BodyLoose.notSynchronized Bd
  have hml : c.maxLocals = 1 := hml0
  have hown : s.vm.findClass "java/lang/StringUTF16" = some m.cls := findClass_of_methodNamed Bd.named
  have hnm := (name_of_methodNamed Bd.named Bd.method).1
  have X0 : Stand p l e ({ frames := 1, cells := 1, slots := 2, locals := 12 } : Room) s m #[(.int 1)] below meth c s₁ [] 0 0 := Stand.of_body Bd
  have e0 : s₁.heap = h0 := by rw [← hh, Bd.state]; rfl
  have N0 := Fr.nil n0
  show Gl p.tables e below (EndN s (Q_nbf1 Z  h0 n0) ({ frames := 1, cells := 1, slots := 2, locals := 12 } : Room).cells ({ frames := 1, cells := 1, slots := 2, locals := 12 } : Room).slots) _
  refine Gl.cast (ef_nbf1 m ) ?_
  show Gl p.tables e below _ (s₁.setTop (mkF m 0 #[.val (.int 1)] []))
  refine Gl.st (fun _ kq => XS.iloadN X0.here hx rfl (hb hby d17_0) rfl kq) ?_
  show Gl p.tables e below _ (s₁.setTop (mkF m 1 #[.val (.int 1)] [(.int 1)]))
  obtain ⟨_, _, ⟨T1, L1, k1, n1⟩, -, X1, ⟨Lc1, hQ1, l1, y1, z1⟩, st1⟩ := Jvm.LawKit.callS X0 hx (y := (⟨"java/lang/StringUTF16", "newBytesLength", "(I)I"⟩ : MethodName)) hown (mvT hZ (tw hw 81 rfl)) (mvT hZ (tw hw 82 rfl)) (mvT hZ (tw hw 41 rfl)) (mvT hZ (tw hw 83 rfl)) (by decide) (backOf (W := 0) (rm_nbl1 l Z a0 hw []  h0 n0 Z0 ) hZ (tw hw 83 rfl) (tw hw 41 rfl) (by decide) (by decide)) (g := (mkF m 1 #[.val (.int 1)] [(.int 1)])) rfl (by rw [hml]; rfl) (argsL := [(.int 1)]) (rest := []) (lenOf pd__I_I rfl) rfl (by show 2 * 0 + _ ≤ _; exact Nat.le_of_eq rfl) (hb hby d17_1) (fun _ _ => ⟨rfl, e0, (by decide : 0 + 0 ≤ _), (by decide : 0 + 0 ≤ _)⟩)
  dsimp only [Pt.U, Pt.locs, Pt.cells, Pt.slots] at X1 l1 y1 z1 st1 hQ1
  subst l1 y1 z1
  obtain ⟨rfl, N1, e1⟩ := hQ1
  have M1 := Fr.app N0 N1
  refine Gl.st st1 ?_
  show Gl p.tables e below _ (T1.setTop (mkF m 4 #[.val (.int 1)] [(.int 2)]))
  show Gl p.tables e below _ (T1.setTop (mkF m 4 #[.val (.int 1)] [(.int 2)]))
  obtain ⟨T2, h2, k2, X2, e2, E2, A2, st2⟩ := newP X1 hx hZ (tw hw 17 rfl) e1 (g := (mkF m 4 #[.val (.int 1)] [(.int 2)])) rfl (hb hby d17_4) rfl (by decide) (cap := 2) (by decide) (by decide) (by decide) (by decide)
  obtain ⟨b2, g2⟩ : ∃ z, z = h0.size := ⟨_, rfl⟩
  rw [← g2] at A2 st2
  refine Gl.st st2 ?_
  have g3 : n0 ≤ b2 := Nat.le_trans Z0 (Nat.le_of_eq g2.symm)
  have s4 : h0.size ≤ b2 := Nat.le_trans (Nat.le_refl _) (Nat.le_of_eq g2.symm)
  have V2 : Arv Z h2 b2 k2 .byte (2 : Int32) [(.int 0), (.int 0)] (.int 0) := (Arv.new A2 (by decide)).pad (pad_rep [] (.int 0) 2)
  show Gl p.tables e below _ (T2.setTop (mkF m 6 #[.val (.int 1)] [(.ref b2)]))
  have K5 : Keep h0 h2 [] := ((Keep.refl h0 []).ext E2)
  exact Gl.retA X2 hx Bd.returns rfl rfl (hb hby d17_6) hlk (by decide) (by decide) (by rw [e2]; exact ⟨b2, k2, rfl, M1, K5, V2, s4⟩)
theorem d19_0 : decode jdk_52_method_4_code 0 = .ok (.getstatic 44, 3) := by decide +kernel
theorem d19_3 : decode jdk_52_method_4_code 3 = .ok (.ifCond .ne 25, 3) := by decide +kernel
theorem d19_28 : decode jdk_52_method_4_code 28 = .ok (.iload_n 1, 1) := by decide +kernel
theorem d19_29 : decode jdk_52_method_4_code 29 = .ok (.iconst 1, 1) := by decide +kernel
theorem d19_30 : decode jdk_52_method_4_code 30 = .ok (.ishl, 1) := by decide +kernel
theorem d19_31 : decode jdk_52_method_4_code 31 = .ok (.istore_n 1, 1) := by decide +kernel
theorem d19_32 : decode jdk_52_method_4_code 32 = .ok (.aload_n 0, 1) := by decide +kernel
theorem d19_33 : decode jdk_52_method_4_code 33 = .ok (.iload_n 1, 1) := by decide +kernel
theorem d19_34 : decode jdk_52_method_4_code 34 = .ok (.iinc 1 1, 3) := by decide +kernel
theorem d19_37 : decode jdk_52_method_4_code 37 = .ok (.iload_n 2, 1) := by decide +kernel
theorem d19_38 : decode jdk_52_method_4_code 38 = .ok (.getstatic 59, 3) := by decide +kernel
theorem d19_41 : decode jdk_52_method_4_code 41 = .ok (.ishr, 1) := by decide +kernel
theorem d19_42 : decode jdk_52_method_4_code 42 = .ok (.i2b, 1) := by decide +kernel
theorem d19_43 : decode jdk_52_method_4_code 43 = .ok (.bastore, 1) := by decide +kernel
theorem d19_44 : decode jdk_52_method_4_code 44 = .ok (.aload_n 0, 1) := by decide +kernel
theorem d19_45 : decode jdk_52_method_4_code 45 = .ok (.iload_n 1, 1) := by decide +kernel
theorem d19_46 : decode jdk_52_method_4_code 46 = .ok (.iload_n 2, 1) := by decide +kernel
theorem d19_47 : decode jdk_52_method_4_code 47 = .ok (.getstatic 63, 3) := by decide +kernel
theorem d19_50 : decode jdk_52_method_4_code 50 = .ok (.ishr, 1) := by decide +kernel
theorem d19_51 : decode jdk_52_method_4_code 51 = .ok (.i2b, 1) := by decide +kernel
theorem d19_52 : decode jdk_52_method_4_code 52 = .ok (.bastore, 1) := by decide +kernel
theorem d19_53 : decode jdk_52_method_4_code 53 = .ok (.return_, 1) := by decide +kernel
theorem ef_pcc10 (m : MethodId) (t : Addr) (ch : Int32) : entryFrame m #[(.ref t), (.int 0), (.int ch)] 3 = mkF m 0 #[.val (.ref t), .val (.int 0), .val (.int ch)] [] := by first | (simp [entryFrame, mkF, argsToLocals, Value.category]; done) | rfl
def Q_pcc10 (Z : State) (t : Addr) (k : ClassId) (d0 : Int32) (d1 : Int32) (ch : Int32) (h0 : Heap) (n0 : Nat) (v : Option Value) (h : Heap) (L : List Loc) : Prop := (v = none ∧ Fr n0 L ∧ Keep h0 h [t] ∧ Arv Z h t k .byte (2 : Int32) [(.int (own_b0 ch)), (.int (own_b1 ch))] (.int 0))
set_option maxRecDepth 65536 in
set_option maxHeartbeats 40000000 in
theorem rm_pcc10 (l : Launch) (Z : State) (a0 : Array Value) (hw : ∀ d ∈ tables_1, d.before a0 Z = true) (ws : List Jvm.Cond) (t : Addr) (k : ClassId) (d0 : Int32) (d1 : Int32) (ch : Int32) (h0 : Heap) (n0 : Nat) (Z0 : n0 ≤ h0.size) (pf0 : Arv Z h0 t k .byte (2 : Int32) [(.int d0), (.int d1)] (.int 0)) (pf1 : Old Z n0 h0) (gt : n0 ≤ t) (OA : Sta Z Z.heap "java/lang/StringUTF16" "$assertionsDisabled" "Z" (.int 1)) (OH : Sta Z Z.heap "java/lang/StringUTF16" "HI_BYTE_SHIFT" "I" (.int 0)) (OL : Sta Z Z.heap "java/lang/StringUTF16" "LO_BYTE_SHIFT" "I" (.int 8)) :
    MetFree l (⟨"java/lang/StringUTF16", "putChar", "([BII)V"⟩ : MethodName) (head1 (Jvm.Cond.code (⟨"java/lang/StringUTF16", "putChar", "([BII)V"⟩ : MethodName) jdk_52_method_4_code 3 none :: ws) ({ frames := 0, cells := 0, slots := 0, locals := 0 } : Room)) (fun aa U => aa = #[(.ref t), (.int 0), (.int ch)] ∧ Z.Warmed39 U.vm ∧ U.heap = h0) (fun _ _ _ _ _ => True) (fun _ U o U' => ∃ v L, o = .returned v ∧ Q_pcc10 Z t k d0 d1 ch h0 n0 v U'.heap L ∧ FrameEnd U o U' L ({ frames := 0, cells := 0, slots := 0, locals := 0 } : Room).cells ({ frames := 0, cells := 0, slots := 0, locals := 0 } : Room).slots) := by
  refine MetFree.of_bodySF (plainFor_of_name pn_java_lang_StringUTF16) hisR ?_
  intro p e s m args below meth c s₁ Bd hml0 hP hK
  obtain ⟨rfl, hZ, hh⟩ := hP
  have hx := Bd.exec
  have hby := Bd.bytes
  have hlk : meth.locks = false := BodyLoose.notSynchronized Bd
  have hml : c.maxLocals = 3 := hml0
  have hown : s.vm.findClass "java/lang/StringUTF16" = some m.cls := findClass_of_methodNamed Bd.named
  have hnm := (name_of_methodNamed Bd.named Bd.method).1
  have X0 : Stand p l e ({ frames := 0, cells := 0, slots := 0, locals := 0 } : Room) s m #[(.ref t), (.int 0), (.int ch)] below meth c s₁ [] 0 0 := Stand.of_body Bd
  have e0 : s₁.heap = h0 := by rw [← hh, Bd.state]; rfl
  have N0 := Fr.nil n0
  show Gl p.tables e below (EndN s (Q_pcc10 Z t k d0 d1 ch h0 n0) ({ frames := 0, cells := 0, slots := 0, locals := 0 } : Room).cells ({ frames := 0, cells := 0, slots := 0, locals := 0 } : Room).slots) _
  refine Gl.cast (ef_pcc10 m t ch) ?_
  show Gl p.tables e below _ (s₁.setTop (mkF m 0 #[.val (.ref t), .val (.int 0), .val (.int ch)] []))
  obtain ⟨T1, X1, e1, st1⟩ := getS2 X0 hx hZ hown (host := "") (Or.inl (tw hw 88 rfl)) Via.refl e0 (OA.ext pf1.2) (g := (mkF m 0 #[.val (.ref t), .val (.int 0), .val (.int ch)] [])) rfl (hb hby d19_0)
  refine Gl.st st1 ?_
  show Gl p.tables e below _ (T1.setTop (mkF m 3 #[.val (.ref t), .val (.int 0), .val (.int ch)] [(.int 1)]))
  refine Gl.st (fun _ kq => XS.ifYes X1.here hx rfl (pc0 := 3) (pc' := 28) rfl (hb hby d19_3) rfl ((if0 _ _).trans (feq ((by decide) : ¬ ((1 : Int32) = (0 : Int32)))).2) (by decide) (by decide) kq) ?_
  show Gl p.tables e below _ (T1.setTop (mkF m 28 #[.val (.ref t), .val (.int 0), .val (.int ch)] []))
  refine Gl.st (fun _ kq => XS.iloadN X1.here hx rfl (hb hby d19_28) rfl kq) ?_
  refine Gl.st (fun _ kq => XS.iconst X1.here hx rfl (hb hby d19_29) kq) ?_
  refine Gl.st (fun _ kq => XS.ishl X1.here hx rfl (hb hby d19_30) rfl kq) ?_
  refine Gl.st (fun _ kq => XS.istoreN X1.here hx rfl (hb hby d19_31) rfl (l' := #[.val (.ref t), .val (.int 0), .val (.int ch)]) rfl kq) ?_
  refine Gl.st (fun _ kq => XS.aloadN X1.here hx rfl (hb hby d19_32) rfl rfl kq) ?_
  refine Gl.st (fun _ kq => XS.iloadN X1.here hx rfl (hb hby d19_33) rfl kq) ?_
  refine Gl.st (fun _ kq => XS.iinc X1.here hx rfl (hb hby d19_34) rfl (l' := #[.val (.ref t), .val (.int 1), .val (.int ch)]) rfl kq) ?_
  show Gl p.tables e below _ (T1.setTop (mkF m 37 #[.val (.ref t), .val (.int 1), .val (.int ch)] [(.int 0), (.ref t)]))
  refine Gl.st (fun _ kq => XS.iloadN X1.here hx rfl (hb hby d19_37) rfl kq) ?_
  show Gl p.tables e below _ (T1.setTop (mkF m 38 #[.val (.ref t), .val (.int 1), .val (.int ch)] [(.int ch), (.int 0), (.ref t)]))
  obtain ⟨T2, X2, e2, st2⟩ := getS2 X1 hx hZ hown (host := "") (Or.inl (tw hw 89 rfl)) Via.refl e1 (OH.ext pf1.2) (g := (mkF m 38 #[.val (.ref t), .val (.int 1), .val (.int ch)] [(.int ch), (.int 0), (.ref t)])) rfl (hb hby d19_38)
  refine Gl.st st2 ?_
  show Gl p.tables e below _ (T2.setTop (mkF m 41 #[.val (.ref t), .val (.int 1), .val (.int ch)] [(.int 0), (.int ch), (.int 0), (.ref t)]))
  refine Gl.st (fun _ kq => XS.ishr X2.here hx rfl (hb hby d19_41) rfl kq) ?_
  refine Gl.st (fun _ kq => XS.i2b X2.here hx rfl (hb hby d19_42) rfl kq) ?_
  show Gl p.tables e below _ (T2.setTop (mkF m 43 #[.val (.ref t), .val (.int 1), .val (.int ch)] [(.int ((ch >>> ((0 : Int32) &&& 31)).toInt8.toInt32)), (.int 0), (.ref t)]))
  obtain ⟨c3, a3, q3, S3, M3, H3, G3⟩ := id pf0
  obtain ⟨T3, h3, X3, e3, W3, st3⟩ := stB X2 hx hZ e2 a3 (j := (0 : Int32)) (inb_of S3 ⟨by decide, by decide⟩) (g := (mkF m 43 #[.val (.ref t), .val (.int 1), .val (.int ch)] [(.int ((ch >>> ((0 : Int32) &&& 31)).toInt8.toInt32)), (.int 0), (.ref t)])) rfl rfl (hb hby d19_43)
  refine Gl.st st3 ?_
  have V3 : Arv Z h3 t k .byte (2 : Int32) [(.int (nar .byte ((ch >>> ((0 : Int32) &&& 31)).toInt8.toInt32))), (.int d1)] (.int 0) := Arv.set a3 q3 S3 M3 H3 G3 (fits_nar_byte _) W3 0 rfl (Nat.le_of_ble_eq_true rfl)
  have N3 := Fr.snoc X3 N0 gt
  show Gl p.tables e below _ (T3.setTop (mkF m 44 #[.val (.ref t), .val (.int 1), .val (.int ch)] []))
  refine Gl.st (fun _ kq => XS.aloadN X3.here hx rfl (hb hby d19_44) rfl rfl kq) ?_
  refine Gl.st (fun _ kq => XS.iloadN X3.here hx rfl (hb hby d19_45) rfl kq) ?_
  refine Gl.st (fun _ kq => XS.iloadN X3.here hx rfl (hb hby d19_46) rfl kq) ?_
  show Gl p.tables e below _ (T3.setTop (mkF m 47 #[.val (.ref t), .val (.int 1), .val (.int ch)] [(.int ch), (.int 1), (.ref t)]))
  have f4 : Old Z n0 h3 := (pf1.wr W3 gt)
  obtain ⟨T5, X5, e5, st5⟩ := getS2 X3 hx hZ hown (host := "") (Or.inl (tw hw 90 rfl)) Via.refl e3 (OL.ext f4.2) (g := (mkF m 47 #[.val (.ref t), .val (.int 1), .val (.int ch)] [(.int ch), (.int 1), (.ref t)])) rfl (hb hby d19_47)
  refine Gl.st st5 ?_
  show Gl p.tables e below _ (T5.setTop (mkF m 50 #[.val (.ref t), .val (.int 1), .val (.int ch)] [(.int 8), (.int ch), (.int 1), (.ref t)]))
  refine Gl.st (fun _ kq => XS.ishr X5.here hx rfl (hb hby d19_50) rfl kq) ?_
  refine Gl.st (fun _ kq => XS.i2b X5.here hx rfl (hb hby d19_51) rfl kq) ?_
  show Gl p.tables e below _ (T5.setTop (mkF m 52 #[.val (.ref t), .val (.int 1), .val (.int ch)] [(.int ((ch >>> ((8 : Int32) &&& 31)).toInt8.toInt32)), (.int 1), (.ref t)]))
  obtain ⟨c6, a6, q6, S6, M6, H6, G6⟩ := id V3
  obtain ⟨T6, h6, X6, e6, W6, st6⟩ := stB X5 hx hZ e5 a6 (j := (1 : Int32)) (inb_of S6 ⟨by decide, by decide⟩) (g := (mkF m 52 #[.val (.ref t), .val (.int 1), .val (.int ch)] [(.int ((ch >>> ((8 : Int32) &&& 31)).toInt8.toInt32)), (.int 1), (.ref t)])) rfl rfl (hb hby d19_52)
  refine Gl.st st6 ?_
  have V6 : Arv Z h6 t k .byte (2 : Int32) [(.int (nar .byte ((ch >>> ((0 : Int32) &&& 31)).toInt8.toInt32))), (.int (nar .byte ((ch >>> ((8 : Int32) &&& 31)).toInt8.toInt32)))] (.int 0) := Arv.set a6 q6 S6 M6 H6 G6 (fits_nar_byte _) W6 1 rfl (Nat.le_of_ble_eq_true rfl)
  have N6 := Fr.snoc X6 N3 gt
  show Gl p.tables e below _ (T6.setTop (mkF m 53 #[.val (.ref t), .val (.int 1), .val (.int ch)] []))
  have K7 : Keep h0 h6 [t] := (((Keep.refl h0 [t]).wr W3 (Or.inl (List.mem_of_getElem? (i := 0) rfl))).wr W6 (Or.inl (List.mem_of_getElem? (i := 0) rfl)))
  exact Gl.ret0 X6 hx Bd.returns (hb hby d19_53) hlk (by decide) (by decide) (by rw [e6]; exact ⟨rfl, N6, K7, V6⟩)
theorem ef_nbf2 (m : MethodId)  : entryFrame m #[(.int 2)] 1 = mkF m 0 #[.val (.int 2)] [] := by first | (simp [entryFrame, mkF, argsToLocals, Value.category]; done) | rfl
def Q_nbf2 (Z : State)  (h0 : Heap) (n0 : Nat) (v : Option Value) (h : Heap) (L : List Loc) : Prop := (∃ t : Addr, ∃ k : ClassId, v = some (.ref t) ∧ Fr n0 L ∧ Keep h0 h [] ∧ Arv Z h t k .byte (4 : Int32) [(.int 0), (.int 0), (.int 0), (.int 0)] (.int 0) ∧ (h0.size ≤ t))
set_option maxRecDepth 65536 in
set_option maxHeartbeats 40000000 in
theorem rm_nbf2 (l : Launch) (Z : State) (a0 : Array Value) (hw : ∀ d ∈ tables_1, d.before a0 Z = true) (ws : List Jvm.Cond)  (h0 : Heap) (n0 : Nat) (Z0 : n0 ≤ h0.size) :
    MetFree l (⟨"java/lang/StringUTF16", "newBytesFor", "(I)[B"⟩ : MethodName) (head1 (Jvm.Cond.code (⟨"java/lang/StringUTF16", "newBytesFor", "(I)[B"⟩ : MethodName) jdk_52_method_2_code 1 (some (.array .byte)) :: ws) ({ frames := 1, cells := 1, slots := 4, locals := 12 } : Room)) (fun aa U => aa = #[(.int 2)] ∧ Z.Warmed39 U.vm ∧ U.heap = h0) (fun _ _ _ _ _ => True) (fun _ U o U' => ∃ v L, o = .returned v ∧ Q_nbf2 Z  h0 n0 v U'.heap L ∧ FrameEnd U o U' L ({ frames := 1, cells := 1, slots := 4, locals := 12 } : Room).cells ({ frames := 1, cells := 1, slots := 4, locals := 12 } : Room).slots) := by
  refine MetFree.of_bodySF (plainFor_of_name pn_java_lang_StringUTF16) hisR ?_
  intro p e s m args below meth c s₁ Bd hml0 hP hK
  obtain ⟨rfl, hZ, hh⟩ := hP
  have hx := Bd.exec
  have hby := Bd.bytes
  have hlk : meth.locks = false := BodyLoose.notSynchronized Bd
  have hml : c.maxLocals = 1 := hml0
  have hown : s.vm.findClass "java/lang/StringUTF16" = some m.cls := findClass_of_methodNamed Bd.named
  have hnm := (name_of_methodNamed Bd.named Bd.method).1
  have X0 : Stand p l e ({ frames := 1, cells := 1, slots := 4, locals := 12 } : Room) s m #[(.int 2)] below meth c s₁ [] 0 0 := Stand.of_body Bd
  have e0 : s₁.heap = h0 := by rw [← hh, Bd.state]; rfl
  have N0 := Fr.nil n0
  show Gl p.tables e below (EndN s (Q_nbf2 Z  h0 n0) ({ frames := 1, cells := 1, slots := 4, locals := 12 } : Room).cells ({ frames := 1, cells := 1, slots := 4, locals := 12 } : Room).slots) _
  refine Gl.cast (ef_nbf2 m ) ?_
  show Gl p.tables e below _ (s₁.setTop (mkF m 0 #[.val (.int 2)] []))
  refine Gl.st (fun _ kq => XS.iloadN X0.here hx rfl (hb hby d17_0) rfl kq) ?_
  show Gl p.tables e below _ (s₁.setTop (mkF m 1 #[.val (.int 2)] [(.int 2)]))
  obtain ⟨_, _, ⟨T1, L1, k1, n1⟩, -, X1, ⟨Lc1, hQ1, l1, y1, z1⟩, st1⟩ := Jvm.LawKit.callS X0 hx (y := (⟨"java/lang/StringUTF16", "newBytesLength", "(I)I"⟩ : MethodName)) hown (mvT hZ (tw hw 81 rfl)) (mvT hZ (tw hw 82 rfl)) (mvT hZ (tw hw 41 rfl)) (mvT hZ (tw hw 83 rfl)) (by decide) (backOf (W := 0) (rm_nbl2 l Z a0 hw []  h0 n0 Z0 ) hZ (tw hw 83 rfl) (tw hw 41 rfl) (by decide) (by decide)) (g := (mkF m 1 #[.val (.int 2)] [(.int 2)])) rfl (by rw [hml]; rfl) (argsL := [(.int 2)]) (rest := []) (lenOf pd__I_I rfl) rfl (by show 2 * 0 + _ ≤ _; exact Nat.le_of_eq rfl) (hb hby d17_1) (fun _ _ => ⟨rfl, e0, (by decide : 0 + 0 ≤ _), (by decide : 0 + 0 ≤ _)⟩)
  dsimp only [Pt.U, Pt.locs, Pt.cells, Pt.slots] at X1 l1 y1 z1 st1 hQ1
  subst l1 y1 z1
  obtain ⟨rfl, N1, e1⟩ := hQ1
  have M1 := Fr.app N0 N1
  refine Gl.st st1 ?_
  show Gl p.tables e below _ (T1.setTop (mkF m 4 #[.val (.int 2)] [(.int 4)]))
  show Gl p.tables e below _ (T1.setTop (mkF m 4 #[.val (.int 2)] [(.int 4)]))
  obtain ⟨T2, h2, k2, X2, e2, E2, A2, st2⟩ := newP X1 hx hZ (tw hw 17 rfl) e1 (g := (mkF m 4 #[.val (.int 2)] [(.int 4)])) rfl (hb hby d17_4) rfl (by decide) (cap := 4) (by decide) (by decide) (by decide) (by decide)
  obtain ⟨b2, g2⟩ : ∃ z, z = h0.size := ⟨_, rfl⟩
  rw [← g2] at A2 st2
  refine Gl.st st2 ?_
  have g3 : n0 ≤ b2 := Nat.le_trans Z0 (Nat.le_of_eq g2.symm)
  have s4 : h0.size ≤ b2 := Nat.le_trans (Nat.le_refl _) (Nat.le_of_eq g2.symm)
  have V2 : Arv Z h2 b2 k2 .byte (4 : Int32) [(.int 0), (.int 0), (.int 0), (.int 0)] (.int 0) := (Arv.new A2 (by decide)).pad (pad_rep [] (.int 0) 4)
  show Gl p.tables e below _ (T2.setTop (mkF m 6 #[.val (.int 2)] [(.ref b2)]))
  have K5 : Keep h0 h2 [] := ((Keep.refl h0 []).ext E2)
  exact Gl.retA X2 hx Bd.returns rfl rfl (hb hby d17_6) hlk (by decide) (by decide) (by rw [e2]; exact ⟨b2, k2, rfl, M1, K5, V2, s4⟩)
theorem ef_pcc20 (m : MethodId) (t : Addr) (ch : Int32) : entryFrame m #[(.ref t), (.int 0), (.int ch)] 3 = mkF m 0 #[.val (.ref t), .val (.int 0), .val (.int ch)] [] := by first | (simp [entryFrame, mkF, argsToLocals, Value.category]; done) | rfl
def Q_pcc20 (Z : State) (t : Addr) (k : ClassId) (d0 : Int32) (d1 : Int32) (d2 : Int32) (d3 : Int32) (ch : Int32) (h0 : Heap) (n0 : Nat) (v : Option Value) (h : Heap) (L : List Loc) : Prop := (v = none ∧ Fr n0 L ∧ Keep h0 h [t] ∧ Arv Z h t k .byte (4 : Int32) [(.int (own_b0 ch)), (.int (own_b1 ch)), (.int d2), (.int d3)] (.int 0))
set_option maxRecDepth 65536 in
set_option maxHeartbeats 40000000 in
theorem rm_pcc20 (l : Launch) (Z : State) (a0 : Array Value) (hw : ∀ d ∈ tables_1, d.before a0 Z = true) (ws : List Jvm.Cond) (t : Addr) (k : ClassId) (d0 : Int32) (d1 : Int32) (d2 : Int32) (d3 : Int32) (ch : Int32) (h0 : Heap) (n0 : Nat) (Z0 : n0 ≤ h0.size) (pf0 : Arv Z h0 t k .byte (4 : Int32) [(.int d0), (.int d1), (.int d2), (.int d3)] (.int 0)) (pf1 : Old Z n0 h0) (gt : n0 ≤ t) (OA : Sta Z Z.heap "java/lang/StringUTF16" "$assertionsDisabled" "Z" (.int 1)) (OH : Sta Z Z.heap "java/lang/StringUTF16" "HI_BYTE_SHIFT" "I" (.int 0)) (OL : Sta Z Z.heap "java/lang/StringUTF16" "LO_BYTE_SHIFT" "I" (.int 8)) :
    MetFree l (⟨"java/lang/StringUTF16", "putChar", "([BII)V"⟩ : MethodName) (head1 (Jvm.Cond.code (⟨"java/lang/StringUTF16", "putChar", "([BII)V"⟩ : MethodName) jdk_52_method_4_code 3 none :: ws) ({ frames := 0, cells := 0, slots := 0, locals := 0 } : Room)) (fun aa U => aa = #[(.ref t), (.int 0), (.int ch)] ∧ Z.Warmed39 U.vm ∧ U.heap = h0) (fun _ _ _ _ _ => True) (fun _ U o U' => ∃ v L, o = .returned v ∧ Q_pcc20 Z t k d0 d1 d2 d3 ch h0 n0 v U'.heap L ∧ FrameEnd U o U' L ({ frames := 0, cells := 0, slots := 0, locals := 0 } : Room).cells ({ frames := 0, cells := 0, slots := 0, locals := 0 } : Room).slots) := by
  refine MetFree.of_bodySF (plainFor_of_name pn_java_lang_StringUTF16) hisR ?_
  intro p e s m args below meth c s₁ Bd hml0 hP hK
  obtain ⟨rfl, hZ, hh⟩ := hP
  have hx := Bd.exec
  have hby := Bd.bytes
  have hlk : meth.locks = false := BodyLoose.notSynchronized Bd
  have hml : c.maxLocals = 3 := hml0
  have hown : s.vm.findClass "java/lang/StringUTF16" = some m.cls := findClass_of_methodNamed Bd.named
  have hnm := (name_of_methodNamed Bd.named Bd.method).1
  have X0 : Stand p l e ({ frames := 0, cells := 0, slots := 0, locals := 0 } : Room) s m #[(.ref t), (.int 0), (.int ch)] below meth c s₁ [] 0 0 := Stand.of_body Bd
  have e0 : s₁.heap = h0 := by rw [← hh, Bd.state]; rfl
  have N0 := Fr.nil n0
  show Gl p.tables e below (EndN s (Q_pcc20 Z t k d0 d1 d2 d3 ch h0 n0) ({ frames := 0, cells := 0, slots := 0, locals := 0 } : Room).cells ({ frames := 0, cells := 0, slots := 0, locals := 0 } : Room).slots) _
  refine Gl.cast (ef_pcc20 m t ch) ?_
  show Gl p.tables e below _ (s₁.setTop (mkF m 0 #[.val (.ref t), .val (.int 0), .val (.int ch)] []))
  obtain ⟨T1, X1, e1, st1⟩ := getS2 X0 hx hZ hown (host := "") (Or.inl (tw hw 88 rfl)) Via.refl e0 (OA.ext pf1.2) (g := (mkF m 0 #[.val (.ref t), .val (.int 0), .val (.int ch)] [])) rfl (hb hby d19_0)
  refine Gl.st st1 ?_
  show Gl p.tables e below _ (T1.setTop (mkF m 3 #[.val (.ref t), .val (.int 0), .val (.int ch)] [(.int 1)]))
  refine Gl.st (fun _ kq => XS.ifYes X1.here hx rfl (pc0 := 3) (pc' := 28) rfl (hb hby d19_3) rfl ((if0 _ _).trans (feq ((by decide) : ¬ ((1 : Int32) = (0 : Int32)))).2) (by decide) (by decide) kq) ?_
  show Gl p.tables e below _ (T1.setTop (mkF m 28 #[.val (.ref t), .val (.int 0), .val (.int ch)] []))
  refine Gl.st (fun _ kq => XS.iloadN X1.here hx rfl (hb hby d19_28) rfl kq) ?_
  refine Gl.st (fun _ kq => XS.iconst X1.here hx rfl (hb hby d19_29) kq) ?_
  refine Gl.st (fun _ kq => XS.ishl X1.here hx rfl (hb hby d19_30) rfl kq) ?_
  refine Gl.st (fun _ kq => XS.istoreN X1.here hx rfl (hb hby d19_31) rfl (l' := #[.val (.ref t), .val (.int 0), .val (.int ch)]) rfl kq) ?_
  refine Gl.st (fun _ kq => XS.aloadN X1.here hx rfl (hb hby d19_32) rfl rfl kq) ?_
  refine Gl.st (fun _ kq => XS.iloadN X1.here hx rfl (hb hby d19_33) rfl kq) ?_
  refine Gl.st (fun _ kq => XS.iinc X1.here hx rfl (hb hby d19_34) rfl (l' := #[.val (.ref t), .val (.int 1), .val (.int ch)]) rfl kq) ?_
  show Gl p.tables e below _ (T1.setTop (mkF m 37 #[.val (.ref t), .val (.int 1), .val (.int ch)] [(.int 0), (.ref t)]))
  refine Gl.st (fun _ kq => XS.iloadN X1.here hx rfl (hb hby d19_37) rfl kq) ?_
  show Gl p.tables e below _ (T1.setTop (mkF m 38 #[.val (.ref t), .val (.int 1), .val (.int ch)] [(.int ch), (.int 0), (.ref t)]))
  obtain ⟨T2, X2, e2, st2⟩ := getS2 X1 hx hZ hown (host := "") (Or.inl (tw hw 89 rfl)) Via.refl e1 (OH.ext pf1.2) (g := (mkF m 38 #[.val (.ref t), .val (.int 1), .val (.int ch)] [(.int ch), (.int 0), (.ref t)])) rfl (hb hby d19_38)
  refine Gl.st st2 ?_
  show Gl p.tables e below _ (T2.setTop (mkF m 41 #[.val (.ref t), .val (.int 1), .val (.int ch)] [(.int 0), (.int ch), (.int 0), (.ref t)]))
  refine Gl.st (fun _ kq => XS.ishr X2.here hx rfl (hb hby d19_41) rfl kq) ?_
  refine Gl.st (fun _ kq => XS.i2b X2.here hx rfl (hb hby d19_42) rfl kq) ?_
  show Gl p.tables e below _ (T2.setTop (mkF m 43 #[.val (.ref t), .val (.int 1), .val (.int ch)] [(.int ((ch >>> ((0 : Int32) &&& 31)).toInt8.toInt32)), (.int 0), (.ref t)]))
  obtain ⟨c3, a3, q3, S3, M3, H3, G3⟩ := id pf0
  obtain ⟨T3, h3, X3, e3, W3, st3⟩ := stB X2 hx hZ e2 a3 (j := (0 : Int32)) (inb_of S3 ⟨by decide, by decide⟩) (g := (mkF m 43 #[.val (.ref t), .val (.int 1), .val (.int ch)] [(.int ((ch >>> ((0 : Int32) &&& 31)).toInt8.toInt32)), (.int 0), (.ref t)])) rfl rfl (hb hby d19_43)
  refine Gl.st st3 ?_
  have V3 : Arv Z h3 t k .byte (4 : Int32) [(.int (nar .byte ((ch >>> ((0 : Int32) &&& 31)).toInt8.toInt32))), (.int d1), (.int d2), (.int d3)] (.int 0) := Arv.set a3 q3 S3 M3 H3 G3 (fits_nar_byte _) W3 0 rfl (Nat.le_of_ble_eq_true rfl)
  have N3 := Fr.snoc X3 N0 gt
  show Gl p.tables e below _ (T3.setTop (mkF m 44 #[.val (.ref t), .val (.int 1), .val (.int ch)] []))
  refine Gl.st (fun _ kq => XS.aloadN X3.here hx rfl (hb hby d19_44) rfl rfl kq) ?_
  refine Gl.st (fun _ kq => XS.iloadN X3.here hx rfl (hb hby d19_45) rfl kq) ?_
  refine Gl.st (fun _ kq => XS.iloadN X3.here hx rfl (hb hby d19_46) rfl kq) ?_
  show Gl p.tables e below _ (T3.setTop (mkF m 47 #[.val (.ref t), .val (.int 1), .val (.int ch)] [(.int ch), (.int 1), (.ref t)]))
  have f4 : Old Z n0 h3 := (pf1.wr W3 gt)
  obtain ⟨T5, X5, e5, st5⟩ := getS2 X3 hx hZ hown (host := "") (Or.inl (tw hw 90 rfl)) Via.refl e3 (OL.ext f4.2) (g := (mkF m 47 #[.val (.ref t), .val (.int 1), .val (.int ch)] [(.int ch), (.int 1), (.ref t)])) rfl (hb hby d19_47)
  refine Gl.st st5 ?_
  show Gl p.tables e below _ (T5.setTop (mkF m 50 #[.val (.ref t), .val (.int 1), .val (.int ch)] [(.int 8), (.int ch), (.int 1), (.ref t)]))
  refine Gl.st (fun _ kq => XS.ishr X5.here hx rfl (hb hby d19_50) rfl kq) ?_
  refine Gl.st (fun _ kq => XS.i2b X5.here hx rfl (hb hby d19_51) rfl kq) ?_
  show Gl p.tables e below _ (T5.setTop (mkF m 52 #[.val (.ref t), .val (.int 1), .val (.int ch)] [(.int ((ch >>> ((8 : Int32) &&& 31)).toInt8.toInt32)), (.int 1), (.ref t)]))
  obtain ⟨c6, a6, q6, S6, M6, H6, G6⟩ := id V3
  obtain ⟨T6, h6, X6, e6, W6, st6⟩ := stB X5 hx hZ e5 a6 (j := (1 : Int32)) (inb_of S6 ⟨by decide, by decide⟩) (g := (mkF m 52 #[.val (.ref t), .val (.int 1), .val (.int ch)] [(.int ((ch >>> ((8 : Int32) &&& 31)).toInt8.toInt32)), (.int 1), (.ref t)])) rfl rfl (hb hby d19_52)
  refine Gl.st st6 ?_
  have V6 : Arv Z h6 t k .byte (4 : Int32) [(.int (nar .byte ((ch >>> ((0 : Int32) &&& 31)).toInt8.toInt32))), (.int (nar .byte ((ch >>> ((8 : Int32) &&& 31)).toInt8.toInt32))), (.int d2), (.int d3)] (.int 0) := Arv.set a6 q6 S6 M6 H6 G6 (fits_nar_byte _) W6 1 rfl (Nat.le_of_ble_eq_true rfl)
  have N6 := Fr.snoc X6 N3 gt
  show Gl p.tables e below _ (T6.setTop (mkF m 53 #[.val (.ref t), .val (.int 1), .val (.int ch)] []))
  have K7 : Keep h0 h6 [t] := (((Keep.refl h0 [t]).wr W3 (Or.inl (List.mem_of_getElem? (i := 0) rfl))).wr W6 (Or.inl (List.mem_of_getElem? (i := 0) rfl)))
  exact Gl.ret0 X6 hx Bd.returns (hb hby d19_53) hlk (by decide) (by decide) (by rw [e6]; exact ⟨rfl, N6, K7, V6⟩)
theorem ef_pcc21 (m : MethodId) (t : Addr) (ch : Int32) : entryFrame m #[(.ref t), (.int 1), (.int ch)] 3 = mkF m 0 #[.val (.ref t), .val (.int 1), .val (.int ch)] [] := by first | (simp [entryFrame, mkF, argsToLocals, Value.category]; done) | rfl
def Q_pcc21 (Z : State) (t : Addr) (k : ClassId) (d0 : Int32) (d1 : Int32) (d2 : Int32) (d3 : Int32) (ch : Int32) (h0 : Heap) (n0 : Nat) (v : Option Value) (h : Heap) (L : List Loc) : Prop := (v = none ∧ Fr n0 L ∧ Keep h0 h [t] ∧ Arv Z h t k .byte (4 : Int32) [(.int d0), (.int d1), (.int (own_b0 ch)), (.int (own_b1 ch))] (.int 0))
set_option maxRecDepth 65536 in
set_option maxHeartbeats 40000000 in
theorem rm_pcc21 (l : Launch) (Z : State) (a0 : Array Value) (hw : ∀ d ∈ tables_1, d.before a0 Z = true) (ws : List Jvm.Cond) (t : Addr) (k : ClassId) (d0 : Int32) (d1 : Int32) (d2 : Int32) (d3 : Int32) (ch : Int32) (h0 : Heap) (n0 : Nat) (Z0 : n0 ≤ h0.size) (pf0 : Arv Z h0 t k .byte (4 : Int32) [(.int d0), (.int d1), (.int d2), (.int d3)] (.int 0)) (pf1 : Old Z n0 h0) (gt : n0 ≤ t) (OA : Sta Z Z.heap "java/lang/StringUTF16" "$assertionsDisabled" "Z" (.int 1)) (OH : Sta Z Z.heap "java/lang/StringUTF16" "HI_BYTE_SHIFT" "I" (.int 0)) (OL : Sta Z Z.heap "java/lang/StringUTF16" "LO_BYTE_SHIFT" "I" (.int 8)) :
    MetFree l (⟨"java/lang/StringUTF16", "putChar", "([BII)V"⟩ : MethodName) (head1 (Jvm.Cond.code (⟨"java/lang/StringUTF16", "putChar", "([BII)V"⟩ : MethodName) jdk_52_method_4_code 3 none :: ws) ({ frames := 0, cells := 0, slots := 0, locals := 0 } : Room)) (fun aa U => aa = #[(.ref t), (.int 1), (.int ch)] ∧ Z.Warmed39 U.vm ∧ U.heap = h0) (fun _ _ _ _ _ => True) (fun _ U o U' => ∃ v L, o = .returned v ∧ Q_pcc21 Z t k d0 d1 d2 d3 ch h0 n0 v U'.heap L ∧ FrameEnd U o U' L ({ frames := 0, cells := 0, slots := 0, locals := 0 } : Room).cells ({ frames := 0, cells := 0, slots := 0, locals := 0 } : Room).slots) := by
  refine MetFree.of_bodySF (plainFor_of_name pn_java_lang_StringUTF16) hisR ?_
  intro p e s m args below meth c s₁ Bd hml0 hP hK
  obtain ⟨rfl, hZ, hh⟩ := hP
  have hx := Bd.exec
  have hby := Bd.bytes
  have hlk : meth.locks = false := BodyLoose.notSynchronized Bd
  have hml : c.maxLocals = 3 := hml0
  have hown : s.vm.findClass "java/lang/StringUTF16" = some m.cls := findClass_of_methodNamed Bd.named
  have hnm := (name_of_methodNamed Bd.named Bd.method).1
  have X0 : Stand p l e ({ frames := 0, cells := 0, slots := 0, locals := 0 } : Room) s m #[(.ref t), (.int 1), (.int ch)] below meth c s₁ [] 0 0 := Stand.of_body Bd
  have e0 : s₁.heap = h0 := by rw [← hh, Bd.state]; rfl
  have N0 := Fr.nil n0
  show Gl p.tables e below (EndN s (Q_pcc21 Z t k d0 d1 d2 d3 ch h0 n0) ({ frames := 0, cells := 0, slots := 0, locals := 0 } : Room).cells ({ frames := 0, cells := 0, slots := 0, locals := 0 } : Room).slots) _
  refine Gl.cast (ef_pcc21 m t ch) ?_
  show Gl p.tables e below _ (s₁.setTop (mkF m 0 #[.val (.ref t), .val (.int 1), .val (.int ch)] []))
  obtain ⟨T1, X1, e1, st1⟩ := getS2 X0 hx hZ hown (host := "") (Or.inl (tw hw 88 rfl)) Via.refl e0 (OA.ext pf1.2) (g := (mkF m 0 #[.val (.ref t), .val (.int 1), .val (.int ch)] [])) rfl (hb hby d19_0)
  refine Gl.st st1 ?_
  show Gl p.tables e below _ (T1.setTop (mkF m 3 #[.val (.ref t), .val (.int 1), .val (.int ch)] [(.int 1)]))
  refine Gl.st (fun _ kq => XS.ifYes X1.here hx rfl (pc0 := 3) (pc' := 28) rfl (hb hby d19_3) rfl ((if0 _ _).trans (feq ((by decide) : ¬ ((1 : Int32) = (0 : Int32)))).2) (by decide) (by decide) kq) ?_
  show Gl p.tables e below _ (T1.setTop (mkF m 28 #[.val (.ref t), .val (.int 1), .val (.int ch)] []))
  refine Gl.st (fun _ kq => XS.iloadN X1.here hx rfl (hb hby d19_28) rfl kq) ?_
  refine Gl.st (fun _ kq => XS.iconst X1.here hx rfl (hb hby d19_29) kq) ?_
  refine Gl.st (fun _ kq => XS.ishl X1.here hx rfl (hb hby d19_30) rfl kq) ?_
  refine Gl.st (fun _ kq => XS.istoreN X1.here hx rfl (hb hby d19_31) rfl (l' := #[.val (.ref t), .val (.int 2), .val (.int ch)]) rfl kq) ?_
  refine Gl.st (fun _ kq => XS.aloadN X1.here hx rfl (hb hby d19_32) rfl rfl kq) ?_
  refine Gl.st (fun _ kq => XS.iloadN X1.here hx rfl (hb hby d19_33) rfl kq) ?_
  refine Gl.st (fun _ kq => XS.iinc X1.here hx rfl (hb hby d19_34) rfl (l' := #[.val (.ref t), .val (.int 3), .val (.int ch)]) rfl kq) ?_
  show Gl p.tables e below _ (T1.setTop (mkF m 37 #[.val (.ref t), .val (.int 3), .val (.int ch)] [(.int 2), (.ref t)]))
  refine Gl.st (fun _ kq => XS.iloadN X1.here hx rfl (hb hby d19_37) rfl kq) ?_
  show Gl p.tables e below _ (T1.setTop (mkF m 38 #[.val (.ref t), .val (.int 3), .val (.int ch)] [(.int ch), (.int 2), (.ref t)]))
  obtain ⟨T2, X2, e2, st2⟩ := getS2 X1 hx hZ hown (host := "") (Or.inl (tw hw 89 rfl)) Via.refl e1 (OH.ext pf1.2) (g := (mkF m 38 #[.val (.ref t), .val (.int 3), .val (.int ch)] [(.int ch), (.int 2), (.ref t)])) rfl (hb hby d19_38)
  refine Gl.st st2 ?_
  show Gl p.tables e below _ (T2.setTop (mkF m 41 #[.val (.ref t), .val (.int 3), .val (.int ch)] [(.int 0), (.int ch), (.int 2), (.ref t)]))
  refine Gl.st (fun _ kq => XS.ishr X2.here hx rfl (hb hby d19_41) rfl kq) ?_
  refine Gl.st (fun _ kq => XS.i2b X2.here hx rfl (hb hby d19_42) rfl kq) ?_
  show Gl p.tables e below _ (T2.setTop (mkF m 43 #[.val (.ref t), .val (.int 3), .val (.int ch)] [(.int ((ch >>> ((0 : Int32) &&& 31)).toInt8.toInt32)), (.int 2), (.ref t)]))
  obtain ⟨c3, a3, q3, S3, M3, H3, G3⟩ := id pf0
  obtain ⟨T3, h3, X3, e3, W3, st3⟩ := stB X2 hx hZ e2 a3 (j := (2 : Int32)) (inb_of S3 ⟨by decide, by decide⟩) (g := (mkF m 43 #[.val (.ref t), .val (.int 3), .val (.int ch)] [(.int ((ch >>> ((0 : Int32) &&& 31)).toInt8.toInt32)), (.int 2), (.ref t)])) rfl rfl (hb hby d19_43)
  refine Gl.st st3 ?_
  have V3 : Arv Z h3 t k .byte (4 : Int32) [(.int d0), (.int d1), (.int (nar .byte ((ch >>> ((0 : Int32) &&& 31)).toInt8.toInt32))), (.int d3)] (.int 0) := Arv.set a3 q3 S3 M3 H3 G3 (fits_nar_byte _) W3 2 rfl (Nat.le_of_ble_eq_true rfl)
  have N3 := Fr.snoc X3 N0 gt
  show Gl p.tables e below _ (T3.setTop (mkF m 44 #[.val (.ref t), .val (.int 3), .val (.int ch)] []))
  refine Gl.st (fun _ kq => XS.aloadN X3.here hx rfl (hb hby d19_44) rfl rfl kq) ?_
  refine Gl.st (fun _ kq => XS.iloadN X3.here hx rfl (hb hby d19_45) rfl kq) ?_
  refine Gl.st (fun _ kq => XS.iloadN X3.here hx rfl (hb hby d19_46) rfl kq) ?_
  show Gl p.tables e below _ (T3.setTop (mkF m 47 #[.val (.ref t), .val (.int 3), .val (.int ch)] [(.int ch), (.int 3), (.ref t)]))
  have f4 : Old Z n0 h3 := (pf1.wr W3 gt)
  obtain ⟨T5, X5, e5, st5⟩ := getS2 X3 hx hZ hown (host := "") (Or.inl (tw hw 90 rfl)) Via.refl e3 (OL.ext f4.2) (g := (mkF m 47 #[.val (.ref t), .val (.int 3), .val (.int ch)] [(.int ch), (.int 3), (.ref t)])) rfl (hb hby d19_47)
  refine Gl.st st5 ?_
  show Gl p.tables e below _ (T5.setTop (mkF m 50 #[.val (.ref t), .val (.int 3), .val (.int ch)] [(.int 8), (.int ch), (.int 3), (.ref t)]))
  refine Gl.st (fun _ kq => XS.ishr X5.here hx rfl (hb hby d19_50) rfl kq) ?_
  refine Gl.st (fun _ kq => XS.i2b X5.here hx rfl (hb hby d19_51) rfl kq) ?_
  show Gl p.tables e below _ (T5.setTop (mkF m 52 #[.val (.ref t), .val (.int 3), .val (.int ch)] [(.int ((ch >>> ((8 : Int32) &&& 31)).toInt8.toInt32)), (.int 3), (.ref t)]))
  obtain ⟨c6, a6, q6, S6, M6, H6, G6⟩ := id V3
  obtain ⟨T6, h6, X6, e6, W6, st6⟩ := stB X5 hx hZ e5 a6 (j := (3 : Int32)) (inb_of S6 ⟨by decide, by decide⟩) (g := (mkF m 52 #[.val (.ref t), .val (.int 3), .val (.int ch)] [(.int ((ch >>> ((8 : Int32) &&& 31)).toInt8.toInt32)), (.int 3), (.ref t)])) rfl rfl (hb hby d19_52)
  refine Gl.st st6 ?_
  have V6 : Arv Z h6 t k .byte (4 : Int32) [(.int d0), (.int d1), (.int (nar .byte ((ch >>> ((0 : Int32) &&& 31)).toInt8.toInt32))), (.int (nar .byte ((ch >>> ((8 : Int32) &&& 31)).toInt8.toInt32)))] (.int 0) := Arv.set a6 q6 S6 M6 H6 G6 (fits_nar_byte _) W6 3 rfl (Nat.le_of_ble_eq_true rfl)
  have N6 := Fr.snoc X6 N3 gt
  show Gl p.tables e below _ (T6.setTop (mkF m 53 #[.val (.ref t), .val (.int 3), .val (.int ch)] []))
  have K7 : Keep h0 h6 [t] := (((Keep.refl h0 [t]).wr W3 (Or.inl (List.mem_of_getElem? (i := 0) rfl))).wr W6 (Or.inl (List.mem_of_getElem? (i := 0) rfl)))
  exact Gl.ret0 X6 hx Bd.returns (hb hby d19_53) hlk (by decide) (by decide) (by rw [e6]; exact ⟨rfl, N6, K7, V6⟩)
theorem ef_nbf3 (m : MethodId)  : entryFrame m #[(.int 3)] 1 = mkF m 0 #[.val (.int 3)] [] := by first | (simp [entryFrame, mkF, argsToLocals, Value.category]; done) | rfl
def Q_nbf3 (Z : State)  (h0 : Heap) (n0 : Nat) (v : Option Value) (h : Heap) (L : List Loc) : Prop := (∃ t : Addr, ∃ k : ClassId, v = some (.ref t) ∧ Fr n0 L ∧ Keep h0 h [] ∧ Arv Z h t k .byte (6 : Int32) [(.int 0), (.int 0), (.int 0), (.int 0), (.int 0), (.int 0)] (.int 0) ∧ (h0.size ≤ t))
set_option maxRecDepth 65536 in
set_option maxHeartbeats 40000000 in
theorem rm_nbf3 (l : Launch) (Z : State) (a0 : Array Value) (hw : ∀ d ∈ tables_1, d.before a0 Z = true) (ws : List Jvm.Cond)  (h0 : Heap) (n0 : Nat) (Z0 : n0 ≤ h0.size) :
    MetFree l (⟨"java/lang/StringUTF16", "newBytesFor", "(I)[B"⟩ : MethodName) (head1 (Jvm.Cond.code (⟨"java/lang/StringUTF16", "newBytesFor", "(I)[B"⟩ : MethodName) jdk_52_method_2_code 1 (some (.array .byte)) :: ws) ({ frames := 1, cells := 1, slots := 6, locals := 12 } : Room)) (fun aa U => aa = #[(.int 3)] ∧ Z.Warmed39 U.vm ∧ U.heap = h0) (fun _ _ _ _ _ => True) (fun _ U o U' => ∃ v L, o = .returned v ∧ Q_nbf3 Z  h0 n0 v U'.heap L ∧ FrameEnd U o U' L ({ frames := 1, cells := 1, slots := 6, locals := 12 } : Room).cells ({ frames := 1, cells := 1, slots := 6, locals := 12 } : Room).slots) := by
  refine MetFree.of_bodySF (plainFor_of_name pn_java_lang_StringUTF16) hisR ?_
  intro p e s m args below meth c s₁ Bd hml0 hP hK
  obtain ⟨rfl, hZ, hh⟩ := hP
  have hx := Bd.exec
  have hby := Bd.bytes
  have hlk : meth.locks = false := BodyLoose.notSynchronized Bd
  have hml : c.maxLocals = 1 := hml0
  have hown : s.vm.findClass "java/lang/StringUTF16" = some m.cls := findClass_of_methodNamed Bd.named
  have hnm := (name_of_methodNamed Bd.named Bd.method).1
  have X0 : Stand p l e ({ frames := 1, cells := 1, slots := 6, locals := 12 } : Room) s m #[(.int 3)] below meth c s₁ [] 0 0 := Stand.of_body Bd
  have e0 : s₁.heap = h0 := by rw [← hh, Bd.state]; rfl
  have N0 := Fr.nil n0
  show Gl p.tables e below (EndN s (Q_nbf3 Z  h0 n0) ({ frames := 1, cells := 1, slots := 6, locals := 12 } : Room).cells ({ frames := 1, cells := 1, slots := 6, locals := 12 } : Room).slots) _
  refine Gl.cast (ef_nbf3 m ) ?_
  show Gl p.tables e below _ (s₁.setTop (mkF m 0 #[.val (.int 3)] []))
  refine Gl.st (fun _ kq => XS.iloadN X0.here hx rfl (hb hby d17_0) rfl kq) ?_
  show Gl p.tables e below _ (s₁.setTop (mkF m 1 #[.val (.int 3)] [(.int 3)]))
  obtain ⟨_, _, ⟨T1, L1, k1, n1⟩, -, X1, ⟨Lc1, hQ1, l1, y1, z1⟩, st1⟩ := Jvm.LawKit.callS X0 hx (y := (⟨"java/lang/StringUTF16", "newBytesLength", "(I)I"⟩ : MethodName)) hown (mvT hZ (tw hw 81 rfl)) (mvT hZ (tw hw 82 rfl)) (mvT hZ (tw hw 41 rfl)) (mvT hZ (tw hw 83 rfl)) (by decide) (backOf (W := 0) (rm_nbl3 l Z a0 hw []  h0 n0 Z0 ) hZ (tw hw 83 rfl) (tw hw 41 rfl) (by decide) (by decide)) (g := (mkF m 1 #[.val (.int 3)] [(.int 3)])) rfl (by rw [hml]; rfl) (argsL := [(.int 3)]) (rest := []) (lenOf pd__I_I rfl) rfl (by show 2 * 0 + _ ≤ _; exact Nat.le_of_eq rfl) (hb hby d17_1) (fun _ _ => ⟨rfl, e0, (by decide : 0 + 0 ≤ _), (by decide : 0 + 0 ≤ _)⟩)
  dsimp only [Pt.U, Pt.locs, Pt.cells, Pt.slots] at X1 l1 y1 z1 st1 hQ1
  subst l1 y1 z1
  obtain ⟨rfl, N1, e1⟩ := hQ1
  have M1 := Fr.app N0 N1
  refine Gl.st st1 ?_
  show Gl p.tables e below _ (T1.setTop (mkF m 4 #[.val (.int 3)] [(.int 6)]))
  show Gl p.tables e below _ (T1.setTop (mkF m 4 #[.val (.int 3)] [(.int 6)]))
  obtain ⟨T2, h2, k2, X2, e2, E2, A2, st2⟩ := newP X1 hx hZ (tw hw 17 rfl) e1 (g := (mkF m 4 #[.val (.int 3)] [(.int 6)])) rfl (hb hby d17_4) rfl (by decide) (cap := 6) (by decide) (by decide) (by decide) (by decide)
  obtain ⟨b2, g2⟩ : ∃ z, z = h0.size := ⟨_, rfl⟩
  rw [← g2] at A2 st2
  refine Gl.st st2 ?_
  have g3 : n0 ≤ b2 := Nat.le_trans Z0 (Nat.le_of_eq g2.symm)
  have s4 : h0.size ≤ b2 := Nat.le_trans (Nat.le_refl _) (Nat.le_of_eq g2.symm)
  have V2 : Arv Z h2 b2 k2 .byte (6 : Int32) [(.int 0), (.int 0), (.int 0), (.int 0), (.int 0), (.int 0)] (.int 0) := (Arv.new A2 (by decide)).pad (pad_rep [] (.int 0) 6)
  show Gl p.tables e below _ (T2.setTop (mkF m 6 #[.val (.int 3)] [(.ref b2)]))
  have K5 : Keep h0 h2 [] := ((Keep.refl h0 []).ext E2)
  exact Gl.retA X2 hx Bd.returns rfl rfl (hb hby d17_6) hlk (by decide) (by decide) (by rw [e2]; exact ⟨b2, k2, rfl, M1, K5, V2, s4⟩)
theorem ef_pcc30 (m : MethodId) (t : Addr) (ch : Int32) : entryFrame m #[(.ref t), (.int 0), (.int ch)] 3 = mkF m 0 #[.val (.ref t), .val (.int 0), .val (.int ch)] [] := by first | (simp [entryFrame, mkF, argsToLocals, Value.category]; done) | rfl
def Q_pcc30 (Z : State) (t : Addr) (k : ClassId) (d0 : Int32) (d1 : Int32) (d2 : Int32) (d3 : Int32) (d4 : Int32) (d5 : Int32) (ch : Int32) (h0 : Heap) (n0 : Nat) (v : Option Value) (h : Heap) (L : List Loc) : Prop := (v = none ∧ Fr n0 L ∧ Keep h0 h [t] ∧ Arv Z h t k .byte (6 : Int32) [(.int (own_b0 ch)), (.int (own_b1 ch)), (.int d2), (.int d3), (.int d4), (.int d5)] (.int 0))
set_option maxRecDepth 65536 in
set_option maxHeartbeats 40000000 in
theorem rm_pcc30 (l : Launch) (Z : State) (a0 : Array Value) (hw : ∀ d ∈ tables_1, d.before a0 Z = true) (ws : List Jvm.Cond) (t : Addr) (k : ClassId) (d0 : Int32) (d1 : Int32) (d2 : Int32) (d3 : Int32) (d4 : Int32) (d5 : Int32) (ch : Int32) (h0 : Heap) (n0 : Nat) (Z0 : n0 ≤ h0.size) (pf0 : Arv Z h0 t k .byte (6 : Int32) [(.int d0), (.int d1), (.int d2), (.int d3), (.int d4), (.int d5)] (.int 0)) (pf1 : Old Z n0 h0) (gt : n0 ≤ t) (OA : Sta Z Z.heap "java/lang/StringUTF16" "$assertionsDisabled" "Z" (.int 1)) (OH : Sta Z Z.heap "java/lang/StringUTF16" "HI_BYTE_SHIFT" "I" (.int 0)) (OL : Sta Z Z.heap "java/lang/StringUTF16" "LO_BYTE_SHIFT" "I" (.int 8)) :
    MetFree l (⟨"java/lang/StringUTF16", "putChar", "([BII)V"⟩ : MethodName) (head1 (Jvm.Cond.code (⟨"java/lang/StringUTF16", "putChar", "([BII)V"⟩ : MethodName) jdk_52_method_4_code 3 none :: ws) ({ frames := 0, cells := 0, slots := 0, locals := 0 } : Room)) (fun aa U => aa = #[(.ref t), (.int 0), (.int ch)] ∧ Z.Warmed39 U.vm ∧ U.heap = h0) (fun _ _ _ _ _ => True) (fun _ U o U' => ∃ v L, o = .returned v ∧ Q_pcc30 Z t k d0 d1 d2 d3 d4 d5 ch h0 n0 v U'.heap L ∧ FrameEnd U o U' L ({ frames := 0, cells := 0, slots := 0, locals := 0 } : Room).cells ({ frames := 0, cells := 0, slots := 0, locals := 0 } : Room).slots) := by
  refine MetFree.of_bodySF (plainFor_of_name pn_java_lang_StringUTF16) hisR ?_
  intro p e s m args below meth c s₁ Bd hml0 hP hK
  obtain ⟨rfl, hZ, hh⟩ := hP
  have hx := Bd.exec
  have hby := Bd.bytes
  have hlk : meth.locks = false := BodyLoose.notSynchronized Bd
  have hml : c.maxLocals = 3 := hml0
  have hown : s.vm.findClass "java/lang/StringUTF16" = some m.cls := findClass_of_methodNamed Bd.named
  have hnm := (name_of_methodNamed Bd.named Bd.method).1
  have X0 : Stand p l e ({ frames := 0, cells := 0, slots := 0, locals := 0 } : Room) s m #[(.ref t), (.int 0), (.int ch)] below meth c s₁ [] 0 0 := Stand.of_body Bd
  have e0 : s₁.heap = h0 := by rw [← hh, Bd.state]; rfl
  have N0 := Fr.nil n0
  show Gl p.tables e below (EndN s (Q_pcc30 Z t k d0 d1 d2 d3 d4 d5 ch h0 n0) ({ frames := 0, cells := 0, slots := 0, locals := 0 } : Room).cells ({ frames := 0, cells := 0, slots := 0, locals := 0 } : Room).slots) _
  refine Gl.cast (ef_pcc30 m t ch) ?_
  show Gl p.tables e below _ (s₁.setTop (mkF m 0 #[.val (.ref t), .val (.int 0), .val (.int ch)] []))
  obtain ⟨T1, X1, e1, st1⟩ := getS2 X0 hx hZ hown (host := "") (Or.inl (tw hw 88 rfl)) Via.refl e0 (OA.ext pf1.2) (g := (mkF m 0 #[.val (.ref t), .val (.int 0), .val (.int ch)] [])) rfl (hb hby d19_0)
  refine Gl.st st1 ?_
  show Gl p.tables e below _ (T1.setTop (mkF m 3 #[.val (.ref t), .val (.int 0), .val (.int ch)] [(.int 1)]))
  refine Gl.st (fun _ kq => XS.ifYes X1.here hx rfl (pc0 := 3) (pc' := 28) rfl (hb hby d19_3) rfl ((if0 _ _).trans (feq ((by decide) : ¬ ((1 : Int32) = (0 : Int32)))).2) (by decide) (by decide) kq) ?_
  show Gl p.tables e below _ (T1.setTop (mkF m 28 #[.val (.ref t), .val (.int 0), .val (.int ch)] []))
  refine Gl.st (fun _ kq => XS.iloadN X1.here hx rfl (hb hby d19_28) rfl kq) ?_
  refine Gl.st (fun _ kq => XS.iconst X1.here hx rfl (hb hby d19_29) kq) ?_
  refine Gl.st (fun _ kq => XS.ishl X1.here hx rfl (hb hby d19_30) rfl kq) ?_
  refine Gl.st (fun _ kq => XS.istoreN X1.here hx rfl (hb hby d19_31) rfl (l' := #[.val (.ref t), .val (.int 0), .val (.int ch)]) rfl kq) ?_
  refine Gl.st (fun _ kq => XS.aloadN X1.here hx rfl (hb hby d19_32) rfl rfl kq) ?_
  refine Gl.st (fun _ kq => XS.iloadN X1.here hx rfl (hb hby d19_33) rfl kq) ?_
  refine Gl.st (fun _ kq => XS.iinc X1.here hx rfl (hb hby d19_34) rfl (l' := #[.val (.ref t), .val (.int 1), .val (.int ch)]) rfl kq) ?_
  show Gl p.tables e below _ (T1.setTop (mkF m 37 #[.val (.ref t), .val (.int 1), .val (.int ch)] [(.int 0), (.ref t)]))
  refine Gl.st (fun _ kq => XS.iloadN X1.here hx rfl (hb hby d19_37) rfl kq) ?_
  show Gl p.tables e below _ (T1.setTop (mkF m 38 #[.val (.ref t), .val (.int 1), .val (.int ch)] [(.int ch), (.int 0), (.ref t)]))
  obtain ⟨T2, X2, e2, st2⟩ := getS2 X1 hx hZ hown (host := "") (Or.inl (tw hw 89 rfl)) Via.refl e1 (OH.ext pf1.2) (g := (mkF m 38 #[.val (.ref t), .val (.int 1), .val (.int ch)] [(.int ch), (.int 0), (.ref t)])) rfl (hb hby d19_38)
  refine Gl.st st2 ?_
  show Gl p.tables e below _ (T2.setTop (mkF m 41 #[.val (.ref t), .val (.int 1), .val (.int ch)] [(.int 0), (.int ch), (.int 0), (.ref t)]))
  refine Gl.st (fun _ kq => XS.ishr X2.here hx rfl (hb hby d19_41) rfl kq) ?_
  refine Gl.st (fun _ kq => XS.i2b X2.here hx rfl (hb hby d19_42) rfl kq) ?_
  show Gl p.tables e below _ (T2.setTop (mkF m 43 #[.val (.ref t), .val (.int 1), .val (.int ch)] [(.int ((ch >>> ((0 : Int32) &&& 31)).toInt8.toInt32)), (.int 0), (.ref t)]))
  obtain ⟨c3, a3, q3, S3, M3, H3, G3⟩ := id pf0
  obtain ⟨T3, h3, X3, e3, W3, st3⟩ := stB X2 hx hZ e2 a3 (j := (0 : Int32)) (inb_of S3 ⟨by decide, by decide⟩) (g := (mkF m 43 #[.val (.ref t), .val (.int 1), .val (.int ch)] [(.int ((ch >>> ((0 : Int32) &&& 31)).toInt8.toInt32)), (.int 0), (.ref t)])) rfl rfl (hb hby d19_43)
  refine Gl.st st3 ?_
  have V3 : Arv Z h3 t k .byte (6 : Int32) [(.int (nar .byte ((ch >>> ((0 : Int32) &&& 31)).toInt8.toInt32))), (.int d1), (.int d2), (.int d3), (.int d4), (.int d5)] (.int 0) := Arv.set a3 q3 S3 M3 H3 G3 (fits_nar_byte _) W3 0 rfl (Nat.le_of_ble_eq_true rfl)
  have N3 := Fr.snoc X3 N0 gt
  show Gl p.tables e below _ (T3.setTop (mkF m 44 #[.val (.ref t), .val (.int 1), .val (.int ch)] []))
  refine Gl.st (fun _ kq => XS.aloadN X3.here hx rfl (hb hby d19_44) rfl rfl kq) ?_
  refine Gl.st (fun _ kq => XS.iloadN X3.here hx rfl (hb hby d19_45) rfl kq) ?_
  refine Gl.st (fun _ kq => XS.iloadN X3.here hx rfl (hb hby d19_46) rfl kq) ?_
  show Gl p.tables e below _ (T3.setTop (mkF m 47 #[.val (.ref t), .val (.int 1), .val (.int ch)] [(.int ch), (.int 1), (.ref t)]))
  have f4 : Old Z n0 h3 := (pf1.wr W3 gt)
  obtain ⟨T5, X5, e5, st5⟩ := getS2 X3 hx hZ hown (host := "") (Or.inl (tw hw 90 rfl)) Via.refl e3 (OL.ext f4.2) (g := (mkF m 47 #[.val (.ref t), .val (.int 1), .val (.int ch)] [(.int ch), (.int 1), (.ref t)])) rfl (hb hby d19_47)
  refine Gl.st st5 ?_
  show Gl p.tables e below _ (T5.setTop (mkF m 50 #[.val (.ref t), .val (.int 1), .val (.int ch)] [(.int 8), (.int ch), (.int 1), (.ref t)]))
  refine Gl.st (fun _ kq => XS.ishr X5.here hx rfl (hb hby d19_50) rfl kq) ?_
  refine Gl.st (fun _ kq => XS.i2b X5.here hx rfl (hb hby d19_51) rfl kq) ?_
  show Gl p.tables e below _ (T5.setTop (mkF m 52 #[.val (.ref t), .val (.int 1), .val (.int ch)] [(.int ((ch >>> ((8 : Int32) &&& 31)).toInt8.toInt32)), (.int 1), (.ref t)]))
  obtain ⟨c6, a6, q6, S6, M6, H6, G6⟩ := id V3
  obtain ⟨T6, h6, X6, e6, W6, st6⟩ := stB X5 hx hZ e5 a6 (j := (1 : Int32)) (inb_of S6 ⟨by decide, by decide⟩) (g := (mkF m 52 #[.val (.ref t), .val (.int 1), .val (.int ch)] [(.int ((ch >>> ((8 : Int32) &&& 31)).toInt8.toInt32)), (.int 1), (.ref t)])) rfl rfl (hb hby d19_52)
  refine Gl.st st6 ?_
  have V6 : Arv Z h6 t k .byte (6 : Int32) [(.int (nar .byte ((ch >>> ((0 : Int32) &&& 31)).toInt8.toInt32))), (.int (nar .byte ((ch >>> ((8 : Int32) &&& 31)).toInt8.toInt32))), (.int d2), (.int d3), (.int d4), (.int d5)] (.int 0) := Arv.set a6 q6 S6 M6 H6 G6 (fits_nar_byte _) W6 1 rfl (Nat.le_of_ble_eq_true rfl)
  have N6 := Fr.snoc X6 N3 gt
  show Gl p.tables e below _ (T6.setTop (mkF m 53 #[.val (.ref t), .val (.int 1), .val (.int ch)] []))
  have K7 : Keep h0 h6 [t] := (((Keep.refl h0 [t]).wr W3 (Or.inl (List.mem_of_getElem? (i := 0) rfl))).wr W6 (Or.inl (List.mem_of_getElem? (i := 0) rfl)))
  exact Gl.ret0 X6 hx Bd.returns (hb hby d19_53) hlk (by decide) (by decide) (by rw [e6]; exact ⟨rfl, N6, K7, V6⟩)
theorem ef_pcc31 (m : MethodId) (t : Addr) (ch : Int32) : entryFrame m #[(.ref t), (.int 1), (.int ch)] 3 = mkF m 0 #[.val (.ref t), .val (.int 1), .val (.int ch)] [] := by first | (simp [entryFrame, mkF, argsToLocals, Value.category]; done) | rfl
def Q_pcc31 (Z : State) (t : Addr) (k : ClassId) (d0 : Int32) (d1 : Int32) (d2 : Int32) (d3 : Int32) (d4 : Int32) (d5 : Int32) (ch : Int32) (h0 : Heap) (n0 : Nat) (v : Option Value) (h : Heap) (L : List Loc) : Prop := (v = none ∧ Fr n0 L ∧ Keep h0 h [t] ∧ Arv Z h t k .byte (6 : Int32) [(.int d0), (.int d1), (.int (own_b0 ch)), (.int (own_b1 ch)), (.int d4), (.int d5)] (.int 0))
set_option maxRecDepth 65536 in
set_option maxHeartbeats 40000000 in
theorem rm_pcc31 (l : Launch) (Z : State) (a0 : Array Value) (hw : ∀ d ∈ tables_1, d.before a0 Z = true) (ws : List Jvm.Cond) (t : Addr) (k : ClassId) (d0 : Int32) (d1 : Int32) (d2 : Int32) (d3 : Int32) (d4 : Int32) (d5 : Int32) (ch : Int32) (h0 : Heap) (n0 : Nat) (Z0 : n0 ≤ h0.size) (pf0 : Arv Z h0 t k .byte (6 : Int32) [(.int d0), (.int d1), (.int d2), (.int d3), (.int d4), (.int d5)] (.int 0)) (pf1 : Old Z n0 h0) (gt : n0 ≤ t) (OA : Sta Z Z.heap "java/lang/StringUTF16" "$assertionsDisabled" "Z" (.int 1)) (OH : Sta Z Z.heap "java/lang/StringUTF16" "HI_BYTE_SHIFT" "I" (.int 0)) (OL : Sta Z Z.heap "java/lang/StringUTF16" "LO_BYTE_SHIFT" "I" (.int 8)) :
    MetFree l (⟨"java/lang/StringUTF16", "putChar", "([BII)V"⟩ : MethodName) (head1 (Jvm.Cond.code (⟨"java/lang/StringUTF16", "putChar", "([BII)V"⟩ : MethodName) jdk_52_method_4_code 3 none :: ws) ({ frames := 0, cells := 0, slots := 0, locals := 0 } : Room)) (fun aa U => aa = #[(.ref t), (.int 1), (.int ch)] ∧ Z.Warmed39 U.vm ∧ U.heap = h0) (fun _ _ _ _ _ => True) (fun _ U o U' => ∃ v L, o = .returned v ∧ Q_pcc31 Z t k d0 d1 d2 d3 d4 d5 ch h0 n0 v U'.heap L ∧ FrameEnd U o U' L ({ frames := 0, cells := 0, slots := 0, locals := 0 } : Room).cells ({ frames := 0, cells := 0, slots := 0, locals := 0 } : Room).slots) := by
  refine MetFree.of_bodySF (plainFor_of_name pn_java_lang_StringUTF16) hisR ?_
  intro p e s m args below meth c s₁ Bd hml0 hP hK
  obtain ⟨rfl, hZ, hh⟩ := hP
  have hx := Bd.exec
  have hby := Bd.bytes
  have hlk : meth.locks = false := BodyLoose.notSynchronized Bd
  have hml : c.maxLocals = 3 := hml0
  have hown : s.vm.findClass "java/lang/StringUTF16" = some m.cls := findClass_of_methodNamed Bd.named
  have hnm := (name_of_methodNamed Bd.named Bd.method).1
  have X0 : Stand p l e ({ frames := 0, cells := 0, slots := 0, locals := 0 } : Room) s m #[(.ref t), (.int 1), (.int ch)] below meth c s₁ [] 0 0 := Stand.of_body Bd
  have e0 : s₁.heap = h0 := by rw [← hh, Bd.state]; rfl
  have N0 := Fr.nil n0
  show Gl p.tables e below (EndN s (Q_pcc31 Z t k d0 d1 d2 d3 d4 d5 ch h0 n0) ({ frames := 0, cells := 0, slots := 0, locals := 0 } : Room).cells ({ frames := 0, cells := 0, slots := 0, locals := 0 } : Room).slots) _
  refine Gl.cast (ef_pcc31 m t ch) ?_
  show Gl p.tables e below _ (s₁.setTop (mkF m 0 #[.val (.ref t), .val (.int 1), .val (.int ch)] []))
  obtain ⟨T1, X1, e1, st1⟩ := getS2 X0 hx hZ hown (host := "") (Or.inl (tw hw 88 rfl)) Via.refl e0 (OA.ext pf1.2) (g := (mkF m 0 #[.val (.ref t), .val (.int 1), .val (.int ch)] [])) rfl (hb hby d19_0)
  refine Gl.st st1 ?_
  show Gl p.tables e below _ (T1.setTop (mkF m 3 #[.val (.ref t), .val (.int 1), .val (.int ch)] [(.int 1)]))
  refine Gl.st (fun _ kq => XS.ifYes X1.here hx rfl (pc0 := 3) (pc' := 28) rfl (hb hby d19_3) rfl ((if0 _ _).trans (feq ((by decide) : ¬ ((1 : Int32) = (0 : Int32)))).2) (by decide) (by decide) kq) ?_
  show Gl p.tables e below _ (T1.setTop (mkF m 28 #[.val (.ref t), .val (.int 1), .val (.int ch)] []))
  refine Gl.st (fun _ kq => XS.iloadN X1.here hx rfl (hb hby d19_28) rfl kq) ?_
  refine Gl.st (fun _ kq => XS.iconst X1.here hx rfl (hb hby d19_29) kq) ?_
  refine Gl.st (fun _ kq => XS.ishl X1.here hx rfl (hb hby d19_30) rfl kq) ?_
  refine Gl.st (fun _ kq => XS.istoreN X1.here hx rfl (hb hby d19_31) rfl (l' := #[.val (.ref t), .val (.int 2), .val (.int ch)]) rfl kq) ?_
  refine Gl.st (fun _ kq => XS.aloadN X1.here hx rfl (hb hby d19_32) rfl rfl kq) ?_
  refine Gl.st (fun _ kq => XS.iloadN X1.here hx rfl (hb hby d19_33) rfl kq) ?_
  refine Gl.st (fun _ kq => XS.iinc X1.here hx rfl (hb hby d19_34) rfl (l' := #[.val (.ref t), .val (.int 3), .val (.int ch)]) rfl kq) ?_
  show Gl p.tables e below _ (T1.setTop (mkF m 37 #[.val (.ref t), .val (.int 3), .val (.int ch)] [(.int 2), (.ref t)]))
  refine Gl.st (fun _ kq => XS.iloadN X1.here hx rfl (hb hby d19_37) rfl kq) ?_
  show Gl p.tables e below _ (T1.setTop (mkF m 38 #[.val (.ref t), .val (.int 3), .val (.int ch)] [(.int ch), (.int 2), (.ref t)]))
  obtain ⟨T2, X2, e2, st2⟩ := getS2 X1 hx hZ hown (host := "") (Or.inl (tw hw 89 rfl)) Via.refl e1 (OH.ext pf1.2) (g := (mkF m 38 #[.val (.ref t), .val (.int 3), .val (.int ch)] [(.int ch), (.int 2), (.ref t)])) rfl (hb hby d19_38)
  refine Gl.st st2 ?_
  show Gl p.tables e below _ (T2.setTop (mkF m 41 #[.val (.ref t), .val (.int 3), .val (.int ch)] [(.int 0), (.int ch), (.int 2), (.ref t)]))
  refine Gl.st (fun _ kq => XS.ishr X2.here hx rfl (hb hby d19_41) rfl kq) ?_
  refine Gl.st (fun _ kq => XS.i2b X2.here hx rfl (hb hby d19_42) rfl kq) ?_
  show Gl p.tables e below _ (T2.setTop (mkF m 43 #[.val (.ref t), .val (.int 3), .val (.int ch)] [(.int ((ch >>> ((0 : Int32) &&& 31)).toInt8.toInt32)), (.int 2), (.ref t)]))
  obtain ⟨c3, a3, q3, S3, M3, H3, G3⟩ := id pf0
  obtain ⟨T3, h3, X3, e3, W3, st3⟩ := stB X2 hx hZ e2 a3 (j := (2 : Int32)) (inb_of S3 ⟨by decide, by decide⟩) (g := (mkF m 43 #[.val (.ref t), .val (.int 3), .val (.int ch)] [(.int ((ch >>> ((0 : Int32) &&& 31)).toInt8.toInt32)), (.int 2), (.ref t)])) rfl rfl (hb hby d19_43)
  refine Gl.st st3 ?_
  have V3 : Arv Z h3 t k .byte (6 : Int32) [(.int d0), (.int d1), (.int (nar .byte ((ch >>> ((0 : Int32) &&& 31)).toInt8.toInt32))), (.int d3), (.int d4), (.int d5)] (.int 0) := Arv.set a3 q3 S3 M3 H3 G3 (fits_nar_byte _) W3 2 rfl (Nat.le_of_ble_eq_true rfl)
  have N3 := Fr.snoc X3 N0 gt
  show Gl p.tables e below _ (T3.setTop (mkF m 44 #[.val (.ref t), .val (.int 3), .val (.int ch)] []))
  refine Gl.st (fun _ kq => XS.aloadN X3.here hx rfl (hb hby d19_44) rfl rfl kq) ?_
  refine Gl.st (fun _ kq => XS.iloadN X3.here hx rfl (hb hby d19_45) rfl kq) ?_
  refine Gl.st (fun _ kq => XS.iloadN X3.here hx rfl (hb hby d19_46) rfl kq) ?_
  show Gl p.tables e below _ (T3.setTop (mkF m 47 #[.val (.ref t), .val (.int 3), .val (.int ch)] [(.int ch), (.int 3), (.ref t)]))
  have f4 : Old Z n0 h3 := (pf1.wr W3 gt)
  obtain ⟨T5, X5, e5, st5⟩ := getS2 X3 hx hZ hown (host := "") (Or.inl (tw hw 90 rfl)) Via.refl e3 (OL.ext f4.2) (g := (mkF m 47 #[.val (.ref t), .val (.int 3), .val (.int ch)] [(.int ch), (.int 3), (.ref t)])) rfl (hb hby d19_47)
  refine Gl.st st5 ?_
  show Gl p.tables e below _ (T5.setTop (mkF m 50 #[.val (.ref t), .val (.int 3), .val (.int ch)] [(.int 8), (.int ch), (.int 3), (.ref t)]))
  refine Gl.st (fun _ kq => XS.ishr X5.here hx rfl (hb hby d19_50) rfl kq) ?_
  refine Gl.st (fun _ kq => XS.i2b X5.here hx rfl (hb hby d19_51) rfl kq) ?_
  show Gl p.tables e below _ (T5.setTop (mkF m 52 #[.val (.ref t), .val (.int 3), .val (.int ch)] [(.int ((ch >>> ((8 : Int32) &&& 31)).toInt8.toInt32)), (.int 3), (.ref t)]))
  obtain ⟨c6, a6, q6, S6, M6, H6, G6⟩ := id V3
  obtain ⟨T6, h6, X6, e6, W6, st6⟩ := stB X5 hx hZ e5 a6 (j := (3 : Int32)) (inb_of S6 ⟨by decide, by decide⟩) (g := (mkF m 52 #[.val (.ref t), .val (.int 3), .val (.int ch)] [(.int ((ch >>> ((8 : Int32) &&& 31)).toInt8.toInt32)), (.int 3), (.ref t)])) rfl rfl (hb hby d19_52)
  refine Gl.st st6 ?_
  have V6 : Arv Z h6 t k .byte (6 : Int32) [(.int d0), (.int d1), (.int (nar .byte ((ch >>> ((0 : Int32) &&& 31)).toInt8.toInt32))), (.int (nar .byte ((ch >>> ((8 : Int32) &&& 31)).toInt8.toInt32))), (.int d4), (.int d5)] (.int 0) := Arv.set a6 q6 S6 M6 H6 G6 (fits_nar_byte _) W6 3 rfl (Nat.le_of_ble_eq_true rfl)
  have N6 := Fr.snoc X6 N3 gt
  show Gl p.tables e below _ (T6.setTop (mkF m 53 #[.val (.ref t), .val (.int 3), .val (.int ch)] []))
  have K7 : Keep h0 h6 [t] := (((Keep.refl h0 [t]).wr W3 (Or.inl (List.mem_of_getElem? (i := 0) rfl))).wr W6 (Or.inl (List.mem_of_getElem? (i := 0) rfl)))
  exact Gl.ret0 X6 hx Bd.returns (hb hby d19_53) hlk (by decide) (by decide) (by rw [e6]; exact ⟨rfl, N6, K7, V6⟩)
theorem ef_pcc32 (m : MethodId) (t : Addr) (ch : Int32) : entryFrame m #[(.ref t), (.int 2), (.int ch)] 3 = mkF m 0 #[.val (.ref t), .val (.int 2), .val (.int ch)] [] := by first | (simp [entryFrame, mkF, argsToLocals, Value.category]; done) | rfl
def Q_pcc32 (Z : State) (t : Addr) (k : ClassId) (d0 : Int32) (d1 : Int32) (d2 : Int32) (d3 : Int32) (d4 : Int32) (d5 : Int32) (ch : Int32) (h0 : Heap) (n0 : Nat) (v : Option Value) (h : Heap) (L : List Loc) : Prop := (v = none ∧ Fr n0 L ∧ Keep h0 h [t] ∧ Arv Z h t k .byte (6 : Int32) [(.int d0), (.int d1), (.int d2), (.int d3), (.int (own_b0 ch)), (.int (own_b1 ch))] (.int 0))
set_option maxRecDepth 65536 in
set_option maxHeartbeats 40000000 in
theorem rm_pcc32 (l : Launch) (Z : State) (a0 : Array Value) (hw : ∀ d ∈ tables_1, d.before a0 Z = true) (ws : List Jvm.Cond) (t : Addr) (k : ClassId) (d0 : Int32) (d1 : Int32) (d2 : Int32) (d3 : Int32) (d4 : Int32) (d5 : Int32) (ch : Int32) (h0 : Heap) (n0 : Nat) (Z0 : n0 ≤ h0.size) (pf0 : Arv Z h0 t k .byte (6 : Int32) [(.int d0), (.int d1), (.int d2), (.int d3), (.int d4), (.int d5)] (.int 0)) (pf1 : Old Z n0 h0) (gt : n0 ≤ t) (OA : Sta Z Z.heap "java/lang/StringUTF16" "$assertionsDisabled" "Z" (.int 1)) (OH : Sta Z Z.heap "java/lang/StringUTF16" "HI_BYTE_SHIFT" "I" (.int 0)) (OL : Sta Z Z.heap "java/lang/StringUTF16" "LO_BYTE_SHIFT" "I" (.int 8)) :
    MetFree l (⟨"java/lang/StringUTF16", "putChar", "([BII)V"⟩ : MethodName) (head1 (Jvm.Cond.code (⟨"java/lang/StringUTF16", "putChar", "([BII)V"⟩ : MethodName) jdk_52_method_4_code 3 none :: ws) ({ frames := 0, cells := 0, slots := 0, locals := 0 } : Room)) (fun aa U => aa = #[(.ref t), (.int 2), (.int ch)] ∧ Z.Warmed39 U.vm ∧ U.heap = h0) (fun _ _ _ _ _ => True) (fun _ U o U' => ∃ v L, o = .returned v ∧ Q_pcc32 Z t k d0 d1 d2 d3 d4 d5 ch h0 n0 v U'.heap L ∧ FrameEnd U o U' L ({ frames := 0, cells := 0, slots := 0, locals := 0 } : Room).cells ({ frames := 0, cells := 0, slots := 0, locals := 0 } : Room).slots) := by
  refine MetFree.of_bodySF (plainFor_of_name pn_java_lang_StringUTF16) hisR ?_
  intro p e s m args below meth c s₁ Bd hml0 hP hK
  obtain ⟨rfl, hZ, hh⟩ := hP
  have hx := Bd.exec
  have hby := Bd.bytes
  have hlk : meth.locks = false := BodyLoose.notSynchronized Bd
  have hml : c.maxLocals = 3 := hml0
  have hown : s.vm.findClass "java/lang/StringUTF16" = some m.cls := findClass_of_methodNamed Bd.named
  have hnm := (name_of_methodNamed Bd.named Bd.method).1
  have X0 : Stand p l e ({ frames := 0, cells := 0, slots := 0, locals := 0 } : Room) s m #[(.ref t), (.int 2), (.int ch)] below meth c s₁ [] 0 0 := Stand.of_body Bd
  have e0 : s₁.heap = h0 := by rw [← hh, Bd.state]; rfl
  have N0 := Fr.nil n0
  show Gl p.tables e below (EndN s (Q_pcc32 Z t k d0 d1 d2 d3 d4 d5 ch h0 n0) ({ frames := 0, cells := 0, slots := 0, locals := 0 } : Room).cells ({ frames := 0, cells := 0, slots := 0, locals := 0 } : Room).slots) _
  refine Gl.cast (ef_pcc32 m t ch) ?_
  show Gl p.tables e below _ (s₁.setTop (mkF m 0 #[.val (.ref t), .val (.int 2), .val (.int ch)] []))
  obtain ⟨T1, X1, e1, st1⟩ := getS2 X0 hx hZ hown (host := "") (Or.inl (tw hw 88 rfl)) Via.refl e0 (OA.ext pf1.2) (g := (mkF m 0 #[.val (.ref t), .val (.int 2), .val (.int ch)] [])) rfl (hb hby d19_0)
  refine Gl.st st1 ?_
  show Gl p.tables e below _ (T1.setTop (mkF m 3 #[.val (.ref t), .val (.int 2), .val (.int ch)] [(.int 1)]))
  refine Gl.st (fun _ kq => XS.ifYes X1.here hx rfl (pc0 := 3) (pc' := 28) rfl (hb hby d19_3) rfl ((if0 _ _).trans (feq ((by decide) : ¬ ((1 : Int32) = (0 : Int32)))).2) (by decide) (by decide) kq) ?_
  show Gl p.tables e below _ (T1.setTop (mkF m 28 #[.val (.ref t), .val (.int 2), .val (.int ch)] []))
  refine Gl.st (fun _ kq => XS.iloadN X1.here hx rfl (hb hby d19_28) rfl kq) ?_
  refine Gl.st (fun _ kq => XS.iconst X1.here hx rfl (hb hby d19_29) kq) ?_
  refine Gl.st (fun _ kq => XS.ishl X1.here hx rfl (hb hby d19_30) rfl kq) ?_
  refine Gl.st (fun _ kq => XS.istoreN X1.here hx rfl (hb hby d19_31) rfl (l' := #[.val (.ref t), .val (.int 4), .val (.int ch)]) rfl kq) ?_
  refine Gl.st (fun _ kq => XS.aloadN X1.here hx rfl (hb hby d19_32) rfl rfl kq) ?_
  refine Gl.st (fun _ kq => XS.iloadN X1.here hx rfl (hb hby d19_33) rfl kq) ?_
  refine Gl.st (fun _ kq => XS.iinc X1.here hx rfl (hb hby d19_34) rfl (l' := #[.val (.ref t), .val (.int 5), .val (.int ch)]) rfl kq) ?_
  show Gl p.tables e below _ (T1.setTop (mkF m 37 #[.val (.ref t), .val (.int 5), .val (.int ch)] [(.int 4), (.ref t)]))
  refine Gl.st (fun _ kq => XS.iloadN X1.here hx rfl (hb hby d19_37) rfl kq) ?_
  show Gl p.tables e below _ (T1.setTop (mkF m 38 #[.val (.ref t), .val (.int 5), .val (.int ch)] [(.int ch), (.int 4), (.ref t)]))
  obtain ⟨T2, X2, e2, st2⟩ := getS2 X1 hx hZ hown (host := "") (Or.inl (tw hw 89 rfl)) Via.refl e1 (OH.ext pf1.2) (g := (mkF m 38 #[.val (.ref t), .val (.int 5), .val (.int ch)] [(.int ch), (.int 4), (.ref t)])) rfl (hb hby d19_38)
  refine Gl.st st2 ?_
  show Gl p.tables e below _ (T2.setTop (mkF m 41 #[.val (.ref t), .val (.int 5), .val (.int ch)] [(.int 0), (.int ch), (.int 4), (.ref t)]))
  refine Gl.st (fun _ kq => XS.ishr X2.here hx rfl (hb hby d19_41) rfl kq) ?_
  refine Gl.st (fun _ kq => XS.i2b X2.here hx rfl (hb hby d19_42) rfl kq) ?_
  show Gl p.tables e below _ (T2.setTop (mkF m 43 #[.val (.ref t), .val (.int 5), .val (.int ch)] [(.int ((ch >>> ((0 : Int32) &&& 31)).toInt8.toInt32)), (.int 4), (.ref t)]))
  obtain ⟨c3, a3, q3, S3, M3, H3, G3⟩ := id pf0
  obtain ⟨T3, h3, X3, e3, W3, st3⟩ := stB X2 hx hZ e2 a3 (j := (4 : Int32)) (inb_of S3 ⟨by decide, by decide⟩) (g := (mkF m 43 #[.val (.ref t), .val (.int 5), .val (.int ch)] [(.int ((ch >>> ((0 : Int32) &&& 31)).toInt8.toInt32)), (.int 4), (.ref t)])) rfl rfl (hb hby d19_43)
  refine Gl.st st3 ?_
  have V3 : Arv Z h3 t k .byte (6 : Int32) [(.int d0), (.int d1), (.int d2), (.int d3), (.int (nar .byte ((ch >>> ((0 : Int32) &&& 31)).toInt8.toInt32))), (.int d5)] (.int 0) := Arv.set a3 q3 S3 M3 H3 G3 (fits_nar_byte _) W3 4 rfl (Nat.le_of_ble_eq_true rfl)
  have N3 := Fr.snoc X3 N0 gt
  show Gl p.tables e below _ (T3.setTop (mkF m 44 #[.val (.ref t), .val (.int 5), .val (.int ch)] []))
  refine Gl.st (fun _ kq => XS.aloadN X3.here hx rfl (hb hby d19_44) rfl rfl kq) ?_
  refine Gl.st (fun _ kq => XS.iloadN X3.here hx rfl (hb hby d19_45) rfl kq) ?_
  refine Gl.st (fun _ kq => XS.iloadN X3.here hx rfl (hb hby d19_46) rfl kq) ?_
  show Gl p.tables e below _ (T3.setTop (mkF m 47 #[.val (.ref t), .val (.int 5), .val (.int ch)] [(.int ch), (.int 5), (.ref t)]))
  have f4 : Old Z n0 h3 := (pf1.wr W3 gt)
  obtain ⟨T5, X5, e5, st5⟩ := getS2 X3 hx hZ hown (host := "") (Or.inl (tw hw 90 rfl)) Via.refl e3 (OL.ext f4.2) (g := (mkF m 47 #[.val (.ref t), .val (.int 5), .val (.int ch)] [(.int ch), (.int 5), (.ref t)])) rfl (hb hby d19_47)
  refine Gl.st st5 ?_
  show Gl p.tables e below _ (T5.setTop (mkF m 50 #[.val (.ref t), .val (.int 5), .val (.int ch)] [(.int 8), (.int ch), (.int 5), (.ref t)]))
  refine Gl.st (fun _ kq => XS.ishr X5.here hx rfl (hb hby d19_50) rfl kq) ?_
  refine Gl.st (fun _ kq => XS.i2b X5.here hx rfl (hb hby d19_51) rfl kq) ?_
  show Gl p.tables e below _ (T5.setTop (mkF m 52 #[.val (.ref t), .val (.int 5), .val (.int ch)] [(.int ((ch >>> ((8 : Int32) &&& 31)).toInt8.toInt32)), (.int 5), (.ref t)]))
  obtain ⟨c6, a6, q6, S6, M6, H6, G6⟩ := id V3
  obtain ⟨T6, h6, X6, e6, W6, st6⟩ := stB X5 hx hZ e5 a6 (j := (5 : Int32)) (inb_of S6 ⟨by decide, by decide⟩) (g := (mkF m 52 #[.val (.ref t), .val (.int 5), .val (.int ch)] [(.int ((ch >>> ((8 : Int32) &&& 31)).toInt8.toInt32)), (.int 5), (.ref t)])) rfl rfl (hb hby d19_52)
  refine Gl.st st6 ?_
  have V6 : Arv Z h6 t k .byte (6 : Int32) [(.int d0), (.int d1), (.int d2), (.int d3), (.int (nar .byte ((ch >>> ((0 : Int32) &&& 31)).toInt8.toInt32))), (.int (nar .byte ((ch >>> ((8 : Int32) &&& 31)).toInt8.toInt32)))] (.int 0) := Arv.set a6 q6 S6 M6 H6 G6 (fits_nar_byte _) W6 5 rfl (Nat.le_of_ble_eq_true rfl)
  have N6 := Fr.snoc X6 N3 gt
  show Gl p.tables e below _ (T6.setTop (mkF m 53 #[.val (.ref t), .val (.int 5), .val (.int ch)] []))
  have K7 : Keep h0 h6 [t] := (((Keep.refl h0 [t]).wr W3 (Or.inl (List.mem_of_getElem? (i := 0) rfl))).wr W6 (Or.inl (List.mem_of_getElem? (i := 0) rfl)))
  exact Gl.ret0 X6 hx Bd.returns (hb hby d19_53) hlk (by decide) (by decide) (by rw [e6]; exact ⟨rfl, N6, K7, V6⟩)
theorem ef_nbf4 (m : MethodId)  : entryFrame m #[(.int 4)] 1 = mkF m 0 #[.val (.int 4)] [] := by first | (simp [entryFrame, mkF, argsToLocals, Value.category]; done) | rfl
def Q_nbf4 (Z : State)  (h0 : Heap) (n0 : Nat) (v : Option Value) (h : Heap) (L : List Loc) : Prop := (∃ t : Addr, ∃ k : ClassId, v = some (.ref t) ∧ Fr n0 L ∧ Keep h0 h [] ∧ Arv Z h t k .byte (8 : Int32) [(.int 0), (.int 0), (.int 0), (.int 0), (.int 0), (.int 0), (.int 0), (.int 0)] (.int 0) ∧ (h0.size ≤ t))
set_option maxRecDepth 65536 in
set_option maxHeartbeats 40000000 in
theorem rm_nbf4 (l : Launch) (Z : State) (a0 : Array Value) (hw : ∀ d ∈ tables_1, d.before a0 Z = true) (ws : List Jvm.Cond)  (h0 : Heap) (n0 : Nat) (Z0 : n0 ≤ h0.size) :
    MetFree l (⟨"java/lang/StringUTF16", "newBytesFor", "(I)[B"⟩ : MethodName) (head1 (Jvm.Cond.code (⟨"java/lang/StringUTF16", "newBytesFor", "(I)[B"⟩ : MethodName) jdk_52_method_2_code 1 (some (.array .byte)) :: ws) ({ frames := 1, cells := 1, slots := 8, locals := 12 } : Room)) (fun aa U => aa = #[(.int 4)] ∧ Z.Warmed39 U.vm ∧ U.heap = h0) (fun _ _ _ _ _ => True) (fun _ U o U' => ∃ v L, o = .returned v ∧ Q_nbf4 Z  h0 n0 v U'.heap L ∧ FrameEnd U o U' L ({ frames := 1, cells := 1, slots := 8, locals := 12 } : Room).cells ({ frames := 1, cells := 1, slots := 8, locals := 12 } : Room).slots) := by
  refine MetFree.of_bodySF (plainFor_of_name pn_java_lang_StringUTF16) hisR ?_
  intro p e s m args below meth c s₁ Bd hml0 hP hK
  obtain ⟨rfl, hZ, hh⟩ := hP
  have hx := Bd.exec
  have hby := Bd.bytes
  have hlk : meth.locks = false := BodyLoose.notSynchronized Bd
  have hml : c.maxLocals = 1 := hml0
  have hown : s.vm.findClass "java/lang/StringUTF16" = some m.cls := findClass_of_methodNamed Bd.named
  have hnm := (name_of_methodNamed Bd.named Bd.method).1
  have X0 : Stand p l e ({ frames := 1, cells := 1, slots := 8, locals := 12 } : Room) s m #[(.int 4)] below meth c s₁ [] 0 0 := Stand.of_body Bd
  have e0 : s₁.heap = h0 := by rw [← hh, Bd.state]; rfl
  have N0 := Fr.nil n0
  show Gl p.tables e below (EndN s (Q_nbf4 Z  h0 n0) ({ frames := 1, cells := 1, slots := 8, locals := 12 } : Room).cells ({ frames := 1, cells := 1, slots := 8, locals := 12 } : Room).slots) _
  refine Gl.cast (ef_nbf4 m ) ?_
  show Gl p.tables e below _ (s₁.setTop (mkF m 0 #[.val (.int 4)] []))
  refine Gl.st (fun _ kq => XS.iloadN X0.here hx rfl (hb hby d17_0) rfl kq) ?_
  show Gl p.tables e below _ (s₁.setTop (mkF m 1 #[.val (.int 4)] [(.int 4)]))
  obtain ⟨_, _, ⟨T1, L1, k1, n1⟩, -, X1, ⟨Lc1, hQ1, l1, y1, z1⟩, st1⟩ := Jvm.LawKit.callS X0 hx (y := (⟨"java/lang/StringUTF16", "newBytesLength", "(I)I"⟩ : MethodName)) hown (mvT hZ (tw hw 81 rfl)) (mvT hZ (tw hw 82 rfl)) (mvT hZ (tw hw 41 rfl)) (mvT hZ (tw hw 83 rfl)) (by decide) (backOf (W := 0) (rm_nbl4 l Z a0 hw []  h0 n0 Z0 ) hZ (tw hw 83 rfl) (tw hw 41 rfl) (by decide) (by decide)) (g := (mkF m 1 #[.val (.int 4)] [(.int 4)])) rfl (by rw [hml]; rfl) (argsL := [(.int 4)]) (rest := []) (lenOf pd__I_I rfl) rfl (by show 2 * 0 + _ ≤ _; exact Nat.le_of_eq rfl) (hb hby d17_1) (fun _ _ => ⟨rfl, e0, (by decide : 0 + 0 ≤ _), (by decide : 0 + 0 ≤ _)⟩)
  dsimp only [Pt.U, Pt.locs, Pt.cells, Pt.slots] at X1 l1 y1 z1 st1 hQ1
  subst l1 y1 z1
  obtain ⟨rfl, N1, e1⟩ := hQ1
  have M1 := Fr.app N0 N1
  refine Gl.st st1 ?_
  show Gl p.tables e below _ (T1.setTop (mkF m 4 #[.val (.int 4)] [(.int 8)]))
  show Gl p.tables e below _ (T1.setTop (mkF m 4 #[.val (.int 4)] [(.int 8)]))
  obtain ⟨T2, h2, k2, X2, e2, E2, A2, st2⟩ := newP X1 hx hZ (tw hw 17 rfl) e1 (g := (mkF m 4 #[.val (.int 4)] [(.int 8)])) rfl (hb hby d17_4) rfl (by decide) (cap := 8) (by decide) (by decide) (by decide) (by decide)
  obtain ⟨b2, g2⟩ : ∃ z, z = h0.size := ⟨_, rfl⟩
  rw [← g2] at A2 st2
  refine Gl.st st2 ?_
  have g3 : n0 ≤ b2 := Nat.le_trans Z0 (Nat.le_of_eq g2.symm)
  have s4 : h0.size ≤ b2 := Nat.le_trans (Nat.le_refl _) (Nat.le_of_eq g2.symm)
  have V2 : Arv Z h2 b2 k2 .byte (8 : Int32) [(.int 0), (.int 0), (.int 0), (.int 0), (.int 0), (.int 0), (.int 0), (.int 0)] (.int 0) := (Arv.new A2 (by decide)).pad (pad_rep [] (.int 0) 8)
  show Gl p.tables e below _ (T2.setTop (mkF m 6 #[.val (.int 4)] [(.ref b2)]))
  have K5 : Keep h0 h2 [] := ((Keep.refl h0 []).ext E2)
  exact Gl.retA X2 hx Bd.returns rfl rfl (hb hby d17_6) hlk (by decide) (by decide) (by rw [e2]; exact ⟨b2, k2, rfl, M1, K5, V2, s4⟩)
theorem ef_pcc40 (m : MethodId) (t : Addr) (ch : Int32) : entryFrame m #[(.ref t), (.int 0), (.int ch)] 3 = mkF m 0 #[.val (.ref t), .val (.int 0), .val (.int ch)] [] := by first | (simp [entryFrame, mkF, argsToLocals, Value.category]; done) | rfl
def Q_pcc40 (Z : State) (t : Addr) (k : ClassId) (d0 : Int32) (d1 : Int32) (d2 : Int32) (d3 : Int32) (d4 : Int32) (d5 : Int32) (d6 : Int32) (d7 : Int32) (ch : Int32) (h0 : Heap) (n0 : Nat) (v : Option Value) (h : Heap) (L : List Loc) : Prop := (v = none ∧ Fr n0 L ∧ Keep h0 h [t] ∧ Arv Z h t k .byte (8 : Int32) [(.int (own_b0 ch)), (.int (own_b1 ch)), (.int d2), (.int d3), (.int d4), (.int d5), (.int d6), (.int d7)] (.int 0))
set_option maxRecDepth 65536 in
set_option maxHeartbeats 40000000 in
theorem rm_pcc40 (l : Launch) (Z : State) (a0 : Array Value) (hw : ∀ d ∈ tables_1, d.before a0 Z = true) (ws : List Jvm.Cond) (t : Addr) (k : ClassId) (d0 : Int32) (d1 : Int32) (d2 : Int32) (d3 : Int32) (d4 : Int32) (d5 : Int32) (d6 : Int32) (d7 : Int32) (ch : Int32) (h0 : Heap) (n0 : Nat) (Z0 : n0 ≤ h0.size) (pf0 : Arv Z h0 t k .byte (8 : Int32) [(.int d0), (.int d1), (.int d2), (.int d3), (.int d4), (.int d5), (.int d6), (.int d7)] (.int 0)) (pf1 : Old Z n0 h0) (gt : n0 ≤ t) (OA : Sta Z Z.heap "java/lang/StringUTF16" "$assertionsDisabled" "Z" (.int 1)) (OH : Sta Z Z.heap "java/lang/StringUTF16" "HI_BYTE_SHIFT" "I" (.int 0)) (OL : Sta Z Z.heap "java/lang/StringUTF16" "LO_BYTE_SHIFT" "I" (.int 8)) :
    MetFree l (⟨"java/lang/StringUTF16", "putChar", "([BII)V"⟩ : MethodName) (head1 (Jvm.Cond.code (⟨"java/lang/StringUTF16", "putChar", "([BII)V"⟩ : MethodName) jdk_52_method_4_code 3 none :: ws) ({ frames := 0, cells := 0, slots := 0, locals := 0 } : Room)) (fun aa U => aa = #[(.ref t), (.int 0), (.int ch)] ∧ Z.Warmed39 U.vm ∧ U.heap = h0) (fun _ _ _ _ _ => True) (fun _ U o U' => ∃ v L, o = .returned v ∧ Q_pcc40 Z t k d0 d1 d2 d3 d4 d5 d6 d7 ch h0 n0 v U'.heap L ∧ FrameEnd U o U' L ({ frames := 0, cells := 0, slots := 0, locals := 0 } : Room).cells ({ frames := 0, cells := 0, slots := 0, locals := 0 } : Room).slots) := by
  refine MetFree.of_bodySF (plainFor_of_name pn_java_lang_StringUTF16) hisR ?_
  intro p e s m args below meth c s₁ Bd hml0 hP hK
  obtain ⟨rfl, hZ, hh⟩ := hP
  have hx := Bd.exec
  have hby := Bd.bytes
  have hlk : meth.locks = false := BodyLoose.notSynchronized Bd
  have hml : c.maxLocals = 3 := hml0
  have hown : s.vm.findClass "java/lang/StringUTF16" = some m.cls := findClass_of_methodNamed Bd.named
  have hnm := (name_of_methodNamed Bd.named Bd.method).1
  have X0 : Stand p l e ({ frames := 0, cells := 0, slots := 0, locals := 0 } : Room) s m #[(.ref t), (.int 0), (.int ch)] below meth c s₁ [] 0 0 := Stand.of_body Bd
  have e0 : s₁.heap = h0 := by rw [← hh, Bd.state]; rfl
  have N0 := Fr.nil n0
  show Gl p.tables e below (EndN s (Q_pcc40 Z t k d0 d1 d2 d3 d4 d5 d6 d7 ch h0 n0) ({ frames := 0, cells := 0, slots := 0, locals := 0 } : Room).cells ({ frames := 0, cells := 0, slots := 0, locals := 0 } : Room).slots) _
  refine Gl.cast (ef_pcc40 m t ch) ?_
  show Gl p.tables e below _ (s₁.setTop (mkF m 0 #[.val (.ref t), .val (.int 0), .val (.int ch)] []))
  obtain ⟨T1, X1, e1, st1⟩ := getS2 X0 hx hZ hown (host := "") (Or.inl (tw hw 88 rfl)) Via.refl e0 (OA.ext pf1.2) (g := (mkF m 0 #[.val (.ref t), .val (.int 0), .val (.int ch)] [])) rfl (hb hby d19_0)
  refine Gl.st st1 ?_
  show Gl p.tables e below _ (T1.setTop (mkF m 3 #[.val (.ref t), .val (.int 0), .val (.int ch)] [(.int 1)]))
  refine Gl.st (fun _ kq => XS.ifYes X1.here hx rfl (pc0 := 3) (pc' := 28) rfl (hb hby d19_3) rfl ((if0 _ _).trans (feq ((by decide) : ¬ ((1 : Int32) = (0 : Int32)))).2) (by decide) (by decide) kq) ?_
  show Gl p.tables e below _ (T1.setTop (mkF m 28 #[.val (.ref t), .val (.int 0), .val (.int ch)] []))
  refine Gl.st (fun _ kq => XS.iloadN X1.here hx rfl (hb hby d19_28) rfl kq) ?_
  refine Gl.st (fun _ kq => XS.iconst X1.here hx rfl (hb hby d19_29) kq) ?_
  refine Gl.st (fun _ kq => XS.ishl X1.here hx rfl (hb hby d19_30) rfl kq) ?_
  refine Gl.st (fun _ kq => XS.istoreN X1.here hx rfl (hb hby d19_31) rfl (l' := #[.val (.ref t), .val (.int 0), .val (.int ch)]) rfl kq) ?_
  refine Gl.st (fun _ kq => XS.aloadN X1.here hx rfl (hb hby d19_32) rfl rfl kq) ?_
  refine Gl.st (fun _ kq => XS.iloadN X1.here hx rfl (hb hby d19_33) rfl kq) ?_
  refine Gl.st (fun _ kq => XS.iinc X1.here hx rfl (hb hby d19_34) rfl (l' := #[.val (.ref t), .val (.int 1), .val (.int ch)]) rfl kq) ?_
  show Gl p.tables e below _ (T1.setTop (mkF m 37 #[.val (.ref t), .val (.int 1), .val (.int ch)] [(.int 0), (.ref t)]))
  refine Gl.st (fun _ kq => XS.iloadN X1.here hx rfl (hb hby d19_37) rfl kq) ?_
  show Gl p.tables e below _ (T1.setTop (mkF m 38 #[.val (.ref t), .val (.int 1), .val (.int ch)] [(.int ch), (.int 0), (.ref t)]))
  obtain ⟨T2, X2, e2, st2⟩ := getS2 X1 hx hZ hown (host := "") (Or.inl (tw hw 89 rfl)) Via.refl e1 (OH.ext pf1.2) (g := (mkF m 38 #[.val (.ref t), .val (.int 1), .val (.int ch)] [(.int ch), (.int 0), (.ref t)])) rfl (hb hby d19_38)
  refine Gl.st st2 ?_
  show Gl p.tables e below _ (T2.setTop (mkF m 41 #[.val (.ref t), .val (.int 1), .val (.int ch)] [(.int 0), (.int ch), (.int 0), (.ref t)]))
  refine Gl.st (fun _ kq => XS.ishr X2.here hx rfl (hb hby d19_41) rfl kq) ?_
  refine Gl.st (fun _ kq => XS.i2b X2.here hx rfl (hb hby d19_42) rfl kq) ?_
  show Gl p.tables e below _ (T2.setTop (mkF m 43 #[.val (.ref t), .val (.int 1), .val (.int ch)] [(.int ((ch >>> ((0 : Int32) &&& 31)).toInt8.toInt32)), (.int 0), (.ref t)]))
  obtain ⟨c3, a3, q3, S3, M3, H3, G3⟩ := id pf0
  obtain ⟨T3, h3, X3, e3, W3, st3⟩ := stB X2 hx hZ e2 a3 (j := (0 : Int32)) (inb_of S3 ⟨by decide, by decide⟩) (g := (mkF m 43 #[.val (.ref t), .val (.int 1), .val (.int ch)] [(.int ((ch >>> ((0 : Int32) &&& 31)).toInt8.toInt32)), (.int 0), (.ref t)])) rfl rfl (hb hby d19_43)
  refine Gl.st st3 ?_
  have V3 : Arv Z h3 t k .byte (8 : Int32) [(.int (nar .byte ((ch >>> ((0 : Int32) &&& 31)).toInt8.toInt32))), (.int d1), (.int d2), (.int d3), (.int d4), (.int d5), (.int d6), (.int d7)] (.int 0) := Arv.set a3 q3 S3 M3 H3 G3 (fits_nar_byte _) W3 0 rfl (Nat.le_of_ble_eq_true rfl)
  have N3 := Fr.snoc X3 N0 gt
  show Gl p.tables e below _ (T3.setTop (mkF m 44 #[.val (.ref t), .val (.int 1), .val (.int ch)] []))
  refine Gl.st (fun _ kq => XS.aloadN X3.here hx rfl (hb hby d19_44) rfl rfl kq) ?_
  refine Gl.st (fun _ kq => XS.iloadN X3.here hx rfl (hb hby d19_45) rfl kq) ?_
  refine Gl.st (fun _ kq => XS.iloadN X3.here hx rfl (hb hby d19_46) rfl kq) ?_
  show Gl p.tables e below _ (T3.setTop (mkF m 47 #[.val (.ref t), .val (.int 1), .val (.int ch)] [(.int ch), (.int 1), (.ref t)]))
  have f4 : Old Z n0 h3 := (pf1.wr W3 gt)
  obtain ⟨T5, X5, e5, st5⟩ := getS2 X3 hx hZ hown (host := "") (Or.inl (tw hw 90 rfl)) Via.refl e3 (OL.ext f4.2) (g := (mkF m 47 #[.val (.ref t), .val (.int 1), .val (.int ch)] [(.int ch), (.int 1), (.ref t)])) rfl (hb hby d19_47)
  refine Gl.st st5 ?_
  show Gl p.tables e below _ (T5.setTop (mkF m 50 #[.val (.ref t), .val (.int 1), .val (.int ch)] [(.int 8), (.int ch), (.int 1), (.ref t)]))
  refine Gl.st (fun _ kq => XS.ishr X5.here hx rfl (hb hby d19_50) rfl kq) ?_
  refine Gl.st (fun _ kq => XS.i2b X5.here hx rfl (hb hby d19_51) rfl kq) ?_
  show Gl p.tables e below _ (T5.setTop (mkF m 52 #[.val (.ref t), .val (.int 1), .val (.int ch)] [(.int ((ch >>> ((8 : Int32) &&& 31)).toInt8.toInt32)), (.int 1), (.ref t)]))
  obtain ⟨c6, a6, q6, S6, M6, H6, G6⟩ := id V3
  obtain ⟨T6, h6, X6, e6, W6, st6⟩ := stB X5 hx hZ e5 a6 (j := (1 : Int32)) (inb_of S6 ⟨by decide, by decide⟩) (g := (mkF m 52 #[.val (.ref t), .val (.int 1), .val (.int ch)] [(.int ((ch >>> ((8 : Int32) &&& 31)).toInt8.toInt32)), (.int 1), (.ref t)])) rfl rfl (hb hby d19_52)
  refine Gl.st st6 ?_
  have V6 : Arv Z h6 t k .byte (8 : Int32) [(.int (nar .byte ((ch >>> ((0 : Int32) &&& 31)).toInt8.toInt32))), (.int (nar .byte ((ch >>> ((8 : Int32) &&& 31)).toInt8.toInt32))), (.int d2), (.int d3), (.int d4), (.int d5), (.int d6), (.int d7)] (.int 0) := Arv.set a6 q6 S6 M6 H6 G6 (fits_nar_byte _) W6 1 rfl (Nat.le_of_ble_eq_true rfl)
  have N6 := Fr.snoc X6 N3 gt
  show Gl p.tables e below _ (T6.setTop (mkF m 53 #[.val (.ref t), .val (.int 1), .val (.int ch)] []))
  have K7 : Keep h0 h6 [t] := (((Keep.refl h0 [t]).wr W3 (Or.inl (List.mem_of_getElem? (i := 0) rfl))).wr W6 (Or.inl (List.mem_of_getElem? (i := 0) rfl)))
  exact Gl.ret0 X6 hx Bd.returns (hb hby d19_53) hlk (by decide) (by decide) (by rw [e6]; exact ⟨rfl, N6, K7, V6⟩)
theorem ef_pcc41 (m : MethodId) (t : Addr) (ch : Int32) : entryFrame m #[(.ref t), (.int 1), (.int ch)] 3 = mkF m 0 #[.val (.ref t), .val (.int 1), .val (.int ch)] [] := by first | (simp [entryFrame, mkF, argsToLocals, Value.category]; done) | rfl
def Q_pcc41 (Z : State) (t : Addr) (k : ClassId) (d0 : Int32) (d1 : Int32) (d2 : Int32) (d3 : Int32) (d4 : Int32) (d5 : Int32) (d6 : Int32) (d7 : Int32) (ch : Int32) (h0 : Heap) (n0 : Nat) (v : Option Value) (h : Heap) (L : List Loc) : Prop := (v = none ∧ Fr n0 L ∧ Keep h0 h [t] ∧ Arv Z h t k .byte (8 : Int32) [(.int d0), (.int d1), (.int (own_b0 ch)), (.int (own_b1 ch)), (.int d4), (.int d5), (.int d6), (.int d7)] (.int 0))
set_option maxRecDepth 65536 in
set_option maxHeartbeats 40000000 in
theorem rm_pcc41 (l : Launch) (Z : State) (a0 : Array Value) (hw : ∀ d ∈ tables_1, d.before a0 Z = true) (ws : List Jvm.Cond) (t : Addr) (k : ClassId) (d0 : Int32) (d1 : Int32) (d2 : Int32) (d3 : Int32) (d4 : Int32) (d5 : Int32) (d6 : Int32) (d7 : Int32) (ch : Int32) (h0 : Heap) (n0 : Nat) (Z0 : n0 ≤ h0.size) (pf0 : Arv Z h0 t k .byte (8 : Int32) [(.int d0), (.int d1), (.int d2), (.int d3), (.int d4), (.int d5), (.int d6), (.int d7)] (.int 0)) (pf1 : Old Z n0 h0) (gt : n0 ≤ t) (OA : Sta Z Z.heap "java/lang/StringUTF16" "$assertionsDisabled" "Z" (.int 1)) (OH : Sta Z Z.heap "java/lang/StringUTF16" "HI_BYTE_SHIFT" "I" (.int 0)) (OL : Sta Z Z.heap "java/lang/StringUTF16" "LO_BYTE_SHIFT" "I" (.int 8)) :
    MetFree l (⟨"java/lang/StringUTF16", "putChar", "([BII)V"⟩ : MethodName) (head1 (Jvm.Cond.code (⟨"java/lang/StringUTF16", "putChar", "([BII)V"⟩ : MethodName) jdk_52_method_4_code 3 none :: ws) ({ frames := 0, cells := 0, slots := 0, locals := 0 } : Room)) (fun aa U => aa = #[(.ref t), (.int 1), (.int ch)] ∧ Z.Warmed39 U.vm ∧ U.heap = h0) (fun _ _ _ _ _ => True) (fun _ U o U' => ∃ v L, o = .returned v ∧ Q_pcc41 Z t k d0 d1 d2 d3 d4 d5 d6 d7 ch h0 n0 v U'.heap L ∧ FrameEnd U o U' L ({ frames := 0, cells := 0, slots := 0, locals := 0 } : Room).cells ({ frames := 0, cells := 0, slots := 0, locals := 0 } : Room).slots) := by
  refine MetFree.of_bodySF (plainFor_of_name pn_java_lang_StringUTF16) hisR ?_
  intro p e s m args below meth c s₁ Bd hml0 hP hK
  obtain ⟨rfl, hZ, hh⟩ := hP
  have hx := Bd.exec
  have hby := Bd.bytes
  have hlk : meth.locks = false := BodyLoose.notSynchronized Bd
  have hml : c.maxLocals = 3 := hml0
  have hown : s.vm.findClass "java/lang/StringUTF16" = some m.cls := findClass_of_methodNamed Bd.named
  have hnm := (name_of_methodNamed Bd.named Bd.method).1
  have X0 : Stand p l e ({ frames := 0, cells := 0, slots := 0, locals := 0 } : Room) s m #[(.ref t), (.int 1), (.int ch)] below meth c s₁ [] 0 0 := Stand.of_body Bd
  have e0 : s₁.heap = h0 := by rw [← hh, Bd.state]; rfl
  have N0 := Fr.nil n0
  show Gl p.tables e below (EndN s (Q_pcc41 Z t k d0 d1 d2 d3 d4 d5 d6 d7 ch h0 n0) ({ frames := 0, cells := 0, slots := 0, locals := 0 } : Room).cells ({ frames := 0, cells := 0, slots := 0, locals := 0 } : Room).slots) _
  refine Gl.cast (ef_pcc41 m t ch) ?_
  show Gl p.tables e below _ (s₁.setTop (mkF m 0 #[.val (.ref t), .val (.int 1), .val (.int ch)] []))
  obtain ⟨T1, X1, e1, st1⟩ := getS2 X0 hx hZ hown (host := "") (Or.inl (tw hw 88 rfl)) Via.refl e0 (OA.ext pf1.2) (g := (mkF m 0 #[.val (.ref t), .val (.int 1), .val (.int ch)] [])) rfl (hb hby d19_0)
  refine Gl.st st1 ?_
  show Gl p.tables e below _ (T1.setTop (mkF m 3 #[.val (.ref t), .val (.int 1), .val (.int ch)] [(.int 1)]))
  refine Gl.st (fun _ kq => XS.ifYes X1.here hx rfl (pc0 := 3) (pc' := 28) rfl (hb hby d19_3) rfl ((if0 _ _).trans (feq ((by decide) : ¬ ((1 : Int32) = (0 : Int32)))).2) (by decide) (by decide) kq) ?_
  show Gl p.tables e below _ (T1.setTop (mkF m 28 #[.val (.ref t), .val (.int 1), .val (.int ch)] []))
  refine Gl.st (fun _ kq => XS.iloadN X1.here hx rfl (hb hby d19_28) rfl kq) ?_
  refine Gl.st (fun _ kq => XS.iconst X1.here hx rfl (hb hby d19_29) kq) ?_
  refine Gl.st (fun _ kq => XS.ishl X1.here hx rfl (hb hby d19_30) rfl kq) ?_
  refine Gl.st (fun _ kq => XS.istoreN X1.here hx rfl (hb hby d19_31) rfl (l' := #[.val (.ref t), .val (.int 2), .val (.int ch)]) rfl kq) ?_
  refine Gl.st (fun _ kq => XS.aloadN X1.here hx rfl (hb hby d19_32) rfl rfl kq) ?_
  refine Gl.st (fun _ kq => XS.iloadN X1.here hx rfl (hb hby d19_33) rfl kq) ?_
  refine Gl.st (fun _ kq => XS.iinc X1.here hx rfl (hb hby d19_34) rfl (l' := #[.val (.ref t), .val (.int 3), .val (.int ch)]) rfl kq) ?_
  show Gl p.tables e below _ (T1.setTop (mkF m 37 #[.val (.ref t), .val (.int 3), .val (.int ch)] [(.int 2), (.ref t)]))
  refine Gl.st (fun _ kq => XS.iloadN X1.here hx rfl (hb hby d19_37) rfl kq) ?_
  show Gl p.tables e below _ (T1.setTop (mkF m 38 #[.val (.ref t), .val (.int 3), .val (.int ch)] [(.int ch), (.int 2), (.ref t)]))
  obtain ⟨T2, X2, e2, st2⟩ := getS2 X1 hx hZ hown (host := "") (Or.inl (tw hw 89 rfl)) Via.refl e1 (OH.ext pf1.2) (g := (mkF m 38 #[.val (.ref t), .val (.int 3), .val (.int ch)] [(.int ch), (.int 2), (.ref t)])) rfl (hb hby d19_38)
  refine Gl.st st2 ?_
  show Gl p.tables e below _ (T2.setTop (mkF m 41 #[.val (.ref t), .val (.int 3), .val (.int ch)] [(.int 0), (.int ch), (.int 2), (.ref t)]))
  refine Gl.st (fun _ kq => XS.ishr X2.here hx rfl (hb hby d19_41) rfl kq) ?_
  refine Gl.st (fun _ kq => XS.i2b X2.here hx rfl (hb hby d19_42) rfl kq) ?_
  show Gl p.tables e below _ (T2.setTop (mkF m 43 #[.val (.ref t), .val (.int 3), .val (.int ch)] [(.int ((ch >>> ((0 : Int32) &&& 31)).toInt8.toInt32)), (.int 2), (.ref t)]))
  obtain ⟨c3, a3, q3, S3, M3, H3, G3⟩ := id pf0
  obtain ⟨T3, h3, X3, e3, W3, st3⟩ := stB X2 hx hZ e2 a3 (j := (2 : Int32)) (inb_of S3 ⟨by decide, by decide⟩) (g := (mkF m 43 #[.val (.ref t), .val (.int 3), .val (.int ch)] [(.int ((ch >>> ((0 : Int32) &&& 31)).toInt8.toInt32)), (.int 2), (.ref t)])) rfl rfl (hb hby d19_43)
  refine Gl.st st3 ?_
  have V3 : Arv Z h3 t k .byte (8 : Int32) [(.int d0), (.int d1), (.int (nar .byte ((ch >>> ((0 : Int32) &&& 31)).toInt8.toInt32))), (.int d3), (.int d4), (.int d5), (.int d6), (.int d7)] (.int 0) := Arv.set a3 q3 S3 M3 H3 G3 (fits_nar_byte _) W3 2 rfl (Nat.le_of_ble_eq_true rfl)
  have N3 := Fr.snoc X3 N0 gt
  show Gl p.tables e below _ (T3.setTop (mkF m 44 #[.val (.ref t), .val (.int 3), .val (.int ch)] []))
  refine Gl.st (fun _ kq => XS.aloadN X3.here hx rfl (hb hby d19_44) rfl rfl kq) ?_
  refine Gl.st (fun _ kq => XS.iloadN X3.here hx rfl (hb hby d19_45) rfl kq) ?_
  refine Gl.st (fun _ kq => XS.iloadN X3.here hx rfl (hb hby d19_46) rfl kq) ?_
  show Gl p.tables e below _ (T3.setTop (mkF m 47 #[.val (.ref t), .val (.int 3), .val (.int ch)] [(.int ch), (.int 3), (.ref t)]))
  have f4 : Old Z n0 h3 := (pf1.wr W3 gt)
  obtain ⟨T5, X5, e5, st5⟩ := getS2 X3 hx hZ hown (host := "") (Or.inl (tw hw 90 rfl)) Via.refl e3 (OL.ext f4.2) (g := (mkF m 47 #[.val (.ref t), .val (.int 3), .val (.int ch)] [(.int ch), (.int 3), (.ref t)])) rfl (hb hby d19_47)
  refine Gl.st st5 ?_
  show Gl p.tables e below _ (T5.setTop (mkF m 50 #[.val (.ref t), .val (.int 3), .val (.int ch)] [(.int 8), (.int ch), (.int 3), (.ref t)]))
  refine Gl.st (fun _ kq => XS.ishr X5.here hx rfl (hb hby d19_50) rfl kq) ?_
  refine Gl.st (fun _ kq => XS.i2b X5.here hx rfl (hb hby d19_51) rfl kq) ?_
  show Gl p.tables e below _ (T5.setTop (mkF m 52 #[.val (.ref t), .val (.int 3), .val (.int ch)] [(.int ((ch >>> ((8 : Int32) &&& 31)).toInt8.toInt32)), (.int 3), (.ref t)]))
  obtain ⟨c6, a6, q6, S6, M6, H6, G6⟩ := id V3
  obtain ⟨T6, h6, X6, e6, W6, st6⟩ := stB X5 hx hZ e5 a6 (j := (3 : Int32)) (inb_of S6 ⟨by decide, by decide⟩) (g := (mkF m 52 #[.val (.ref t), .val (.int 3), .val (.int ch)] [(.int ((ch >>> ((8 : Int32) &&& 31)).toInt8.toInt32)), (.int 3), (.ref t)])) rfl rfl (hb hby d19_52)
  refine Gl.st st6 ?_
  have V6 : Arv Z h6 t k .byte (8 : Int32) [(.int d0), (.int d1), (.int (nar .byte ((ch >>> ((0 : Int32) &&& 31)).toInt8.toInt32))), (.int (nar .byte ((ch >>> ((8 : Int32) &&& 31)).toInt8.toInt32))), (.int d4), (.int d5), (.int d6), (.int d7)] (.int 0) := Arv.set a6 q6 S6 M6 H6 G6 (fits_nar_byte _) W6 3 rfl (Nat.le_of_ble_eq_true rfl)
  have N6 := Fr.snoc X6 N3 gt
  show Gl p.tables e below _ (T6.setTop (mkF m 53 #[.val (.ref t), .val (.int 3), .val (.int ch)] []))
  have K7 : Keep h0 h6 [t] := (((Keep.refl h0 [t]).wr W3 (Or.inl (List.mem_of_getElem? (i := 0) rfl))).wr W6 (Or.inl (List.mem_of_getElem? (i := 0) rfl)))
  exact Gl.ret0 X6 hx Bd.returns (hb hby d19_53) hlk (by decide) (by decide) (by rw [e6]; exact ⟨rfl, N6, K7, V6⟩)
theorem ef_pcc42 (m : MethodId) (t : Addr) (ch : Int32) : entryFrame m #[(.ref t), (.int 2), (.int ch)] 3 = mkF m 0 #[.val (.ref t), .val (.int 2), .val (.int ch)] [] := by first | (simp [entryFrame, mkF, argsToLocals, Value.category]; done) | rfl
def Q_pcc42 (Z : State) (t : Addr) (k : ClassId) (d0 : Int32) (d1 : Int32) (d2 : Int32) (d3 : Int32) (d4 : Int32) (d5 : Int32) (d6 : Int32) (d7 : Int32) (ch : Int32) (h0 : Heap) (n0 : Nat) (v : Option Value) (h : Heap) (L : List Loc) : Prop := (v = none ∧ Fr n0 L ∧ Keep h0 h [t] ∧ Arv Z h t k .byte (8 : Int32) [(.int d0), (.int d1), (.int d2), (.int d3), (.int (own_b0 ch)), (.int (own_b1 ch)), (.int d6), (.int d7)] (.int 0))
set_option maxRecDepth 65536 in
set_option maxHeartbeats 40000000 in
theorem rm_pcc42 (l : Launch) (Z : State) (a0 : Array Value) (hw : ∀ d ∈ tables_1, d.before a0 Z = true) (ws : List Jvm.Cond) (t : Addr) (k : ClassId) (d0 : Int32) (d1 : Int32) (d2 : Int32) (d3 : Int32) (d4 : Int32) (d5 : Int32) (d6 : Int32) (d7 : Int32) (ch : Int32) (h0 : Heap) (n0 : Nat) (Z0 : n0 ≤ h0.size) (pf0 : Arv Z h0 t k .byte (8 : Int32) [(.int d0), (.int d1), (.int d2), (.int d3), (.int d4), (.int d5), (.int d6), (.int d7)] (.int 0)) (pf1 : Old Z n0 h0) (gt : n0 ≤ t) (OA : Sta Z Z.heap "java/lang/StringUTF16" "$assertionsDisabled" "Z" (.int 1)) (OH : Sta Z Z.heap "java/lang/StringUTF16" "HI_BYTE_SHIFT" "I" (.int 0)) (OL : Sta Z Z.heap "java/lang/StringUTF16" "LO_BYTE_SHIFT" "I" (.int 8)) :
    MetFree l (⟨"java/lang/StringUTF16", "putChar", "([BII)V"⟩ : MethodName) (head1 (Jvm.Cond.code (⟨"java/lang/StringUTF16", "putChar", "([BII)V"⟩ : MethodName) jdk_52_method_4_code 3 none :: ws) ({ frames := 0, cells := 0, slots := 0, locals := 0 } : Room)) (fun aa U => aa = #[(.ref t), (.int 2), (.int ch)] ∧ Z.Warmed39 U.vm ∧ U.heap = h0) (fun _ _ _ _ _ => True) (fun _ U o U' => ∃ v L, o = .returned v ∧ Q_pcc42 Z t k d0 d1 d2 d3 d4 d5 d6 d7 ch h0 n0 v U'.heap L ∧ FrameEnd U o U' L ({ frames := 0, cells := 0, slots := 0, locals := 0 } : Room).cells ({ frames := 0, cells := 0, slots := 0, locals := 0 } : Room).slots) := by
  refine MetFree.of_bodySF (plainFor_of_name pn_java_lang_StringUTF16) hisR ?_
  intro p e s m args below meth c s₁ Bd hml0 hP hK
  obtain ⟨rfl, hZ, hh⟩ := hP
  have hx := Bd.exec
  have hby := Bd.bytes
  have hlk : meth.locks = false := BodyLoose.notSynchronized Bd
  have hml : c.maxLocals = 3 := hml0
  have hown : s.vm.findClass "java/lang/StringUTF16" = some m.cls := findClass_of_methodNamed Bd.named
  have hnm := (name_of_methodNamed Bd.named Bd.method).1
  have X0 : Stand p l e ({ frames := 0, cells := 0, slots := 0, locals := 0 } : Room) s m #[(.ref t), (.int 2), (.int ch)] below meth c s₁ [] 0 0 := Stand.of_body Bd
  have e0 : s₁.heap = h0 := by rw [← hh, Bd.state]; rfl
  have N0 := Fr.nil n0
  show Gl p.tables e below (EndN s (Q_pcc42 Z t k d0 d1 d2 d3 d4 d5 d6 d7 ch h0 n0) ({ frames := 0, cells := 0, slots := 0, locals := 0 } : Room).cells ({ frames := 0, cells := 0, slots := 0, locals := 0 } : Room).slots) _
  refine Gl.cast (ef_pcc42 m t ch) ?_
  show Gl p.tables e below _ (s₁.setTop (mkF m 0 #[.val (.ref t), .val (.int 2), .val (.int ch)] []))
  obtain ⟨T1, X1, e1, st1⟩ := getS2 X0 hx hZ hown (host := "") (Or.inl (tw hw 88 rfl)) Via.refl e0 (OA.ext pf1.2) (g := (mkF m 0 #[.val (.ref t), .val (.int 2), .val (.int ch)] [])) rfl (hb hby d19_0)
  refine Gl.st st1 ?_
  show Gl p.tables e below _ (T1.setTop (mkF m 3 #[.val (.ref t), .val (.int 2), .val (.int ch)] [(.int 1)]))
  refine Gl.st (fun _ kq => XS.ifYes X1.here hx rfl (pc0 := 3) (pc' := 28) rfl (hb hby d19_3) rfl ((if0 _ _).trans (feq ((by decide) : ¬ ((1 : Int32) = (0 : Int32)))).2) (by decide) (by decide) kq) ?_
  show Gl p.tables e below _ (T1.setTop (mkF m 28 #[.val (.ref t), .val (.int 2), .val (.int ch)] []))
  refine Gl.st (fun _ kq => XS.iloadN X1.here hx rfl (hb hby d19_28) rfl kq) ?_
  refine Gl.st (fun _ kq => XS.iconst X1.here hx rfl (hb hby d19_29) kq) ?_
  refine Gl.st (fun _ kq => XS.ishl X1.here hx rfl (hb hby d19_30) rfl kq) ?_
  refine Gl.st (fun _ kq => XS.istoreN X1.here hx rfl (hb hby d19_31) rfl (l' := #[.val (.ref t), .val (.int 4), .val (.int ch)]) rfl kq) ?_
  refine Gl.st (fun _ kq => XS.aloadN X1.here hx rfl (hb hby d19_32) rfl rfl kq) ?_
  refine Gl.st (fun _ kq => XS.iloadN X1.here hx rfl (hb hby d19_33) rfl kq) ?_
  refine Gl.st (fun _ kq => XS.iinc X1.here hx rfl (hb hby d19_34) rfl (l' := #[.val (.ref t), .val (.int 5), .val (.int ch)]) rfl kq) ?_
  show Gl p.tables e below _ (T1.setTop (mkF m 37 #[.val (.ref t), .val (.int 5), .val (.int ch)] [(.int 4), (.ref t)]))
  refine Gl.st (fun _ kq => XS.iloadN X1.here hx rfl (hb hby d19_37) rfl kq) ?_
  show Gl p.tables e below _ (T1.setTop (mkF m 38 #[.val (.ref t), .val (.int 5), .val (.int ch)] [(.int ch), (.int 4), (.ref t)]))
  obtain ⟨T2, X2, e2, st2⟩ := getS2 X1 hx hZ hown (host := "") (Or.inl (tw hw 89 rfl)) Via.refl e1 (OH.ext pf1.2) (g := (mkF m 38 #[.val (.ref t), .val (.int 5), .val (.int ch)] [(.int ch), (.int 4), (.ref t)])) rfl (hb hby d19_38)
  refine Gl.st st2 ?_
  show Gl p.tables e below _ (T2.setTop (mkF m 41 #[.val (.ref t), .val (.int 5), .val (.int ch)] [(.int 0), (.int ch), (.int 4), (.ref t)]))
  refine Gl.st (fun _ kq => XS.ishr X2.here hx rfl (hb hby d19_41) rfl kq) ?_
  refine Gl.st (fun _ kq => XS.i2b X2.here hx rfl (hb hby d19_42) rfl kq) ?_
  show Gl p.tables e below _ (T2.setTop (mkF m 43 #[.val (.ref t), .val (.int 5), .val (.int ch)] [(.int ((ch >>> ((0 : Int32) &&& 31)).toInt8.toInt32)), (.int 4), (.ref t)]))
  obtain ⟨c3, a3, q3, S3, M3, H3, G3⟩ := id pf0
  obtain ⟨T3, h3, X3, e3, W3, st3⟩ := stB X2 hx hZ e2 a3 (j := (4 : Int32)) (inb_of S3 ⟨by decide, by decide⟩) (g := (mkF m 43 #[.val (.ref t), .val (.int 5), .val (.int ch)] [(.int ((ch >>> ((0 : Int32) &&& 31)).toInt8.toInt32)), (.int 4), (.ref t)])) rfl rfl (hb hby d19_43)
  refine Gl.st st3 ?_
  have V3 : Arv Z h3 t k .byte (8 : Int32) [(.int d0), (.int d1), (.int d2), (.int d3), (.int (nar .byte ((ch >>> ((0 : Int32) &&& 31)).toInt8.toInt32))), (.int d5), (.int d6), (.int d7)] (.int 0) := Arv.set a3 q3 S3 M3 H3 G3 (fits_nar_byte _) W3 4 rfl (Nat.le_of_ble_eq_true rfl)
  have N3 := Fr.snoc X3 N0 gt
  show Gl p.tables e below _ (T3.setTop (mkF m 44 #[.val (.ref t), .val (.int 5), .val (.int ch)] []))
  refine Gl.st (fun _ kq => XS.aloadN X3.here hx rfl (hb hby d19_44) rfl rfl kq) ?_
  refine Gl.st (fun _ kq => XS.iloadN X3.here hx rfl (hb hby d19_45) rfl kq) ?_
  refine Gl.st (fun _ kq => XS.iloadN X3.here hx rfl (hb hby d19_46) rfl kq) ?_
  show Gl p.tables e below _ (T3.setTop (mkF m 47 #[.val (.ref t), .val (.int 5), .val (.int ch)] [(.int ch), (.int 5), (.ref t)]))
  have f4 : Old Z n0 h3 := (pf1.wr W3 gt)
  obtain ⟨T5, X5, e5, st5⟩ := getS2 X3 hx hZ hown (host := "") (Or.inl (tw hw 90 rfl)) Via.refl e3 (OL.ext f4.2) (g := (mkF m 47 #[.val (.ref t), .val (.int 5), .val (.int ch)] [(.int ch), (.int 5), (.ref t)])) rfl (hb hby d19_47)
  refine Gl.st st5 ?_
  show Gl p.tables e below _ (T5.setTop (mkF m 50 #[.val (.ref t), .val (.int 5), .val (.int ch)] [(.int 8), (.int ch), (.int 5), (.ref t)]))
  refine Gl.st (fun _ kq => XS.ishr X5.here hx rfl (hb hby d19_50) rfl kq) ?_
  refine Gl.st (fun _ kq => XS.i2b X5.here hx rfl (hb hby d19_51) rfl kq) ?_
  show Gl p.tables e below _ (T5.setTop (mkF m 52 #[.val (.ref t), .val (.int 5), .val (.int ch)] [(.int ((ch >>> ((8 : Int32) &&& 31)).toInt8.toInt32)), (.int 5), (.ref t)]))
  obtain ⟨c6, a6, q6, S6, M6, H6, G6⟩ := id V3
  obtain ⟨T6, h6, X6, e6, W6, st6⟩ := stB X5 hx hZ e5 a6 (j := (5 : Int32)) (inb_of S6 ⟨by decide, by decide⟩) (g := (mkF m 52 #[.val (.ref t), .val (.int 5), .val (.int ch)] [(.int ((ch >>> ((8 : Int32) &&& 31)).toInt8.toInt32)), (.int 5), (.ref t)])) rfl rfl (hb hby d19_52)
  refine Gl.st st6 ?_
  have V6 : Arv Z h6 t k .byte (8 : Int32) [(.int d0), (.int d1), (.int d2), (.int d3), (.int (nar .byte ((ch >>> ((0 : Int32) &&& 31)).toInt8.toInt32))), (.int (nar .byte ((ch >>> ((8 : Int32) &&& 31)).toInt8.toInt32))), (.int d6), (.int d7)] (.int 0) := Arv.set a6 q6 S6 M6 H6 G6 (fits_nar_byte _) W6 5 rfl (Nat.le_of_ble_eq_true rfl)
  have N6 := Fr.snoc X6 N3 gt
  show Gl p.tables e below _ (T6.setTop (mkF m 53 #[.val (.ref t), .val (.int 5), .val (.int ch)] []))
  have K7 : Keep h0 h6 [t] := (((Keep.refl h0 [t]).wr W3 (Or.inl (List.mem_of_getElem? (i := 0) rfl))).wr W6 (Or.inl (List.mem_of_getElem? (i := 0) rfl)))
  exact Gl.ret0 X6 hx Bd.returns (hb hby d19_53) hlk (by decide) (by decide) (by rw [e6]; exact ⟨rfl, N6, K7, V6⟩)
theorem ef_pcc43 (m : MethodId) (t : Addr) (ch : Int32) : entryFrame m #[(.ref t), (.int 3), (.int ch)] 3 = mkF m 0 #[.val (.ref t), .val (.int 3), .val (.int ch)] [] := by first | (simp [entryFrame, mkF, argsToLocals, Value.category]; done) | rfl
def Q_pcc43 (Z : State) (t : Addr) (k : ClassId) (d0 : Int32) (d1 : Int32) (d2 : Int32) (d3 : Int32) (d4 : Int32) (d5 : Int32) (d6 : Int32) (d7 : Int32) (ch : Int32) (h0 : Heap) (n0 : Nat) (v : Option Value) (h : Heap) (L : List Loc) : Prop := (v = none ∧ Fr n0 L ∧ Keep h0 h [t] ∧ Arv Z h t k .byte (8 : Int32) [(.int d0), (.int d1), (.int d2), (.int d3), (.int d4), (.int d5), (.int (own_b0 ch)), (.int (own_b1 ch))] (.int 0))
set_option maxRecDepth 65536 in
set_option maxHeartbeats 40000000 in
theorem rm_pcc43 (l : Launch) (Z : State) (a0 : Array Value) (hw : ∀ d ∈ tables_1, d.before a0 Z = true) (ws : List Jvm.Cond) (t : Addr) (k : ClassId) (d0 : Int32) (d1 : Int32) (d2 : Int32) (d3 : Int32) (d4 : Int32) (d5 : Int32) (d6 : Int32) (d7 : Int32) (ch : Int32) (h0 : Heap) (n0 : Nat) (Z0 : n0 ≤ h0.size) (pf0 : Arv Z h0 t k .byte (8 : Int32) [(.int d0), (.int d1), (.int d2), (.int d3), (.int d4), (.int d5), (.int d6), (.int d7)] (.int 0)) (pf1 : Old Z n0 h0) (gt : n0 ≤ t) (OA : Sta Z Z.heap "java/lang/StringUTF16" "$assertionsDisabled" "Z" (.int 1)) (OH : Sta Z Z.heap "java/lang/StringUTF16" "HI_BYTE_SHIFT" "I" (.int 0)) (OL : Sta Z Z.heap "java/lang/StringUTF16" "LO_BYTE_SHIFT" "I" (.int 8)) :
    MetFree l (⟨"java/lang/StringUTF16", "putChar", "([BII)V"⟩ : MethodName) (head1 (Jvm.Cond.code (⟨"java/lang/StringUTF16", "putChar", "([BII)V"⟩ : MethodName) jdk_52_method_4_code 3 none :: ws) ({ frames := 0, cells := 0, slots := 0, locals := 0 } : Room)) (fun aa U => aa = #[(.ref t), (.int 3), (.int ch)] ∧ Z.Warmed39 U.vm ∧ U.heap = h0) (fun _ _ _ _ _ => True) (fun _ U o U' => ∃ v L, o = .returned v ∧ Q_pcc43 Z t k d0 d1 d2 d3 d4 d5 d6 d7 ch h0 n0 v U'.heap L ∧ FrameEnd U o U' L ({ frames := 0, cells := 0, slots := 0, locals := 0 } : Room).cells ({ frames := 0, cells := 0, slots := 0, locals := 0 } : Room).slots) := by
  refine MetFree.of_bodySF (plainFor_of_name pn_java_lang_StringUTF16) hisR ?_
  intro p e s m args below meth c s₁ Bd hml0 hP hK
  obtain ⟨rfl, hZ, hh⟩ := hP
  have hx := Bd.exec
  have hby := Bd.bytes
  have hlk : meth.locks = false := BodyLoose.notSynchronized Bd
  have hml : c.maxLocals = 3 := hml0
  have hown : s.vm.findClass "java/lang/StringUTF16" = some m.cls := findClass_of_methodNamed Bd.named
  have hnm := (name_of_methodNamed Bd.named Bd.method).1
  have X0 : Stand p l e ({ frames := 0, cells := 0, slots := 0, locals := 0 } : Room) s m #[(.ref t), (.int 3), (.int ch)] below meth c s₁ [] 0 0 := Stand.of_body Bd
  have e0 : s₁.heap = h0 := by rw [← hh, Bd.state]; rfl
  have N0 := Fr.nil n0
  show Gl p.tables e below (EndN s (Q_pcc43 Z t k d0 d1 d2 d3 d4 d5 d6 d7 ch h0 n0) ({ frames := 0, cells := 0, slots := 0, locals := 0 } : Room).cells ({ frames := 0, cells := 0, slots := 0, locals := 0 } : Room).slots) _
  refine Gl.cast (ef_pcc43 m t ch) ?_
  show Gl p.tables e below _ (s₁.setTop (mkF m 0 #[.val (.ref t), .val (.int 3), .val (.int ch)] []))
  obtain ⟨T1, X1, e1, st1⟩ := getS2 X0 hx hZ hown (host := "") (Or.inl (tw hw 88 rfl)) Via.refl e0 (OA.ext pf1.2) (g := (mkF m 0 #[.val (.ref t), .val (.int 3), .val (.int ch)] [])) rfl (hb hby d19_0)
  refine Gl.st st1 ?_
  show Gl p.tables e below _ (T1.setTop (mkF m 3 #[.val (.ref t), .val (.int 3), .val (.int ch)] [(.int 1)]))
  refine Gl.st (fun _ kq => XS.ifYes X1.here hx rfl (pc0 := 3) (pc' := 28) rfl (hb hby d19_3) rfl ((if0 _ _).trans (feq ((by decide) : ¬ ((1 : Int32) = (0 : Int32)))).2) (by decide) (by decide) kq) ?_
  show Gl p.tables e below _ (T1.setTop (mkF m 28 #[.val (.ref t), .val (.int 3), .val (.int ch)] []))
  refine Gl.st (fun _ kq => XS.iloadN X1.here hx rfl (hb hby d19_28) rfl kq) ?_
  refine Gl.st (fun _ kq => XS.iconst X1.here hx rfl (hb hby d19_29) kq) ?_
  refine Gl.st (fun _ kq => XS.ishl X1.here hx rfl (hb hby d19_30) rfl kq) ?_
  refine Gl.st (fun _ kq => XS.istoreN X1.here hx rfl (hb hby d19_31) rfl (l' := #[.val (.ref t), .val (.int 6), .val (.int ch)]) rfl kq) ?_
  refine Gl.st (fun _ kq => XS.aloadN X1.here hx rfl (hb hby d19_32) rfl rfl kq) ?_
  refine Gl.st (fun _ kq => XS.iloadN X1.here hx rfl (hb hby d19_33) rfl kq) ?_
  refine Gl.st (fun _ kq => XS.iinc X1.here hx rfl (hb hby d19_34) rfl (l' := #[.val (.ref t), .val (.int 7), .val (.int ch)]) rfl kq) ?_
  show Gl p.tables e below _ (T1.setTop (mkF m 37 #[.val (.ref t), .val (.int 7), .val (.int ch)] [(.int 6), (.ref t)]))
  refine Gl.st (fun _ kq => XS.iloadN X1.here hx rfl (hb hby d19_37) rfl kq) ?_
  show Gl p.tables e below _ (T1.setTop (mkF m 38 #[.val (.ref t), .val (.int 7), .val (.int ch)] [(.int ch), (.int 6), (.ref t)]))
  obtain ⟨T2, X2, e2, st2⟩ := getS2 X1 hx hZ hown (host := "") (Or.inl (tw hw 89 rfl)) Via.refl e1 (OH.ext pf1.2) (g := (mkF m 38 #[.val (.ref t), .val (.int 7), .val (.int ch)] [(.int ch), (.int 6), (.ref t)])) rfl (hb hby d19_38)
  refine Gl.st st2 ?_
  show Gl p.tables e below _ (T2.setTop (mkF m 41 #[.val (.ref t), .val (.int 7), .val (.int ch)] [(.int 0), (.int ch), (.int 6), (.ref t)]))
  refine Gl.st (fun _ kq => XS.ishr X2.here hx rfl (hb hby d19_41) rfl kq) ?_
  refine Gl.st (fun _ kq => XS.i2b X2.here hx rfl (hb hby d19_42) rfl kq) ?_
  show Gl p.tables e below _ (T2.setTop (mkF m 43 #[.val (.ref t), .val (.int 7), .val (.int ch)] [(.int ((ch >>> ((0 : Int32) &&& 31)).toInt8.toInt32)), (.int 6), (.ref t)]))
  obtain ⟨c3, a3, q3, S3, M3, H3, G3⟩ := id pf0
  obtain ⟨T3, h3, X3, e3, W3, st3⟩ := stB X2 hx hZ e2 a3 (j := (6 : Int32)) (inb_of S3 ⟨by decide, by decide⟩) (g := (mkF m 43 #[.val (.ref t), .val (.int 7), .val (.int ch)] [(.int ((ch >>> ((0 : Int32) &&& 31)).toInt8.toInt32)), (.int 6), (.ref t)])) rfl rfl (hb hby d19_43)
  refine Gl.st st3 ?_
  have V3 : Arv Z h3 t k .byte (8 : Int32) [(.int d0), (.int d1), (.int d2), (.int d3), (.int d4), (.int d5), (.int (nar .byte ((ch >>> ((0 : Int32) &&& 31)).toInt8.toInt32))), (.int d7)] (.int 0) := Arv.set a3 q3 S3 M3 H3 G3 (fits_nar_byte _) W3 6 rfl (Nat.le_of_ble_eq_true rfl)
  have N3 := Fr.snoc X3 N0 gt
  show Gl p.tables e below _ (T3.setTop (mkF m 44 #[.val (.ref t), .val (.int 7), .val (.int ch)] []))
  refine Gl.st (fun _ kq => XS.aloadN X3.here hx rfl (hb hby d19_44) rfl rfl kq) ?_
  refine Gl.st (fun _ kq => XS.iloadN X3.here hx rfl (hb hby d19_45) rfl kq) ?_
  refine Gl.st (fun _ kq => XS.iloadN X3.here hx rfl (hb hby d19_46) rfl kq) ?_
  show Gl p.tables e below _ (T3.setTop (mkF m 47 #[.val (.ref t), .val (.int 7), .val (.int ch)] [(.int ch), (.int 7), (.ref t)]))
  have f4 : Old Z n0 h3 := (pf1.wr W3 gt)
  obtain ⟨T5, X5, e5, st5⟩ := getS2 X3 hx hZ hown (host := "") (Or.inl (tw hw 90 rfl)) Via.refl e3 (OL.ext f4.2) (g := (mkF m 47 #[.val (.ref t), .val (.int 7), .val (.int ch)] [(.int ch), (.int 7), (.ref t)])) rfl (hb hby d19_47)
  refine Gl.st st5 ?_
  show Gl p.tables e below _ (T5.setTop (mkF m 50 #[.val (.ref t), .val (.int 7), .val (.int ch)] [(.int 8), (.int ch), (.int 7), (.ref t)]))
  refine Gl.st (fun _ kq => XS.ishr X5.here hx rfl (hb hby d19_50) rfl kq) ?_
  refine Gl.st (fun _ kq => XS.i2b X5.here hx rfl (hb hby d19_51) rfl kq) ?_
  show Gl p.tables e below _ (T5.setTop (mkF m 52 #[.val (.ref t), .val (.int 7), .val (.int ch)] [(.int ((ch >>> ((8 : Int32) &&& 31)).toInt8.toInt32)), (.int 7), (.ref t)]))
  obtain ⟨c6, a6, q6, S6, M6, H6, G6⟩ := id V3
  obtain ⟨T6, h6, X6, e6, W6, st6⟩ := stB X5 hx hZ e5 a6 (j := (7 : Int32)) (inb_of S6 ⟨by decide, by decide⟩) (g := (mkF m 52 #[.val (.ref t), .val (.int 7), .val (.int ch)] [(.int ((ch >>> ((8 : Int32) &&& 31)).toInt8.toInt32)), (.int 7), (.ref t)])) rfl rfl (hb hby d19_52)
  refine Gl.st st6 ?_
  have V6 : Arv Z h6 t k .byte (8 : Int32) [(.int d0), (.int d1), (.int d2), (.int d3), (.int d4), (.int d5), (.int (nar .byte ((ch >>> ((0 : Int32) &&& 31)).toInt8.toInt32))), (.int (nar .byte ((ch >>> ((8 : Int32) &&& 31)).toInt8.toInt32)))] (.int 0) := Arv.set a6 q6 S6 M6 H6 G6 (fits_nar_byte _) W6 7 rfl (Nat.le_of_ble_eq_true rfl)
  have N6 := Fr.snoc X6 N3 gt
  show Gl p.tables e below _ (T6.setTop (mkF m 53 #[.val (.ref t), .val (.int 7), .val (.int ch)] []))
  have K7 : Keep h0 h6 [t] := (((Keep.refl h0 [t]).wr W3 (Or.inl (List.mem_of_getElem? (i := 0) rfl))).wr W6 (Or.inl (List.mem_of_getElem? (i := 0) rfl)))
  exact Gl.ret0 X6 hx Bd.returns (hb hby d19_53) hlk (by decide) (by decide) (by rw [e6]; exact ⟨rfl, N6, K7, V6⟩)
theorem d16_0 : decode jdk_52_method_14_code 0 = .ok (.iload_n 2, 1) := by decide +kernel
theorem d16_1 : decode jdk_52_method_14_code 1 = .ok (.invokestatic 107, 3) := by decide +kernel
theorem d16_4 : decode jdk_52_method_14_code 4 = .ok (.astore_n 3, 1) := by decide +kernel
theorem d16_5 : decode jdk_52_method_14_code 5 = .ok (.iconst 0, 1) := by decide +kernel
theorem d16_6 : decode jdk_52_method_14_code 6 = .ok (.istore 4, 2) := by decide +kernel
theorem d16_8 : decode jdk_52_method_14_code 8 = .ok (.iload 4, 2) := by decide +kernel
theorem d16_10 : decode jdk_52_method_14_code 10 = .ok (.iload_n 2, 1) := by decide +kernel
theorem d16_11 : decode jdk_52_method_14_code 11 = .ok (.if_icmp .ge 21, 3) := by decide +kernel
theorem d16_14 : decode jdk_52_method_14_code 14 = .ok (.aload_n 3, 1) := by decide +kernel
theorem d16_15 : decode jdk_52_method_14_code 15 = .ok (.iload 4, 2) := by decide +kernel
theorem d16_17 : decode jdk_52_method_14_code 17 = .ok (.aload_n 0, 1) := by decide +kernel
theorem d16_18 : decode jdk_52_method_14_code 18 = .ok (.iload_n 1, 1) := by decide +kernel
theorem d16_19 : decode jdk_52_method_14_code 19 = .ok (.caload, 1) := by decide +kernel
theorem d16_20 : decode jdk_52_method_14_code 20 = .ok (.invokestatic 111, 3) := by decide +kernel
theorem d16_23 : decode jdk_52_method_14_code 23 = .ok (.iinc 1 1, 3) := by decide +kernel
theorem d16_26 : decode jdk_52_method_14_code 26 = .ok (.iinc 4 1, 3) := by decide +kernel
theorem d16_29 : decode jdk_52_method_14_code 29 = .ok (.goto (-21), 3) := by decide +kernel
theorem d16_32 : decode jdk_52_method_14_code 32 = .ok (.aload_n 3, 1) := by decide +kernel
theorem d16_33 : decode jdk_52_method_14_code 33 = .ok (.areturn, 1) := by decide +kernel
theorem ef_tb1 (m : MethodId) (tc : Addr) : entryFrame m #[(.ref tc), (.int 0), (.int 1)] 5 = mkF m 0 #[.val (.ref tc), .val (.int 0), .val (.int 1), .unset, .unset] [] := by first | (simp [entryFrame, mkF, argsToLocals, Value.category]; done) | rfl
def Q_tb1 (Z : State) (tc : Addr) (kc : ClassId) (cc0 : Int32) (h0 : Heap) (n0 : Nat) (v : Option Value) (h : Heap) (L : List Loc) : Prop := (∃ t : Addr, ∃ k : ClassId, v = some (.ref t) ∧ Fr n0 L ∧ Keep h0 h [] ∧ Arv Z h t k .byte (Int32.ofNat (2 * ([cc0] : List Int32).length)) (own_us ([cc0] : List Int32)) (.int 0) ∧ (h0.size ≤ t))
set_option maxRecDepth 65536 in
set_option maxHeartbeats 40000000 in
theorem rm_tb1 (l : Launch) (Z : State) (a0 : Array Value) (hw : ∀ d ∈ tables_1, d.before a0 Z = true) (ws : List Jvm.Cond) (tc : Addr) (kc : ClassId) (cc0 : Int32) (h0 : Heap) (n0 : Nat) (Z0 : n0 ≤ h0.size) (pf0 : Arv Z h0 tc kc .char (1 : Int32) [(.int cc0)] (.int 0)) (pf1 : Old Z n0 h0) (OA : Sta Z Z.heap "java/lang/StringUTF16" "$assertionsDisabled" "Z" (.int 1)) (OH : Sta Z Z.heap "java/lang/StringUTF16" "HI_BYTE_SHIFT" "I" (.int 0)) (OL : Sta Z Z.heap "java/lang/StringUTF16" "LO_BYTE_SHIFT" "I" (.int 8)) :
    MetFree l (⟨"java/lang/StringUTF16", "toBytes", "([CII)[B"⟩ : MethodName) (head1 (Jvm.Cond.code (⟨"java/lang/StringUTF16", "toBytes", "([CII)[B"⟩ : MethodName) jdk_52_method_14_code 5 (some (.array .byte)) :: ws) ({ frames := 2, cells := 1, slots := 2, locals := 24 } : Room)) (fun aa U => aa = #[(.ref tc), (.int 0), (.int 1)] ∧ Z.Warmed39 U.vm ∧ U.heap = h0) (fun _ _ _ _ _ => True) (fun _ U o U' => ∃ v L, o = .returned v ∧ Q_tb1 Z tc kc cc0 h0 n0 v U'.heap L ∧ FrameEnd U o U' L ({ frames := 2, cells := 1, slots := 2, locals := 24 } : Room).cells ({ frames := 2, cells := 1, slots := 2, locals := 24 } : Room).slots) := by
  refine MetFree.of_bodySF (plainFor_of_name pn_java_lang_StringUTF16) hisR ?_
  intro p e s m args below meth c s₁ Bd hml0 hP hK
  obtain ⟨rfl, hZ, hh⟩ := hP
  have hx := Bd.exec
  have hby := Bd.bytes
  have hlk : meth.locks = false := BodyLoose.notSynchronized Bd
  have hml : c.maxLocals = 5 := hml0
  have hown : s.vm.findClass "java/lang/StringUTF16" = some m.cls := findClass_of_methodNamed Bd.named
  have hnm := (name_of_methodNamed Bd.named Bd.method).1
  have X0 : Stand p l e ({ frames := 2, cells := 1, slots := 2, locals := 24 } : Room) s m #[(.ref tc), (.int 0), (.int 1)] below meth c s₁ [] 0 0 := Stand.of_body Bd
  have e0 : s₁.heap = h0 := by rw [← hh, Bd.state]; rfl
  have N0 := Fr.nil n0
  show Gl p.tables e below (EndN s (Q_tb1 Z tc kc cc0 h0 n0) ({ frames := 2, cells := 1, slots := 2, locals := 24 } : Room).cells ({ frames := 2, cells := 1, slots := 2, locals := 24 } : Room).slots) _
  refine Gl.cast (ef_tb1 m tc) ?_
  show Gl p.tables e below _ (s₁.setTop (mkF m 0 #[.val (.ref tc), .val (.int 0), .val (.int 1), .unset, .unset] []))
  refine Gl.st (fun _ kq => XS.iloadN X0.here hx rfl (hb hby d16_0) rfl kq) ?_
  show Gl p.tables e below _ (s₁.setTop (mkF m 1 #[.val (.ref tc), .val (.int 0), .val (.int 1), .unset, .unset] [(.int 1)]))
  obtain ⟨_, _, ⟨T3, L3, k3, n3⟩, -, X3, ⟨Lc3, hQ3, l3, y3, z3⟩, st3⟩ := Jvm.LawKit.callS X0 hx (y := (⟨"java/lang/StringUTF16", "newBytesFor", "(I)[B"⟩ : MethodName)) hown (mvT hZ (tw hw 78 rfl)) (mvT hZ (tw hw 79 rfl)) (mvT hZ (tw hw 41 rfl)) (mvT hZ (tw hw 80 rfl)) (by decide) (backOf (W := 0) (rm_nbf1 l Z a0 hw []  h0 n0 Z0 ) hZ (tw hw 80 rfl) (tw hw 41 rfl) (by decide) (by decide)) (g := (mkF m 1 #[.val (.ref tc), .val (.int 0), .val (.int 1), .unset, .unset] [(.int 1)])) rfl (by rw [hml]; rfl) (argsL := [(.int 1)]) (rest := []) (lenOf pd__I__B rfl) rfl (by show 2 * 0 + _ ≤ _; exact Nat.le_of_eq rfl) (hb hby d16_1) (fun _ _ => ⟨rfl, e0, (by decide : 0 + 1 ≤ _), (by decide : 0 + 2 ≤ _)⟩)
  dsimp only [Pt.U, Pt.locs, Pt.cells, Pt.slots] at X3 l3 y3 z3 st3 hQ3
  subst l3 y3 z3
  obtain ⟨v1, v2, rfl, N3, K3, q3_0, y3_0⟩ := hQ3
  have M3 := Fr.app N0 N3
  have g4 : n0 ≤ v1 := Nat.le_trans Z0 y3_0
  have s5 : h0.size ≤ v1 := Nat.le_trans (Nat.le_refl _) y3_0
  refine Gl.st st3 ?_
  show Gl p.tables e below _ (T3.setTop (mkF m 4 #[.val (.ref tc), .val (.int 0), .val (.int 1), .unset, .unset] [(.ref v1)]))
  show Gl p.tables e below _ (T3.setTop (mkF m 4 #[.val (.ref tc), .val (.int 0), .val (.int 1), .unset, .unset] [(.ref v1)]))
  refine Gl.st (fun _ kq => XS.astoreN X3.here hx rfl (hb hby d16_4) rfl rfl (l' := #[.val (.ref tc), .val (.int 0), .val (.int 1), .val (.ref v1), .unset]) rfl kq) ?_
  refine Gl.st (fun _ kq => XS.iconst X3.here hx rfl (hb hby d16_5) kq) ?_
  refine Gl.st (fun _ kq => XS.istore X3.here hx rfl (hb hby d16_6) rfl (l' := #[.val (.ref tc), .val (.int 0), .val (.int 1), .val (.ref v1), .val (.int 0)]) rfl kq) ?_
  refine Gl.st (fun _ kq => XS.iload X3.here hx rfl (hb hby d16_8) rfl kq) ?_
  refine Gl.st (fun _ kq => XS.iloadN X3.here hx rfl (hb hby d16_10) rfl kq) ?_
  show Gl p.tables e below _ (T3.setTop (mkF m 11 #[.val (.ref tc), .val (.int 0), .val (.int 1), .val (.ref v1), .val (.int 0)] [(.int 1), (.int 0)]))
  refine Gl.st (fun _ kq => XS.icmpNo X3.here hx rfl (hb hby d16_11) rfl (tlt ((by decide) : (0 : Int32) < (1 : Int32))).2.1 kq) ?_
  show Gl p.tables e below _ (T3.setTop (mkF m 14 #[.val (.ref tc), .val (.int 0), .val (.int 1), .val (.ref v1), .val (.int 0)] []))
  refine Gl.st (fun _ kq => XS.aloadN X3.here hx rfl (hb hby d16_14) rfl rfl kq) ?_
  refine Gl.st (fun _ kq => XS.iload X3.here hx rfl (hb hby d16_15) rfl kq) ?_
  refine Gl.st (fun _ kq => XS.aloadN X3.here hx rfl (hb hby d16_17) rfl rfl kq) ?_
  refine Gl.st (fun _ kq => XS.iloadN X3.here hx rfl (hb hby d16_18) rfl kq) ?_
  show Gl p.tables e below _ (T3.setTop (mkF m 19 #[.val (.ref tc), .val (.int 0), .val (.int 1), .val (.ref v1), .val (.int 0)] [(.int 0), (.ref tc), (.int 0), (.ref v1)]))
  have f6 : Arv Z T3.heap tc kc .char (1 : Int32) [(.int cc0)] (.int 0) := (pf0.keep K3 nin0)
  obtain ⟨c7, a7, q7, S7, M7, H7, G7⟩ := id f6
  refine Gl.st (fun _ kq => X3.caload hx (j := (0 : Int32)) (v := (.int cc0)) a7.1 (State.isArrayOf_alike hZ.alike a7.2.1) a7.2.2 (inb_of S7 ⟨by decide, by decide⟩) (Has.at H7 (inb_of S7 ⟨by decide, by decide⟩) rfl) (g := (mkF m 19 #[.val (.ref tc), .val (.int 0), .val (.int 1), .val (.ref v1), .val (.int 0)] [(.int 0), (.ref tc), (.int 0), (.ref v1)])) rfl rfl (hb hby d16_19) _ kq) ?_
  show Gl p.tables e below _ (T3.setTop (mkF m 20 #[.val (.ref tc), .val (.int 0), .val (.int 1), .val (.ref v1), .val (.int 0)] [(.int cc0), (.int 0), (.ref v1)]))
  have f8 : Old Z n0 T3.heap := (pf1.keep K3 all0)
  obtain ⟨_, _, ⟨T9, L9, k9, n9⟩, -, X9, ⟨Lc9, hQ9, l9, y9, z9⟩, st9⟩ := Jvm.LawKit.callS X3 hx (y := (⟨"java/lang/StringUTF16", "putChar", "([BII)V"⟩ : MethodName)) hown (mvT hZ (tw hw 85 rfl)) (mvT hZ (tw hw 86 rfl)) (mvT hZ (tw hw 41 rfl)) (mvT hZ (tw hw 87 rfl)) (by decide) (backOf (W := 0) (rm_pcc10 l Z a0 hw [] (v1) (v2) ((0 : Int32)) ((0 : Int32)) (cc0) T3.heap n0 (Nat.le_trans Z0 K3.1) q3_0 f8 g4 OA OH OL) hZ (tw hw 87 rfl) (tw hw 41 rfl) (by decide) (by decide)) (g := (mkF m 20 #[.val (.ref tc), .val (.int 0), .val (.int 1), .val (.ref v1), .val (.int 0)] [(.int cc0), (.int 0), (.ref v1)])) rfl (by rw [hml]; rfl) (argsL := [(.ref v1), (.int 0), (.int cc0)]) (rest := []) (lenOf pd___BII_V rfl) rfl (by show 2 * 0 + _ ≤ _; exact Nat.le_of_eq rfl) (hb hby d16_20) (fun _ _ => ⟨rfl, rfl, (by decide : 1 + 0 ≤ _), (by decide : 2 + 0 ≤ _)⟩)
  dsimp only [Pt.U, Pt.locs, Pt.cells, Pt.slots] at X9 l9 y9 z9 st9 hQ9
  subst l9 y9 z9
  obtain ⟨rfl, N9, K9, q9_0⟩ := hQ9
  have M9 := Fr.app M3 N9
  refine Gl.st st9 ?_
  show Gl p.tables e below _ (T9.setTop (mkF m 23 #[.val (.ref tc), .val (.int 0), .val (.int 1), .val (.ref v1), .val (.int 0)] []))
  show Gl p.tables e below _ (T9.setTop (mkF m 23 #[.val (.ref tc), .val (.int 0), .val (.int 1), .val (.ref v1), .val (.int 0)] []))
  refine Gl.st (fun _ kq => XS.iinc X9.here hx rfl (hb hby d16_23) rfl (l' := #[.val (.ref tc), .val (.int 1), .val (.int 1), .val (.ref v1), .val (.int 0)]) rfl kq) ?_
  refine Gl.st (fun _ kq => XS.iinc X9.here hx rfl (hb hby d16_26) rfl (l' := #[.val (.ref tc), .val (.int 1), .val (.int 1), .val (.ref v1), .val (.int 1)]) rfl kq) ?_
  refine Gl.st (fun _ kq => XS.goto X9.here hx rfl (pc0 := 29) (pc' := 8) rfl (hb hby d16_29) (by decide) (by decide) kq) ?_
  refine Gl.st (fun _ kq => XS.iload X9.here hx rfl (hb hby d16_8) rfl kq) ?_
  refine Gl.st (fun _ kq => XS.iloadN X9.here hx rfl (hb hby d16_10) rfl kq) ?_
  show Gl p.tables e below _ (T9.setTop (mkF m 11 #[.val (.ref tc), .val (.int 1), .val (.int 1), .val (.ref v1), .val (.int 1)] [(.int 1), (.int 1)]))
  refine Gl.st (fun _ kq => XS.icmpYes X9.here hx rfl (pc0 := 11) (pc' := 32) rfl (hb hby d16_11) rfl (flt ((by decide) : ¬ ((1 : Int32) < (1 : Int32)))).2.1 (by decide) (by decide) kq) ?_
  show Gl p.tables e below _ (T9.setTop (mkF m 32 #[.val (.ref tc), .val (.int 1), .val (.int 1), .val (.ref v1), .val (.int 1)] []))
  refine Gl.st (fun _ kq => XS.aloadN X9.here hx rfl (hb hby d16_32) rfl rfl kq) ?_
  have K10 : Keep h0 T9.heap [] := (((Keep.refl h0 []).trans K3 all0).trans K9 (allS (Or.inr s5) all0))
  exact Gl.retA X9 hx Bd.returns rfl rfl (hb hby d16_33) hlk (by decide) (by decide) ⟨v1, v2, rfl, M9, K10, q9_0, s5⟩
theorem d8_0 : decode jdk_52_method_21_code 0 = .ok (.iconst 0, 1) := by decide +kernel
theorem d8_1 : decode jdk_52_method_21_code 1 = .ok (.istore 5, 2) := by decide +kernel
theorem d8_3 : decode jdk_52_method_21_code 3 = .ok (.iload 5, 2) := by decide +kernel
theorem d8_5 : decode jdk_52_method_21_code 5 = .ok (.iload 4, 2) := by decide +kernel
theorem d8_7 : decode jdk_52_method_21_code 7 = .ok (.if_icmp .ge 37, 3) := by decide +kernel
theorem d8_10 : decode jdk_52_method_21_code 10 = .ok (.aload_n 0, 1) := by decide +kernel
theorem d8_11 : decode jdk_52_method_21_code 11 = .ok (.iload_n 1, 1) := by decide +kernel
theorem d8_12 : decode jdk_52_method_21_code 12 = .ok (.caload, 1) := by decide +kernel
theorem d8_13 : decode jdk_52_method_21_code 13 = .ok (.istore 6, 2) := by decide +kernel
theorem d8_15 : decode jdk_52_method_21_code 15 = .ok (.iload 6, 2) := by decide +kernel
theorem d8_17 : decode jdk_52_method_21_code 17 = .ok (.sipush 255, 3) := by decide +kernel
theorem d8_20 : decode jdk_52_method_21_code 20 = .ok (.if_icmp .le 6, 3) := by decide +kernel
theorem d8_23 : decode jdk_52_method_21_code 23 = .ok (.iload 5, 2) := by decide +kernel
theorem d8_25 : decode jdk_52_method_21_code 25 = .ok (.ireturn, 1) := by decide +kernel
theorem ef_c5_1 (m : MethodId) (tc : Addr) (tb : Addr) : entryFrame m #[(.ref tc), (.int 0), (.ref tb), (.int 0), (.int 1)] 7 = mkF m 0 #[.val (.ref tc), .val (.int 0), .val (.ref tb), .val (.int 0), .val (.int 1), .unset, .unset] [] := by first | (simp [entryFrame, mkF, argsToLocals, Value.category]; done) | rfl
def Q_c5_1 (Z : State) (tc : Addr) (kc : ClassId) (tb : Addr) (kb : ClassId) (cc0 : Int32) (h0 : Heap) (n0 : Nat) (v : Option Value) (h : Heap) (L : List Loc) : Prop := (v = some (.int 0) ∧ Fr n0 L ∧ Keep h0 h [tb] ∧ ((255 : Int32) < cc0))
set_option maxRecDepth 65536 in
set_option maxHeartbeats 40000000 in
theorem rm_c5_1 (l : Launch) (Z : State) (a0 : Array Value) (hw : ∀ d ∈ tables_1, d.before a0 Z = true) (ws : List Jvm.Cond) (tc : Addr) (kc : ClassId) (tb : Addr) (kb : ClassId) (cc0 : Int32) (h0 : Heap) (n0 : Nat) (Z0 : n0 ≤ h0.size) (pf0 : Arv Z h0 tc kc .char (1 : Int32) [(.int cc0)] (.int 0)) (pf1 : Arv Z h0 tb kb .byte (1 : Int32) [(.int 0)] (.int 0)) (gtb : n0 ≤ tb) (nct : tc ≠ tb) (hU : (255 : Int32) < cc0) :
    MetFree l (⟨"java/lang/StringUTF16", "compress", "([CI[BII)I"⟩ : MethodName) (head1 (Jvm.Cond.code (⟨"java/lang/StringUTF16", "compress", "([CI[BII)I"⟩ : MethodName) jdk_52_method_21_code 7 (some .int) :: ws) ({ frames := 0, cells := 0, slots := 0, locals := 0 } : Room)) (fun aa U => aa = #[(.ref tc), (.int 0), (.ref tb), (.int 0), (.int 1)] ∧ Z.Warmed39 U.vm ∧ U.heap = h0) (fun _ _ _ _ _ => True) (fun _ U o U' => ∃ v L, o = .returned v ∧ Q_c5_1 Z tc kc tb kb cc0 h0 n0 v U'.heap L ∧ FrameEnd U o U' L ({ frames := 0, cells := 0, slots := 0, locals := 0 } : Room).cells ({ frames := 0, cells := 0, slots := 0, locals := 0 } : Room).slots) := by
  refine MetFree.of_bodySF (plainFor_of_name pn_java_lang_StringUTF16) hisR ?_
  intro p e s m args below meth c s₁ Bd hml0 hP hK
  obtain ⟨rfl, hZ, hh⟩ := hP
  have hx := Bd.exec
  have hby := Bd.bytes
  have hlk : meth.locks = false := BodyLoose.notSynchronized Bd
  have hml : c.maxLocals = 7 := hml0
  have hown : s.vm.findClass "java/lang/StringUTF16" = some m.cls := findClass_of_methodNamed Bd.named
  have hnm := (name_of_methodNamed Bd.named Bd.method).1
  have X0 : Stand p l e ({ frames := 0, cells := 0, slots := 0, locals := 0 } : Room) s m #[(.ref tc), (.int 0), (.ref tb), (.int 0), (.int 1)] below meth c s₁ [] 0 0 := Stand.of_body Bd
  have e0 : s₁.heap = h0 := by rw [← hh, Bd.state]; rfl
  have N0 := Fr.nil n0
  show Gl p.tables e below (EndN s (Q_c5_1 Z tc kc tb kb cc0 h0 n0) ({ frames := 0, cells := 0, slots := 0, locals := 0 } : Room).cells ({ frames := 0, cells := 0, slots := 0, locals := 0 } : Room).slots) _
  refine Gl.cast (ef_c5_1 m tc tb) ?_
  show Gl p.tables e below _ (s₁.setTop (mkF m 0 #[.val (.ref tc), .val (.int 0), .val (.ref tb), .val (.int 0), .val (.int 1), .unset, .unset] []))
  refine Gl.st (fun _ kq => XS.iconst X0.here hx rfl (hb hby d8_0) kq) ?_
  refine Gl.st (fun _ kq => XS.istore X0.here hx rfl (hb hby d8_1) rfl (l' := #[.val (.ref tc), .val (.int 0), .val (.ref tb), .val (.int 0), .val (.int 1), .val (.int 0), .unset]) rfl kq) ?_
  refine Gl.st (fun _ kq => XS.iload X0.here hx rfl (hb hby d8_3) rfl kq) ?_
  refine Gl.st (fun _ kq => XS.iload X0.here hx rfl (hb hby d8_5) rfl kq) ?_
  show Gl p.tables e below _ (s₁.setTop (mkF m 7 #[.val (.ref tc), .val (.int 0), .val (.ref tb), .val (.int 0), .val (.int 1), .val (.int 0), .unset] [(.int 1), (.int 0)]))
  refine Gl.st (fun _ kq => XS.icmpNo X0.here hx rfl (hb hby d8_7) rfl (tlt ((by decide) : (0 : Int32) < (1 : Int32))).2.1 kq) ?_
  show Gl p.tables e below _ (s₁.setTop (mkF m 10 #[.val (.ref tc), .val (.int 0), .val (.ref tb), .val (.int 0), .val (.int 1), .val (.int 0), .unset] []))
  refine Gl.st (fun _ kq => XS.aloadN X0.here hx rfl (hb hby d8_10) rfl rfl kq) ?_
  refine Gl.st (fun _ kq => XS.iloadN X0.here hx rfl (hb hby d8_11) rfl kq) ?_
  show Gl p.tables e below _ (s₁.setTop (mkF m 12 #[.val (.ref tc), .val (.int 0), .val (.ref tb), .val (.int 0), .val (.int 1), .val (.int 0), .unset] [(.int 0), (.ref tc)]))
  obtain ⟨c1, a1, q1, S1, M1, H1, G1⟩ := id pf0
  refine Gl.st (fun _ kq => X0.caload hx (j := (0 : Int32)) (v := (.int cc0)) (by rw [e0]; exact a1.1) (State.isArrayOf_alike hZ.alike a1.2.1) a1.2.2 (inb_of S1 ⟨by decide, by decide⟩) (Has.at H1 (inb_of S1 ⟨by decide, by decide⟩) rfl) (g := (mkF m 12 #[.val (.ref tc), .val (.int 0), .val (.ref tb), .val (.int 0), .val (.int 1), .val (.int 0), .unset] [(.int 0), (.ref tc)])) rfl rfl (hb hby d8_12) _ kq) ?_
  show Gl p.tables e below _ (s₁.setTop (mkF m 13 #[.val (.ref tc), .val (.int 0), .val (.ref tb), .val (.int 0), .val (.int 1), .val (.int 0), .unset] [(.int cc0)]))
  refine Gl.st (fun _ kq => XS.istore X0.here hx rfl (hb hby d8_13) rfl (l' := #[.val (.ref tc), .val (.int 0), .val (.ref tb), .val (.int 0), .val (.int 1), .val (.int 0), .val (.int cc0)]) rfl kq) ?_
  refine Gl.st (fun _ kq => XS.iload X0.here hx rfl (hb hby d8_15) rfl kq) ?_
  refine Gl.st (fun _ kq => XS.sipush X0.here hx rfl (hb hby d8_17) kq) ?_
  show Gl p.tables e below _ (s₁.setTop (mkF m 20 #[.val (.ref tc), .val (.int 0), .val (.ref tb), .val (.int 0), .val (.int 1), .val (.int 0), .val (.int cc0)] [(.int 255), (.int cc0)]))
  refine Gl.st (fun _ kq => XS.icmpNo X0.here hx rfl (hb hby d8_20) rfl (tlt (hU : (255 : Int32) < cc0)).2.2.2 kq) ?_
  show Gl p.tables e below _ (s₁.setTop (mkF m 23 #[.val (.ref tc), .val (.int 0), .val (.ref tb), .val (.int 0), .val (.int 1), .val (.int 0), .val (.int cc0)] []))
  refine Gl.st (fun _ kq => XS.iload X0.here hx rfl (hb hby d8_23) rfl kq) ?_
  exact Gl.retI X0 hx Bd.returns (hb hby d8_25) hlk (by decide) (by decide) (by rw [e0]; exact ⟨rfl, N0, (Keep.refl h0 [tb]), hU⟩)
theorem ef_tb2 (m : MethodId) (tc : Addr) : entryFrame m #[(.ref tc), (.int 0), (.int 2)] 5 = mkF m 0 #[.val (.ref tc), .val (.int 0), .val (.int 2), .unset, .unset] [] := by first | (simp [entryFrame, mkF, argsToLocals, Value.category]; done) | rfl
def Q_tb2 (Z : State) (tc : Addr) (kc : ClassId) (cc0 : Int32) (cc1 : Int32) (h0 : Heap) (n0 : Nat) (v : Option Value) (h : Heap) (L : List Loc) : Prop := (∃ t : Addr, ∃ k : ClassId, v = some (.ref t) ∧ Fr n0 L ∧ Keep h0 h [] ∧ Arv Z h t k .byte (Int32.ofNat (2 * ([cc0, cc1] : List Int32).length)) (own_us ([cc0, cc1] : List Int32)) (.int 0) ∧ (h0.size ≤ t))
set_option maxRecDepth 65536 in
set_option maxHeartbeats 40000000 in
theorem rm_tb2 (l : Launch) (Z : State) (a0 : Array Value) (hw : ∀ d ∈ tables_1, d.before a0 Z = true) (ws : List Jvm.Cond) (tc : Addr) (kc : ClassId) (cc0 : Int32) (cc1 : Int32) (h0 : Heap) (n0 : Nat) (Z0 : n0 ≤ h0.size) (pf0 : Arv Z h0 tc kc .char (2 : Int32) [(.int cc0), (.int cc1)] (.int 0)) (pf1 : Old Z n0 h0) (OA : Sta Z Z.heap "java/lang/StringUTF16" "$assertionsDisabled" "Z" (.int 1)) (OH : Sta Z Z.heap "java/lang/StringUTF16" "HI_BYTE_SHIFT" "I" (.int 0)) (OL : Sta Z Z.heap "java/lang/StringUTF16" "LO_BYTE_SHIFT" "I" (.int 8)) :
    MetFree l (⟨"java/lang/StringUTF16", "toBytes", "([CII)[B"⟩ : MethodName) (head1 (Jvm.Cond.code (⟨"java/lang/StringUTF16", "toBytes", "([CII)[B"⟩ : MethodName) jdk_52_method_14_code 5 (some (.array .byte)) :: ws) ({ frames := 2, cells := 1, slots := 4, locals := 24 } : Room)) (fun aa U => aa = #[(.ref tc), (.int 0), (.int 2)] ∧ Z.Warmed39 U.vm ∧ U.heap = h0) (fun _ _ _ _ _ => True) (fun _ U o U' => ∃ v L, o = .returned v ∧ Q_tb2 Z tc kc cc0 cc1 h0 n0 v U'.heap L ∧ FrameEnd U o U' L ({ frames := 2, cells := 1, slots := 4, locals := 24 } : Room).cells ({ frames := 2, cells := 1, slots := 4, locals := 24 } : Room).slots) := by
  refine MetFree.of_bodySF (plainFor_of_name pn_java_lang_StringUTF16) hisR ?_
  intro p e s m args below meth c s₁ Bd hml0 hP hK
  obtain ⟨rfl, hZ, hh⟩ := hP
  have hx := Bd.exec
  have hby := Bd.bytes
  have hlk : meth.locks = false := BodyLoose.notSynchronized Bd
  have hml : c.maxLocals = 5 := hml0
  have hown : s.vm.findClass "java/lang/StringUTF16" = some m.cls := findClass_of_methodNamed Bd.named
  have hnm := (name_of_methodNamed Bd.named Bd.method).1
  have X0 : Stand p l e ({ frames := 2, cells := 1, slots := 4, locals := 24 } : Room) s m #[(.ref tc), (.int 0), (.int 2)] below meth c s₁ [] 0 0 := Stand.of_body Bd
  have e0 : s₁.heap = h0 := by rw [← hh, Bd.state]; rfl
  have N0 := Fr.nil n0
  show Gl p.tables e below (EndN s (Q_tb2 Z tc kc cc0 cc1 h0 n0) ({ frames := 2, cells := 1, slots := 4, locals := 24 } : Room).cells ({ frames := 2, cells := 1, slots := 4, locals := 24 } : Room).slots) _
  refine Gl.cast (ef_tb2 m tc) ?_
  show Gl p.tables e below _ (s₁.setTop (mkF m 0 #[.val (.ref tc), .val (.int 0), .val (.int 2), .unset, .unset] []))
  refine Gl.st (fun _ kq => XS.iloadN X0.here hx rfl (hb hby d16_0) rfl kq) ?_
  show Gl p.tables e below _ (s₁.setTop (mkF m 1 #[.val (.ref tc), .val (.int 0), .val (.int 2), .unset, .unset] [(.int 2)]))
  obtain ⟨_, _, ⟨T3, L3, k3, n3⟩, -, X3, ⟨Lc3, hQ3, l3, y3, z3⟩, st3⟩ := Jvm.LawKit.callS X0 hx (y := (⟨"java/lang/StringUTF16", "newBytesFor", "(I)[B"⟩ : MethodName)) hown (mvT hZ (tw hw 78 rfl)) (mvT hZ (tw hw 79 rfl)) (mvT hZ (tw hw 41 rfl)) (mvT hZ (tw hw 80 rfl)) (by decide) (backOf (W := 0) (rm_nbf2 l Z a0 hw []  h0 n0 Z0 ) hZ (tw hw 80 rfl) (tw hw 41 rfl) (by decide) (by decide)) (g := (mkF m 1 #[.val (.ref tc), .val (.int 0), .val (.int 2), .unset, .unset] [(.int 2)])) rfl (by rw [hml]; rfl) (argsL := [(.int 2)]) (rest := []) (lenOf pd__I__B rfl) rfl (by show 2 * 0 + _ ≤ _; exact Nat.le_of_eq rfl) (hb hby d16_1) (fun _ _ => ⟨rfl, e0, (by decide : 0 + 1 ≤ _), (by decide : 0 + 4 ≤ _)⟩)
  dsimp only [Pt.U, Pt.locs, Pt.cells, Pt.slots] at X3 l3 y3 z3 st3 hQ3
  subst l3 y3 z3
  obtain ⟨v1, v2, rfl, N3, K3, q3_0, y3_0⟩ := hQ3
  have M3 := Fr.app N0 N3
  have g4 : n0 ≤ v1 := Nat.le_trans Z0 y3_0
  have s5 : h0.size ≤ v1 := Nat.le_trans (Nat.le_refl _) y3_0
  refine Gl.st st3 ?_
  show Gl p.tables e below _ (T3.setTop (mkF m 4 #[.val (.ref tc), .val (.int 0), .val (.int 2), .unset, .unset] [(.ref v1)]))
  show Gl p.tables e below _ (T3.setTop (mkF m 4 #[.val (.ref tc), .val (.int 0), .val (.int 2), .unset, .unset] [(.ref v1)]))
  refine Gl.st (fun _ kq => XS.astoreN X3.here hx rfl (hb hby d16_4) rfl rfl (l' := #[.val (.ref tc), .val (.int 0), .val (.int 2), .val (.ref v1), .unset]) rfl kq) ?_
  refine Gl.st (fun _ kq => XS.iconst X3.here hx rfl (hb hby d16_5) kq) ?_
  refine Gl.st (fun _ kq => XS.istore X3.here hx rfl (hb hby d16_6) rfl (l' := #[.val (.ref tc), .val (.int 0), .val (.int 2), .val (.ref v1), .val (.int 0)]) rfl kq) ?_
  refine Gl.st (fun _ kq => XS.iload X3.here hx rfl (hb hby d16_8) rfl kq) ?_
  refine Gl.st (fun _ kq => XS.iloadN X3.here hx rfl (hb hby d16_10) rfl kq) ?_
  show Gl p.tables e below _ (T3.setTop (mkF m 11 #[.val (.ref tc), .val (.int 0), .val (.int 2), .val (.ref v1), .val (.int 0)] [(.int 2), (.int 0)]))
  refine Gl.st (fun _ kq => XS.icmpNo X3.here hx rfl (hb hby d16_11) rfl (tlt ((by decide) : (0 : Int32) < (2 : Int32))).2.1 kq) ?_
  show Gl p.tables e below _ (T3.setTop (mkF m 14 #[.val (.ref tc), .val (.int 0), .val (.int 2), .val (.ref v1), .val (.int 0)] []))
  refine Gl.st (fun _ kq => XS.aloadN X3.here hx rfl (hb hby d16_14) rfl rfl kq) ?_
  refine Gl.st (fun _ kq => XS.iload X3.here hx rfl (hb hby d16_15) rfl kq) ?_
  refine Gl.st (fun _ kq => XS.aloadN X3.here hx rfl (hb hby d16_17) rfl rfl kq) ?_
  refine Gl.st (fun _ kq => XS.iloadN X3.here hx rfl (hb hby d16_18) rfl kq) ?_
  show Gl p.tables e below _ (T3.setTop (mkF m 19 #[.val (.ref tc), .val (.int 0), .val (.int 2), .val (.ref v1), .val (.int 0)] [(.int 0), (.ref tc), (.int 0), (.ref v1)]))
  have f6 : Arv Z T3.heap tc kc .char (2 : Int32) [(.int cc0), (.int cc1)] (.int 0) := (pf0.keep K3 nin0)
  obtain ⟨c7, a7, q7, S7, M7, H7, G7⟩ := id f6
  refine Gl.st (fun _ kq => X3.caload hx (j := (0 : Int32)) (v := (.int cc0)) a7.1 (State.isArrayOf_alike hZ.alike a7.2.1) a7.2.2 (inb_of S7 ⟨by decide, by decide⟩) (Has.at H7 (inb_of S7 ⟨by decide, by decide⟩) rfl) (g := (mkF m 19 #[.val (.ref tc), .val (.int 0), .val (.int 2), .val (.ref v1), .val (.int 0)] [(.int 0), (.ref tc), (.int 0), (.ref v1)])) rfl rfl (hb hby d16_19) _ kq) ?_
  show Gl p.tables e below _ (T3.setTop (mkF m 20 #[.val (.ref tc), .val (.int 0), .val (.int 2), .val (.ref v1), .val (.int 0)] [(.int cc0), (.int 0), (.ref v1)]))
  have f8 : Old Z n0 T3.heap := (pf1.keep K3 all0)
  obtain ⟨_, _, ⟨T9, L9, k9, n9⟩, -, X9, ⟨Lc9, hQ9, l9, y9, z9⟩, st9⟩ := Jvm.LawKit.callS X3 hx (y := (⟨"java/lang/StringUTF16", "putChar", "([BII)V"⟩ : MethodName)) hown (mvT hZ (tw hw 85 rfl)) (mvT hZ (tw hw 86 rfl)) (mvT hZ (tw hw 41 rfl)) (mvT hZ (tw hw 87 rfl)) (by decide) (backOf (W := 0) (rm_pcc20 l Z a0 hw [] (v1) (v2) ((0 : Int32)) ((0 : Int32)) ((0 : Int32)) ((0 : Int32)) (cc0) T3.heap n0 (Nat.le_trans Z0 K3.1) q3_0 f8 g4 OA OH OL) hZ (tw hw 87 rfl) (tw hw 41 rfl) (by decide) (by decide)) (g := (mkF m 20 #[.val (.ref tc), .val (.int 0), .val (.int 2), .val (.ref v1), .val (.int 0)] [(.int cc0), (.int 0), (.ref v1)])) rfl (by rw [hml]; rfl) (argsL := [(.ref v1), (.int 0), (.int cc0)]) (rest := []) (lenOf pd___BII_V rfl) rfl (by show 2 * 0 + _ ≤ _; exact Nat.le_of_eq rfl) (hb hby d16_20) (fun _ _ => ⟨rfl, rfl, (by decide : 1 + 0 ≤ _), (by decide : 4 + 0 ≤ _)⟩)
  dsimp only [Pt.U, Pt.locs, Pt.cells, Pt.slots] at X9 l9 y9 z9 st9 hQ9
  subst l9 y9 z9
  obtain ⟨rfl, N9, K9, q9_0⟩ := hQ9
  have M9 := Fr.app M3 N9
  refine Gl.st st9 ?_
  show Gl p.tables e below _ (T9.setTop (mkF m 23 #[.val (.ref tc), .val (.int 0), .val (.int 2), .val (.ref v1), .val (.int 0)] []))
  show Gl p.tables e below _ (T9.setTop (mkF m 23 #[.val (.ref tc), .val (.int 0), .val (.int 2), .val (.ref v1), .val (.int 0)] []))
  refine Gl.st (fun _ kq => XS.iinc X9.here hx rfl (hb hby d16_23) rfl (l' := #[.val (.ref tc), .val (.int 1), .val (.int 2), .val (.ref v1), .val (.int 0)]) rfl kq) ?_
  refine Gl.st (fun _ kq => XS.iinc X9.here hx rfl (hb hby d16_26) rfl (l' := #[.val (.ref tc), .val (.int 1), .val (.int 2), .val (.ref v1), .val (.int 1)]) rfl kq) ?_
  refine Gl.st (fun _ kq => XS.goto X9.here hx rfl (pc0 := 29) (pc' := 8) rfl (hb hby d16_29) (by decide) (by decide) kq) ?_
  refine Gl.st (fun _ kq => XS.iload X9.here hx rfl (hb hby d16_8) rfl kq) ?_
  refine Gl.st (fun _ kq => XS.iloadN X9.here hx rfl (hb hby d16_10) rfl kq) ?_
  show Gl p.tables e below _ (T9.setTop (mkF m 11 #[.val (.ref tc), .val (.int 1), .val (.int 2), .val (.ref v1), .val (.int 1)] [(.int 2), (.int 1)]))
  refine Gl.st (fun _ kq => XS.icmpNo X9.here hx rfl (hb hby d16_11) rfl (tlt ((by decide) : (1 : Int32) < (2 : Int32))).2.1 kq) ?_
  show Gl p.tables e below _ (T9.setTop (mkF m 14 #[.val (.ref tc), .val (.int 1), .val (.int 2), .val (.ref v1), .val (.int 1)] []))
  refine Gl.st (fun _ kq => XS.aloadN X9.here hx rfl (hb hby d16_14) rfl rfl kq) ?_
  refine Gl.st (fun _ kq => XS.iload X9.here hx rfl (hb hby d16_15) rfl kq) ?_
  refine Gl.st (fun _ kq => XS.aloadN X9.here hx rfl (hb hby d16_17) rfl rfl kq) ?_
  refine Gl.st (fun _ kq => XS.iloadN X9.here hx rfl (hb hby d16_18) rfl kq) ?_
  show Gl p.tables e below _ (T9.setTop (mkF m 19 #[.val (.ref tc), .val (.int 1), .val (.int 2), .val (.ref v1), .val (.int 1)] [(.int 1), (.ref tc), (.int 1), (.ref v1)]))
  have ne10 : tc ≠ v1 := Nat.ne_of_lt (Nat.lt_of_lt_of_le pf0.lt y3_0)
  have f11 : Arv Z T9.heap tc kc .char (2 : Int32) [(.int cc0), (.int cc1)] (.int 0) := (f6.keep K9 (ninS ne10 nin0))
  obtain ⟨c12, a12, q12, S12, M12, H12, G12⟩ := id f11
  refine Gl.st (fun _ kq => X9.caload hx (j := (1 : Int32)) (v := (.int cc1)) a12.1 (State.isArrayOf_alike hZ.alike a12.2.1) a12.2.2 (inb_of S12 ⟨by decide, by decide⟩) (Has.at H12 (inb_of S12 ⟨by decide, by decide⟩) rfl) (g := (mkF m 19 #[.val (.ref tc), .val (.int 1), .val (.int 2), .val (.ref v1), .val (.int 1)] [(.int 1), (.ref tc), (.int 1), (.ref v1)])) rfl rfl (hb hby d16_19) _ kq) ?_
  show Gl p.tables e below _ (T9.setTop (mkF m 20 #[.val (.ref tc), .val (.int 1), .val (.int 2), .val (.ref v1), .val (.int 1)] [(.int cc1), (.int 1), (.ref v1)]))
  have f13 : Old Z n0 T9.heap := (f8.keep K9 (allS g4 all0))
  obtain ⟨_, _, ⟨T14, L14, k14, n14⟩, -, X14, ⟨Lc14, hQ14, l14, y14, z14⟩, st14⟩ := Jvm.LawKit.callS X9 hx (y := (⟨"java/lang/StringUTF16", "putChar", "([BII)V"⟩ : MethodName)) hown (mvT hZ (tw hw 85 rfl)) (mvT hZ (tw hw 86 rfl)) (mvT hZ (tw hw 41 rfl)) (mvT hZ (tw hw 87 rfl)) (by decide) (backOf (W := 0) (rm_pcc21 l Z a0 hw [] (v1) (v2) ((own_b0 cc0)) ((own_b1 cc0)) ((0 : Int32)) ((0 : Int32)) (cc1) T9.heap n0 (Nat.le_trans (Nat.le_trans Z0 K3.1) K9.1) q9_0 f13 g4 OA OH OL) hZ (tw hw 87 rfl) (tw hw 41 rfl) (by decide) (by decide)) (g := (mkF m 20 #[.val (.ref tc), .val (.int 1), .val (.int 2), .val (.ref v1), .val (.int 1)] [(.int cc1), (.int 1), (.ref v1)])) rfl (by rw [hml]; rfl) (argsL := [(.ref v1), (.int 1), (.int cc1)]) (rest := []) (lenOf pd___BII_V rfl) rfl (by show 2 * 0 + _ ≤ _; exact Nat.le_of_eq rfl) (hb hby d16_20) (fun _ _ => ⟨rfl, rfl, (by decide : 1 + 0 ≤ _), (by decide : 4 + 0 ≤ _)⟩)
  dsimp only [Pt.U, Pt.locs, Pt.cells, Pt.slots] at X14 l14 y14 z14 st14 hQ14
  subst l14 y14 z14
  obtain ⟨rfl, N14, K14, q14_0⟩ := hQ14
  have M14 := Fr.app M9 N14
  refine Gl.st st14 ?_
  show Gl p.tables e below _ (T14.setTop (mkF m 23 #[.val (.ref tc), .val (.int 1), .val (.int 2), .val (.ref v1), .val (.int 1)] []))
  show Gl p.tables e below _ (T14.setTop (mkF m 23 #[.val (.ref tc), .val (.int 1), .val (.int 2), .val (.ref v1), .val (.int 1)] []))
  refine Gl.st (fun _ kq => XS.iinc X14.here hx rfl (hb hby d16_23) rfl (l' := #[.val (.ref tc), .val (.int 2), .val (.int 2), .val (.ref v1), .val (.int 1)]) rfl kq) ?_
  refine Gl.st (fun _ kq => XS.iinc X14.here hx rfl (hb hby d16_26) rfl (l' := #[.val (.ref tc), .val (.int 2), .val (.int 2), .val (.ref v1), .val (.int 2)]) rfl kq) ?_
  refine Gl.st (fun _ kq => XS.goto X14.here hx rfl (pc0 := 29) (pc' := 8) rfl (hb hby d16_29) (by decide) (by decide) kq) ?_
  refine Gl.st (fun _ kq => XS.iload X14.here hx rfl (hb hby d16_8) rfl kq) ?_
  refine Gl.st (fun _ kq => XS.iloadN X14.here hx rfl (hb hby d16_10) rfl kq) ?_
  show Gl p.tables e below _ (T14.setTop (mkF m 11 #[.val (.ref tc), .val (.int 2), .val (.int 2), .val (.ref v1), .val (.int 2)] [(.int 2), (.int 2)]))
  refine Gl.st (fun _ kq => XS.icmpYes X14.here hx rfl (pc0 := 11) (pc' := 32) rfl (hb hby d16_11) rfl (flt ((by decide) : ¬ ((2 : Int32) < (2 : Int32)))).2.1 (by decide) (by decide) kq) ?_
  show Gl p.tables e below _ (T14.setTop (mkF m 32 #[.val (.ref tc), .val (.int 2), .val (.int 2), .val (.ref v1), .val (.int 2)] []))
  refine Gl.st (fun _ kq => XS.aloadN X14.here hx rfl (hb hby d16_32) rfl rfl kq) ?_
  have K15 : Keep h0 T14.heap [] := ((((Keep.refl h0 []).trans K3 all0).trans K9 (allS (Or.inr s5) all0)).trans K14 (allS (Or.inr s5) all0))
  exact Gl.retA X14 hx Bd.returns rfl rfl (hb hby d16_33) hlk (by decide) (by decide) ⟨v1, v2, rfl, M14, K15, q14_0, s5⟩
theorem d8_26 : decode jdk_52_method_21_code 26 = .ok (.aload_n 2, 1) := by decide +kernel
theorem d8_27 : decode jdk_52_method_21_code 27 = .ok (.iload_n 3, 1) := by decide +kernel
theorem d8_28 : decode jdk_52_method_21_code 28 = .ok (.iload 6, 2) := by decide +kernel
theorem d8_30 : decode jdk_52_method_21_code 30 = .ok (.i2b, 1) := by decide +kernel
theorem d8_31 : decode jdk_52_method_21_code 31 = .ok (.bastore, 1) := by decide +kernel
theorem d8_32 : decode jdk_52_method_21_code 32 = .ok (.iinc 1 1, 3) := by decide +kernel
theorem d8_35 : decode jdk_52_method_21_code 35 = .ok (.iinc 3 1, 3) := by decide +kernel
theorem d8_38 : decode jdk_52_method_21_code 38 = .ok (.iinc 5 1, 3) := by decide +kernel
theorem d8_41 : decode jdk_52_method_21_code 41 = .ok (.goto (-38), 3) := by decide +kernel
theorem ef_c5_2 (m : MethodId) (tc : Addr) (tb : Addr) : entryFrame m #[(.ref tc), (.int 0), (.ref tb), (.int 0), (.int 2)] 7 = mkF m 0 #[.val (.ref tc), .val (.int 0), .val (.ref tb), .val (.int 0), .val (.int 2), .unset, .unset] [] := by first | (simp [entryFrame, mkF, argsToLocals, Value.category]; done) | rfl
def Q_c5_2 (Z : State) (tc : Addr) (kc : ClassId) (tb : Addr) (kb : ClassId) (cc0 : Int32) (cc1 : Int32) (h0 : Heap) (n0 : Nat) (v : Option Value) (h : Heap) (L : List Loc) : Prop := (v = some (.int 0) ∧ Fr n0 L ∧ Keep h0 h [tb] ∧ ((255 : Int32) < cc0)) ∨ (v = some (.int 1) ∧ Fr n0 L ∧ Keep h0 h [tb] ∧ ((255 : Int32) < cc1))
set_option maxRecDepth 65536 in
set_option maxHeartbeats 40000000 in
theorem rm_c5_2 (l : Launch) (Z : State) (a0 : Array Value) (hw : ∀ d ∈ tables_1, d.before a0 Z = true) (ws : List Jvm.Cond) (tc : Addr) (kc : ClassId) (tb : Addr) (kb : ClassId) (cc0 : Int32) (cc1 : Int32) (h0 : Heap) (n0 : Nat) (Z0 : n0 ≤ h0.size) (pf0 : Arv Z h0 tc kc .char (2 : Int32) [(.int cc0), (.int cc1)] (.int 0)) (pf1 : Arv Z h0 tb kb .byte (2 : Int32) [(.int 0), (.int 0)] (.int 0)) (gtb : n0 ≤ tb) (nct : tc ≠ tb) (hU : (255 : Int32) < cc0 ∨ (255 : Int32) < cc1) :
    MetFree l (⟨"java/lang/StringUTF16", "compress", "([CI[BII)I"⟩ : MethodName) (head1 (Jvm.Cond.code (⟨"java/lang/StringUTF16", "compress", "([CI[BII)I"⟩ : MethodName) jdk_52_method_21_code 7 (some .int) :: ws) ({ frames := 0, cells := 0, slots := 0, locals := 0 } : Room)) (fun aa U => aa = #[(.ref tc), (.int 0), (.ref tb), (.int 0), (.int 2)] ∧ Z.Warmed39 U.vm ∧ U.heap = h0) (fun _ _ _ _ _ => True) (fun _ U o U' => ∃ v L, o = .returned v ∧ Q_c5_2 Z tc kc tb kb cc0 cc1 h0 n0 v U'.heap L ∧ FrameEnd U o U' L ({ frames := 0, cells := 0, slots := 0, locals := 0 } : Room).cells ({ frames := 0, cells := 0, slots := 0, locals := 0 } : Room).slots) := by
  refine MetFree.of_bodySF (plainFor_of_name pn_java_lang_StringUTF16) hisR ?_
  intro p e s m args below meth c s₁ Bd hml0 hP hK
  obtain ⟨rfl, hZ, hh⟩ := hP
  have hx := Bd.exec
  have hby := Bd.bytes
  have hlk : meth.locks = false := BodyLoose.notSynchronized Bd
  have hml : c.maxLocals = 7 := hml0
  have hown : s.vm.findClass "java/lang/StringUTF16" = some m.cls := findClass_of_methodNamed Bd.named
  have hnm := (name_of_methodNamed Bd.named Bd.method).1
  have X0 : Stand p l e ({ frames := 0, cells := 0, slots := 0, locals := 0 } : Room) s m #[(.ref tc), (.int 0), (.ref tb), (.int 0), (.int 2)] below meth c s₁ [] 0 0 := Stand.of_body Bd
  have e0 : s₁.heap = h0 := by rw [← hh, Bd.state]; rfl
  have N0 := Fr.nil n0
  show Gl p.tables e below (EndN s (Q_c5_2 Z tc kc tb kb cc0 cc1 h0 n0) ({ frames := 0, cells := 0, slots := 0, locals := 0 } : Room).cells ({ frames := 0, cells := 0, slots := 0, locals := 0 } : Room).slots) _
  refine Gl.cast (ef_c5_2 m tc tb) ?_
  show Gl p.tables e below _ (s₁.setTop (mkF m 0 #[.val (.ref tc), .val (.int 0), .val (.ref tb), .val (.int 0), .val (.int 2), .unset, .unset] []))
  refine Gl.st (fun _ kq => XS.iconst X0.here hx rfl (hb hby d8_0) kq) ?_
  refine Gl.st (fun _ kq => XS.istore X0.here hx rfl (hb hby d8_1) rfl (l' := #[.val (.ref tc), .val (.int 0), .val (.ref tb), .val (.int 0), .val (.int 2), .val (.int 0), .unset]) rfl kq) ?_
  refine Gl.st (fun _ kq => XS.iload X0.here hx rfl (hb hby d8_3) rfl kq) ?_
  refine Gl.st (fun _ kq => XS.iload X0.here hx rfl (hb hby d8_5) rfl kq) ?_
  show Gl p.tables e below _ (s₁.setTop (mkF m 7 #[.val (.ref tc), .val (.int 0), .val (.ref tb), .val (.int 0), .val (.int 2), .val (.int 0), .unset] [(.int 2), (.int 0)]))
  refine Gl.st (fun _ kq => XS.icmpNo X0.here hx rfl (hb hby d8_7) rfl (tlt ((by decide) : (0 : Int32) < (2 : Int32))).2.1 kq) ?_
  show Gl p.tables e below _ (s₁.setTop (mkF m 10 #[.val (.ref tc), .val (.int 0), .val (.ref tb), .val (.int 0), .val (.int 2), .val (.int 0), .unset] []))
  refine Gl.st (fun _ kq => XS.aloadN X0.here hx rfl (hb hby d8_10) rfl rfl kq) ?_
  refine Gl.st (fun _ kq => XS.iloadN X0.here hx rfl (hb hby d8_11) rfl kq) ?_
  show Gl p.tables e below _ (s₁.setTop (mkF m 12 #[.val (.ref tc), .val (.int 0), .val (.ref tb), .val (.int 0), .val (.int 2), .val (.int 0), .unset] [(.int 0), (.ref tc)]))
  obtain ⟨c1, a1, q1, S1, M1, H1, G1⟩ := id pf0
  refine Gl.st (fun _ kq => X0.caload hx (j := (0 : Int32)) (v := (.int cc0)) (by rw [e0]; exact a1.1) (State.isArrayOf_alike hZ.alike a1.2.1) a1.2.2 (inb_of S1 ⟨by decide, by decide⟩) (Has.at H1 (inb_of S1 ⟨by decide, by decide⟩) rfl) (g := (mkF m 12 #[.val (.ref tc), .val (.int 0), .val (.ref tb), .val (.int 0), .val (.int 2), .val (.int 0), .unset] [(.int 0), (.ref tc)])) rfl rfl (hb hby d8_12) _ kq) ?_
  show Gl p.tables e below _ (s₁.setTop (mkF m 13 #[.val (.ref tc), .val (.int 0), .val (.ref tb), .val (.int 0), .val (.int 2), .val (.int 0), .unset] [(.int cc0)]))
  refine Gl.st (fun _ kq => XS.istore X0.here hx rfl (hb hby d8_13) rfl (l' := #[.val (.ref tc), .val (.int 0), .val (.ref tb), .val (.int 0), .val (.int 2), .val (.int 0), .val (.int cc0)]) rfl kq) ?_
  refine Gl.st (fun _ kq => XS.iload X0.here hx rfl (hb hby d8_15) rfl kq) ?_
  refine Gl.st (fun _ kq => XS.sipush X0.here hx rfl (hb hby d8_17) kq) ?_
  show Gl p.tables e below _ (s₁.setTop (mkF m 20 #[.val (.ref tc), .val (.int 0), .val (.ref tb), .val (.int 0), .val (.int 2), .val (.int 0), .val (.int cc0)] [(.int 255), (.int cc0)]))
  by_cases hc2 : (255 : Int32) < cc0
  · refine Gl.st (fun _ kq => XS.icmpNo X0.here hx rfl (hb hby d8_20) rfl (tlt (hc2 : (255 : Int32) < cc0)).2.2.2 kq) ?_
    show Gl p.tables e below _ (s₁.setTop (mkF m 23 #[.val (.ref tc), .val (.int 0), .val (.ref tb), .val (.int 0), .val (.int 2), .val (.int 0), .val (.int cc0)] []))
    refine Gl.st (fun _ kq => XS.iload X0.here hx rfl (hb hby d8_23) rfl kq) ?_
    exact Gl.retI X0 hx Bd.returns (hb hby d8_25) hlk (by decide) (by decide) (by rw [e0]; exact (Or.inl ⟨rfl, N0, (Keep.refl h0 [tb]), hc2⟩))
  · refine Gl.st (fun _ kq => XS.icmpYes X0.here hx rfl (pc0 := 20) (pc' := 26) rfl (hb hby d8_20) rfl (flt (hc2 : ¬ ((255 : Int32) < cc0))).2.2.2 (by decide) (by decide) kq) ?_
    show Gl p.tables e below _ (s₁.setTop (mkF m 26 #[.val (.ref tc), .val (.int 0), .val (.ref tb), .val (.int 0), .val (.int 2), .val (.int 0), .val (.int cc0)] []))
    refine Gl.st (fun _ kq => XS.aloadN X0.here hx rfl (hb hby d8_26) rfl rfl kq) ?_
    refine Gl.st (fun _ kq => XS.iloadN X0.here hx rfl (hb hby d8_27) rfl kq) ?_
    refine Gl.st (fun _ kq => XS.iload X0.here hx rfl (hb hby d8_28) rfl kq) ?_
    refine Gl.st (fun _ kq => XS.i2b X0.here hx rfl (hb hby d8_30) rfl kq) ?_
    show Gl p.tables e below _ (s₁.setTop (mkF m 31 #[.val (.ref tc), .val (.int 0), .val (.ref tb), .val (.int 0), .val (.int 2), .val (.int 0), .val (.int cc0)] [(.int (cc0.toInt8.toInt32)), (.int 0), (.ref tb)]))
    obtain ⟨c3, a3, q3, S3, M3, H3, G3⟩ := id pf1
    obtain ⟨T3, h3, X3, e3, W3, st3⟩ := stB X0 hx hZ e0 a3 (j := (0 : Int32)) (inb_of S3 ⟨by decide, by decide⟩) (g := (mkF m 31 #[.val (.ref tc), .val (.int 0), .val (.ref tb), .val (.int 0), .val (.int 2), .val (.int 0), .val (.int cc0)] [(.int (cc0.toInt8.toInt32)), (.int 0), (.ref tb)])) rfl rfl (hb hby d8_31)
    refine Gl.st st3 ?_
    have V3 : Arv Z h3 tb kb .byte (2 : Int32) [(.int (nar .byte (cc0.toInt8.toInt32))), (.int 0)] (.int 0) := Arv.set a3 q3 S3 M3 H3 G3 (fits_nar_byte _) W3 0 rfl (Nat.le_of_ble_eq_true rfl)
    have N3 := Fr.snoc X3 N0 gtb
    show Gl p.tables e below _ (T3.setTop (mkF m 32 #[.val (.ref tc), .val (.int 0), .val (.ref tb), .val (.int 0), .val (.int 2), .val (.int 0), .val (.int cc0)] []))
    refine Gl.st (fun _ kq => XS.iinc X3.here hx rfl (hb hby d8_32) rfl (l' := #[.val (.ref tc), .val (.int 1), .val (.ref tb), .val (.int 0), .val (.int 2), .val (.int 0), .val (.int cc0)]) rfl kq) ?_
    refine Gl.st (fun _ kq => XS.iinc X3.here hx rfl (hb hby d8_35) rfl (l' := #[.val (.ref tc), .val (.int 1), .val (.ref tb), .val (.int 1), .val (.int 2), .val (.int 0), .val (.int cc0)]) rfl kq) ?_
    refine Gl.st (fun _ kq => XS.iinc X3.here hx rfl (hb hby d8_38) rfl (l' := #[.val (.ref tc), .val (.int 1), .val (.ref tb), .val (.int 1), .val (.int 2), .val (.int 1), .val (.int cc0)]) rfl kq) ?_
    refine Gl.st (fun _ kq => XS.goto X3.here hx rfl (pc0 := 41) (pc' := 3) rfl (hb hby d8_41) (by decide) (by decide) kq) ?_
    refine Gl.st (fun _ kq => XS.iload X3.here hx rfl (hb hby d8_3) rfl kq) ?_
    refine Gl.st (fun _ kq => XS.iload X3.here hx rfl (hb hby d8_5) rfl kq) ?_
    show Gl p.tables e below _ (T3.setTop (mkF m 7 #[.val (.ref tc), .val (.int 1), .val (.ref tb), .val (.int 1), .val (.int 2), .val (.int 1), .val (.int cc0)] [(.int 2), (.int 1)]))
    refine Gl.st (fun _ kq => XS.icmpNo X3.here hx rfl (hb hby d8_7) rfl (tlt ((by decide) : (1 : Int32) < (2 : Int32))).2.1 kq) ?_
    show Gl p.tables e below _ (T3.setTop (mkF m 10 #[.val (.ref tc), .val (.int 1), .val (.ref tb), .val (.int 1), .val (.int 2), .val (.int 1), .val (.int cc0)] []))
    refine Gl.st (fun _ kq => XS.aloadN X3.here hx rfl (hb hby d8_10) rfl rfl kq) ?_
    refine Gl.st (fun _ kq => XS.iloadN X3.here hx rfl (hb hby d8_11) rfl kq) ?_
    show Gl p.tables e below _ (T3.setTop (mkF m 12 #[.val (.ref tc), .val (.int 1), .val (.ref tb), .val (.int 1), .val (.int 2), .val (.int 1), .val (.int cc0)] [(.int 1), (.ref tc)]))
    have f4 : Arv Z h3 tc kc .char (2 : Int32) [(.int cc0), (.int cc1)] (.int 0) := (pf0.other W3 nct)
    obtain ⟨c5, a5, q5, S5, M5, H5, G5⟩ := id f4
    refine Gl.st (fun _ kq => X3.caload hx (j := (1 : Int32)) (v := (.int cc1)) (by rw [e3]; exact a5.1) (State.isArrayOf_alike hZ.alike a5.2.1) a5.2.2 (inb_of S5 ⟨by decide, by decide⟩) (Has.at H5 (inb_of S5 ⟨by decide, by decide⟩) rfl) (g := (mkF m 12 #[.val (.ref tc), .val (.int 1), .val (.ref tb), .val (.int 1), .val (.int 2), .val (.int 1), .val (.int cc0)] [(.int 1), (.ref tc)])) rfl rfl (hb hby d8_12) _ kq) ?_
    show Gl p.tables e below _ (T3.setTop (mkF m 13 #[.val (.ref tc), .val (.int 1), .val (.ref tb), .val (.int 1), .val (.int 2), .val (.int 1), .val (.int cc0)] [(.int cc1)]))
    refine Gl.st (fun _ kq => XS.istore X3.here hx rfl (hb hby d8_13) rfl (l' := #[.val (.ref tc), .val (.int 1), .val (.ref tb), .val (.int 1), .val (.int 2), .val (.int 1), .val (.int cc1)]) rfl kq) ?_
    refine Gl.st (fun _ kq => XS.iload X3.here hx rfl (hb hby d8_15) rfl kq) ?_
    refine Gl.st (fun _ kq => XS.sipush X3.here hx rfl (hb hby d8_17) kq) ?_
    show Gl p.tables e below _ (T3.setTop (mkF m 20 #[.val (.ref tc), .val (.int 1), .val (.ref tb), .val (.int 1), .val (.int 2), .val (.int 1), .val (.int cc1)] [(.int 255), (.int cc1)]))
    by_cases hc6 : (255 : Int32) < cc1
    · refine Gl.st (fun _ kq => XS.icmpNo X3.here hx rfl (hb hby d8_20) rfl (tlt (hc6 : (255 : Int32) < cc1)).2.2.2 kq) ?_
      show Gl p.tables e below _ (T3.setTop (mkF m 23 #[.val (.ref tc), .val (.int 1), .val (.ref tb), .val (.int 1), .val (.int 2), .val (.int 1), .val (.int cc1)] []))
      refine Gl.st (fun _ kq => XS.iload X3.here hx rfl (hb hby d8_23) rfl kq) ?_
      have K7 : Keep h0 h3 [tb] := ((Keep.refl h0 [tb]).wr W3 (Or.inl (List.mem_of_getElem? (i := 0) rfl)))
      exact Gl.retI X3 hx Bd.returns (hb hby d8_25) hlk (by decide) (by decide) (by rw [e3]; exact (Or.inr (⟨rfl, N3, K7, hc6⟩)))
    · refine Gl.st (fun _ kq => XS.icmpYes X3.here hx rfl (pc0 := 20) (pc' := 26) rfl (hb hby d8_20) rfl (flt (hc6 : ¬ ((255 : Int32) < cc1))).2.2.2 (by decide) (by decide) kq) ?_
      show Gl p.tables e below _ (T3.setTop (mkF m 26 #[.val (.ref tc), .val (.int 1), .val (.ref tb), .val (.int 1), .val (.int 2), .val (.int 1), .val (.int cc1)] []))
      refine Gl.st (fun _ kq => XS.aloadN X3.here hx rfl (hb hby d8_26) rfl rfl kq) ?_
      refine Gl.st (fun _ kq => XS.iloadN X3.here hx rfl (hb hby d8_27) rfl kq) ?_
      refine Gl.st (fun _ kq => XS.iload X3.here hx rfl (hb hby d8_28) rfl kq) ?_
      refine Gl.st (fun _ kq => XS.i2b X3.here hx rfl (hb hby d8_30) rfl kq) ?_
      show Gl p.tables e below _ (T3.setTop (mkF m 31 #[.val (.ref tc), .val (.int 1), .val (.ref tb), .val (.int 1), .val (.int 2), .val (.int 1), .val (.int cc1)] [(.int (cc1.toInt8.toInt32)), (.int 1), (.ref tb)]))
      obtain ⟨c8, a8, q8, S8, M8, H8, G8⟩ := id V3
      obtain ⟨T8, h8, X8, e8, W8, st8⟩ := stB X3 hx hZ e3 a8 (j := (1 : Int32)) (inb_of S8 ⟨by decide, by decide⟩) (g := (mkF m 31 #[.val (.ref tc), .val (.int 1), .val (.ref tb), .val (.int 1), .val (.int 2), .val (.int 1), .val (.int cc1)] [(.int (cc1.toInt8.toInt32)), (.int 1), (.ref tb)])) rfl rfl (hb hby d8_31)
      refine Gl.st st8 ?_
      have V8 : Arv Z h8 tb kb .byte (2 : Int32) [(.int (nar .byte (cc0.toInt8.toInt32))), (.int (nar .byte (cc1.toInt8.toInt32)))] (.int 0) := Arv.set a8 q8 S8 M8 H8 G8 (fits_nar_byte _) W8 1 rfl (Nat.le_of_ble_eq_true rfl)
      have N8 := Fr.snoc X8 N3 gtb
      show Gl p.tables e below _ (T8.setTop (mkF m 32 #[.val (.ref tc), .val (.int 1), .val (.ref tb), .val (.int 1), .val (.int 2), .val (.int 1), .val (.int cc1)] []))
      refine Gl.st (fun _ kq => XS.iinc X8.here hx rfl (hb hby d8_32) rfl (l' := #[.val (.ref tc), .val (.int 2), .val (.ref tb), .val (.int 1), .val (.int 2), .val (.int 1), .val (.int cc1)]) rfl kq) ?_
      refine Gl.st (fun _ kq => XS.iinc X8.here hx rfl (hb hby d8_35) rfl (l' := #[.val (.ref tc), .val (.int 2), .val (.ref tb), .val (.int 2), .val (.int 2), .val (.int 1), .val (.int cc1)]) rfl kq) ?_
      refine Gl.st (fun _ kq => XS.iinc X8.here hx rfl (hb hby d8_38) rfl (l' := #[.val (.ref tc), .val (.int 2), .val (.ref tb), .val (.int 2), .val (.int 2), .val (.int 2), .val (.int cc1)]) rfl kq) ?_
      refine Gl.st (fun _ kq => XS.goto X8.here hx rfl (pc0 := 41) (pc' := 3) rfl (hb hby d8_41) (by decide) (by decide) kq) ?_
      refine Gl.st (fun _ kq => XS.iload X8.here hx rfl (hb hby d8_3) rfl kq) ?_
      refine Gl.st (fun _ kq => XS.iload X8.here hx rfl (hb hby d8_5) rfl kq) ?_
      show Gl p.tables e below _ (T8.setTop (mkF m 7 #[.val (.ref tc), .val (.int 2), .val (.ref tb), .val (.int 2), .val (.int 2), .val (.int 2), .val (.int cc1)] [(.int 2), (.int 2)]))
      refine Gl.st (fun _ kq => XS.icmpYes X8.here hx rfl (pc0 := 7) (pc' := 44) rfl (hb hby d8_7) rfl (flt ((by decide) : ¬ ((2 : Int32) < (2 : Int32)))).2.1 (by decide) (by decide) kq) ?_
      show Gl p.tables e below _ (T8.setTop (mkF m 44 #[.val (.ref tc), .val (.int 2), .val (.ref tb), .val (.int 2), .val (.int 2), .val (.int 2), .val (.int cc1)] []))
      exfalso
      rcases hU with q | q
      · exact absurd q hc2
      · exact absurd q hc6
theorem ef_tb3 (m : MethodId) (tc : Addr) : entryFrame m #[(.ref tc), (.int 0), (.int 3)] 5 = mkF m 0 #[.val (.ref tc), .val (.int 0), .val (.int 3), .unset, .unset] [] := by first | (simp [entryFrame, mkF, argsToLocals, Value.category]; done) | rfl
def Q_tb3 (Z : State) (tc : Addr) (kc : ClassId) (cc0 : Int32) (cc1 : Int32) (cc2 : Int32) (h0 : Heap) (n0 : Nat) (v : Option Value) (h : Heap) (L : List Loc) : Prop := (∃ t : Addr, ∃ k : ClassId, v = some (.ref t) ∧ Fr n0 L ∧ Keep h0 h [] ∧ Arv Z h t k .byte (Int32.ofNat (2 * ([cc0, cc1, cc2] : List Int32).length)) (own_us ([cc0, cc1, cc2] : List Int32)) (.int 0) ∧ (h0.size ≤ t))
set_option maxRecDepth 65536 in
set_option maxHeartbeats 40000000 in
theorem rm_tb3 (l : Launch) (Z : State) (a0 : Array Value) (hw : ∀ d ∈ tables_1, d.before a0 Z = true) (ws : List Jvm.Cond) (tc : Addr) (kc : ClassId) (cc0 : Int32) (cc1 : Int32) (cc2 : Int32) (h0 : Heap) (n0 : Nat) (Z0 : n0 ≤ h0.size) (pf0 : Arv Z h0 tc kc .char (3 : Int32) [(.int cc0), (.int cc1), (.int cc2)] (.int 0)) (pf1 : Old Z n0 h0) (OA : Sta Z Z.heap "java/lang/StringUTF16" "$assertionsDisabled" "Z" (.int 1)) (OH : Sta Z Z.heap "java/lang/StringUTF16" "HI_BYTE_SHIFT" "I" (.int 0)) (OL : Sta Z Z.heap "java/lang/StringUTF16" "LO_BYTE_SHIFT" "I" (.int 8)) :
    MetFree l (⟨"java/lang/StringUTF16", "toBytes", "([CII)[B"⟩ : MethodName) (head1 (Jvm.Cond.code (⟨"java/lang/StringUTF16", "toBytes", "([CII)[B"⟩ : MethodName) jdk_52_method_14_code 5 (some (.array .byte)) :: ws) ({ frames := 2, cells := 1, slots := 6, locals := 24 } : Room)) (fun aa U => aa = #[(.ref tc), (.int 0), (.int 3)] ∧ Z.Warmed39 U.vm ∧ U.heap = h0) (fun _ _ _ _ _ => True) (fun _ U o U' => ∃ v L, o = .returned v ∧ Q_tb3 Z tc kc cc0 cc1 cc2 h0 n0 v U'.heap L ∧ FrameEnd U o U' L ({ frames := 2, cells := 1, slots := 6, locals := 24 } : Room).cells ({ frames := 2, cells := 1, slots := 6, locals := 24 } : Room).slots) := by
  refine MetFree.of_bodySF (plainFor_of_name pn_java_lang_StringUTF16) hisR ?_
  intro p e s m args below meth c s₁ Bd hml0 hP hK
  obtain ⟨rfl, hZ, hh⟩ := hP
  have hx := Bd.exec
  have hby := Bd.bytes
  have hlk : meth.locks = false := BodyLoose.notSynchronized Bd
  have hml : c.maxLocals = 5 := hml0
  have hown : s.vm.findClass "java/lang/StringUTF16" = some m.cls := findClass_of_methodNamed Bd.named
  have hnm := (name_of_methodNamed Bd.named Bd.method).1
  have X0 : Stand p l e ({ frames := 2, cells := 1, slots := 6, locals := 24 } : Room) s m #[(.ref tc), (.int 0), (.int 3)] below meth c s₁ [] 0 0 := Stand.of_body Bd
  have e0 : s₁.heap = h0 := by rw [← hh, Bd.state]; rfl
  have N0 := Fr.nil n0
  show Gl p.tables e below (EndN s (Q_tb3 Z tc kc cc0 cc1 cc2 h0 n0) ({ frames := 2, cells := 1, slots := 6, locals := 24 } : Room).cells ({ frames := 2, cells := 1, slots := 6, locals := 24 } : Room).slots) _
  refine Gl.cast (ef_tb3 m tc) ?_
  show Gl p.tables e below _ (s₁.setTop (mkF m 0 #[.val (.ref tc), .val (.int 0), .val (.int 3), .unset, .unset] []))
  refine Gl.st (fun _ kq => XS.iloadN X0.here hx rfl (hb hby d16_0) rfl kq) ?_
  show Gl p.tables e below _ (s₁.setTop (mkF m 1 #[.val (.ref tc), .val (.int 0), .val (.int 3), .unset, .unset] [(.int 3)]))
  obtain ⟨_, _, ⟨T3, L3, k3, n3⟩, -, X3, ⟨Lc3, hQ3, l3, y3, z3⟩, st3⟩ := Jvm.LawKit.callS X0 hx (y := (⟨"java/lang/StringUTF16", "newBytesFor", "(I)[B"⟩ : MethodName)) hown (mvT hZ (tw hw 78 rfl)) (mvT hZ (tw hw 79 rfl)) (mvT hZ (tw hw 41 rfl)) (mvT hZ (tw hw 80 rfl)) (by decide) (backOf (W := 0) (rm_nbf3 l Z a0 hw []  h0 n0 Z0 ) hZ (tw hw 80 rfl) (tw hw 41 rfl) (by decide) (by decide)) (g := (mkF m 1 #[.val (.ref tc), .val (.int 0), .val (.int 3), .unset, .unset] [(.int 3)])) rfl (by rw [hml]; rfl) (argsL := [(.int 3)]) (rest := []) (lenOf pd__I__B rfl) rfl (by show 2 * 0 + _ ≤ _; exact Nat.le_of_eq rfl) (hb hby d16_1) (fun _ _ => ⟨rfl, e0, (by decide : 0 + 1 ≤ _), (by decide : 0 + 6 ≤ _)⟩)
  dsimp only [Pt.U, Pt.locs, Pt.cells, Pt.slots] at X3 l3 y3 z3 st3 hQ3
  subst l3 y3 z3
  obtain ⟨v1, v2, rfl, N3, K3, q3_0, y3_0⟩ := hQ3
  have M3 := Fr.app N0 N3
  have g4 : n0 ≤ v1 := Nat.le_trans Z0 y3_0
  have s5 : h0.size ≤ v1 := Nat.le_trans (Nat.le_refl _) y3_0
  refine Gl.st st3 ?_
  show Gl p.tables e below _ (T3.setTop (mkF m 4 #[.val (.ref tc), .val (.int 0), .val (.int 3), .unset, .unset] [(.ref v1)]))
  show Gl p.tables e below _ (T3.setTop (mkF m 4 #[.val (.ref tc), .val (.int 0), .val (.int 3), .unset, .unset] [(.ref v1)]))
  refine Gl.st (fun _ kq => XS.astoreN X3.here hx rfl (hb hby d16_4) rfl rfl (l' := #[.val (.ref tc), .val (.int 0), .val (.int 3), .val (.ref v1), .unset]) rfl kq) ?_
  refine Gl.st (fun _ kq => XS.iconst X3.here hx rfl (hb hby d16_5) kq) ?_
  refine Gl.st (fun _ kq => XS.istore X3.here hx rfl (hb hby d16_6) rfl (l' := #[.val (.ref tc), .val (.int 0), .val (.int 3), .val (.ref v1), .val (.int 0)]) rfl kq) ?_
  refine Gl.st (fun _ kq => XS.iload X3.here hx rfl (hb hby d16_8) rfl kq) ?_
  refine Gl.st (fun _ kq => XS.iloadN X3.here hx rfl (hb hby d16_10) rfl kq) ?_
  show Gl p.tables e below _ (T3.setTop (mkF m 11 #[.val (.ref tc), .val (.int 0), .val (.int 3), .val (.ref v1), .val (.int 0)] [(.int 3), (.int 0)]))
  refine Gl.st (fun _ kq => XS.icmpNo X3.here hx rfl (hb hby d16_11) rfl (tlt ((by decide) : (0 : Int32) < (3 : Int32))).2.1 kq) ?_
  show Gl p.tables e below _ (T3.setTop (mkF m 14 #[.val (.ref tc), .val (.int 0), .val (.int 3), .val (.ref v1), .val (.int 0)] []))
  refine Gl.st (fun _ kq => XS.aloadN X3.here hx rfl (hb hby d16_14) rfl rfl kq) ?_
  refine Gl.st (fun _ kq => XS.iload X3.here hx rfl (hb hby d16_15) rfl kq) ?_
  refine Gl.st (fun _ kq => XS.aloadN X3.here hx rfl (hb hby d16_17) rfl rfl kq) ?_
  refine Gl.st (fun _ kq => XS.iloadN X3.here hx rfl (hb hby d16_18) rfl kq) ?_
  show Gl p.tables e below _ (T3.setTop (mkF m 19 #[.val (.ref tc), .val (.int 0), .val (.int 3), .val (.ref v1), .val (.int 0)] [(.int 0), (.ref tc), (.int 0), (.ref v1)]))
  have f6 : Arv Z T3.heap tc kc .char (3 : Int32) [(.int cc0), (.int cc1), (.int cc2)] (.int 0) := (pf0.keep K3 nin0)
  obtain ⟨c7, a7, q7, S7, M7, H7, G7⟩ := id f6
  refine Gl.st (fun _ kq => X3.caload hx (j := (0 : Int32)) (v := (.int cc0)) a7.1 (State.isArrayOf_alike hZ.alike a7.2.1) a7.2.2 (inb_of S7 ⟨by decide, by decide⟩) (Has.at H7 (inb_of S7 ⟨by decide, by decide⟩) rfl) (g := (mkF m 19 #[.val (.ref tc), .val (.int 0), .val (.int 3), .val (.ref v1), .val (.int 0)] [(.int 0), (.ref tc), (.int 0), (.ref v1)])) rfl rfl (hb hby d16_19) _ kq) ?_
  show Gl p.tables e below _ (T3.setTop (mkF m 20 #[.val (.ref tc), .val (.int 0), .val (.int 3), .val (.ref v1), .val (.int 0)] [(.int cc0), (.int 0), (.ref v1)]))
  have f8 : Old Z n0 T3.heap := (pf1.keep K3 all0)
  obtain ⟨_, _, ⟨T9, L9, k9, n9⟩, -, X9, ⟨Lc9, hQ9, l9, y9, z9⟩, st9⟩ := Jvm.LawKit.callS X3 hx (y := (⟨"java/lang/StringUTF16", "putChar", "([BII)V"⟩ : MethodName)) hown (mvT hZ (tw hw 85 rfl)) (mvT hZ (tw hw 86 rfl)) (mvT hZ (tw hw 41 rfl)) (mvT hZ (tw hw 87 rfl)) (by decide) (backOf (W := 0) (rm_pcc30 l Z a0 hw [] (v1) (v2) ((0 : Int32)) ((0 : Int32)) ((0 : Int32)) ((0 : Int32)) ((0 : Int32)) ((0 : Int32)) (cc0) T3.heap n0 (Nat.le_trans Z0 K3.1) q3_0 f8 g4 OA OH OL) hZ (tw hw 87 rfl) (tw hw 41 rfl) (by decide) (by decide)) (g := (mkF m 20 #[.val (.ref tc), .val (.int 0), .val (.int 3), .val (.ref v1), .val (.int 0)] [(.int cc0), (.int 0), (.ref v1)])) rfl (by rw [hml]; rfl) (argsL := [(.ref v1), (.int 0), (.int cc0)]) (rest := []) (lenOf pd___BII_V rfl) rfl (by show 2 * 0 + _ ≤ _; exact Nat.le_of_eq rfl) (hb hby d16_20) (fun _ _ => ⟨rfl, rfl, (by decide : 1 + 0 ≤ _), (by decide : 6 + 0 ≤ _)⟩)
  dsimp only [Pt.U, Pt.locs, Pt.cells, Pt.slots] at X9 l9 y9 z9 st9 hQ9
  subst l9 y9 z9
  obtain ⟨rfl, N9, K9, q9_0⟩ := hQ9
  have M9 := Fr.app M3 N9
  refine Gl.st st9 ?_
  show Gl p.tables e below _ (T9.setTop (mkF m 23 #[.val (.ref tc), .val (.int 0), .val (.int 3), .val (.ref v1), .val (.int 0)] []))
  show Gl p.tables e below _ (T9.setTop (mkF m 23 #[.val (.ref tc), .val (.int 0), .val (.int 3), .val (.ref v1), .val (.int 0)] []))
  refine Gl.st (fun _ kq => XS.iinc X9.here hx rfl (hb hby d16_23) rfl (l' := #[.val (.ref tc), .val (.int 1), .val (.int 3), .val (.ref v1), .val (.int 0)]) rfl kq) ?_
  refine Gl.st (fun _ kq => XS.iinc X9.here hx rfl (hb hby d16_26) rfl (l' := #[.val (.ref tc), .val (.int 1), .val (.int 3), .val (.ref v1), .val (.int 1)]) rfl kq) ?_
  refine Gl.st (fun _ kq => XS.goto X9.here hx rfl (pc0 := 29) (pc' := 8) rfl (hb hby d16_29) (by decide) (by decide) kq) ?_
  refine Gl.st (fun _ kq => XS.iload X9.here hx rfl (hb hby d16_8) rfl kq) ?_
  refine Gl.st (fun _ kq => XS.iloadN X9.here hx rfl (hb hby d16_10) rfl kq) ?_
  show Gl p.tables e below _ (T9.setTop (mkF m 11 #[.val (.ref tc), .val (.int 1), .val (.int 3), .val (.ref v1), .val (.int 1)] [(.int 3), (.int 1)]))
  refine Gl.st (fun _ kq => XS.icmpNo X9.here hx rfl (hb hby d16_11) rfl (tlt ((by decide) : (1 : Int32) < (3 : Int32))).2.1 kq) ?_
  show Gl p.tables e below _ (T9.setTop (mkF m 14 #[.val (.ref tc), .val (.int 1), .val (.int 3), .val (.ref v1), .val (.int 1)] []))
  refine Gl.st (fun _ kq => XS.aloadN X9.here hx rfl (hb hby d16_14) rfl rfl kq) ?_
  refine Gl.st (fun _ kq => XS.iload X9.here hx rfl (hb hby d16_15) rfl kq) ?_
  refine Gl.st (fun _ kq => XS.aloadN X9.here hx rfl (hb hby d16_17) rfl rfl kq) ?_
  refine Gl.st (fun _ kq => XS.iloadN X9.here hx rfl (hb hby d16_18) rfl kq) ?_
  show Gl p.tables e below _ (T9.setTop (mkF m 19 #[.val (.ref tc), .val (.int 1), .val (.int 3), .val (.ref v1), .val (.int 1)] [(.int 1), (.ref tc), (.int 1), (.ref v1)]))
  have ne10 : tc ≠ v1 := Nat.ne_of_lt (Nat.lt_of_lt_of_le pf0.lt y3_0)
  have f11 : Arv Z T9.heap tc kc .char (3 : Int32) [(.int cc0), (.int cc1), (.int cc2)] (.int 0) := (f6.keep K9 (ninS ne10 nin0))
  obtain ⟨c12, a12, q12, S12, M12, H12, G12⟩ := id f11
  refine Gl.st (fun _ kq => X9.caload hx (j := (1 : Int32)) (v := (.int cc1)) a12.1 (State.isArrayOf_alike hZ.alike a12.2.1) a12.2.2 (inb_of S12 ⟨by decide, by decide⟩) (Has.at H12 (inb_of S12 ⟨by decide, by decide⟩) rfl) (g := (mkF m 19 #[.val (.ref tc), .val (.int 1), .val (.int 3), .val (.ref v1), .val (.int 1)] [(.int 1), (.ref tc), (.int 1), (.ref v1)])) rfl rfl (hb hby d16_19) _ kq) ?_
  show Gl p.tables e below _ (T9.setTop (mkF m 20 #[.val (.ref tc), .val (.int 1), .val (.int 3), .val (.ref v1), .val (.int 1)] [(.int cc1), (.int 1), (.ref v1)]))
  have f13 : Old Z n0 T9.heap := (f8.keep K9 (allS g4 all0))
  obtain ⟨_, _, ⟨T14, L14, k14, n14⟩, -, X14, ⟨Lc14, hQ14, l14, y14, z14⟩, st14⟩ := Jvm.LawKit.callS X9 hx (y := (⟨"java/lang/StringUTF16", "putChar", "([BII)V"⟩ : MethodName)) hown (mvT hZ (tw hw 85 rfl)) (mvT hZ (tw hw 86 rfl)) (mvT hZ (tw hw 41 rfl)) (mvT hZ (tw hw 87 rfl)) (by decide) (backOf (W := 0) (rm_pcc31 l Z a0 hw [] (v1) (v2) ((own_b0 cc0)) ((own_b1 cc0)) ((0 : Int32)) ((0 : Int32)) ((0 : Int32)) ((0 : Int32)) (cc1) T9.heap n0 (Nat.le_trans (Nat.le_trans Z0 K3.1) K9.1) q9_0 f13 g4 OA OH OL) hZ (tw hw 87 rfl) (tw hw 41 rfl) (by decide) (by decide)) (g := (mkF m 20 #[.val (.ref tc), .val (.int 1), .val (.int 3), .val (.ref v1), .val (.int 1)] [(.int cc1), (.int 1), (.ref v1)])) rfl (by rw [hml]; rfl) (argsL := [(.ref v1), (.int 1), (.int cc1)]) (rest := []) (lenOf pd___BII_V rfl) rfl (by show 2 * 0 + _ ≤ _; exact Nat.le_of_eq rfl) (hb hby d16_20) (fun _ _ => ⟨rfl, rfl, (by decide : 1 + 0 ≤ _), (by decide : 6 + 0 ≤ _)⟩)
  dsimp only [Pt.U, Pt.locs, Pt.cells, Pt.slots] at X14 l14 y14 z14 st14 hQ14
  subst l14 y14 z14
  obtain ⟨rfl, N14, K14, q14_0⟩ := hQ14
  have M14 := Fr.app M9 N14
  refine Gl.st st14 ?_
  show Gl p.tables e below _ (T14.setTop (mkF m 23 #[.val (.ref tc), .val (.int 1), .val (.int 3), .val (.ref v1), .val (.int 1)] []))
  show Gl p.tables e below _ (T14.setTop (mkF m 23 #[.val (.ref tc), .val (.int 1), .val (.int 3), .val (.ref v1), .val (.int 1)] []))
  refine Gl.st (fun _ kq => XS.iinc X14.here hx rfl (hb hby d16_23) rfl (l' := #[.val (.ref tc), .val (.int 2), .val (.int 3), .val (.ref v1), .val (.int 1)]) rfl kq) ?_
  refine Gl.st (fun _ kq => XS.iinc X14.here hx rfl (hb hby d16_26) rfl (l' := #[.val (.ref tc), .val (.int 2), .val (.int 3), .val (.ref v1), .val (.int 2)]) rfl kq) ?_
  refine Gl.st (fun _ kq => XS.goto X14.here hx rfl (pc0 := 29) (pc' := 8) rfl (hb hby d16_29) (by decide) (by decide) kq) ?_
  refine Gl.st (fun _ kq => XS.iload X14.here hx rfl (hb hby d16_8) rfl kq) ?_
  refine Gl.st (fun _ kq => XS.iloadN X14.here hx rfl (hb hby d16_10) rfl kq) ?_
  show Gl p.tables e below _ (T14.setTop (mkF m 11 #[.val (.ref tc), .val (.int 2), .val (.int 3), .val (.ref v1), .val (.int 2)] [(.int 3), (.int 2)]))
  refine Gl.st (fun _ kq => XS.icmpNo X14.here hx rfl (hb hby d16_11) rfl (tlt ((by decide) : (2 : Int32) < (3 : Int32))).2.1 kq) ?_
  show Gl p.tables e below _ (T14.setTop (mkF m 14 #[.val (.ref tc), .val (.int 2), .val (.int 3), .val (.ref v1), .val (.int 2)] []))
  refine Gl.st (fun _ kq => XS.aloadN X14.here hx rfl (hb hby d16_14) rfl rfl kq) ?_
  refine Gl.st (fun _ kq => XS.iload X14.here hx rfl (hb hby d16_15) rfl kq) ?_
  refine Gl.st (fun _ kq => XS.aloadN X14.here hx rfl (hb hby d16_17) rfl rfl kq) ?_
  refine Gl.st (fun _ kq => XS.iloadN X14.here hx rfl (hb hby d16_18) rfl kq) ?_
  show Gl p.tables e below _ (T14.setTop (mkF m 19 #[.val (.ref tc), .val (.int 2), .val (.int 3), .val (.ref v1), .val (.int 2)] [(.int 2), (.ref tc), (.int 2), (.ref v1)]))
  have f15 : Arv Z T14.heap tc kc .char (3 : Int32) [(.int cc0), (.int cc1), (.int cc2)] (.int 0) := (f11.keep K14 (ninS ne10 nin0))
  obtain ⟨c16, a16, q16, S16, M16, H16, G16⟩ := id f15
  refine Gl.st (fun _ kq => X14.caload hx (j := (2 : Int32)) (v := (.int cc2)) a16.1 (State.isArrayOf_alike hZ.alike a16.2.1) a16.2.2 (inb_of S16 ⟨by decide, by decide⟩) (Has.at H16 (inb_of S16 ⟨by decide, by decide⟩) rfl) (g := (mkF m 19 #[.val (.ref tc), .val (.int 2), .val (.int 3), .val (.ref v1), .val (.int 2)] [(.int 2), (.ref tc), (.int 2), (.ref v1)])) rfl rfl (hb hby d16_19) _ kq) ?_
  show Gl p.tables e below _ (T14.setTop (mkF m 20 #[.val (.ref tc), .val (.int 2), .val (.int 3), .val (.ref v1), .val (.int 2)] [(.int cc2), (.int 2), (.ref v1)]))
  have f17 : Old Z n0 T14.heap := (f13.keep K14 (allS g4 all0))
  obtain ⟨_, _, ⟨T18, L18, k18, n18⟩, -, X18, ⟨Lc18, hQ18, l18, y18, z18⟩, st18⟩ := Jvm.LawKit.callS X14 hx (y := (⟨"java/lang/StringUTF16", "putChar", "([BII)V"⟩ : MethodName)) hown (mvT hZ (tw hw 85 rfl)) (mvT hZ (tw hw 86 rfl)) (mvT hZ (tw hw 41 rfl)) (mvT hZ (tw hw 87 rfl)) (by decide) (backOf (W := 0) (rm_pcc32 l Z a0 hw [] (v1) (v2) ((own_b0 cc0)) ((own_b1 cc0)) ((own_b0 cc1)) ((own_b1 cc1)) ((0 : Int32)) ((0 : Int32)) (cc2) T14.heap n0 (Nat.le_trans (Nat.le_trans (Nat.le_trans Z0 K3.1) K9.1) K14.1) q14_0 f17 g4 OA OH OL) hZ (tw hw 87 rfl) (tw hw 41 rfl) (by decide) (by decide)) (g := (mkF m 20 #[.val (.ref tc), .val (.int 2), .val (.int 3), .val (.ref v1), .val (.int 2)] [(.int cc2), (.int 2), (.ref v1)])) rfl (by rw [hml]; rfl) (argsL := [(.ref v1), (.int 2), (.int cc2)]) (rest := []) (lenOf pd___BII_V rfl) rfl (by show 2 * 0 + _ ≤ _; exact Nat.le_of_eq rfl) (hb hby d16_20) (fun _ _ => ⟨rfl, rfl, (by decide : 1 + 0 ≤ _), (by decide : 6 + 0 ≤ _)⟩)
  dsimp only [Pt.U, Pt.locs, Pt.cells, Pt.slots] at X18 l18 y18 z18 st18 hQ18
  subst l18 y18 z18
  obtain ⟨rfl, N18, K18, q18_0⟩ := hQ18
  have M18 := Fr.app M14 N18
  refine Gl.st st18 ?_
  show Gl p.tables e below _ (T18.setTop (mkF m 23 #[.val (.ref tc), .val (.int 2), .val (.int 3), .val (.ref v1), .val (.int 2)] []))
  show Gl p.tables e below _ (T18.setTop (mkF m 23 #[.val (.ref tc), .val (.int 2), .val (.int 3), .val (.ref v1), .val (.int 2)] []))
  refine Gl.st (fun _ kq => XS.iinc X18.here hx rfl (hb hby d16_23) rfl (l' := #[.val (.ref tc), .val (.int 3), .val (.int 3), .val (.ref v1), .val (.int 2)]) rfl kq) ?_
  refine Gl.st (fun _ kq => XS.iinc X18.here hx rfl (hb hby d16_26) rfl (l' := #[.val (.ref tc), .val (.int 3), .val (.int 3), .val (.ref v1), .val (.int 3)]) rfl kq) ?_
  refine Gl.st (fun _ kq => XS.goto X18.here hx rfl (pc0 := 29) (pc' := 8) rfl (hb hby d16_29) (by decide) (by decide) kq) ?_
  refine Gl.st (fun _ kq => XS.iload X18.here hx rfl (hb hby d16_8) rfl kq) ?_
  refine Gl.st (fun _ kq => XS.iloadN X18.here hx rfl (hb hby d16_10) rfl kq) ?_
  show Gl p.tables e below _ (T18.setTop (mkF m 11 #[.val (.ref tc), .val (.int 3), .val (.int 3), .val (.ref v1), .val (.int 3)] [(.int 3), (.int 3)]))
  refine Gl.st (fun _ kq => XS.icmpYes X18.here hx rfl (pc0 := 11) (pc' := 32) rfl (hb hby d16_11) rfl (flt ((by decide) : ¬ ((3 : Int32) < (3 : Int32)))).2.1 (by decide) (by decide) kq) ?_
  show Gl p.tables e below _ (T18.setTop (mkF m 32 #[.val (.ref tc), .val (.int 3), .val (.int 3), .val (.ref v1), .val (.int 3)] []))
  refine Gl.st (fun _ kq => XS.aloadN X18.here hx rfl (hb hby d16_32) rfl rfl kq) ?_
  have K19 : Keep h0 T18.heap [] := (((((Keep.refl h0 []).trans K3 all0).trans K9 (allS (Or.inr s5) all0)).trans K14 (allS (Or.inr s5) all0)).trans K18 (allS (Or.inr s5) all0))
  exact Gl.retA X18 hx Bd.returns rfl rfl (hb hby d16_33) hlk (by decide) (by decide) ⟨v1, v2, rfl, M18, K19, q18_0, s5⟩
theorem ef_c5_3 (m : MethodId) (tc : Addr) (tb : Addr) : entryFrame m #[(.ref tc), (.int 0), (.ref tb), (.int 0), (.int 3)] 7 = mkF m 0 #[.val (.ref tc), .val (.int 0), .val (.ref tb), .val (.int 0), .val (.int 3), .unset, .unset] [] := by first | (simp [entryFrame, mkF, argsToLocals, Value.category]; done) | rfl
def Q_c5_3 (Z : State) (tc : Addr) (kc : ClassId) (tb : Addr) (kb : ClassId) (cc0 : Int32) (cc1 : Int32) (cc2 : Int32) (h0 : Heap) (n0 : Nat) (v : Option Value) (h : Heap) (L : List Loc) : Prop := (v = some (.int 0) ∧ Fr n0 L ∧ Keep h0 h [tb] ∧ ((255 : Int32) < cc0)) ∨ (v = some (.int 1) ∧ Fr n0 L ∧ Keep h0 h [tb] ∧ ((255 : Int32) < cc1)) ∨ (v = some (.int 2) ∧ Fr n0 L ∧ Keep h0 h [tb] ∧ ((255 : Int32) < cc2))
set_option maxRecDepth 65536 in
set_option maxHeartbeats 40000000 in
theorem rm_c5_3 (l : Launch) (Z : State) (a0 : Array Value) (hw : ∀ d ∈ tables_1, d.before a0 Z = true) (ws : List Jvm.Cond) (tc : Addr) (kc : ClassId) (tb : Addr) (kb : ClassId) (cc0 : Int32) (cc1 : Int32) (cc2 : Int32) (h0 : Heap) (n0 : Nat) (Z0 : n0 ≤ h0.size) (pf0 : Arv Z h0 tc kc .char (3 : Int32) [(.int cc0), (.int cc1), (.int cc2)] (.int 0)) (pf1 : Arv Z h0 tb kb .byte (3 : Int32) [(.int 0), (.int 0), (.int 0)] (.int 0)) (gtb : n0 ≤ tb) (nct : tc ≠ tb) (hU : (255 : Int32) < cc0 ∨ (255 : Int32) < cc1 ∨ (255 : Int32) < cc2) :
    MetFree l (⟨"java/lang/StringUTF16", "compress", "([CI[BII)I"⟩ : MethodName) (head1 (Jvm.Cond.code (⟨"java/lang/StringUTF16", "compress", "([CI[BII)I"⟩ : MethodName) jdk_52_method_21_code 7 (some .int) :: ws) ({ frames := 0, cells := 0, slots := 0, locals := 0 } : Room)) (fun aa U => aa = #[(.ref tc), (.int 0), (.ref tb), (.int 0), (.int 3)] ∧ Z.Warmed39 U.vm ∧ U.heap = h0) (fun _ _ _ _ _ => True) (fun _ U o U' => ∃ v L, o = .returned v ∧ Q_c5_3 Z tc kc tb kb cc0 cc1 cc2 h0 n0 v U'.heap L ∧ FrameEnd U o U' L ({ frames := 0, cells := 0, slots := 0, locals := 0 } : Room).cells ({ frames := 0, cells := 0, slots := 0, locals := 0 } : Room).slots) := by
  refine MetFree.of_bodySF (plainFor_of_name pn_java_lang_StringUTF16) hisR ?_
  intro p e s m args below meth c s₁ Bd hml0 hP hK
  obtain ⟨rfl, hZ, hh⟩ := hP
  have hx := Bd.exec
  have hby := Bd.bytes
  have hlk : meth.locks = false := BodyLoose.notSynchronized Bd
  have hml : c.maxLocals = 7 := hml0
  have hown : s.vm.findClass "java/lang/StringUTF16" = some m.cls := findClass_of_methodNamed Bd.named
  have hnm := (name_of_methodNamed Bd.named Bd.method).1
  have X0 : Stand p l e ({ frames := 0, cells := 0, slots := 0, locals := 0 } : Room) s m #[(.ref tc), (.int 0), (.ref tb), (.int 0), (.int 3)] below meth c s₁ [] 0 0 := Stand.of_body Bd
  have e0 : s₁.heap = h0 := by rw [← hh, Bd.state]; rfl
  have N0 := Fr.nil n0
  show Gl p.tables e below (EndN s (Q_c5_3 Z tc kc tb kb cc0 cc1 cc2 h0 n0) ({ frames := 0, cells := 0, slots := 0, locals := 0 } : Room).cells ({ frames := 0, cells := 0, slots := 0, locals := 0 } : Room).slots) _
  refine Gl.cast (ef_c5_3 m tc tb) ?_
  show Gl p.tables e below _ (s₁.setTop (mkF m 0 #[.val (.ref tc), .val (.int 0), .val (.ref tb), .val (.int 0), .val (.int 3), .unset, .unset] []))
  refine Gl.st (fun _ kq => XS.iconst X0.here hx rfl (hb hby d8_0) kq) ?_
  refine Gl.st (fun _ kq => XS.istore X0.here hx rfl (hb hby d8_1) rfl (l' := #[.val (.ref tc), .val (.int 0), .val (.ref tb), .val (.int 0), .val (.int 3), .val (.int 0), .unset]) rfl kq) ?_
  refine Gl.st (fun _ kq => XS.iload X0.here hx rfl (hb hby d8_3) rfl kq) ?_
  refine Gl.st (fun _ kq => XS.iload X0.here hx rfl (hb hby d8_5) rfl kq) ?_
  show Gl p.tables e below _ (s₁.setTop (mkF m 7 #[.val (.ref tc), .val (.int 0), .val (.ref tb), .val (.int 0), .val (.int 3), .val (.int 0), .unset] [(.int 3), (.int 0)]))
  refine Gl.st (fun _ kq => XS.icmpNo X0.here hx rfl (hb hby d8_7) rfl (tlt ((by decide) : (0 : Int32) < (3 : Int32))).2.1 kq) ?_
  show Gl p.tables e below _ (s₁.setTop (mkF m 10 #[.val (.ref tc), .val (.int 0), .val (.ref tb), .val (.int 0), .val (.int 3), .val (.int 0), .unset] []))
  refine Gl.st (fun _ kq => XS.aloadN X0.here hx rfl (hb hby d8_10) rfl rfl kq) ?_
  refine Gl.st (fun _ kq => XS.iloadN X0.here hx rfl (hb hby d8_11) rfl kq) ?_
  show Gl p.tables e below _ (s₁.setTop (mkF m 12 #[.val (.ref tc), .val (.int 0), .val (.ref tb), .val (.int 0), .val (.int 3), .val (.int 0), .unset] [(.int 0), (.ref tc)]))
  obtain ⟨c1, a1, q1, S1, M1, H1, G1⟩ := id pf0
  refine Gl.st (fun _ kq => X0.caload hx (j := (0 : Int32)) (v := (.int cc0)) (by rw [e0]; exact a1.1) (State.isArrayOf_alike hZ.alike a1.2.1) a1.2.2 (inb_of S1 ⟨by decide, by decide⟩) (Has.at H1 (inb_of S1 ⟨by decide, by decide⟩) rfl) (g := (mkF m 12 #[.val (.ref tc), .val (.int 0), .val (.ref tb), .val (.int 0), .val (.int 3), .val (.int 0), .unset] [(.int 0), (.ref tc)])) rfl rfl (hb hby d8_12) _ kq) ?_
  show Gl p.tables e below _ (s₁.setTop (mkF m 13 #[.val (.ref tc), .val (.int 0), .val (.ref tb), .val (.int 0), .val (.int 3), .val (.int 0), .unset] [(.int cc0)]))
  refine Gl.st (fun _ kq => XS.istore X0.here hx rfl (hb hby d8_13) rfl (l' := #[.val (.ref tc), .val (.int 0), .val (.ref tb), .val (.int 0), .val (.int 3), .val (.int 0), .val (.int cc0)]) rfl kq) ?_
  refine Gl.st (fun _ kq => XS.iload X0.here hx rfl (hb hby d8_15) rfl kq) ?_
  refine Gl.st (fun _ kq => XS.sipush X0.here hx rfl (hb hby d8_17) kq) ?_
  show Gl p.tables e below _ (s₁.setTop (mkF m 20 #[.val (.ref tc), .val (.int 0), .val (.ref tb), .val (.int 0), .val (.int 3), .val (.int 0), .val (.int cc0)] [(.int 255), (.int cc0)]))
  by_cases hc2 : (255 : Int32) < cc0
  · refine Gl.st (fun _ kq => XS.icmpNo X0.here hx rfl (hb hby d8_20) rfl (tlt (hc2 : (255 : Int32) < cc0)).2.2.2 kq) ?_
    show Gl p.tables e below _ (s₁.setTop (mkF m 23 #[.val (.ref tc), .val (.int 0), .val (.ref tb), .val (.int 0), .val (.int 3), .val (.int 0), .val (.int cc0)] []))
    refine Gl.st (fun _ kq => XS.iload X0.here hx rfl (hb hby d8_23) rfl kq) ?_
    exact Gl.retI X0 hx Bd.returns (hb hby d8_25) hlk (by decide) (by decide) (by rw [e0]; exact (Or.inl ⟨rfl, N0, (Keep.refl h0 [tb]), hc2⟩))
  · refine Gl.st (fun _ kq => XS.icmpYes X0.here hx rfl (pc0 := 20) (pc' := 26) rfl (hb hby d8_20) rfl (flt (hc2 : ¬ ((255 : Int32) < cc0))).2.2.2 (by decide) (by decide) kq) ?_
    show Gl p.tables e below _ (s₁.setTop (mkF m 26 #[.val (.ref tc), .val (.int 0), .val (.ref tb), .val (.int 0), .val (.int 3), .val (.int 0), .val (.int cc0)] []))
    refine Gl.st (fun _ kq => XS.aloadN X0.here hx rfl (hb hby d8_26) rfl rfl kq) ?_
    refine Gl.st (fun _ kq => XS.iloadN X0.here hx rfl (hb hby d8_27) rfl kq) ?_
    refine Gl.st (fun _ kq => XS.iload X0.here hx rfl (hb hby d8_28) rfl kq) ?_
    refine Gl.st (fun _ kq => XS.i2b X0.here hx rfl (hb hby d8_30) rfl kq) ?_
    show Gl p.tables e below _ (s₁.setTop (mkF m 31 #[.val (.ref tc), .val (.int 0), .val (.ref tb), .val (.int 0), .val (.int 3), .val (.int 0), .val (.int cc0)] [(.int (cc0.toInt8.toInt32)), (.int 0), (.ref tb)]))
    obtain ⟨c3, a3, q3, S3, M3, H3, G3⟩ := id pf1
    obtain ⟨T3, h3, X3, e3, W3, st3⟩ := stB X0 hx hZ e0 a3 (j := (0 : Int32)) (inb_of S3 ⟨by decide, by decide⟩) (g := (mkF m 31 #[.val (.ref tc), .val (.int 0), .val (.ref tb), .val (.int 0), .val (.int 3), .val (.int 0), .val (.int cc0)] [(.int (cc0.toInt8.toInt32)), (.int 0), (.ref tb)])) rfl rfl (hb hby d8_31)
    refine Gl.st st3 ?_
    have V3 : Arv Z h3 tb kb .byte (3 : Int32) [(.int (nar .byte (cc0.toInt8.toInt32))), (.int 0), (.int 0)] (.int 0) := Arv.set a3 q3 S3 M3 H3 G3 (fits_nar_byte _) W3 0 rfl (Nat.le_of_ble_eq_true rfl)
    have N3 := Fr.snoc X3 N0 gtb
    show Gl p.tables e below _ (T3.setTop (mkF m 32 #[.val (.ref tc), .val (.int 0), .val (.ref tb), .val (.int 0), .val (.int 3), .val (.int 0), .val (.int cc0)] []))
    refine Gl.st (fun _ kq => XS.iinc X3.here hx rfl (hb hby d8_32) rfl (l' := #[.val (.ref tc), .val (.int 1), .val (.ref tb), .val (.int 0), .val (.int 3), .val (.int 0), .val (.int cc0)]) rfl kq) ?_
    refine Gl.st (fun _ kq => XS.iinc X3.here hx rfl (hb hby d8_35) rfl (l' := #[.val (.ref tc), .val (.int 1), .val (.ref tb), .val (.int 1), .val (.int 3), .val (.int 0), .val (.int cc0)]) rfl kq) ?_
    refine Gl.st (fun _ kq => XS.iinc X3.here hx rfl (hb hby d8_38) rfl (l' := #[.val (.ref tc), .val (.int 1), .val (.ref tb), .val (.int 1), .val (.int 3), .val (.int 1), .val (.int cc0)]) rfl kq) ?_
    refine Gl.st (fun _ kq => XS.goto X3.here hx rfl (pc0 := 41) (pc' := 3) rfl (hb hby d8_41) (by decide) (by decide) kq) ?_
    refine Gl.st (fun _ kq => XS.iload X3.here hx rfl (hb hby d8_3) rfl kq) ?_
    refine Gl.st (fun _ kq => XS.iload X3.here hx rfl (hb hby d8_5) rfl kq) ?_
    show Gl p.tables e below _ (T3.setTop (mkF m 7 #[.val (.ref tc), .val (.int 1), .val (.ref tb), .val (.int 1), .val (.int 3), .val (.int 1), .val (.int cc0)] [(.int 3), (.int 1)]))
    refine Gl.st (fun _ kq => XS.icmpNo X3.here hx rfl (hb hby d8_7) rfl (tlt ((by decide) : (1 : Int32) < (3 : Int32))).2.1 kq) ?_
    show Gl p.tables e below _ (T3.setTop (mkF m 10 #[.val (.ref tc), .val (.int 1), .val (.ref tb), .val (.int 1), .val (.int 3), .val (.int 1), .val (.int cc0)] []))
    refine Gl.st (fun _ kq => XS.aloadN X3.here hx rfl (hb hby d8_10) rfl rfl kq) ?_
    refine Gl.st (fun _ kq => XS.iloadN X3.here hx rfl (hb hby d8_11) rfl kq) ?_
    show Gl p.tables e below _ (T3.setTop (mkF m 12 #[.val (.ref tc), .val (.int 1), .val (.ref tb), .val (.int 1), .val (.int 3), .val (.int 1), .val (.int cc0)] [(.int 1), (.ref tc)]))
    have f4 : Arv Z h3 tc kc .char (3 : Int32) [(.int cc0), (.int cc1), (.int cc2)] (.int 0) := (pf0.other W3 nct)
    obtain ⟨c5, a5, q5, S5, M5, H5, G5⟩ := id f4
    refine Gl.st (fun _ kq => X3.caload hx (j := (1 : Int32)) (v := (.int cc1)) (by rw [e3]; exact a5.1) (State.isArrayOf_alike hZ.alike a5.2.1) a5.2.2 (inb_of S5 ⟨by decide, by decide⟩) (Has.at H5 (inb_of S5 ⟨by decide, by decide⟩) rfl) (g := (mkF m 12 #[.val (.ref tc), .val (.int 1), .val (.ref tb), .val (.int 1), .val (.int 3), .val (.int 1), .val (.int cc0)] [(.int 1), (.ref tc)])) rfl rfl (hb hby d8_12) _ kq) ?_
    show Gl p.tables e below _ (T3.setTop (mkF m 13 #[.val (.ref tc), .val (.int 1), .val (.ref tb), .val (.int 1), .val (.int 3), .val (.int 1), .val (.int cc0)] [(.int cc1)]))
    refine Gl.st (fun _ kq => XS.istore X3.here hx rfl (hb hby d8_13) rfl (l' := #[.val (.ref tc), .val (.int 1), .val (.ref tb), .val (.int 1), .val (.int 3), .val (.int 1), .val (.int cc1)]) rfl kq) ?_
    refine Gl.st (fun _ kq => XS.iload X3.here hx rfl (hb hby d8_15) rfl kq) ?_
    refine Gl.st (fun _ kq => XS.sipush X3.here hx rfl (hb hby d8_17) kq) ?_
    show Gl p.tables e below _ (T3.setTop (mkF m 20 #[.val (.ref tc), .val (.int 1), .val (.ref tb), .val (.int 1), .val (.int 3), .val (.int 1), .val (.int cc1)] [(.int 255), (.int cc1)]))
    by_cases hc6 : (255 : Int32) < cc1
    · refine Gl.st (fun _ kq => XS.icmpNo X3.here hx rfl (hb hby d8_20) rfl (tlt (hc6 : (255 : Int32) < cc1)).2.2.2 kq) ?_
      show Gl p.tables e below _ (T3.setTop (mkF m 23 #[.val (.ref tc), .val (.int 1), .val (.ref tb), .val (.int 1), .val (.int 3), .val (.int 1), .val (.int cc1)] []))
      refine Gl.st (fun _ kq => XS.iload X3.here hx rfl (hb hby d8_23) rfl kq) ?_
      have K7 : Keep h0 h3 [tb] := ((Keep.refl h0 [tb]).wr W3 (Or.inl (List.mem_of_getElem? (i := 0) rfl)))
      exact Gl.retI X3 hx Bd.returns (hb hby d8_25) hlk (by decide) (by decide) (by rw [e3]; exact (Or.inr (Or.inl ⟨rfl, N3, K7, hc6⟩)))
    · refine Gl.st (fun _ kq => XS.icmpYes X3.here hx rfl (pc0 := 20) (pc' := 26) rfl (hb hby d8_20) rfl (flt (hc6 : ¬ ((255 : Int32) < cc1))).2.2.2 (by decide) (by decide) kq) ?_
      show Gl p.tables e below _ (T3.setTop (mkF m 26 #[.val (.ref tc), .val (.int 1), .val (.ref tb), .val (.int 1), .val (.int 3), .val (.int 1), .val (.int cc1)] []))
      refine Gl.st (fun _ kq => XS.aloadN X3.here hx rfl (hb hby d8_26) rfl rfl kq) ?_
      refine Gl.st (fun _ kq => XS.iloadN X3.here hx rfl (hb hby d8_27) rfl kq) ?_
      refine Gl.st (fun _ kq => XS.iload X3.here hx rfl (hb hby d8_28) rfl kq) ?_
      refine Gl.st (fun _ kq => XS.i2b X3.here hx rfl (hb hby d8_30) rfl kq) ?_
      show Gl p.tables e below _ (T3.setTop (mkF m 31 #[.val (.ref tc), .val (.int 1), .val (.ref tb), .val (.int 1), .val (.int 3), .val (.int 1), .val (.int cc1)] [(.int (cc1.toInt8.toInt32)), (.int 1), (.ref tb)]))
      obtain ⟨c8, a8, q8, S8, M8, H8, G8⟩ := id V3
      obtain ⟨T8, h8, X8, e8, W8, st8⟩ := stB X3 hx hZ e3 a8 (j := (1 : Int32)) (inb_of S8 ⟨by decide, by decide⟩) (g := (mkF m 31 #[.val (.ref tc), .val (.int 1), .val (.ref tb), .val (.int 1), .val (.int 3), .val (.int 1), .val (.int cc1)] [(.int (cc1.toInt8.toInt32)), (.int 1), (.ref tb)])) rfl rfl (hb hby d8_31)
      refine Gl.st st8 ?_
      have V8 : Arv Z h8 tb kb .byte (3 : Int32) [(.int (nar .byte (cc0.toInt8.toInt32))), (.int (nar .byte (cc1.toInt8.toInt32))), (.int 0)] (.int 0) := Arv.set a8 q8 S8 M8 H8 G8 (fits_nar_byte _) W8 1 rfl (Nat.le_of_ble_eq_true rfl)
      have N8 := Fr.snoc X8 N3 gtb
      show Gl p.tables e below _ (T8.setTop (mkF m 32 #[.val (.ref tc), .val (.int 1), .val (.ref tb), .val (.int 1), .val (.int 3), .val (.int 1), .val (.int cc1)] []))
      refine Gl.st (fun _ kq => XS.iinc X8.here hx rfl (hb hby d8_32) rfl (l' := #[.val (.ref tc), .val (.int 2), .val (.ref tb), .val (.int 1), .val (.int 3), .val (.int 1), .val (.int cc1)]) rfl kq) ?_
      refine Gl.st (fun _ kq => XS.iinc X8.here hx rfl (hb hby d8_35) rfl (l' := #[.val (.ref tc), .val (.int 2), .val (.ref tb), .val (.int 2), .val (.int 3), .val (.int 1), .val (.int cc1)]) rfl kq) ?_
      refine Gl.st (fun _ kq => XS.iinc X8.here hx rfl (hb hby d8_38) rfl (l' := #[.val (.ref tc), .val (.int 2), .val (.ref tb), .val (.int 2), .val (.int 3), .val (.int 2), .val (.int cc1)]) rfl kq) ?_
      refine Gl.st (fun _ kq => XS.goto X8.here hx rfl (pc0 := 41) (pc' := 3) rfl (hb hby d8_41) (by decide) (by decide) kq) ?_
      refine Gl.st (fun _ kq => XS.iload X8.here hx rfl (hb hby d8_3) rfl kq) ?_
      refine Gl.st (fun _ kq => XS.iload X8.here hx rfl (hb hby d8_5) rfl kq) ?_
      show Gl p.tables e below _ (T8.setTop (mkF m 7 #[.val (.ref tc), .val (.int 2), .val (.ref tb), .val (.int 2), .val (.int 3), .val (.int 2), .val (.int cc1)] [(.int 3), (.int 2)]))
      refine Gl.st (fun _ kq => XS.icmpNo X8.here hx rfl (hb hby d8_7) rfl (tlt ((by decide) : (2 : Int32) < (3 : Int32))).2.1 kq) ?_
      show Gl p.tables e below _ (T8.setTop (mkF m 10 #[.val (.ref tc), .val (.int 2), .val (.ref tb), .val (.int 2), .val (.int 3), .val (.int 2), .val (.int cc1)] []))
      refine Gl.st (fun _ kq => XS.aloadN X8.here hx rfl (hb hby d8_10) rfl rfl kq) ?_
      refine Gl.st (fun _ kq => XS.iloadN X8.here hx rfl (hb hby d8_11) rfl kq) ?_
      show Gl p.tables e below _ (T8.setTop (mkF m 12 #[.val (.ref tc), .val (.int 2), .val (.ref tb), .val (.int 2), .val (.int 3), .val (.int 2), .val (.int cc1)] [(.int 2), (.ref tc)]))
      have f9 : Arv Z h8 tc kc .char (3 : Int32) [(.int cc0), (.int cc1), (.int cc2)] (.int 0) := (f4.other W8 nct)
      obtain ⟨c10, a10, q10, S10, M10, H10, G10⟩ := id f9
      refine Gl.st (fun _ kq => X8.caload hx (j := (2 : Int32)) (v := (.int cc2)) (by rw [e8]; exact a10.1) (State.isArrayOf_alike hZ.alike a10.2.1) a10.2.2 (inb_of S10 ⟨by decide, by decide⟩) (Has.at H10 (inb_of S10 ⟨by decide, by decide⟩) rfl) (g := (mkF m 12 #[.val (.ref tc), .val (.int 2), .val (.ref tb), .val (.int 2), .val (.int 3), .val (.int 2), .val (.int cc1)] [(.int 2), (.ref tc)])) rfl rfl (hb hby d8_12) _ kq) ?_
      show Gl p.tables e below _ (T8.setTop (mkF m 13 #[.val (.ref tc), .val (.int 2), .val (.ref tb), .val (.int 2), .val (.int 3), .val (.int 2), .val (.int cc1)] [(.int cc2)]))
      refine Gl.st (fun _ kq => XS.istore X8.here hx rfl (hb hby d8_13) rfl (l' := #[.val (.ref tc), .val (.int 2), .val (.ref tb), .val (.int 2), .val (.int 3), .val (.int 2), .val (.int cc2)]) rfl kq) ?_
      refine Gl.st (fun _ kq => XS.iload X8.here hx rfl (hb hby d8_15) rfl kq) ?_
      refine Gl.st (fun _ kq => XS.sipush X8.here hx rfl (hb hby d8_17) kq) ?_
      show Gl p.tables e below _ (T8.setTop (mkF m 20 #[.val (.ref tc), .val (.int 2), .val (.ref tb), .val (.int 2), .val (.int 3), .val (.int 2), .val (.int cc2)] [(.int 255), (.int cc2)]))
      by_cases hc11 : (255 : Int32) < cc2
      · refine Gl.st (fun _ kq => XS.icmpNo X8.here hx rfl (hb hby d8_20) rfl (tlt (hc11 : (255 : Int32) < cc2)).2.2.2 kq) ?_
        show Gl p.tables e below _ (T8.setTop (mkF m 23 #[.val (.ref tc), .val (.int 2), .val (.ref tb), .val (.int 2), .val (.int 3), .val (.int 2), .val (.int cc2)] []))
        refine Gl.st (fun _ kq => XS.iload X8.here hx rfl (hb hby d8_23) rfl kq) ?_
        have K12 : Keep h0 h8 [tb] := (((Keep.refl h0 [tb]).wr W3 (Or.inl (List.mem_of_getElem? (i := 0) rfl))).wr W8 (Or.inl (List.mem_of_getElem? (i := 0) rfl)))
        exact Gl.retI X8 hx Bd.returns (hb hby d8_25) hlk (by decide) (by decide) (by rw [e8]; exact (Or.inr (Or.inr (⟨rfl, N8, K12, hc11⟩))))
      · refine Gl.st (fun _ kq => XS.icmpYes X8.here hx rfl (pc0 := 20) (pc' := 26) rfl (hb hby d8_20) rfl (flt (hc11 : ¬ ((255 : Int32) < cc2))).2.2.2 (by decide) (by decide) kq) ?_
        show Gl p.tables e below _ (T8.setTop (mkF m 26 #[.val (.ref tc), .val (.int 2), .val (.ref tb), .val (.int 2), .val (.int 3), .val (.int 2), .val (.int cc2)] []))
        refine Gl.st (fun _ kq => XS.aloadN X8.here hx rfl (hb hby d8_26) rfl rfl kq) ?_
        refine Gl.st (fun _ kq => XS.iloadN X8.here hx rfl (hb hby d8_27) rfl kq) ?_
        refine Gl.st (fun _ kq => XS.iload X8.here hx rfl (hb hby d8_28) rfl kq) ?_
        refine Gl.st (fun _ kq => XS.i2b X8.here hx rfl (hb hby d8_30) rfl kq) ?_
        show Gl p.tables e below _ (T8.setTop (mkF m 31 #[.val (.ref tc), .val (.int 2), .val (.ref tb), .val (.int 2), .val (.int 3), .val (.int 2), .val (.int cc2)] [(.int (cc2.toInt8.toInt32)), (.int 2), (.ref tb)]))
        obtain ⟨c13, a13, q13, S13, M13, H13, G13⟩ := id V8
        obtain ⟨T13, h13, X13, e13, W13, st13⟩ := stB X8 hx hZ e8 a13 (j := (2 : Int32)) (inb_of S13 ⟨by decide, by decide⟩) (g := (mkF m 31 #[.val (.ref tc), .val (.int 2), .val (.ref tb), .val (.int 2), .val (.int 3), .val (.int 2), .val (.int cc2)] [(.int (cc2.toInt8.toInt32)), (.int 2), (.ref tb)])) rfl rfl (hb hby d8_31)
        refine Gl.st st13 ?_
        have V13 : Arv Z h13 tb kb .byte (3 : Int32) [(.int (nar .byte (cc0.toInt8.toInt32))), (.int (nar .byte (cc1.toInt8.toInt32))), (.int (nar .byte (cc2.toInt8.toInt32)))] (.int 0) := Arv.set a13 q13 S13 M13 H13 G13 (fits_nar_byte _) W13 2 rfl (Nat.le_of_ble_eq_true rfl)
        have N13 := Fr.snoc X13 N8 gtb
        show Gl p.tables e below _ (T13.setTop (mkF m 32 #[.val (.ref tc), .val (.int 2), .val (.ref tb), .val (.int 2), .val (.int 3), .val (.int 2), .val (.int cc2)] []))
        refine Gl.st (fun _ kq => XS.iinc X13.here hx rfl (hb hby d8_32) rfl (l' := #[.val (.ref tc), .val (.int 3), .val (.ref tb), .val (.int 2), .val (.int 3), .val (.int 2), .val (.int cc2)]) rfl kq) ?_
        refine Gl.st (fun _ kq => XS.iinc X13.here hx rfl (hb hby d8_35) rfl (l' := #[.val (.ref tc), .val (.int 3), .val (.ref tb), .val (.int 3), .val (.int 3), .val (.int 2), .val (.int cc2)]) rfl kq) ?_
        refine Gl.st (fun _ kq => XS.iinc X13.here hx rfl (hb hby d8_38) rfl (l' := #[.val (.ref tc), .val (.int 3), .val (.ref tb), .val (.int 3), .val (.int 3), .val (.int 3), .val (.int cc2)]) rfl kq) ?_
        refine Gl.st (fun _ kq => XS.goto X13.here hx rfl (pc0 := 41) (pc' := 3) rfl (hb hby d8_41) (by decide) (by decide) kq) ?_
        refine Gl.st (fun _ kq => XS.iload X13.here hx rfl (hb hby d8_3) rfl kq) ?_
        refine Gl.st (fun _ kq => XS.iload X13.here hx rfl (hb hby d8_5) rfl kq) ?_
        show Gl p.tables e below _ (T13.setTop (mkF m 7 #[.val (.ref tc), .val (.int 3), .val (.ref tb), .val (.int 3), .val (.int 3), .val (.int 3), .val (.int cc2)] [(.int 3), (.int 3)]))
        refine Gl.st (fun _ kq => XS.icmpYes X13.here hx rfl (pc0 := 7) (pc' := 44) rfl (hb hby d8_7) rfl (flt ((by decide) : ¬ ((3 : Int32) < (3 : Int32)))).2.1 (by decide) (by decide) kq) ?_
        show Gl p.tables e below _ (T13.setTop (mkF m 44 #[.val (.ref tc), .val (.int 3), .val (.ref tb), .val (.int 3), .val (.int 3), .val (.int 3), .val (.int cc2)] []))
        exfalso
        rcases hU with q | q | q
        · exact absurd q hc2
        · exact absurd q hc6
        · exact absurd q hc11
theorem ef_tb4 (m : MethodId) (tc : Addr) : entryFrame m #[(.ref tc), (.int 0), (.int 4)] 5 = mkF m 0 #[.val (.ref tc), .val (.int 0), .val (.int 4), .unset, .unset] [] := by first | (simp [entryFrame, mkF, argsToLocals, Value.category]; done) | rfl
def Q_tb4 (Z : State) (tc : Addr) (kc : ClassId) (cc0 : Int32) (cc1 : Int32) (cc2 : Int32) (cc3 : Int32) (h0 : Heap) (n0 : Nat) (v : Option Value) (h : Heap) (L : List Loc) : Prop := (∃ t : Addr, ∃ k : ClassId, v = some (.ref t) ∧ Fr n0 L ∧ Keep h0 h [] ∧ Arv Z h t k .byte (Int32.ofNat (2 * ([cc0, cc1, cc2, cc3] : List Int32).length)) (own_us ([cc0, cc1, cc2, cc3] : List Int32)) (.int 0) ∧ (h0.size ≤ t))
set_option maxRecDepth 65536 in
set_option maxHeartbeats 40000000 in
theorem rm_tb4 (l : Launch) (Z : State) (a0 : Array Value) (hw : ∀ d ∈ tables_1, d.before a0 Z = true) (ws : List Jvm.Cond) (tc : Addr) (kc : ClassId) (cc0 : Int32) (cc1 : Int32) (cc2 : Int32) (cc3 : Int32) (h0 : Heap) (n0 : Nat) (Z0 : n0 ≤ h0.size) (pf0 : Arv Z h0 tc kc .char (4 : Int32) [(.int cc0), (.int cc1), (.int cc2), (.int cc3)] (.int 0)) (pf1 : Old Z n0 h0) (OA : Sta Z Z.heap "java/lang/StringUTF16" "$assertionsDisabled" "Z" (.int 1)) (OH : Sta Z Z.heap "java/lang/StringUTF16" "HI_BYTE_SHIFT" "I" (.int 0)) (OL : Sta Z Z.heap "java/lang/StringUTF16" "LO_BYTE_SHIFT" "I" (.int 8)) :
    MetFree l (⟨"java/lang/StringUTF16", "toBytes", "([CII)[B"⟩ : MethodName) (head1 (Jvm.Cond.code (⟨"java/lang/StringUTF16", "toBytes", "([CII)[B"⟩ : MethodName) jdk_52_method_14_code 5 (some (.array .byte)) :: ws) ({ frames := 2, cells := 1, slots := 8, locals := 24 } : Room)) (fun aa U => aa = #[(.ref tc), (.int 0), (.int 4)] ∧ Z.Warmed39 U.vm ∧ U.heap = h0) (fun _ _ _ _ _ => True) (fun _ U o U' => ∃ v L, o = .returned v ∧ Q_tb4 Z tc kc cc0 cc1 cc2 cc3 h0 n0 v U'.heap L ∧ FrameEnd U o U' L ({ frames := 2, cells := 1, slots := 8, locals := 24 } : Room).cells ({ frames := 2, cells := 1, slots := 8, locals := 24 } : Room).slots) := by
  refine MetFree.of_bodySF (plainFor_of_name pn_java_lang_StringUTF16) hisR ?_
  intro p e s m args below meth c s₁ Bd hml0 hP hK
  obtain ⟨rfl, hZ, hh⟩ := hP
  have hx := Bd.exec
  have hby := Bd.bytes
  have hlk : meth.locks = false := BodyLoose.notSynchronized Bd
  have hml : c.maxLocals = 5 := hml0
  have hown : s.vm.findClass "java/lang/StringUTF16" = some m.cls := findClass_of_methodNamed Bd.named
  have hnm := (name_of_methodNamed Bd.named Bd.method).1
  have X0 : Stand p l e ({ frames := 2, cells := 1, slots := 8, locals := 24 } : Room) s m #[(.ref tc), (.int 0), (.int 4)] below meth c s₁ [] 0 0 := Stand.of_body Bd
  have e0 : s₁.heap = h0 := by rw [← hh, Bd.state]; rfl
  have N0 := Fr.nil n0
  show Gl p.tables e below (EndN s (Q_tb4 Z tc kc cc0 cc1 cc2 cc3 h0 n0) ({ frames := 2, cells := 1, slots := 8, locals := 24 } : Room).cells ({ frames := 2, cells := 1, slots := 8, locals := 24 } : Room).slots) _
  refine Gl.cast (ef_tb4 m tc) ?_
  show Gl p.tables e below _ (s₁.setTop (mkF m 0 #[.val (.ref tc), .val (.int 0), .val (.int 4), .unset, .unset] []))
  refine Gl.st (fun _ kq => XS.iloadN X0.here hx rfl (hb hby d16_0) rfl kq) ?_
  show Gl p.tables e below _ (s₁.setTop (mkF m 1 #[.val (.ref tc), .val (.int 0), .val (.int 4), .unset, .unset] [(.int 4)]))
  obtain ⟨_, _, ⟨T3, L3, k3, n3⟩, -, X3, ⟨Lc3, hQ3, l3, y3, z3⟩, st3⟩ := Jvm.LawKit.callS X0 hx (y := (⟨"java/lang/StringUTF16", "newBytesFor", "(I)[B"⟩ : MethodName)) hown (mvT hZ (tw hw 78 rfl)) (mvT hZ (tw hw 79 rfl)) (mvT hZ (tw hw 41 rfl)) (mvT hZ (tw hw 80 rfl)) (by decide) (backOf (W := 0) (rm_nbf4 l Z a0 hw []  h0 n0 Z0 ) hZ (tw hw 80 rfl) (tw hw 41 rfl) (by decide) (by decide)) (g := (mkF m 1 #[.val (.ref tc), .val (.int 0), .val (.int 4), .unset, .unset] [(.int 4)])) rfl (by rw [hml]; rfl) (argsL := [(.int 4)]) (rest := []) (lenOf pd__I__B rfl) rfl (by show 2 * 0 + _ ≤ _; exact Nat.le_of_eq rfl) (hb hby d16_1) (fun _ _ => ⟨rfl, e0, (by decide : 0 + 1 ≤ _), (by decide : 0 + 8 ≤ _)⟩)
  dsimp only [Pt.U, Pt.locs, Pt.cells, Pt.slots] at X3 l3 y3 z3 st3 hQ3
  subst l3 y3 z3
  obtain ⟨v1, v2, rfl, N3, K3, q3_0, y3_0⟩ := hQ3
  have M3 := Fr.app N0 N3
  have g4 : n0 ≤ v1 := Nat.le_trans Z0 y3_0
  have s5 : h0.size ≤ v1 := Nat.le_trans (Nat.le_refl _) y3_0
  refine Gl.st st3 ?_
  show Gl p.tables e below _ (T3.setTop (mkF m 4 #[.val (.ref tc), .val (.int 0), .val (.int 4), .unset, .unset] [(.ref v1)]))
  show Gl p.tables e below _ (T3.setTop (mkF m 4 #[.val (.ref tc), .val (.int 0), .val (.int 4), .unset, .unset] [(.ref v1)]))
  refine Gl.st (fun _ kq => XS.astoreN X3.here hx rfl (hb hby d16_4) rfl rfl (l' := #[.val (.ref tc), .val (.int 0), .val (.int 4), .val (.ref v1), .unset]) rfl kq) ?_
  refine Gl.st (fun _ kq => XS.iconst X3.here hx rfl (hb hby d16_5) kq) ?_
  refine Gl.st (fun _ kq => XS.istore X3.here hx rfl (hb hby d16_6) rfl (l' := #[.val (.ref tc), .val (.int 0), .val (.int 4), .val (.ref v1), .val (.int 0)]) rfl kq) ?_
  refine Gl.st (fun _ kq => XS.iload X3.here hx rfl (hb hby d16_8) rfl kq) ?_
  refine Gl.st (fun _ kq => XS.iloadN X3.here hx rfl (hb hby d16_10) rfl kq) ?_
  show Gl p.tables e below _ (T3.setTop (mkF m 11 #[.val (.ref tc), .val (.int 0), .val (.int 4), .val (.ref v1), .val (.int 0)] [(.int 4), (.int 0)]))
  refine Gl.st (fun _ kq => XS.icmpNo X3.here hx rfl (hb hby d16_11) rfl (tlt ((by decide) : (0 : Int32) < (4 : Int32))).2.1 kq) ?_
  show Gl p.tables e below _ (T3.setTop (mkF m 14 #[.val (.ref tc), .val (.int 0), .val (.int 4), .val (.ref v1), .val (.int 0)] []))
  refine Gl.st (fun _ kq => XS.aloadN X3.here hx rfl (hb hby d16_14) rfl rfl kq) ?_
  refine Gl.st (fun _ kq => XS.iload X3.here hx rfl (hb hby d16_15) rfl kq) ?_
  refine Gl.st (fun _ kq => XS.aloadN X3.here hx rfl (hb hby d16_17) rfl rfl kq) ?_
  refine Gl.st (fun _ kq => XS.iloadN X3.here hx rfl (hb hby d16_18) rfl kq) ?_
  show Gl p.tables e below _ (T3.setTop (mkF m 19 #[.val (.ref tc), .val (.int 0), .val (.int 4), .val (.ref v1), .val (.int 0)] [(.int 0), (.ref tc), (.int 0), (.ref v1)]))
  have f6 : Arv Z T3.heap tc kc .char (4 : Int32) [(.int cc0), (.int cc1), (.int cc2), (.int cc3)] (.int 0) := (pf0.keep K3 nin0)
  obtain ⟨c7, a7, q7, S7, M7, H7, G7⟩ := id f6
  refine Gl.st (fun _ kq => X3.caload hx (j := (0 : Int32)) (v := (.int cc0)) a7.1 (State.isArrayOf_alike hZ.alike a7.2.1) a7.2.2 (inb_of S7 ⟨by decide, by decide⟩) (Has.at H7 (inb_of S7 ⟨by decide, by decide⟩) rfl) (g := (mkF m 19 #[.val (.ref tc), .val (.int 0), .val (.int 4), .val (.ref v1), .val (.int 0)] [(.int 0), (.ref tc), (.int 0), (.ref v1)])) rfl rfl (hb hby d16_19) _ kq) ?_
  show Gl p.tables e below _ (T3.setTop (mkF m 20 #[.val (.ref tc), .val (.int 0), .val (.int 4), .val (.ref v1), .val (.int 0)] [(.int cc0), (.int 0), (.ref v1)]))
  have f8 : Old Z n0 T3.heap := (pf1.keep K3 all0)
  obtain ⟨_, _, ⟨T9, L9, k9, n9⟩, -, X9, ⟨Lc9, hQ9, l9, y9, z9⟩, st9⟩ := Jvm.LawKit.callS X3 hx (y := (⟨"java/lang/StringUTF16", "putChar", "([BII)V"⟩ : MethodName)) hown (mvT hZ (tw hw 85 rfl)) (mvT hZ (tw hw 86 rfl)) (mvT hZ (tw hw 41 rfl)) (mvT hZ (tw hw 87 rfl)) (by decide) (backOf (W := 0) (rm_pcc40 l Z a0 hw [] (v1) (v2) ((0 : Int32)) ((0 : Int32)) ((0 : Int32)) ((0 : Int32)) ((0 : Int32)) ((0 : Int32)) ((0 : Int32)) ((0 : Int32)) (cc0) T3.heap n0 (Nat.le_trans Z0 K3.1) q3_0 f8 g4 OA OH OL) hZ (tw hw 87 rfl) (tw hw 41 rfl) (by decide) (by decide)) (g := (mkF m 20 #[.val (.ref tc), .val (.int 0), .val (.int 4), .val (.ref v1), .val (.int 0)] [(.int cc0), (.int 0), (.ref v1)])) rfl (by rw [hml]; rfl) (argsL := [(.ref v1), (.int 0), (.int cc0)]) (rest := []) (lenOf pd___BII_V rfl) rfl (by show 2 * 0 + _ ≤ _; exact Nat.le_of_eq rfl) (hb hby d16_20) (fun _ _ => ⟨rfl, rfl, (by decide : 1 + 0 ≤ _), (by decide : 8 + 0 ≤ _)⟩)
  dsimp only [Pt.U, Pt.locs, Pt.cells, Pt.slots] at X9 l9 y9 z9 st9 hQ9
  subst l9 y9 z9
  obtain ⟨rfl, N9, K9, q9_0⟩ := hQ9
  have M9 := Fr.app M3 N9
  refine Gl.st st9 ?_
  show Gl p.tables e below _ (T9.setTop (mkF m 23 #[.val (.ref tc), .val (.int 0), .val (.int 4), .val (.ref v1), .val (.int 0)] []))
  show Gl p.tables e below _ (T9.setTop (mkF m 23 #[.val (.ref tc), .val (.int 0), .val (.int 4), .val (.ref v1), .val (.int 0)] []))
  refine Gl.st (fun _ kq => XS.iinc X9.here hx rfl (hb hby d16_23) rfl (l' := #[.val (.ref tc), .val (.int 1), .val (.int 4), .val (.ref v1), .val (.int 0)]) rfl kq) ?_
  refine Gl.st (fun _ kq => XS.iinc X9.here hx rfl (hb hby d16_26) rfl (l' := #[.val (.ref tc), .val (.int 1), .val (.int 4), .val (.ref v1), .val (.int 1)]) rfl kq) ?_
  refine Gl.st (fun _ kq => XS.goto X9.here hx rfl (pc0 := 29) (pc' := 8) rfl (hb hby d16_29) (by decide) (by decide) kq) ?_
  refine Gl.st (fun _ kq => XS.iload X9.here hx rfl (hb hby d16_8) rfl kq) ?_
  refine Gl.st (fun _ kq => XS.iloadN X9.here hx rfl (hb hby d16_10) rfl kq) ?_
  show Gl p.tables e below _ (T9.setTop (mkF m 11 #[.val (.ref tc), .val (.int 1), .val (.int 4), .val (.ref v1), .val (.int 1)] [(.int 4), (.int 1)]))
  refine Gl.st (fun _ kq => XS.icmpNo X9.here hx rfl (hb hby d16_11) rfl (tlt ((by decide) : (1 : Int32) < (4 : Int32))).2.1 kq) ?_
  show Gl p.tables e below _ (T9.setTop (mkF m 14 #[.val (.ref tc), .val (.int 1), .val (.int 4), .val (.ref v1), .val (.int 1)] []))
  refine Gl.st (fun _ kq => XS.aloadN X9.here hx rfl (hb hby d16_14) rfl rfl kq) ?_
  refine Gl.st (fun _ kq => XS.iload X9.here hx rfl (hb hby d16_15) rfl kq) ?_
  refine Gl.st (fun _ kq => XS.aloadN X9.here hx rfl (hb hby d16_17) rfl rfl kq) ?_
  refine Gl.st (fun _ kq => XS.iloadN X9.here hx rfl (hb hby d16_18) rfl kq) ?_
  show Gl p.tables e below _ (T9.setTop (mkF m 19 #[.val (.ref tc), .val (.int 1), .val (.int 4), .val (.ref v1), .val (.int 1)] [(.int 1), (.ref tc), (.int 1), (.ref v1)]))
  have ne10 : tc ≠ v1 := Nat.ne_of_lt (Nat.lt_of_lt_of_le pf0.lt y3_0)
  have f11 : Arv Z T9.heap tc kc .char (4 : Int32) [(.int cc0), (.int cc1), (.int cc2), (.int cc3)] (.int 0) := (f6.keep K9 (ninS ne10 nin0))
  obtain ⟨c12, a12, q12, S12, M12, H12, G12⟩ := id f11
  refine Gl.st (fun _ kq => X9.caload hx (j := (1 : Int32)) (v := (.int cc1)) a12.1 (State.isArrayOf_alike hZ.alike a12.2.1) a12.2.2 (inb_of S12 ⟨by decide, by decide⟩) (Has.at H12 (inb_of S12 ⟨by decide, by decide⟩) rfl) (g := (mkF m 19 #[.val (.ref tc), .val (.int 1), .val (.int 4), .val (.ref v1), .val (.int 1)] [(.int 1), (.ref tc), (.int 1), (.ref v1)])) rfl rfl (hb hby d16_19) _ kq) ?_
  show Gl p.tables e below _ (T9.setTop (mkF m 20 #[.val (.ref tc), .val (.int 1), .val (.int 4), .val (.ref v1), .val (.int 1)] [(.int cc1), (.int 1), (.ref v1)]))
  have f13 : Old Z n0 T9.heap := (f8.keep K9 (allS g4 all0))
  obtain ⟨_, _, ⟨T14, L14, k14, n14⟩, -, X14, ⟨Lc14, hQ14, l14, y14, z14⟩, st14⟩ := Jvm.LawKit.callS X9 hx (y := (⟨"java/lang/StringUTF16", "putChar", "([BII)V"⟩ : MethodName)) hown (mvT hZ (tw hw 85 rfl)) (mvT hZ (tw hw 86 rfl)) (mvT hZ (tw hw 41 rfl)) (mvT hZ (tw hw 87 rfl)) (by decide) (backOf (W := 0) (rm_pcc41 l Z a0 hw [] (v1) (v2) ((own_b0 cc0)) ((own_b1 cc0)) ((0 : Int32)) ((0 : Int32)) ((0 : Int32)) ((0 : Int32)) ((0 : Int32)) ((0 : Int32)) (cc1) T9.heap n0 (Nat.le_trans (Nat.le_trans Z0 K3.1) K9.1) q9_0 f13 g4 OA OH OL) hZ (tw hw 87 rfl) (tw hw 41 rfl) (by decide) (by decide)) (g := (mkF m 20 #[.val (.ref tc), .val (.int 1), .val (.int 4), .val (.ref v1), .val (.int 1)] [(.int cc1), (.int 1), (.ref v1)])) rfl (by rw [hml]; rfl) (argsL := [(.ref v1), (.int 1), (.int cc1)]) (rest := []) (lenOf pd___BII_V rfl) rfl (by show 2 * 0 + _ ≤ _; exact Nat.le_of_eq rfl) (hb hby d16_20) (fun _ _ => ⟨rfl, rfl, (by decide : 1 + 0 ≤ _), (by decide : 8 + 0 ≤ _)⟩)
  dsimp only [Pt.U, Pt.locs, Pt.cells, Pt.slots] at X14 l14 y14 z14 st14 hQ14
  subst l14 y14 z14
  obtain ⟨rfl, N14, K14, q14_0⟩ := hQ14
  have M14 := Fr.app M9 N14
  refine Gl.st st14 ?_
  show Gl p.tables e below _ (T14.setTop (mkF m 23 #[.val (.ref tc), .val (.int 1), .val (.int 4), .val (.ref v1), .val (.int 1)] []))
  show Gl p.tables e below _ (T14.setTop (mkF m 23 #[.val (.ref tc), .val (.int 1), .val (.int 4), .val (.ref v1), .val (.int 1)] []))
  refine Gl.st (fun _ kq => XS.iinc X14.here hx rfl (hb hby d16_23) rfl (l' := #[.val (.ref tc), .val (.int 2), .val (.int 4), .val (.ref v1), .val (.int 1)]) rfl kq) ?_
  refine Gl.st (fun _ kq => XS.iinc X14.here hx rfl (hb hby d16_26) rfl (l' := #[.val (.ref tc), .val (.int 2), .val (.int 4), .val (.ref v1), .val (.int 2)]) rfl kq) ?_
  refine Gl.st (fun _ kq => XS.goto X14.here hx rfl (pc0 := 29) (pc' := 8) rfl (hb hby d16_29) (by decide) (by decide) kq) ?_
  refine Gl.st (fun _ kq => XS.iload X14.here hx rfl (hb hby d16_8) rfl kq) ?_
  refine Gl.st (fun _ kq => XS.iloadN X14.here hx rfl (hb hby d16_10) rfl kq) ?_
  show Gl p.tables e below _ (T14.setTop (mkF m 11 #[.val (.ref tc), .val (.int 2), .val (.int 4), .val (.ref v1), .val (.int 2)] [(.int 4), (.int 2)]))
  refine Gl.st (fun _ kq => XS.icmpNo X14.here hx rfl (hb hby d16_11) rfl (tlt ((by decide) : (2 : Int32) < (4 : Int32))).2.1 kq) ?_
  show Gl p.tables e below _ (T14.setTop (mkF m 14 #[.val (.ref tc), .val (.int 2), .val (.int 4), .val (.ref v1), .val (.int 2)] []))
  refine Gl.st (fun _ kq => XS.aloadN X14.here hx rfl (hb hby d16_14) rfl rfl kq) ?_
  refine Gl.st (fun _ kq => XS.iload X14.here hx rfl (hb hby d16_15) rfl kq) ?_
  refine Gl.st (fun _ kq => XS.aloadN X14.here hx rfl (hb hby d16_17) rfl rfl kq) ?_
  refine Gl.st (fun _ kq => XS.iloadN X14.here hx rfl (hb hby d16_18) rfl kq) ?_
  show Gl p.tables e below _ (T14.setTop (mkF m 19 #[.val (.ref tc), .val (.int 2), .val (.int 4), .val (.ref v1), .val (.int 2)] [(.int 2), (.ref tc), (.int 2), (.ref v1)]))
  have f15 : Arv Z T14.heap tc kc .char (4 : Int32) [(.int cc0), (.int cc1), (.int cc2), (.int cc3)] (.int 0) := (f11.keep K14 (ninS ne10 nin0))
  obtain ⟨c16, a16, q16, S16, M16, H16, G16⟩ := id f15
  refine Gl.st (fun _ kq => X14.caload hx (j := (2 : Int32)) (v := (.int cc2)) a16.1 (State.isArrayOf_alike hZ.alike a16.2.1) a16.2.2 (inb_of S16 ⟨by decide, by decide⟩) (Has.at H16 (inb_of S16 ⟨by decide, by decide⟩) rfl) (g := (mkF m 19 #[.val (.ref tc), .val (.int 2), .val (.int 4), .val (.ref v1), .val (.int 2)] [(.int 2), (.ref tc), (.int 2), (.ref v1)])) rfl rfl (hb hby d16_19) _ kq) ?_
  show Gl p.tables e below _ (T14.setTop (mkF m 20 #[.val (.ref tc), .val (.int 2), .val (.int 4), .val (.ref v1), .val (.int 2)] [(.int cc2), (.int 2), (.ref v1)]))
  have f17 : Old Z n0 T14.heap := (f13.keep K14 (allS g4 all0))
  obtain ⟨_, _, ⟨T18, L18, k18, n18⟩, -, X18, ⟨Lc18, hQ18, l18, y18, z18⟩, st18⟩ := Jvm.LawKit.callS X14 hx (y := (⟨"java/lang/StringUTF16", "putChar", "([BII)V"⟩ : MethodName)) hown (mvT hZ (tw hw 85 rfl)) (mvT hZ (tw hw 86 rfl)) (mvT hZ (tw hw 41 rfl)) (mvT hZ (tw hw 87 rfl)) (by decide) (backOf (W := 0) (rm_pcc42 l Z a0 hw [] (v1) (v2) ((own_b0 cc0)) ((own_b1 cc0)) ((own_b0 cc1)) ((own_b1 cc1)) ((0 : Int32)) ((0 : Int32)) ((0 : Int32)) ((0 : Int32)) (cc2) T14.heap n0 (Nat.le_trans (Nat.le_trans (Nat.le_trans Z0 K3.1) K9.1) K14.1) q14_0 f17 g4 OA OH OL) hZ (tw hw 87 rfl) (tw hw 41 rfl) (by decide) (by decide)) (g := (mkF m 20 #[.val (.ref tc), .val (.int 2), .val (.int 4), .val (.ref v1), .val (.int 2)] [(.int cc2), (.int 2), (.ref v1)])) rfl (by rw [hml]; rfl) (argsL := [(.ref v1), (.int 2), (.int cc2)]) (rest := []) (lenOf pd___BII_V rfl) rfl (by show 2 * 0 + _ ≤ _; exact Nat.le_of_eq rfl) (hb hby d16_20) (fun _ _ => ⟨rfl, rfl, (by decide : 1 + 0 ≤ _), (by decide : 8 + 0 ≤ _)⟩)
  dsimp only [Pt.U, Pt.locs, Pt.cells, Pt.slots] at X18 l18 y18 z18 st18 hQ18
  subst l18 y18 z18
  obtain ⟨rfl, N18, K18, q18_0⟩ := hQ18
  have M18 := Fr.app M14 N18
  refine Gl.st st18 ?_
  show Gl p.tables e below _ (T18.setTop (mkF m 23 #[.val (.ref tc), .val (.int 2), .val (.int 4), .val (.ref v1), .val (.int 2)] []))
  show Gl p.tables e below _ (T18.setTop (mkF m 23 #[.val (.ref tc), .val (.int 2), .val (.int 4), .val (.ref v1), .val (.int 2)] []))
  refine Gl.st (fun _ kq => XS.iinc X18.here hx rfl (hb hby d16_23) rfl (l' := #[.val (.ref tc), .val (.int 3), .val (.int 4), .val (.ref v1), .val (.int 2)]) rfl kq) ?_
  refine Gl.st (fun _ kq => XS.iinc X18.here hx rfl (hb hby d16_26) rfl (l' := #[.val (.ref tc), .val (.int 3), .val (.int 4), .val (.ref v1), .val (.int 3)]) rfl kq) ?_
  refine Gl.st (fun _ kq => XS.goto X18.here hx rfl (pc0 := 29) (pc' := 8) rfl (hb hby d16_29) (by decide) (by decide) kq) ?_
  refine Gl.st (fun _ kq => XS.iload X18.here hx rfl (hb hby d16_8) rfl kq) ?_
  refine Gl.st (fun _ kq => XS.iloadN X18.here hx rfl (hb hby d16_10) rfl kq) ?_
  show Gl p.tables e below _ (T18.setTop (mkF m 11 #[.val (.ref tc), .val (.int 3), .val (.int 4), .val (.ref v1), .val (.int 3)] [(.int 4), (.int 3)]))
  refine Gl.st (fun _ kq => XS.icmpNo X18.here hx rfl (hb hby d16_11) rfl (tlt ((by decide) : (3 : Int32) < (4 : Int32))).2.1 kq) ?_
  show Gl p.tables e below _ (T18.setTop (mkF m 14 #[.val (.ref tc), .val (.int 3), .val (.int 4), .val (.ref v1), .val (.int 3)] []))
  refine Gl.st (fun _ kq => XS.aloadN X18.here hx rfl (hb hby d16_14) rfl rfl kq) ?_
  refine Gl.st (fun _ kq => XS.iload X18.here hx rfl (hb hby d16_15) rfl kq) ?_
  refine Gl.st (fun _ kq => XS.aloadN X18.here hx rfl (hb hby d16_17) rfl rfl kq) ?_
  refine Gl.st (fun _ kq => XS.iloadN X18.here hx rfl (hb hby d16_18) rfl kq) ?_
  show Gl p.tables e below _ (T18.setTop (mkF m 19 #[.val (.ref tc), .val (.int 3), .val (.int 4), .val (.ref v1), .val (.int 3)] [(.int 3), (.ref tc), (.int 3), (.ref v1)]))
  have f19 : Arv Z T18.heap tc kc .char (4 : Int32) [(.int cc0), (.int cc1), (.int cc2), (.int cc3)] (.int 0) := (f15.keep K18 (ninS ne10 nin0))
  obtain ⟨c20, a20, q20, S20, M20, H20, G20⟩ := id f19
  refine Gl.st (fun _ kq => X18.caload hx (j := (3 : Int32)) (v := (.int cc3)) a20.1 (State.isArrayOf_alike hZ.alike a20.2.1) a20.2.2 (inb_of S20 ⟨by decide, by decide⟩) (Has.at H20 (inb_of S20 ⟨by decide, by decide⟩) rfl) (g := (mkF m 19 #[.val (.ref tc), .val (.int 3), .val (.int 4), .val (.ref v1), .val (.int 3)] [(.int 3), (.ref tc), (.int 3), (.ref v1)])) rfl rfl (hb hby d16_19) _ kq) ?_
  show Gl p.tables e below _ (T18.setTop (mkF m 20 #[.val (.ref tc), .val (.int 3), .val (.int 4), .val (.ref v1), .val (.int 3)] [(.int cc3), (.int 3), (.ref v1)]))
  have f21 : Old Z n0 T18.heap := (f17.keep K18 (allS g4 all0))
  obtain ⟨_, _, ⟨T22, L22, k22, n22⟩, -, X22, ⟨Lc22, hQ22, l22, y22, z22⟩, st22⟩ := Jvm.LawKit.callS X18 hx (y := (⟨"java/lang/StringUTF16", "putChar", "([BII)V"⟩ : MethodName)) hown (mvT hZ (tw hw 85 rfl)) (mvT hZ (tw hw 86 rfl)) (mvT hZ (tw hw 41 rfl)) (mvT hZ (tw hw 87 rfl)) (by decide) (backOf (W := 0) (rm_pcc43 l Z a0 hw [] (v1) (v2) ((own_b0 cc0)) ((own_b1 cc0)) ((own_b0 cc1)) ((own_b1 cc1)) ((own_b0 cc2)) ((own_b1 cc2)) ((0 : Int32)) ((0 : Int32)) (cc3) T18.heap n0 (Nat.le_trans (Nat.le_trans (Nat.le_trans (Nat.le_trans Z0 K3.1) K9.1) K14.1) K18.1) q18_0 f21 g4 OA OH OL) hZ (tw hw 87 rfl) (tw hw 41 rfl) (by decide) (by decide)) (g := (mkF m 20 #[.val (.ref tc), .val (.int 3), .val (.int 4), .val (.ref v1), .val (.int 3)] [(.int cc3), (.int 3), (.ref v1)])) rfl (by rw [hml]; rfl) (argsL := [(.ref v1), (.int 3), (.int cc3)]) (rest := []) (lenOf pd___BII_V rfl) rfl (by show 2 * 0 + _ ≤ _; exact Nat.le_of_eq rfl) (hb hby d16_20) (fun _ _ => ⟨rfl, rfl, (by decide : 1 + 0 ≤ _), (by decide : 8 + 0 ≤ _)⟩)
  dsimp only [Pt.U, Pt.locs, Pt.cells, Pt.slots] at X22 l22 y22 z22 st22 hQ22
  subst l22 y22 z22
  obtain ⟨rfl, N22, K22, q22_0⟩ := hQ22
  have M22 := Fr.app M18 N22
  refine Gl.st st22 ?_
  show Gl p.tables e below _ (T22.setTop (mkF m 23 #[.val (.ref tc), .val (.int 3), .val (.int 4), .val (.ref v1), .val (.int 3)] []))
  show Gl p.tables e below _ (T22.setTop (mkF m 23 #[.val (.ref tc), .val (.int 3), .val (.int 4), .val (.ref v1), .val (.int 3)] []))
  refine Gl.st (fun _ kq => XS.iinc X22.here hx rfl (hb hby d16_23) rfl (l' := #[.val (.ref tc), .val (.int 4), .val (.int 4), .val (.ref v1), .val (.int 3)]) rfl kq) ?_
  refine Gl.st (fun _ kq => XS.iinc X22.here hx rfl (hb hby d16_26) rfl (l' := #[.val (.ref tc), .val (.int 4), .val (.int 4), .val (.ref v1), .val (.int 4)]) rfl kq) ?_
  refine Gl.st (fun _ kq => XS.goto X22.here hx rfl (pc0 := 29) (pc' := 8) rfl (hb hby d16_29) (by decide) (by decide) kq) ?_
  refine Gl.st (fun _ kq => XS.iload X22.here hx rfl (hb hby d16_8) rfl kq) ?_
  refine Gl.st (fun _ kq => XS.iloadN X22.here hx rfl (hb hby d16_10) rfl kq) ?_
  show Gl p.tables e below _ (T22.setTop (mkF m 11 #[.val (.ref tc), .val (.int 4), .val (.int 4), .val (.ref v1), .val (.int 4)] [(.int 4), (.int 4)]))
  refine Gl.st (fun _ kq => XS.icmpYes X22.here hx rfl (pc0 := 11) (pc' := 32) rfl (hb hby d16_11) rfl (flt ((by decide) : ¬ ((4 : Int32) < (4 : Int32)))).2.1 (by decide) (by decide) kq) ?_
  show Gl p.tables e below _ (T22.setTop (mkF m 32 #[.val (.ref tc), .val (.int 4), .val (.int 4), .val (.ref v1), .val (.int 4)] []))
  refine Gl.st (fun _ kq => XS.aloadN X22.here hx rfl (hb hby d16_32) rfl rfl kq) ?_
  have K23 : Keep h0 T22.heap [] := ((((((Keep.refl h0 []).trans K3 all0).trans K9 (allS (Or.inr s5) all0)).trans K14 (allS (Or.inr s5) all0)).trans K18 (allS (Or.inr s5) all0)).trans K22 (allS (Or.inr s5) all0))
  exact Gl.retA X22 hx Bd.returns rfl rfl (hb hby d16_33) hlk (by decide) (by decide) ⟨v1, v2, rfl, M22, K23, q22_0, s5⟩
theorem ef_c5_4 (m : MethodId) (tc : Addr) (tb : Addr) : entryFrame m #[(.ref tc), (.int 0), (.ref tb), (.int 0), (.int 4)] 7 = mkF m 0 #[.val (.ref tc), .val (.int 0), .val (.ref tb), .val (.int 0), .val (.int 4), .unset, .unset] [] := by first | (simp [entryFrame, mkF, argsToLocals, Value.category]; done) | rfl
def Q_c5_4 (Z : State) (tc : Addr) (kc : ClassId) (tb : Addr) (kb : ClassId) (cc0 : Int32) (cc1 : Int32) (cc2 : Int32) (cc3 : Int32) (h0 : Heap) (n0 : Nat) (v : Option Value) (h : Heap) (L : List Loc) : Prop := (v = some (.int 0) ∧ Fr n0 L ∧ Keep h0 h [tb] ∧ ((255 : Int32) < cc0)) ∨ (v = some (.int 1) ∧ Fr n0 L ∧ Keep h0 h [tb] ∧ ((255 : Int32) < cc1)) ∨ (v = some (.int 2) ∧ Fr n0 L ∧ Keep h0 h [tb] ∧ ((255 : Int32) < cc2)) ∨ (v = some (.int 3) ∧ Fr n0 L ∧ Keep h0 h [tb] ∧ ((255 : Int32) < cc3))
set_option maxRecDepth 65536 in
set_option maxHeartbeats 40000000 in
theorem rm_c5_4 (l : Launch) (Z : State) (a0 : Array Value) (hw : ∀ d ∈ tables_1, d.before a0 Z = true) (ws : List Jvm.Cond) (tc : Addr) (kc : ClassId) (tb : Addr) (kb : ClassId) (cc0 : Int32) (cc1 : Int32) (cc2 : Int32) (cc3 : Int32) (h0 : Heap) (n0 : Nat) (Z0 : n0 ≤ h0.size) (pf0 : Arv Z h0 tc kc .char (4 : Int32) [(.int cc0), (.int cc1), (.int cc2), (.int cc3)] (.int 0)) (pf1 : Arv Z h0 tb kb .byte (4 : Int32) [(.int 0), (.int 0), (.int 0), (.int 0)] (.int 0)) (gtb : n0 ≤ tb) (nct : tc ≠ tb) (hU : (255 : Int32) < cc0 ∨ (255 : Int32) < cc1 ∨ (255 : Int32) < cc2 ∨ (255 : Int32) < cc3) :
    MetFree l (⟨"java/lang/StringUTF16", "compress", "([CI[BII)I"⟩ : MethodName) (head1 (Jvm.Cond.code (⟨"java/lang/StringUTF16", "compress", "([CI[BII)I"⟩ : MethodName) jdk_52_method_21_code 7 (some .int) :: ws) ({ frames := 0, cells := 0, slots := 0, locals := 0 } : Room)) (fun aa U => aa = #[(.ref tc), (.int 0), (.ref tb), (.int 0), (.int 4)] ∧ Z.Warmed39 U.vm ∧ U.heap = h0) (fun _ _ _ _ _ => True) (fun _ U o U' => ∃ v L, o = .returned v ∧ Q_c5_4 Z tc kc tb kb cc0 cc1 cc2 cc3 h0 n0 v U'.heap L ∧ FrameEnd U o U' L ({ frames := 0, cells := 0, slots := 0, locals := 0 } : Room).cells ({ frames := 0, cells := 0, slots := 0, locals := 0 } : Room).slots) := by
  refine MetFree.of_bodySF (plainFor_of_name pn_java_lang_StringUTF16) hisR ?_
  intro p e s m args below meth c s₁ Bd hml0 hP hK
  obtain ⟨rfl, hZ, hh⟩ := hP
  have hx := Bd.exec
  have hby := Bd.bytes
  have hlk : meth.locks = false := BodyLoose.notSynchronized Bd
  have hml : c.maxLocals = 7 := hml0
  have hown : s.vm.findClass "java/lang/StringUTF16" = some m.cls := findClass_of_methodNamed Bd.named
  have hnm := (name_of_methodNamed Bd.named Bd.method).1
  have X0 : Stand p l e ({ frames := 0, cells := 0, slots := 0, locals := 0 } : Room) s m #[(.ref tc), (.int 0), (.ref tb), (.int 0), (.int 4)] below meth c s₁ [] 0 0 := Stand.of_body Bd
  have e0 : s₁.heap = h0 := by rw [← hh, Bd.state]; rfl
  have N0 := Fr.nil n0
  show Gl p.tables e below (EndN s (Q_c5_4 Z tc kc tb kb cc0 cc1 cc2 cc3 h0 n0) ({ frames := 0, cells := 0, slots := 0, locals := 0 } : Room).cells ({ frames := 0, cells := 0, slots := 0, locals := 0 } : Room).slots) _
  refine Gl.cast (ef_c5_4 m tc tb) ?_
  show Gl p.tables e below _ (s₁.setTop (mkF m 0 #[.val (.ref tc), .val (.int 0), .val (.ref tb), .val (.int 0), .val (.int 4), .unset, .unset] []))
  refine Gl.st (fun _ kq => XS.iconst X0.here hx rfl (hb hby d8_0) kq) ?_
  refine Gl.st (fun _ kq => XS.istore X0.here hx rfl (hb hby d8_1) rfl (l' := #[.val (.ref tc), .val (.int 0), .val (.ref tb), .val (.int 0), .val (.int 4), .val (.int 0), .unset]) rfl kq) ?_
  refine Gl.st (fun _ kq => XS.iload X0.here hx rfl (hb hby d8_3) rfl kq) ?_
  refine Gl.st (fun _ kq => XS.iload X0.here hx rfl (hb hby d8_5) rfl kq) ?_
  show Gl p.tables e below _ (s₁.setTop (mkF m 7 #[.val (.ref tc), .val (.int 0), .val (.ref tb), .val (.int 0), .val (.int 4), .val (.int 0), .unset] [(.int 4), (.int 0)]))
  refine Gl.st (fun _ kq => XS.icmpNo X0.here hx rfl (hb hby d8_7) rfl (tlt ((by decide) : (0 : Int32) < (4 : Int32))).2.1 kq) ?_
  show Gl p.tables e below _ (s₁.setTop (mkF m 10 #[.val (.ref tc), .val (.int 0), .val (.ref tb), .val (.int 0), .val (.int 4), .val (.int 0), .unset] []))
  refine Gl.st (fun _ kq => XS.aloadN X0.here hx rfl (hb hby d8_10) rfl rfl kq) ?_
  refine Gl.st (fun _ kq => XS.iloadN X0.here hx rfl (hb hby d8_11) rfl kq) ?_
  show Gl p.tables e below _ (s₁.setTop (mkF m 12 #[.val (.ref tc), .val (.int 0), .val (.ref tb), .val (.int 0), .val (.int 4), .val (.int 0), .unset] [(.int 0), (.ref tc)]))
  obtain ⟨c1, a1, q1, S1, M1, H1, G1⟩ := id pf0
  refine Gl.st (fun _ kq => X0.caload hx (j := (0 : Int32)) (v := (.int cc0)) (by rw [e0]; exact a1.1) (State.isArrayOf_alike hZ.alike a1.2.1) a1.2.2 (inb_of S1 ⟨by decide, by decide⟩) (Has.at H1 (inb_of S1 ⟨by decide, by decide⟩) rfl) (g := (mkF m 12 #[.val (.ref tc), .val (.int 0), .val (.ref tb), .val (.int 0), .val (.int 4), .val (.int 0), .unset] [(.int 0), (.ref tc)])) rfl rfl (hb hby d8_12) _ kq) ?_
  show Gl p.tables e below _ (s₁.setTop (mkF m 13 #[.val (.ref tc), .val (.int 0), .val (.ref tb), .val (.int 0), .val (.int 4), .val (.int 0), .unset] [(.int cc0)]))
  refine Gl.st (fun _ kq => XS.istore X0.here hx rfl (hb hby d8_13) rfl (l' := #[.val (.ref tc), .val (.int 0), .val (.ref tb), .val (.int 0), .val (.int 4), .val (.int 0), .val (.int cc0)]) rfl kq) ?_
  refine Gl.st (fun _ kq => XS.iload X0.here hx rfl (hb hby d8_15) rfl kq) ?_
  refine Gl.st (fun _ kq => XS.sipush X0.here hx rfl (hb hby d8_17) kq) ?_
  show Gl p.tables e below _ (s₁.setTop (mkF m 20 #[.val (.ref tc), .val (.int 0), .val (.ref tb), .val (.int 0), .val (.int 4), .val (.int 0), .val (.int cc0)] [(.int 255), (.int cc0)]))
  by_cases hc2 : (255 : Int32) < cc0
  · refine Gl.st (fun _ kq => XS.icmpNo X0.here hx rfl (hb hby d8_20) rfl (tlt (hc2 : (255 : Int32) < cc0)).2.2.2 kq) ?_
    show Gl p.tables e below _ (s₁.setTop (mkF m 23 #[.val (.ref tc), .val (.int 0), .val (.ref tb), .val (.int 0), .val (.int 4), .val (.int 0), .val (.int cc0)] []))
    refine Gl.st (fun _ kq => XS.iload X0.here hx rfl (hb hby d8_23) rfl kq) ?_
    exact Gl.retI X0 hx Bd.returns (hb hby d8_25) hlk (by decide) (by decide) (by rw [e0]; exact (Or.inl ⟨rfl, N0, (Keep.refl h0 [tb]), hc2⟩))
  · refine Gl.st (fun _ kq => XS.icmpYes X0.here hx rfl (pc0 := 20) (pc' := 26) rfl (hb hby d8_20) rfl (flt (hc2 : ¬ ((255 : Int32) < cc0))).2.2.2 (by decide) (by decide) kq) ?_
    show Gl p.tables e below _ (s₁.setTop (mkF m 26 #[.val (.ref tc), .val (.int 0), .val (.ref tb), .val (.int 0), .val (.int 4), .val (.int 0), .val (.int cc0)] []))
    refine Gl.st (fun _ kq => XS.aloadN X0.here hx rfl (hb hby d8_26) rfl rfl kq) ?_
    refine Gl.st (fun _ kq => XS.iloadN X0.here hx rfl (hb hby d8_27) rfl kq) ?_
    refine Gl.st (fun _ kq => XS.iload X0.here hx rfl (hb hby d8_28) rfl kq) ?_
    refine Gl.st (fun _ kq => XS.i2b X0.here hx rfl (hb hby d8_30) rfl kq) ?_
    show Gl p.tables e below _ (s₁.setTop (mkF m 31 #[.val (.ref tc), .val (.int 0), .val (.ref tb), .val (.int 0), .val (.int 4), .val (.int 0), .val (.int cc0)] [(.int (cc0.toInt8.toInt32)), (.int 0), (.ref tb)]))
    obtain ⟨c3, a3, q3, S3, M3, H3, G3⟩ := id pf1
    obtain ⟨T3, h3, X3, e3, W3, st3⟩ := stB X0 hx hZ e0 a3 (j := (0 : Int32)) (inb_of S3 ⟨by decide, by decide⟩) (g := (mkF m 31 #[.val (.ref tc), .val (.int 0), .val (.ref tb), .val (.int 0), .val (.int 4), .val (.int 0), .val (.int cc0)] [(.int (cc0.toInt8.toInt32)), (.int 0), (.ref tb)])) rfl rfl (hb hby d8_31)
    refine Gl.st st3 ?_
    have V3 : Arv Z h3 tb kb .byte (4 : Int32) [(.int (nar .byte (cc0.toInt8.toInt32))), (.int 0), (.int 0), (.int 0)] (.int 0) := Arv.set a3 q3 S3 M3 H3 G3 (fits_nar_byte _) W3 0 rfl (Nat.le_of_ble_eq_true rfl)
    have N3 := Fr.snoc X3 N0 gtb
    show Gl p.tables e below _ (T3.setTop (mkF m 32 #[.val (.ref tc), .val (.int 0), .val (.ref tb), .val (.int 0), .val (.int 4), .val (.int 0), .val (.int cc0)] []))
    refine Gl.st (fun _ kq => XS.iinc X3.here hx rfl (hb hby d8_32) rfl (l' := #[.val (.ref tc), .val (.int 1), .val (.ref tb), .val (.int 0), .val (.int 4), .val (.int 0), .val (.int cc0)]) rfl kq) ?_
    refine Gl.st (fun _ kq => XS.iinc X3.here hx rfl (hb hby d8_35) rfl (l' := #[.val (.ref tc), .val (.int 1), .val (.ref tb), .val (.int 1), .val (.int 4), .val (.int 0), .val (.int cc0)]) rfl kq) ?_
    refine Gl.st (fun _ kq => XS.iinc X3.here hx rfl (hb hby d8_38) rfl (l' := #[.val (.ref tc), .val (.int 1), .val (.ref tb), .val (.int 1), .val (.int 4), .val (.int 1), .val (.int cc0)]) rfl kq) ?_
    refine Gl.st (fun _ kq => XS.goto X3.here hx rfl (pc0 := 41) (pc' := 3) rfl (hb hby d8_41) (by decide) (by decide) kq) ?_
    refine Gl.st (fun _ kq => XS.iload X3.here hx rfl (hb hby d8_3) rfl kq) ?_
    refine Gl.st (fun _ kq => XS.iload X3.here hx rfl (hb hby d8_5) rfl kq) ?_
    show Gl p.tables e below _ (T3.setTop (mkF m 7 #[.val (.ref tc), .val (.int 1), .val (.ref tb), .val (.int 1), .val (.int 4), .val (.int 1), .val (.int cc0)] [(.int 4), (.int 1)]))
    refine Gl.st (fun _ kq => XS.icmpNo X3.here hx rfl (hb hby d8_7) rfl (tlt ((by decide) : (1 : Int32) < (4 : Int32))).2.1 kq) ?_
    show Gl p.tables e below _ (T3.setTop (mkF m 10 #[.val (.ref tc), .val (.int 1), .val (.ref tb), .val (.int 1), .val (.int 4), .val (.int 1), .val (.int cc0)] []))
    refine Gl.st (fun _ kq => XS.aloadN X3.here hx rfl (hb hby d8_10) rfl rfl kq) ?_
    refine Gl.st (fun _ kq => XS.iloadN X3.here hx rfl (hb hby d8_11) rfl kq) ?_
    show Gl p.tables e below _ (T3.setTop (mkF m 12 #[.val (.ref tc), .val (.int 1), .val (.ref tb), .val (.int 1), .val (.int 4), .val (.int 1), .val (.int cc0)] [(.int 1), (.ref tc)]))
    have f4 : Arv Z h3 tc kc .char (4 : Int32) [(.int cc0), (.int cc1), (.int cc2), (.int cc3)] (.int 0) := (pf0.other W3 nct)
    obtain ⟨c5, a5, q5, S5, M5, H5, G5⟩ := id f4
    refine Gl.st (fun _ kq => X3.caload hx (j := (1 : Int32)) (v := (.int cc1)) (by rw [e3]; exact a5.1) (State.isArrayOf_alike hZ.alike a5.2.1) a5.2.2 (inb_of S5 ⟨by decide, by decide⟩) (Has.at H5 (inb_of S5 ⟨by decide, by decide⟩) rfl) (g := (mkF m 12 #[.val (.ref tc), .val (.int 1), .val (.ref tb), .val (.int 1), .val (.int 4), .val (.int 1), .val (.int cc0)] [(.int 1), (.ref tc)])) rfl rfl (hb hby d8_12) _ kq) ?_
    show Gl p.tables e below _ (T3.setTop (mkF m 13 #[.val (.ref tc), .val (.int 1), .val (.ref tb), .val (.int 1), .val (.int 4), .val (.int 1), .val (.int cc0)] [(.int cc1)]))
    refine Gl.st (fun _ kq => XS.istore X3.here hx rfl (hb hby d8_13) rfl (l' := #[.val (.ref tc), .val (.int 1), .val (.ref tb), .val (.int 1), .val (.int 4), .val (.int 1), .val (.int cc1)]) rfl kq) ?_
    refine Gl.st (fun _ kq => XS.iload X3.here hx rfl (hb hby d8_15) rfl kq) ?_
    refine Gl.st (fun _ kq => XS.sipush X3.here hx rfl (hb hby d8_17) kq) ?_
    show Gl p.tables e below _ (T3.setTop (mkF m 20 #[.val (.ref tc), .val (.int 1), .val (.ref tb), .val (.int 1), .val (.int 4), .val (.int 1), .val (.int cc1)] [(.int 255), (.int cc1)]))
    by_cases hc6 : (255 : Int32) < cc1
    · refine Gl.st (fun _ kq => XS.icmpNo X3.here hx rfl (hb hby d8_20) rfl (tlt (hc6 : (255 : Int32) < cc1)).2.2.2 kq) ?_
      show Gl p.tables e below _ (T3.setTop (mkF m 23 #[.val (.ref tc), .val (.int 1), .val (.ref tb), .val (.int 1), .val (.int 4), .val (.int 1), .val (.int cc1)] []))
      refine Gl.st (fun _ kq => XS.iload X3.here hx rfl (hb hby d8_23) rfl kq) ?_
      have K7 : Keep h0 h3 [tb] := ((Keep.refl h0 [tb]).wr W3 (Or.inl (List.mem_of_getElem? (i := 0) rfl)))
      exact Gl.retI X3 hx Bd.returns (hb hby d8_25) hlk (by decide) (by decide) (by rw [e3]; exact (Or.inr (Or.inl ⟨rfl, N3, K7, hc6⟩)))
    · refine Gl.st (fun _ kq => XS.icmpYes X3.here hx rfl (pc0 := 20) (pc' := 26) rfl (hb hby d8_20) rfl (flt (hc6 : ¬ ((255 : Int32) < cc1))).2.2.2 (by decide) (by decide) kq) ?_
      show Gl p.tables e below _ (T3.setTop (mkF m 26 #[.val (.ref tc), .val (.int 1), .val (.ref tb), .val (.int 1), .val (.int 4), .val (.int 1), .val (.int cc1)] []))
      refine Gl.st (fun _ kq => XS.aloadN X3.here hx rfl (hb hby d8_26) rfl rfl kq) ?_
      refine Gl.st (fun _ kq => XS.iloadN X3.here hx rfl (hb hby d8_27) rfl kq) ?_
      refine Gl.st (fun _ kq => XS.iload X3.here hx rfl (hb hby d8_28) rfl kq) ?_
      refine Gl.st (fun _ kq => XS.i2b X3.here hx rfl (hb hby d8_30) rfl kq) ?_
      show Gl p.tables e below _ (T3.setTop (mkF m 31 #[.val (.ref tc), .val (.int 1), .val (.ref tb), .val (.int 1), .val (.int 4), .val (.int 1), .val (.int cc1)] [(.int (cc1.toInt8.toInt32)), (.int 1), (.ref tb)]))
      obtain ⟨c8, a8, q8, S8, M8, H8, G8⟩ := id V3
      obtain ⟨T8, h8, X8, e8, W8, st8⟩ := stB X3 hx hZ e3 a8 (j := (1 : Int32)) (inb_of S8 ⟨by decide, by decide⟩) (g := (mkF m 31 #[.val (.ref tc), .val (.int 1), .val (.ref tb), .val (.int 1), .val (.int 4), .val (.int 1), .val (.int cc1)] [(.int (cc1.toInt8.toInt32)), (.int 1), (.ref tb)])) rfl rfl (hb hby d8_31)
      refine Gl.st st8 ?_
      have V8 : Arv Z h8 tb kb .byte (4 : Int32) [(.int (nar .byte (cc0.toInt8.toInt32))), (.int (nar .byte (cc1.toInt8.toInt32))), (.int 0), (.int 0)] (.int 0) := Arv.set a8 q8 S8 M8 H8 G8 (fits_nar_byte _) W8 1 rfl (Nat.le_of_ble_eq_true rfl)
      have N8 := Fr.snoc X8 N3 gtb
      show Gl p.tables e below _ (T8.setTop (mkF m 32 #[.val (.ref tc), .val (.int 1), .val (.ref tb), .val (.int 1), .val (.int 4), .val (.int 1), .val (.int cc1)] []))
      refine Gl.st (fun _ kq => XS.iinc X8.here hx rfl (hb hby d8_32) rfl (l' := #[.val (.ref tc), .val (.int 2), .val (.ref tb), .val (.int 1), .val (.int 4), .val (.int 1), .val (.int cc1)]) rfl kq) ?_
      refine Gl.st (fun _ kq => XS.iinc X8.here hx rfl (hb hby d8_35) rfl (l' := #[.val (.ref tc), .val (.int 2), .val (.ref tb), .val (.int 2), .val (.int 4), .val (.int 1), .val (.int cc1)]) rfl kq) ?_
      refine Gl.st (fun _ kq => XS.iinc X8.here hx rfl (hb hby d8_38) rfl (l' := #[.val (.ref tc), .val (.int 2), .val (.ref tb), .val (.int 2), .val (.int 4), .val (.int 2), .val (.int cc1)]) rfl kq) ?_
      refine Gl.st (fun _ kq => XS.goto X8.here hx rfl (pc0 := 41) (pc' := 3) rfl (hb hby d8_41) (by decide) (by decide) kq) ?_
      refine Gl.st (fun _ kq => XS.iload X8.here hx rfl (hb hby d8_3) rfl kq) ?_
      refine Gl.st (fun _ kq => XS.iload X8.here hx rfl (hb hby d8_5) rfl kq) ?_
      show Gl p.tables e below _ (T8.setTop (mkF m 7 #[.val (.ref tc), .val (.int 2), .val (.ref tb), .val (.int 2), .val (.int 4), .val (.int 2), .val (.int cc1)] [(.int 4), (.int 2)]))
      refine Gl.st (fun _ kq => XS.icmpNo X8.here hx rfl (hb hby d8_7) rfl (tlt ((by decide) : (2 : Int32) < (4 : Int32))).2.1 kq) ?_
      show Gl p.tables e below _ (T8.setTop (mkF m 10 #[.val (.ref tc), .val (.int 2), .val (.ref tb), .val (.int 2), .val (.int 4), .val (.int 2), .val (.int cc1)] []))
      refine Gl.st (fun _ kq => XS.aloadN X8.here hx rfl (hb hby d8_10) rfl rfl kq) ?_
      refine Gl.st (fun _ kq => XS.iloadN X8.here hx rfl (hb hby d8_11) rfl kq) ?_
      show Gl p.tables e below _ (T8.setTop (mkF m 12 #[.val (.ref tc), .val (.int 2), .val (.ref tb), .val (.int 2), .val (.int 4), .val (.int 2), .val (.int cc1)] [(.int 2), (.ref tc)]))
      have f9 : Arv Z h8 tc kc .char (4 : Int32) [(.int cc0), (.int cc1), (.int cc2), (.int cc3)] (.int 0) := (f4.other W8 nct)
      obtain ⟨c10, a10, q10, S10, M10, H10, G10⟩ := id f9
      refine Gl.st (fun _ kq => X8.caload hx (j := (2 : Int32)) (v := (.int cc2)) (by rw [e8]; exact a10.1) (State.isArrayOf_alike hZ.alike a10.2.1) a10.2.2 (inb_of S10 ⟨by decide, by decide⟩) (Has.at H10 (inb_of S10 ⟨by decide, by decide⟩) rfl) (g := (mkF m 12 #[.val (.ref tc), .val (.int 2), .val (.ref tb), .val (.int 2), .val (.int 4), .val (.int 2), .val (.int cc1)] [(.int 2), (.ref tc)])) rfl rfl (hb hby d8_12) _ kq) ?_
      show Gl p.tables e below _ (T8.setTop (mkF m 13 #[.val (.ref tc), .val (.int 2), .val (.ref tb), .val (.int 2), .val (.int 4), .val (.int 2), .val (.int cc1)] [(.int cc2)]))
      refine Gl.st (fun _ kq => XS.istore X8.here hx rfl (hb hby d8_13) rfl (l' := #[.val (.ref tc), .val (.int 2), .val (.ref tb), .val (.int 2), .val (.int 4), .val (.int 2), .val (.int cc2)]) rfl kq) ?_
      refine Gl.st (fun _ kq => XS.iload X8.here hx rfl (hb hby d8_15) rfl kq) ?_
      refine Gl.st (fun _ kq => XS.sipush X8.here hx rfl (hb hby d8_17) kq) ?_
      show Gl p.tables e below _ (T8.setTop (mkF m 20 #[.val (.ref tc), .val (.int 2), .val (.ref tb), .val (.int 2), .val (.int 4), .val (.int 2), .val (.int cc2)] [(.int 255), (.int cc2)]))
      by_cases hc11 : (255 : Int32) < cc2
      · refine Gl.st (fun _ kq => XS.icmpNo X8.here hx rfl (hb hby d8_20) rfl (tlt (hc11 : (255 : Int32) < cc2)).2.2.2 kq) ?_
        show Gl p.tables e below _ (T8.setTop (mkF m 23 #[.val (.ref tc), .val (.int 2), .val (.ref tb), .val (.int 2), .val (.int 4), .val (.int 2), .val (.int cc2)] []))
        refine Gl.st (fun _ kq => XS.iload X8.here hx rfl (hb hby d8_23) rfl kq) ?_
        have K12 : Keep h0 h8 [tb] := (((Keep.refl h0 [tb]).wr W3 (Or.inl (List.mem_of_getElem? (i := 0) rfl))).wr W8 (Or.inl (List.mem_of_getElem? (i := 0) rfl)))
        exact Gl.retI X8 hx Bd.returns (hb hby d8_25) hlk (by decide) (by decide) (by rw [e8]; exact (Or.inr (Or.inr (Or.inl ⟨rfl, N8, K12, hc11⟩))))
      · refine Gl.st (fun _ kq => XS.icmpYes X8.here hx rfl (pc0 := 20) (pc' := 26) rfl (hb hby d8_20) rfl (flt (hc11 : ¬ ((255 : Int32) < cc2))).2.2.2 (by decide) (by decide) kq) ?_
        show Gl p.tables e below _ (T8.setTop (mkF m 26 #[.val (.ref tc), .val (.int 2), .val (.ref tb), .val (.int 2), .val (.int 4), .val (.int 2), .val (.int cc2)] []))
        refine Gl.st (fun _ kq => XS.aloadN X8.here hx rfl (hb hby d8_26) rfl rfl kq) ?_
        refine Gl.st (fun _ kq => XS.iloadN X8.here hx rfl (hb hby d8_27) rfl kq) ?_
        refine Gl.st (fun _ kq => XS.iload X8.here hx rfl (hb hby d8_28) rfl kq) ?_
        refine Gl.st (fun _ kq => XS.i2b X8.here hx rfl (hb hby d8_30) rfl kq) ?_
        show Gl p.tables e below _ (T8.setTop (mkF m 31 #[.val (.ref tc), .val (.int 2), .val (.ref tb), .val (.int 2), .val (.int 4), .val (.int 2), .val (.int cc2)] [(.int (cc2.toInt8.toInt32)), (.int 2), (.ref tb)]))
        obtain ⟨c13, a13, q13, S13, M13, H13, G13⟩ := id V8
        obtain ⟨T13, h13, X13, e13, W13, st13⟩ := stB X8 hx hZ e8 a13 (j := (2 : Int32)) (inb_of S13 ⟨by decide, by decide⟩) (g := (mkF m 31 #[.val (.ref tc), .val (.int 2), .val (.ref tb), .val (.int 2), .val (.int 4), .val (.int 2), .val (.int cc2)] [(.int (cc2.toInt8.toInt32)), (.int 2), (.ref tb)])) rfl rfl (hb hby d8_31)
        refine Gl.st st13 ?_
        have V13 : Arv Z h13 tb kb .byte (4 : Int32) [(.int (nar .byte (cc0.toInt8.toInt32))), (.int (nar .byte (cc1.toInt8.toInt32))), (.int (nar .byte (cc2.toInt8.toInt32))), (.int 0)] (.int 0) := Arv.set a13 q13 S13 M13 H13 G13 (fits_nar_byte _) W13 2 rfl (Nat.le_of_ble_eq_true rfl)
        have N13 := Fr.snoc X13 N8 gtb
        show Gl p.tables e below _ (T13.setTop (mkF m 32 #[.val (.ref tc), .val (.int 2), .val (.ref tb), .val (.int 2), .val (.int 4), .val (.int 2), .val (.int cc2)] []))
        refine Gl.st (fun _ kq => XS.iinc X13.here hx rfl (hb hby d8_32) rfl (l' := #[.val (.ref tc), .val (.int 3), .val (.ref tb), .val (.int 2), .val (.int 4), .val (.int 2), .val (.int cc2)]) rfl kq) ?_
        refine Gl.st (fun _ kq => XS.iinc X13.here hx rfl (hb hby d8_35) rfl (l' := #[.val (.ref tc), .val (.int 3), .val (.ref tb), .val (.int 3), .val (.int 4), .val (.int 2), .val (.int cc2)]) rfl kq) ?_
        refine Gl.st (fun _ kq => XS.iinc X13.here hx rfl (hb hby d8_38) rfl (l' := #[.val (.ref tc), .val (.int 3), .val (.ref tb), .val (.int 3), .val (.int 4), .val (.int 3), .val (.int cc2)]) rfl kq) ?_
        refine Gl.st (fun _ kq => XS.goto X13.here hx rfl (pc0 := 41) (pc' := 3) rfl (hb hby d8_41) (by decide) (by decide) kq) ?_
        refine Gl.st (fun _ kq => XS.iload X13.here hx rfl (hb hby d8_3) rfl kq) ?_
        refine Gl.st (fun _ kq => XS.iload X13.here hx rfl (hb hby d8_5) rfl kq) ?_
        show Gl p.tables e below _ (T13.setTop (mkF m 7 #[.val (.ref tc), .val (.int 3), .val (.ref tb), .val (.int 3), .val (.int 4), .val (.int 3), .val (.int cc2)] [(.int 4), (.int 3)]))
        refine Gl.st (fun _ kq => XS.icmpNo X13.here hx rfl (hb hby d8_7) rfl (tlt ((by decide) : (3 : Int32) < (4 : Int32))).2.1 kq) ?_
        show Gl p.tables e below _ (T13.setTop (mkF m 10 #[.val (.ref tc), .val (.int 3), .val (.ref tb), .val (.int 3), .val (.int 4), .val (.int 3), .val (.int cc2)] []))
        refine Gl.st (fun _ kq => XS.aloadN X13.here hx rfl (hb hby d8_10) rfl rfl kq) ?_
        refine Gl.st (fun _ kq => XS.iloadN X13.here hx rfl (hb hby d8_11) rfl kq) ?_
        show Gl p.tables e below _ (T13.setTop (mkF m 12 #[.val (.ref tc), .val (.int 3), .val (.ref tb), .val (.int 3), .val (.int 4), .val (.int 3), .val (.int cc2)] [(.int 3), (.ref tc)]))
        have f14 : Arv Z h13 tc kc .char (4 : Int32) [(.int cc0), (.int cc1), (.int cc2), (.int cc3)] (.int 0) := (f9.other W13 nct)
        obtain ⟨c15, a15, q15, S15, M15, H15, G15⟩ := id f14
        refine Gl.st (fun _ kq => X13.caload hx (j := (3 : Int32)) (v := (.int cc3)) (by rw [e13]; exact a15.1) (State.isArrayOf_alike hZ.alike a15.2.1) a15.2.2 (inb_of S15 ⟨by decide, by decide⟩) (Has.at H15 (inb_of S15 ⟨by decide, by decide⟩) rfl) (g := (mkF m 12 #[.val (.ref tc), .val (.int 3), .val (.ref tb), .val (.int 3), .val (.int 4), .val (.int 3), .val (.int cc2)] [(.int 3), (.ref tc)])) rfl rfl (hb hby d8_12) _ kq) ?_
        show Gl p.tables e below _ (T13.setTop (mkF m 13 #[.val (.ref tc), .val (.int 3), .val (.ref tb), .val (.int 3), .val (.int 4), .val (.int 3), .val (.int cc2)] [(.int cc3)]))
        refine Gl.st (fun _ kq => XS.istore X13.here hx rfl (hb hby d8_13) rfl (l' := #[.val (.ref tc), .val (.int 3), .val (.ref tb), .val (.int 3), .val (.int 4), .val (.int 3), .val (.int cc3)]) rfl kq) ?_
        refine Gl.st (fun _ kq => XS.iload X13.here hx rfl (hb hby d8_15) rfl kq) ?_
        refine Gl.st (fun _ kq => XS.sipush X13.here hx rfl (hb hby d8_17) kq) ?_
        show Gl p.tables e below _ (T13.setTop (mkF m 20 #[.val (.ref tc), .val (.int 3), .val (.ref tb), .val (.int 3), .val (.int 4), .val (.int 3), .val (.int cc3)] [(.int 255), (.int cc3)]))
        by_cases hc16 : (255 : Int32) < cc3
        · refine Gl.st (fun _ kq => XS.icmpNo X13.here hx rfl (hb hby d8_20) rfl (tlt (hc16 : (255 : Int32) < cc3)).2.2.2 kq) ?_
          show Gl p.tables e below _ (T13.setTop (mkF m 23 #[.val (.ref tc), .val (.int 3), .val (.ref tb), .val (.int 3), .val (.int 4), .val (.int 3), .val (.int cc3)] []))
          refine Gl.st (fun _ kq => XS.iload X13.here hx rfl (hb hby d8_23) rfl kq) ?_
          have K17 : Keep h0 h13 [tb] := ((((Keep.refl h0 [tb]).wr W3 (Or.inl (List.mem_of_getElem? (i := 0) rfl))).wr W8 (Or.inl (List.mem_of_getElem? (i := 0) rfl))).wr W13 (Or.inl (List.mem_of_getElem? (i := 0) rfl)))
          exact Gl.retI X13 hx Bd.returns (hb hby d8_25) hlk (by decide) (by decide) (by rw [e13]; exact (Or.inr (Or.inr (Or.inr (⟨rfl, N13, K17, hc16⟩)))))
        · refine Gl.st (fun _ kq => XS.icmpYes X13.here hx rfl (pc0 := 20) (pc' := 26) rfl (hb hby d8_20) rfl (flt (hc16 : ¬ ((255 : Int32) < cc3))).2.2.2 (by decide) (by decide) kq) ?_
          show Gl p.tables e below _ (T13.setTop (mkF m 26 #[.val (.ref tc), .val (.int 3), .val (.ref tb), .val (.int 3), .val (.int 4), .val (.int 3), .val (.int cc3)] []))
          refine Gl.st (fun _ kq => XS.aloadN X13.here hx rfl (hb hby d8_26) rfl rfl kq) ?_
          refine Gl.st (fun _ kq => XS.iloadN X13.here hx rfl (hb hby d8_27) rfl kq) ?_
          refine Gl.st (fun _ kq => XS.iload X13.here hx rfl (hb hby d8_28) rfl kq) ?_
          refine Gl.st (fun _ kq => XS.i2b X13.here hx rfl (hb hby d8_30) rfl kq) ?_
          show Gl p.tables e below _ (T13.setTop (mkF m 31 #[.val (.ref tc), .val (.int 3), .val (.ref tb), .val (.int 3), .val (.int 4), .val (.int 3), .val (.int cc3)] [(.int (cc3.toInt8.toInt32)), (.int 3), (.ref tb)]))
          obtain ⟨c18, a18, q18, S18, M18, H18, G18⟩ := id V13
          obtain ⟨T18, h18, X18, e18, W18, st18⟩ := stB X13 hx hZ e13 a18 (j := (3 : Int32)) (inb_of S18 ⟨by decide, by decide⟩) (g := (mkF m 31 #[.val (.ref tc), .val (.int 3), .val (.ref tb), .val (.int 3), .val (.int 4), .val (.int 3), .val (.int cc3)] [(.int (cc3.toInt8.toInt32)), (.int 3), (.ref tb)])) rfl rfl (hb hby d8_31)
          refine Gl.st st18 ?_
          have V18 : Arv Z h18 tb kb .byte (4 : Int32) [(.int (nar .byte (cc0.toInt8.toInt32))), (.int (nar .byte (cc1.toInt8.toInt32))), (.int (nar .byte (cc2.toInt8.toInt32))), (.int (nar .byte (cc3.toInt8.toInt32)))] (.int 0) := Arv.set a18 q18 S18 M18 H18 G18 (fits_nar_byte _) W18 3 rfl (Nat.le_of_ble_eq_true rfl)
          have N18 := Fr.snoc X18 N13 gtb
          show Gl p.tables e below _ (T18.setTop (mkF m 32 #[.val (.ref tc), .val (.int 3), .val (.ref tb), .val (.int 3), .val (.int 4), .val (.int 3), .val (.int cc3)] []))
          refine Gl.st (fun _ kq => XS.iinc X18.here hx rfl (hb hby d8_32) rfl (l' := #[.val (.ref tc), .val (.int 4), .val (.ref tb), .val (.int 3), .val (.int 4), .val (.int 3), .val (.int cc3)]) rfl kq) ?_
          refine Gl.st (fun _ kq => XS.iinc X18.here hx rfl (hb hby d8_35) rfl (l' := #[.val (.ref tc), .val (.int 4), .val (.ref tb), .val (.int 4), .val (.int 4), .val (.int 3), .val (.int cc3)]) rfl kq) ?_
          refine Gl.st (fun _ kq => XS.iinc X18.here hx rfl (hb hby d8_38) rfl (l' := #[.val (.ref tc), .val (.int 4), .val (.ref tb), .val (.int 4), .val (.int 4), .val (.int 4), .val (.int cc3)]) rfl kq) ?_
          refine Gl.st (fun _ kq => XS.goto X18.here hx rfl (pc0 := 41) (pc' := 3) rfl (hb hby d8_41) (by decide) (by decide) kq) ?_
          refine Gl.st (fun _ kq => XS.iload X18.here hx rfl (hb hby d8_3) rfl kq) ?_
          refine Gl.st (fun _ kq => XS.iload X18.here hx rfl (hb hby d8_5) rfl kq) ?_
          show Gl p.tables e below _ (T18.setTop (mkF m 7 #[.val (.ref tc), .val (.int 4), .val (.ref tb), .val (.int 4), .val (.int 4), .val (.int 4), .val (.int cc3)] [(.int 4), (.int 4)]))
          refine Gl.st (fun _ kq => XS.icmpYes X18.here hx rfl (pc0 := 7) (pc' := 44) rfl (hb hby d8_7) rfl (flt ((by decide) : ¬ ((4 : Int32) < (4 : Int32)))).2.1 (by decide) (by decide) kq) ?_
          show Gl p.tables e below _ (T18.setTop (mkF m 44 #[.val (.ref tc), .val (.int 4), .val (.ref tb), .val (.int 4), .val (.int 4), .val (.int 4), .val (.int cc3)] []))
          exfalso
          rcases hU with q | q | q | q
          · exact absurd q hc2
          · exact absurd q hc6
          · exact absurd q hc11
          · exact absurd q hc16
theorem d7_0 : decode jdk_52_method_16_code 0 = .ok (.iload_n 2, 1) := by decide +kernel
theorem d7_1 : decode jdk_52_method_16_code 1 = .ok (.newarray .byte, 2) := by decide +kernel
theorem d7_3 : decode jdk_52_method_16_code 3 = .ok (.astore_n 3, 1) := by decide +kernel
theorem d7_4 : decode jdk_52_method_16_code 4 = .ok (.aload_n 0, 1) := by decide +kernel
theorem d7_5 : decode jdk_52_method_16_code 5 = .ok (.iload_n 1, 1) := by decide +kernel
theorem d7_6 : decode jdk_52_method_16_code 6 = .ok (.aload_n 3, 1) := by decide +kernel
theorem d7_7 : decode jdk_52_method_16_code 7 = .ok (.iconst 0, 1) := by decide +kernel
theorem d7_8 : decode jdk_52_method_16_code 8 = .ok (.iload_n 2, 1) := by decide +kernel
theorem d7_9 : decode jdk_52_method_16_code 9 = .ok (.invokestatic 115, 3) := by decide +kernel
theorem d7_12 : decode jdk_52_method_16_code 12 = .ok (.istore 4, 2) := by decide +kernel
theorem d7_14 : decode jdk_52_method_16_code 14 = .ok (.iload 4, 2) := by decide +kernel
theorem d7_16 : decode jdk_52_method_16_code 16 = .ok (.iload_n 2, 1) := by decide +kernel
theorem d7_17 : decode jdk_52_method_16_code 17 = .ok (.if_icmp .eq 40, 3) := by decide +kernel
theorem d7_20 : decode jdk_52_method_16_code 20 = .ok (.aload_n 0, 1) := by decide +kernel
theorem d7_21 : decode jdk_52_method_16_code 21 = .ok (.iload_n 1, 1) := by decide +kernel
theorem d7_22 : decode jdk_52_method_16_code 22 = .ok (.iload_n 2, 1) := by decide +kernel
theorem d7_23 : decode jdk_52_method_16_code 23 = .ok (.invokestatic 119, 3) := by decide +kernel
theorem d7_26 : decode jdk_52_method_16_code 26 = .ok (.astore 5, 2) := by decide +kernel
theorem d7_28 : decode jdk_52_method_16_code 28 = .ok (.aload 5, 2) := by decide +kernel
theorem d7_30 : decode jdk_52_method_16_code 30 = .ok (.iload 4, 2) := by decide +kernel
theorem d7_32 : decode jdk_52_method_16_code 32 = .ok (.invokestatic 71, 3) := by decide +kernel
theorem d7_35 : decode jdk_52_method_16_code 35 = .ok (.sipush 255, 3) := by decide +kernel
theorem d7_38 : decode jdk_52_method_16_code 38 = .ok (.if_icmp .gt 16, 3) := by decide +kernel
theorem d7_54 : decode jdk_52_method_16_code 54 = .ok (.aload 5, 2) := by decide +kernel
theorem d7_56 : decode jdk_52_method_16_code 56 = .ok (.areturn, 1) := by decide +kernel
theorem ef_c3_1 (m : MethodId) (tc : Addr) : entryFrame m #[(.ref tc), (.int 0), (.int 1)] 6 = mkF m 0 #[.val (.ref tc), .val (.int 0), .val (.int 1), .unset, .unset, .unset] [] := by first | (simp [entryFrame, mkF, argsToLocals, Value.category]; done) | rfl
def Q_c3_1 (Z : State) (tc : Addr) (kc : ClassId) (cc0 : Int32) (h0 : Heap) (n0 : Nat) (v : Option Value) (h : Heap) (L : List Loc) : Prop := (∃ t : Addr, ∃ k : ClassId, v = some (.ref t) ∧ Fr n0 L ∧ Keep h0 h [] ∧ Arv Z h t k .byte (Int32.ofNat (2 * ([cc0] : List Int32).length)) (own_us ([cc0] : List Int32)) (.int 0) ∧ (h0.size ≤ t))
set_option maxRecDepth 65536 in
set_option maxHeartbeats 40000000 in
theorem rm_c3_1 (l : Launch) (Z : State) (a0 : Array Value) (hw : ∀ d ∈ tables_1, d.before a0 Z = true) (ws : List Jvm.Cond) (tc : Addr) (kc : ClassId) (cc0 : Int32) (h0 : Heap) (n0 : Nat) (Z0 : n0 ≤ h0.size) (pf0 : Arv Z h0 tc kc .char (1 : Int32) [(.int cc0)] (.int 0)) (pf1 : Old Z n0 h0) (hcc0 : own_h cc0) (OA : Sta Z Z.heap "java/lang/StringUTF16" "$assertionsDisabled" "Z" (.int 1)) (OH : Sta Z Z.heap "java/lang/StringUTF16" "HI_BYTE_SHIFT" "I" (.int 0)) (OL : Sta Z Z.heap "java/lang/StringUTF16" "LO_BYTE_SHIFT" "I" (.int 8)) (hU : (255 : Int32) < cc0) :
    MetFree l (⟨"java/lang/StringUTF16", "compress", "([CII)[B"⟩ : MethodName) (head1 (Jvm.Cond.code (⟨"java/lang/StringUTF16", "compress", "([CII)[B"⟩ : MethodName) jdk_52_method_16_code 6 (some (.array .byte)) :: ws) ({ frames := 3, cells := 2, slots := 3, locals := 40 } : Room)) (fun aa U => aa = #[(.ref tc), (.int 0), (.int 1)] ∧ Z.Warmed39 U.vm ∧ U.heap = h0) (fun _ _ _ _ _ => True) (fun _ U o U' => ∃ v L, o = .returned v ∧ Q_c3_1 Z tc kc cc0 h0 n0 v U'.heap L ∧ FrameEnd U o U' L ({ frames := 3, cells := 2, slots := 3, locals := 40 } : Room).cells ({ frames := 3, cells := 2, slots := 3, locals := 40 } : Room).slots) := by
  refine MetFree.of_bodySF (plainFor_of_name pn_java_lang_StringUTF16) hisR ?_
  intro p e s m args below meth c s₁ Bd hml0 hP hK
  obtain ⟨rfl, hZ, hh⟩ := hP
  have hx := Bd.exec
  have hby := Bd.bytes
  have hlk : meth.locks = false := BodyLoose.notSynchronized Bd
  have hml : c.maxLocals = 6 := hml0
  have hown : s.vm.findClass "java/lang/StringUTF16" = some m.cls := findClass_of_methodNamed Bd.named
  have hnm := (name_of_methodNamed Bd.named Bd.method).1
  have X0 : Stand p l e ({ frames := 3, cells := 2, slots := 3, locals := 40 } : Room) s m #[(.ref tc), (.int 0), (.int 1)] below meth c s₁ [] 0 0 := Stand.of_body Bd
  have e0 : s₁.heap = h0 := by rw [← hh, Bd.state]; rfl
  have N0 := Fr.nil n0
  show Gl p.tables e below (EndN s (Q_c3_1 Z tc kc cc0 h0 n0) ({ frames := 3, cells := 2, slots := 3, locals := 40 } : Room).cells ({ frames := 3, cells := 2, slots := 3, locals := 40 } : Room).slots) _
  refine Gl.cast (ef_c3_1 m tc) ?_
  show Gl p.tables e below _ (s₁.setTop (mkF m 0 #[.val (.ref tc), .val (.int 0), .val (.int 1), .unset, .unset, .unset] []))
  refine Gl.st (fun _ kq => XS.iloadN X0.here hx rfl (hb hby d7_0) rfl kq) ?_
  show Gl p.tables e below _ (s₁.setTop (mkF m 1 #[.val (.ref tc), .val (.int 0), .val (.int 1), .unset, .unset, .unset] [(.int 1)]))
  obtain ⟨T1, h1, k1, X1, e1, E1, A1, st1⟩ := newP X0 hx hZ (tw hw 17 rfl) e0 (g := (mkF m 1 #[.val (.ref tc), .val (.int 0), .val (.int 1), .unset, .unset, .unset] [(.int 1)])) rfl (hb hby d7_1) rfl (by decide) (cap := 1) (by decide) (by decide) (by decide) (by decide)
  obtain ⟨b1, g1⟩ : ∃ z, z = h0.size := ⟨_, rfl⟩
  rw [← g1] at A1 st1
  refine Gl.st st1 ?_
  have g2 : n0 ≤ b1 := Nat.le_trans Z0 (Nat.le_of_eq g1.symm)
  have s3 : h0.size ≤ b1 := Nat.le_trans (Nat.le_refl _) (Nat.le_of_eq g1.symm)
  have V1 : Arv Z h1 b1 k1 .byte (1 : Int32) [(.int 0)] (.int 0) := (Arv.new A1 (by decide)).pad (pad_rep [] (.int 0) 1)
  show Gl p.tables e below _ (T1.setTop (mkF m 3 #[.val (.ref tc), .val (.int 0), .val (.int 1), .unset, .unset, .unset] [(.ref b1)]))
  refine Gl.st (fun _ kq => XS.astoreN X1.here hx rfl (hb hby d7_3) rfl rfl (l' := #[.val (.ref tc), .val (.int 0), .val (.int 1), .val (.ref b1), .unset, .unset]) rfl kq) ?_
  refine Gl.st (fun _ kq => XS.aloadN X1.here hx rfl (hb hby d7_4) rfl rfl kq) ?_
  refine Gl.st (fun _ kq => XS.iloadN X1.here hx rfl (hb hby d7_5) rfl kq) ?_
  refine Gl.st (fun _ kq => XS.aloadN X1.here hx rfl (hb hby d7_6) rfl rfl kq) ?_
  refine Gl.st (fun _ kq => XS.iconst X1.here hx rfl (hb hby d7_7) kq) ?_
  refine Gl.st (fun _ kq => XS.iloadN X1.here hx rfl (hb hby d7_8) rfl kq) ?_
  show Gl p.tables e below _ (T1.setTop (mkF m 9 #[.val (.ref tc), .val (.int 0), .val (.int 1), .val (.ref b1), .unset, .unset] [(.int 1), (.int 0), (.ref b1), (.int 0), (.ref tc)]))
  have f4 : Arv Z h1 tc kc .char (1 : Int32) [(.int cc0)] (.int 0) := (pf0.ext E1)
  have ne5 : tc ≠ b1 := Nat.ne_of_lt (Nat.lt_of_lt_of_le pf0.lt (Nat.le_of_eq g1.symm))
  obtain ⟨_, _, ⟨T6, L6, k6, n6⟩, -, X6, ⟨Lc6, hQ6, l6, y6, z6⟩, st6⟩ := Jvm.LawKit.callS X1 hx (y := (⟨"java/lang/StringUTF16", "compress", "([CI[BII)I"⟩ : MethodName)) hown (mvT hZ (tw hw 43 rfl)) (mvT hZ (tw hw 44 rfl)) (mvT hZ (tw hw 41 rfl)) (mvT hZ (tw hw 45 rfl)) (by decide) (backOf (W := 0) (rm_c5_1 l Z a0 hw [] (tc) (kc) (b1) (k1) (cc0) h1 n0 (Nat.le_trans Z0 E1.1) f4 V1 g2 ne5 hU) hZ (tw hw 45 rfl) (tw hw 41 rfl) (by decide) (by decide)) (g := (mkF m 9 #[.val (.ref tc), .val (.int 0), .val (.int 1), .val (.ref b1), .unset, .unset] [(.int 1), (.int 0), (.ref b1), (.int 0), (.ref tc)])) rfl (by rw [hml]; rfl) (argsL := [(.ref tc), (.int 0), (.ref b1), (.int 0), (.int 1)]) (rest := []) (lenOf pd___CI_BII_I rfl) rfl (by show 2 * 0 + _ ≤ _; exact Nat.le_of_eq rfl) (hb hby d7_9) (fun _ _ => ⟨rfl, e1, (by decide : 1 + 0 ≤ _), (by decide : 1 + 0 ≤ _)⟩)
  dsimp only [Pt.U, Pt.locs, Pt.cells, Pt.slots] at X6 l6 y6 z6 st6 hQ6
  subst l6 y6 z6
  obtain ⟨rfl, N6, K6, y6_0⟩ := hQ6
  have M6 := Fr.app N0 N6
  refine Gl.st st6 ?_
  show Gl p.tables e below _ (T6.setTop (mkF m 12 #[.val (.ref tc), .val (.int 0), .val (.int 1), .val (.ref b1), .unset, .unset] [(.int 0)]))
  show Gl p.tables e below _ (T6.setTop (mkF m 12 #[.val (.ref tc), .val (.int 0), .val (.int 1), .val (.ref b1), .unset, .unset] [(.int 0)]))
  refine Gl.st (fun _ kq => XS.istore X6.here hx rfl (hb hby d7_12) rfl (l' := #[.val (.ref tc), .val (.int 0), .val (.int 1), .val (.ref b1), .val (.int 0), .unset]) rfl kq) ?_
  refine Gl.st (fun _ kq => XS.iload X6.here hx rfl (hb hby d7_14) rfl kq) ?_
  refine Gl.st (fun _ kq => XS.iloadN X6.here hx rfl (hb hby d7_16) rfl kq) ?_
  show Gl p.tables e below _ (T6.setTop (mkF m 17 #[.val (.ref tc), .val (.int 0), .val (.int 1), .val (.ref b1), .val (.int 0), .unset] [(.int 1), (.int 0)]))
  refine Gl.st (fun _ kq => XS.icmpNo X6.here hx rfl (hb hby d7_17) rfl (feq ((by decide) : ¬ ((0 : Int32) = (1 : Int32)))).1 kq) ?_
  show Gl p.tables e below _ (T6.setTop (mkF m 20 #[.val (.ref tc), .val (.int 0), .val (.int 1), .val (.ref b1), .val (.int 0), .unset] []))
  refine Gl.st (fun _ kq => XS.aloadN X6.here hx rfl (hb hby d7_20) rfl rfl kq) ?_
  refine Gl.st (fun _ kq => XS.iloadN X6.here hx rfl (hb hby d7_21) rfl kq) ?_
  refine Gl.st (fun _ kq => XS.iloadN X6.here hx rfl (hb hby d7_22) rfl kq) ?_
  show Gl p.tables e below _ (T6.setTop (mkF m 23 #[.val (.ref tc), .val (.int 0), .val (.int 1), .val (.ref b1), .val (.int 0), .unset] [(.int 1), (.int 0), (.ref tc)]))
  have f7 : Arv Z T6.heap tc kc .char (1 : Int32) [(.int cc0)] (.int 0) := (f4.keep K6 (ninS ne5 nin0))
  have f8 : Old Z n0 T6.heap := ((pf1.ext E1).keep K6 (allS g2 all0))
  obtain ⟨_, _, ⟨T11, L11, k11, n11⟩, -, X11, ⟨Lc11, hQ11, l11, y11, z11⟩, st11⟩ := Jvm.LawKit.callS X6 hx (y := (⟨"java/lang/StringUTF16", "toBytes", "([CII)[B"⟩ : MethodName)) hown (mvT hZ (tw hw 75 rfl)) (mvT hZ (tw hw 76 rfl)) (mvT hZ (tw hw 41 rfl)) (mvT hZ (tw hw 77 rfl)) (by decide) (backOf (W := 0) (rm_tb1 l Z a0 hw [] (tc) (kc) (cc0) T6.heap n0 (Nat.le_trans (Nat.le_trans Z0 E1.1) K6.1) f7 f8 OA OH OL) hZ (tw hw 77 rfl) (tw hw 41 rfl) (by decide) (by decide)) (g := (mkF m 23 #[.val (.ref tc), .val (.int 0), .val (.int 1), .val (.ref b1), .val (.int 0), .unset] [(.int 1), (.int 0), (.ref tc)])) rfl (by rw [hml]; rfl) (argsL := [(.ref tc), (.int 0), (.int 1)]) (rest := []) (lenOf pd___CII__B rfl) rfl (by show 2 * 0 + _ ≤ _; exact Nat.le_of_eq rfl) (hb hby d7_23) (fun _ _ => ⟨rfl, rfl, (by decide : 1 + 1 ≤ _), (by decide : 1 + 2 ≤ _)⟩)
  dsimp only [Pt.U, Pt.locs, Pt.cells, Pt.slots] at X11 l11 y11 z11 st11 hQ11
  subst l11 y11 z11
  obtain ⟨v9, v10, rfl, N11, K11, q11_0, y11_0⟩ := hQ11
  have M11 := Fr.app M6 N11
  have g12 : n0 ≤ v9 := Nat.le_trans (Nat.le_trans (Nat.le_trans Z0 E1.1) K6.1) y11_0
  have s13 : h0.size ≤ v9 := Nat.le_trans (Nat.le_trans (Nat.le_trans (Nat.le_refl _) E1.1) K6.1) y11_0
  refine Gl.st st11 ?_
  show Gl p.tables e below _ (T11.setTop (mkF m 26 #[.val (.ref tc), .val (.int 0), .val (.int 1), .val (.ref b1), .val (.int 0), .unset] [(.ref v9)]))
  show Gl p.tables e below _ (T11.setTop (mkF m 26 #[.val (.ref tc), .val (.int 0), .val (.int 1), .val (.ref b1), .val (.int 0), .unset] [(.ref v9)]))
  refine Gl.st (fun _ kq => XS.astore X11.here hx rfl (hb hby d7_26) rfl rfl (l' := #[.val (.ref tc), .val (.int 0), .val (.int 1), .val (.ref b1), .val (.int 0), .val (.ref v9)]) rfl kq) ?_
  refine Gl.st (fun _ kq => XS.aload X11.here hx rfl (hb hby d7_28) rfl rfl kq) ?_
  refine Gl.st (fun _ kq => XS.iload X11.here hx rfl (hb hby d7_30) rfl kq) ?_
  show Gl p.tables e below _ (T11.setTop (mkF m 32 #[.val (.ref tc), .val (.int 0), .val (.int 1), .val (.ref b1), .val (.int 0), .val (.ref v9)] [(.int 0), (.ref v9)]))
  have f14 : Old Z n0 T11.heap := (f8.keep K11 all0)
  obtain ⟨_, _, ⟨T15, L15, k15, n15⟩, -, X15, ⟨Lc15, hQ15, l15, y15, z15⟩, st15⟩ := Jvm.LawKit.callS X11 hx (y := (⟨"java/lang/StringUTF16", "getChar", "([BI)C"⟩ : MethodName)) hown (mvT hZ (tw hw 91 rfl)) (mvT hZ (tw hw 92 rfl)) (mvT hZ (tw hw 41 rfl)) (mvT hZ (tw hw 93 rfl)) (by decide) (backOf (W := 0) (rm_gc l Z a0 hw [] (v9) (v10) (([cc0] : List Int32)) (0) T11.heap n0 (Nat.le_trans (Nat.le_trans (Nat.le_trans Z0 E1.1) K6.1) K11.1) q11_0 f14 (Nat.le_of_ble_eq_true rfl) (alcS hcc0 alc0) (Nat.le_of_ble_eq_true rfl) OA OH OL) hZ (tw hw 93 rfl) (tw hw 41 rfl) (by decide) (by decide)) (g := (mkF m 32 #[.val (.ref tc), .val (.int 0), .val (.int 1), .val (.ref b1), .val (.int 0), .val (.ref v9)] [(.int 0), (.ref v9)])) rfl (by rw [hml]; rfl) (argsL := [(.ref v9), (.int 0)]) (rest := []) (lenOf pd___BI_C rfl) rfl (by show 2 * 0 + _ ≤ _; exact Nat.le_of_eq rfl) (hb hby d7_32) (fun _ _ => ⟨rfl, rfl, (by decide : 2 + 0 ≤ _), (by decide : 3 + 0 ≤ _)⟩)
  dsimp only [Pt.U, Pt.locs, Pt.cells, Pt.slots] at X15 l15 y15 z15 st15 hQ15
  subst l15 y15 z15
  obtain ⟨rfl, N15, e15⟩ := hQ15
  have M15 := Fr.app M11 N15
  refine Gl.st st15 ?_
  show Gl p.tables e below _ (T15.setTop (mkF m 35 #[.val (.ref tc), .val (.int 0), .val (.int 1), .val (.ref b1), .val (.int 0), .val (.ref v9)] [(.int (([cc0] : List Int32).getD 0 0))]))
  show Gl p.tables e below _ (T15.setTop (mkF m 35 #[.val (.ref tc), .val (.int 0), .val (.int 1), .val (.ref b1), .val (.int 0), .val (.ref v9)] [(.int cc0)]))
  show Gl p.tables e below _ (T15.setTop (mkF m 35 #[.val (.ref tc), .val (.int 0), .val (.int 1), .val (.ref b1), .val (.int 0), .val (.ref v9)] [(.int cc0)]))
  refine Gl.st (fun _ kq => XS.sipush X15.here hx rfl (hb hby d7_35) kq) ?_
  show Gl p.tables e below _ (T15.setTop (mkF m 38 #[.val (.ref tc), .val (.int 0), .val (.int 1), .val (.ref b1), .val (.int 0), .val (.ref v9)] [(.int 255), (.int cc0)]))
  refine Gl.st (fun _ kq => XS.icmpYes X15.here hx rfl (pc0 := 38) (pc' := 54) rfl (hb hby d7_38) rfl (tlt (y6_0 : (255 : Int32) < cc0)).2.2.1 (by decide) (by decide) kq) ?_
  show Gl p.tables e below _ (T15.setTop (mkF m 54 #[.val (.ref tc), .val (.int 0), .val (.int 1), .val (.ref b1), .val (.int 0), .val (.ref v9)] []))
  refine Gl.st (fun _ kq => XS.aload X15.here hx rfl (hb hby d7_54) rfl rfl kq) ?_
  have K16 : Keep h0 T11.heap [] := ((((Keep.refl h0 []).ext E1).trans K6 (allS (Or.inr s3) all0)).trans K11 all0)
  exact Gl.retA X15 hx Bd.returns rfl rfl (hb hby d7_56) hlk (by decide) (by decide) (by rw [e15]; exact ⟨v9, v10, rfl, M15, K16, q11_0, s13⟩)
theorem d9_0 : decode jdk_52_method_15_code 0 = .ok (.iload_n 1, 1) := by decide +kernel
theorem d9_1 : decode jdk_52_method_15_code 1 = .ok (.aload_n 0, 1) := by decide +kernel
theorem d9_2 : decode jdk_52_method_15_code 2 = .ok (.arraylength, 1) := by decide +kernel
theorem d9_3 : decode jdk_52_method_15_code 3 = .ok (.isub, 1) := by decide +kernel
theorem d9_4 : decode jdk_52_method_15_code 4 = .ok (.bipush 31, 2) := by decide +kernel
theorem d9_6 : decode jdk_52_method_15_code 6 = .ok (.iushr, 1) := by decide +kernel
theorem d9_7 : decode jdk_52_method_15_code 7 = .ok (.i2b, 1) := by decide +kernel
theorem d9_8 : decode jdk_52_method_15_code 8 = .ok (.ireturn, 1) := by decide +kernel
theorem ef_cfa1 (m : MethodId) (t : Addr) : entryFrame m #[(.ref t), (.int 1)] 2 = mkF m 0 #[.val (.ref t), .val (.int 1)] [] := by first | (simp [entryFrame, mkF, argsToLocals, Value.category]; done) | rfl
def Q_cfa1 (Z : State) (t : Addr) (k : ClassId) (cc0 : Int32) (h0 : Heap) (n0 : Nat) (v : Option Value) (h : Heap) (L : List Loc) : Prop := (v = some (.int 1) ∧ Fr n0 L ∧ h = h0)
set_option maxRecDepth 65536 in
set_option maxHeartbeats 40000000 in
theorem rm_cfa1 (l : Launch) (Z : State) (a0 : Array Value) (hw : ∀ d ∈ tables_1, d.before a0 Z = true) (ws : List Jvm.Cond) (t : Addr) (k : ClassId) (cc0 : Int32) (h0 : Heap) (n0 : Nat) (Z0 : n0 ≤ h0.size) (pf0 : Arv Z h0 t k .byte (Int32.ofNat (2 * ([cc0] : List Int32).length)) (own_us ([cc0] : List Int32)) (.int 0)) :
    MetFree l (⟨"java/lang/StringUTF16", "coderFromArrayLen", "([BI)B"⟩ : MethodName) (head1 (Jvm.Cond.code (⟨"java/lang/StringUTF16", "coderFromArrayLen", "([BI)B"⟩ : MethodName) jdk_52_method_15_code 2 (some .byte) :: ws) ({ frames := 0, cells := 0, slots := 0, locals := 0 } : Room)) (fun aa U => aa = #[(.ref t), (.int 1)] ∧ Z.Warmed39 U.vm ∧ U.heap = h0) (fun _ _ _ _ _ => True) (fun _ U o U' => ∃ v L, o = .returned v ∧ Q_cfa1 Z t k cc0 h0 n0 v U'.heap L ∧ FrameEnd U o U' L ({ frames := 0, cells := 0, slots := 0, locals := 0 } : Room).cells ({ frames := 0, cells := 0, slots := 0, locals := 0 } : Room).slots) := by
  refine MetFree.of_bodySF (plainFor_of_name pn_java_lang_StringUTF16) hisR ?_
  intro p e s m args below meth c s₁ Bd hml0 hP hK
  obtain ⟨rfl, hZ, hh⟩ := hP
  have hx := Bd.exec
  have hby := Bd.bytes
  have hlk : meth.locks = false := BodyLoose.notSynchronized Bd
  have hml : c.maxLocals = 2 := hml0
  have hown : s.vm.findClass "java/lang/StringUTF16" = some m.cls := findClass_of_methodNamed Bd.named
  have hnm := (name_of_methodNamed Bd.named Bd.method).1
  have X0 : Stand p l e ({ frames := 0, cells := 0, slots := 0, locals := 0 } : Room) s m #[(.ref t), (.int 1)] below meth c s₁ [] 0 0 := Stand.of_body Bd
  have e0 : s₁.heap = h0 := by rw [← hh, Bd.state]; rfl
  have N0 := Fr.nil n0
  show Gl p.tables e below (EndN s (Q_cfa1 Z t k cc0 h0 n0) ({ frames := 0, cells := 0, slots := 0, locals := 0 } : Room).cells ({ frames := 0, cells := 0, slots := 0, locals := 0 } : Room).slots) _
  refine Gl.cast (ef_cfa1 m t) ?_
  show Gl p.tables e below _ (s₁.setTop (mkF m 0 #[.val (.ref t), .val (.int 1)] []))
  refine Gl.st (fun _ kq => XS.iloadN X0.here hx rfl (hb hby d9_0) rfl kq) ?_
  refine Gl.st (fun _ kq => XS.aloadN X0.here hx rfl (hb hby d9_1) rfl rfl kq) ?_
  show Gl p.tables e below _ (s₁.setTop (mkF m 2 #[.val (.ref t), .val (.int 1)] [(.ref t), (.int 1)]))
  obtain ⟨c1, a1, q1, S1, M1, H1, G1⟩ := id pf0
  refine Gl.st (fun _ kq => X0.arraylength hx (by rw [e0]; exact a1.1) (State.isArrayOf_alike hZ.alike a1.2.1) (g := (mkF m 2 #[.val (.ref t), .val (.int 1)] [(.ref t), (.int 1)])) rfl rfl (hb hby d9_2) _ kq) ?_
  rw [len_of S1 M1]
  show Gl p.tables e below _ (s₁.setTop (mkF m 3 #[.val (.ref t), .val (.int 1)] [(.int (Int32.ofNat (2 * ([cc0] : List Int32).length))), (.int 1)]))
  show Gl p.tables e below _ (s₁.setTop (mkF m 3 #[.val (.ref t), .val (.int 1)] [(.int 2), (.int 1)]))
  refine Gl.st (fun _ kq => XS.isub X0.here hx rfl (hb hby d9_3) rfl kq) ?_
  refine Gl.st (fun _ kq => XS.bipush X0.here hx rfl (hb hby d9_4) kq) ?_
  refine Gl.st (fun _ kq => XS.iushr X0.here hx rfl (hb hby d9_6) rfl kq) ?_
  refine Gl.st (fun _ kq => XS.i2b X0.here hx rfl (hb hby d9_7) rfl kq) ?_
  exact Gl.retN X0 hx (t := .byte) Bd.returns (by simp) (hb hby d9_8) hlk (by decide) (by decide) (by rw [e0]; exact ⟨rfl, N0, rfl⟩)
theorem ef_c3_2 (m : MethodId) (tc : Addr) : entryFrame m #[(.ref tc), (.int 0), (.int 2)] 6 = mkF m 0 #[.val (.ref tc), .val (.int 0), .val (.int 2), .unset, .unset, .unset] [] := by first | (simp [entryFrame, mkF, argsToLocals, Value.category]; done) | rfl
def Q_c3_2 (Z : State) (tc : Addr) (kc : ClassId) (cc0 : Int32) (cc1 : Int32) (h0 : Heap) (n0 : Nat) (v : Option Value) (h : Heap) (L : List Loc) : Prop := (∃ t : Addr, ∃ k : ClassId, v = some (.ref t) ∧ Fr n0 L ∧ Keep h0 h [] ∧ Arv Z h t k .byte (Int32.ofNat (2 * ([cc0, cc1] : List Int32).length)) (own_us ([cc0, cc1] : List Int32)) (.int 0) ∧ (h0.size ≤ t))
set_option maxRecDepth 65536 in
set_option maxHeartbeats 40000000 in
theorem rm_c3_2 (l : Launch) (Z : State) (a0 : Array Value) (hw : ∀ d ∈ tables_1, d.before a0 Z = true) (ws : List Jvm.Cond) (tc : Addr) (kc : ClassId) (cc0 : Int32) (cc1 : Int32) (h0 : Heap) (n0 : Nat) (Z0 : n0 ≤ h0.size) (pf0 : Arv Z h0 tc kc .char (2 : Int32) [(.int cc0), (.int cc1)] (.int 0)) (pf1 : Old Z n0 h0) (hcc0 : own_h cc0) (hcc1 : own_h cc1) (OA : Sta Z Z.heap "java/lang/StringUTF16" "$assertionsDisabled" "Z" (.int 1)) (OH : Sta Z Z.heap "java/lang/StringUTF16" "HI_BYTE_SHIFT" "I" (.int 0)) (OL : Sta Z Z.heap "java/lang/StringUTF16" "LO_BYTE_SHIFT" "I" (.int 8)) (hU : (255 : Int32) < cc0 ∨ (255 : Int32) < cc1) :
    MetFree l (⟨"java/lang/StringUTF16", "compress", "([CII)[B"⟩ : MethodName) (head1 (Jvm.Cond.code (⟨"java/lang/StringUTF16", "compress", "([CII)[B"⟩ : MethodName) jdk_52_method_16_code 6 (some (.array .byte)) :: ws) ({ frames := 3, cells := 2, slots := 6, locals := 40 } : Room)) (fun aa U => aa = #[(.ref tc), (.int 0), (.int 2)] ∧ Z.Warmed39 U.vm ∧ U.heap = h0) (fun _ _ _ _ _ => True) (fun _ U o U' => ∃ v L, o = .returned v ∧ Q_c3_2 Z tc kc cc0 cc1 h0 n0 v U'.heap L ∧ FrameEnd U o U' L ({ frames := 3, cells := 2, slots := 6, locals := 40 } : Room).cells ({ frames := 3, cells := 2, slots := 6, locals := 40 } : Room).slots) := by
  refine MetFree.of_bodySF (plainFor_of_name pn_java_lang_StringUTF16) hisR ?_
  intro p e s m args below meth c s₁ Bd hml0 hP hK
  obtain ⟨rfl, hZ, hh⟩ := hP
  have hx := Bd.exec
  have hby := Bd.bytes
  have hlk : meth.locks = false := BodyLoose.notSynchronized Bd
  have hml : c.maxLocals = 6 := hml0
  have hown : s.vm.findClass "java/lang/StringUTF16" = some m.cls := findClass_of_methodNamed Bd.named
  have hnm := (name_of_methodNamed Bd.named Bd.method).1
  have X0 : Stand p l e ({ frames := 3, cells := 2, slots := 6, locals := 40 } : Room) s m #[(.ref tc), (.int 0), (.int 2)] below meth c s₁ [] 0 0 := Stand.of_body Bd
  have e0 : s₁.heap = h0 := by rw [← hh, Bd.state]; rfl
  have N0 := Fr.nil n0
  show Gl p.tables e below (EndN s (Q_c3_2 Z tc kc cc0 cc1 h0 n0) ({ frames := 3, cells := 2, slots := 6, locals := 40 } : Room).cells ({ frames := 3, cells := 2, slots := 6, locals := 40 } : Room).slots) _
  refine Gl.cast (ef_c3_2 m tc) ?_
  show Gl p.tables e below _ (s₁.setTop (mkF m 0 #[.val (.ref tc), .val (.int 0), .val (.int 2), .unset, .unset, .unset] []))
  refine Gl.st (fun _ kq => XS.iloadN X0.here hx rfl (hb hby d7_0) rfl kq) ?_
  show Gl p.tables e below _ (s₁.setTop (mkF m 1 #[.val (.ref tc), .val (.int 0), .val (.int 2), .unset, .unset, .unset] [(.int 2)]))
  obtain ⟨T1, h1, k1, X1, e1, E1, A1, st1⟩ := newP X0 hx hZ (tw hw 17 rfl) e0 (g := (mkF m 1 #[.val (.ref tc), .val (.int 0), .val (.int 2), .unset, .unset, .unset] [(.int 2)])) rfl (hb hby d7_1) rfl (by decide) (cap := 2) (by decide) (by decide) (by decide) (by decide)
  obtain ⟨b1, g1⟩ : ∃ z, z = h0.size := ⟨_, rfl⟩
  rw [← g1] at A1 st1
  refine Gl.st st1 ?_
  have g2 : n0 ≤ b1 := Nat.le_trans Z0 (Nat.le_of_eq g1.symm)
  have s3 : h0.size ≤ b1 := Nat.le_trans (Nat.le_refl _) (Nat.le_of_eq g1.symm)
  have V1 : Arv Z h1 b1 k1 .byte (2 : Int32) [(.int 0), (.int 0)] (.int 0) := (Arv.new A1 (by decide)).pad (pad_rep [] (.int 0) 2)
  show Gl p.tables e below _ (T1.setTop (mkF m 3 #[.val (.ref tc), .val (.int 0), .val (.int 2), .unset, .unset, .unset] [(.ref b1)]))
  refine Gl.st (fun _ kq => XS.astoreN X1.here hx rfl (hb hby d7_3) rfl rfl (l' := #[.val (.ref tc), .val (.int 0), .val (.int 2), .val (.ref b1), .unset, .unset]) rfl kq) ?_
  refine Gl.st (fun _ kq => XS.aloadN X1.here hx rfl (hb hby d7_4) rfl rfl kq) ?_
  refine Gl.st (fun _ kq => XS.iloadN X1.here hx rfl (hb hby d7_5) rfl kq) ?_
  refine Gl.st (fun _ kq => XS.aloadN X1.here hx rfl (hb hby d7_6) rfl rfl kq) ?_
  refine Gl.st (fun _ kq => XS.iconst X1.here hx rfl (hb hby d7_7) kq) ?_
  refine Gl.st (fun _ kq => XS.iloadN X1.here hx rfl (hb hby d7_8) rfl kq) ?_
  show Gl p.tables e below _ (T1.setTop (mkF m 9 #[.val (.ref tc), .val (.int 0), .val (.int 2), .val (.ref b1), .unset, .unset] [(.int 2), (.int 0), (.ref b1), (.int 0), (.ref tc)]))
  have f4 : Arv Z h1 tc kc .char (2 : Int32) [(.int cc0), (.int cc1)] (.int 0) := (pf0.ext E1)
  have ne5 : tc ≠ b1 := Nat.ne_of_lt (Nat.lt_of_lt_of_le pf0.lt (Nat.le_of_eq g1.symm))
  obtain ⟨_, _, ⟨T6, L6, k6, n6⟩, -, X6, ⟨Lc6, hQ6, l6, y6, z6⟩, st6⟩ := Jvm.LawKit.callS X1 hx (y := (⟨"java/lang/StringUTF16", "compress", "([CI[BII)I"⟩ : MethodName)) hown (mvT hZ (tw hw 43 rfl)) (mvT hZ (tw hw 44 rfl)) (mvT hZ (tw hw 41 rfl)) (mvT hZ (tw hw 45 rfl)) (by decide) (backOf (W := 0) (rm_c5_2 l Z a0 hw [] (tc) (kc) (b1) (k1) (cc0) (cc1) h1 n0 (Nat.le_trans Z0 E1.1) f4 V1 g2 ne5 hU) hZ (tw hw 45 rfl) (tw hw 41 rfl) (by decide) (by decide)) (g := (mkF m 9 #[.val (.ref tc), .val (.int 0), .val (.int 2), .val (.ref b1), .unset, .unset] [(.int 2), (.int 0), (.ref b1), (.int 0), (.ref tc)])) rfl (by rw [hml]; rfl) (argsL := [(.ref tc), (.int 0), (.ref b1), (.int 0), (.int 2)]) (rest := []) (lenOf pd___CI_BII_I rfl) rfl (by show 2 * 0 + _ ≤ _; exact Nat.le_of_eq rfl) (hb hby d7_9) (fun _ _ => ⟨rfl, e1, (by decide : 1 + 0 ≤ _), (by decide : 2 + 0 ≤ _)⟩)
  dsimp only [Pt.U, Pt.locs, Pt.cells, Pt.slots] at X6 l6 y6 z6 st6 hQ6
  subst l6 y6 z6
  rcases hQ6 with ⟨rfl, N6, K6, y6_0⟩ | ⟨rfl, N6, K6, y6_0⟩
  · have M6 := Fr.app N0 N6
    refine Gl.st st6 ?_
    show Gl p.tables e below _ (T6.setTop (mkF m 12 #[.val (.ref tc), .val (.int 0), .val (.int 2), .val (.ref b1), .unset, .unset] [(.int 0)]))
    refine Gl.st (fun _ kq => XS.istore X6.here hx rfl (hb hby d7_12) rfl (l' := #[.val (.ref tc), .val (.int 0), .val (.int 2), .val (.ref b1), .val (.int 0), .unset]) rfl kq) ?_
    refine Gl.st (fun _ kq => XS.iload X6.here hx rfl (hb hby d7_14) rfl kq) ?_
    refine Gl.st (fun _ kq => XS.iloadN X6.here hx rfl (hb hby d7_16) rfl kq) ?_
    show Gl p.tables e below _ (T6.setTop (mkF m 17 #[.val (.ref tc), .val (.int 0), .val (.int 2), .val (.ref b1), .val (.int 0), .unset] [(.int 2), (.int 0)]))
    refine Gl.st (fun _ kq => XS.icmpNo X6.here hx rfl (hb hby d7_17) rfl (feq ((by decide) : ¬ ((0 : Int32) = (2 : Int32)))).1 kq) ?_
    show Gl p.tables e below _ (T6.setTop (mkF m 20 #[.val (.ref tc), .val (.int 0), .val (.int 2), .val (.ref b1), .val (.int 0), .unset] []))
    refine Gl.st (fun _ kq => XS.aloadN X6.here hx rfl (hb hby d7_20) rfl rfl kq) ?_
    refine Gl.st (fun _ kq => XS.iloadN X6.here hx rfl (hb hby d7_21) rfl kq) ?_
    refine Gl.st (fun _ kq => XS.iloadN X6.here hx rfl (hb hby d7_22) rfl kq) ?_
    show Gl p.tables e below _ (T6.setTop (mkF m 23 #[.val (.ref tc), .val (.int 0), .val (.int 2), .val (.ref b1), .val (.int 0), .unset] [(.int 2), (.int 0), (.ref tc)]))
    have f7 : Arv Z T6.heap tc kc .char (2 : Int32) [(.int cc0), (.int cc1)] (.int 0) := (f4.keep K6 (ninS ne5 nin0))
    have f8 : Old Z n0 T6.heap := ((pf1.ext E1).keep K6 (allS g2 all0))
    obtain ⟨_, _, ⟨T11, L11, k11, n11⟩, -, X11, ⟨Lc11, hQ11, l11, y11, z11⟩, st11⟩ := Jvm.LawKit.callS X6 hx (y := (⟨"java/lang/StringUTF16", "toBytes", "([CII)[B"⟩ : MethodName)) hown (mvT hZ (tw hw 75 rfl)) (mvT hZ (tw hw 76 rfl)) (mvT hZ (tw hw 41 rfl)) (mvT hZ (tw hw 77 rfl)) (by decide) (backOf (W := 0) (rm_tb2 l Z a0 hw [] (tc) (kc) (cc0) (cc1) T6.heap n0 (Nat.le_trans (Nat.le_trans Z0 E1.1) K6.1) f7 f8 OA OH OL) hZ (tw hw 77 rfl) (tw hw 41 rfl) (by decide) (by decide)) (g := (mkF m 23 #[.val (.ref tc), .val (.int 0), .val (.int 2), .val (.ref b1), .val (.int 0), .unset] [(.int 2), (.int 0), (.ref tc)])) rfl (by rw [hml]; rfl) (argsL := [(.ref tc), (.int 0), (.int 2)]) (rest := []) (lenOf pd___CII__B rfl) rfl (by show 2 * 0 + _ ≤ _; exact Nat.le_of_eq rfl) (hb hby d7_23) (fun _ _ => ⟨rfl, rfl, (by decide : 1 + 1 ≤ _), (by decide : 2 + 4 ≤ _)⟩)
    dsimp only [Pt.U, Pt.locs, Pt.cells, Pt.slots] at X11 l11 y11 z11 st11 hQ11
    subst l11 y11 z11
    obtain ⟨v9, v10, rfl, N11, K11, q11_0, y11_0⟩ := hQ11
    have M11 := Fr.app M6 N11
    have g12 : n0 ≤ v9 := Nat.le_trans (Nat.le_trans (Nat.le_trans Z0 E1.1) K6.1) y11_0
    have s13 : h0.size ≤ v9 := Nat.le_trans (Nat.le_trans (Nat.le_trans (Nat.le_refl _) E1.1) K6.1) y11_0
    refine Gl.st st11 ?_
    show Gl p.tables e below _ (T11.setTop (mkF m 26 #[.val (.ref tc), .val (.int 0), .val (.int 2), .val (.ref b1), .val (.int 0), .unset] [(.ref v9)]))
    show Gl p.tables e below _ (T11.setTop (mkF m 26 #[.val (.ref tc), .val (.int 0), .val (.int 2), .val (.ref b1), .val (.int 0), .unset] [(.ref v9)]))
    refine Gl.st (fun _ kq => XS.astore X11.here hx rfl (hb hby d7_26) rfl rfl (l' := #[.val (.ref tc), .val (.int 0), .val (.int 2), .val (.ref b1), .val (.int 0), .val (.ref v9)]) rfl kq) ?_
    refine Gl.st (fun _ kq => XS.aload X11.here hx rfl (hb hby d7_28) rfl rfl kq) ?_
    refine Gl.st (fun _ kq => XS.iload X11.here hx rfl (hb hby d7_30) rfl kq) ?_
    show Gl p.tables e below _ (T11.setTop (mkF m 32 #[.val (.ref tc), .val (.int 0), .val (.int 2), .val (.ref b1), .val (.int 0), .val (.ref v9)] [(.int 0), (.ref v9)]))
    have f14 : Old Z n0 T11.heap := (f8.keep K11 all0)
    obtain ⟨_, _, ⟨T15, L15, k15, n15⟩, -, X15, ⟨Lc15, hQ15, l15, y15, z15⟩, st15⟩ := Jvm.LawKit.callS X11 hx (y := (⟨"java/lang/StringUTF16", "getChar", "([BI)C"⟩ : MethodName)) hown (mvT hZ (tw hw 91 rfl)) (mvT hZ (tw hw 92 rfl)) (mvT hZ (tw hw 41 rfl)) (mvT hZ (tw hw 93 rfl)) (by decide) (backOf (W := 0) (rm_gc l Z a0 hw [] (v9) (v10) (([cc0, cc1] : List Int32)) (0) T11.heap n0 (Nat.le_trans (Nat.le_trans (Nat.le_trans Z0 E1.1) K6.1) K11.1) q11_0 f14 (Nat.le_of_ble_eq_true rfl) (alcS hcc0 (alcS hcc1 alc0)) (Nat.le_of_ble_eq_true rfl) OA OH OL) hZ (tw hw 93 rfl) (tw hw 41 rfl) (by decide) (by decide)) (g := (mkF m 32 #[.val (.ref tc), .val (.int 0), .val (.int 2), .val (.ref b1), .val (.int 0), .val (.ref v9)] [(.int 0), (.ref v9)])) rfl (by rw [hml]; rfl) (argsL := [(.ref v9), (.int 0)]) (rest := []) (lenOf pd___BI_C rfl) rfl (by show 2 * 0 + _ ≤ _; exact Nat.le_of_eq rfl) (hb hby d7_32) (fun _ _ => ⟨rfl, rfl, (by decide : 2 + 0 ≤ _), (by decide : 6 + 0 ≤ _)⟩)
    dsimp only [Pt.U, Pt.locs, Pt.cells, Pt.slots] at X15 l15 y15 z15 st15 hQ15
    subst l15 y15 z15
    obtain ⟨rfl, N15, e15⟩ := hQ15
    have M15 := Fr.app M11 N15
    refine Gl.st st15 ?_
    show Gl p.tables e below _ (T15.setTop (mkF m 35 #[.val (.ref tc), .val (.int 0), .val (.int 2), .val (.ref b1), .val (.int 0), .val (.ref v9)] [(.int (([cc0, cc1] : List Int32).getD 0 0))]))
    show Gl p.tables e below _ (T15.setTop (mkF m 35 #[.val (.ref tc), .val (.int 0), .val (.int 2), .val (.ref b1), .val (.int 0), .val (.ref v9)] [(.int cc0)]))
    show Gl p.tables e below _ (T15.setTop (mkF m 35 #[.val (.ref tc), .val (.int 0), .val (.int 2), .val (.ref b1), .val (.int 0), .val (.ref v9)] [(.int cc0)]))
    refine Gl.st (fun _ kq => XS.sipush X15.here hx rfl (hb hby d7_35) kq) ?_
    show Gl p.tables e below _ (T15.setTop (mkF m 38 #[.val (.ref tc), .val (.int 0), .val (.int 2), .val (.ref b1), .val (.int 0), .val (.ref v9)] [(.int 255), (.int cc0)]))
    refine Gl.st (fun _ kq => XS.icmpYes X15.here hx rfl (pc0 := 38) (pc' := 54) rfl (hb hby d7_38) rfl (tlt (y6_0 : (255 : Int32) < cc0)).2.2.1 (by decide) (by decide) kq) ?_
    show Gl p.tables e below _ (T15.setTop (mkF m 54 #[.val (.ref tc), .val (.int 0), .val (.int 2), .val (.ref b1), .val (.int 0), .val (.ref v9)] []))
    refine Gl.st (fun _ kq => XS.aload X15.here hx rfl (hb hby d7_54) rfl rfl kq) ?_
    have K16 : Keep h0 T11.heap [] := ((((Keep.refl h0 []).ext E1).trans K6 (allS (Or.inr s3) all0)).trans K11 all0)
    exact Gl.retA X15 hx Bd.returns rfl rfl (hb hby d7_56) hlk (by decide) (by decide) (by rw [e15]; exact ⟨v9, v10, rfl, M15, K16, q11_0, s13⟩)
  · have M6 := Fr.app N0 N6
    refine Gl.st st6 ?_
    show Gl p.tables e below _ (T6.setTop (mkF m 12 #[.val (.ref tc), .val (.int 0), .val (.int 2), .val (.ref b1), .unset, .unset] [(.int 1)]))
    refine Gl.st (fun _ kq => XS.istore X6.here hx rfl (hb hby d7_12) rfl (l' := #[.val (.ref tc), .val (.int 0), .val (.int 2), .val (.ref b1), .val (.int 1), .unset]) rfl kq) ?_
    refine Gl.st (fun _ kq => XS.iload X6.here hx rfl (hb hby d7_14) rfl kq) ?_
    refine Gl.st (fun _ kq => XS.iloadN X6.here hx rfl (hb hby d7_16) rfl kq) ?_
    show Gl p.tables e below _ (T6.setTop (mkF m 17 #[.val (.ref tc), .val (.int 0), .val (.int 2), .val (.ref b1), .val (.int 1), .unset] [(.int 2), (.int 1)]))
    refine Gl.st (fun _ kq => XS.icmpNo X6.here hx rfl (hb hby d7_17) rfl (feq ((by decide) : ¬ ((1 : Int32) = (2 : Int32)))).1 kq) ?_
    show Gl p.tables e below _ (T6.setTop (mkF m 20 #[.val (.ref tc), .val (.int 0), .val (.int 2), .val (.ref b1), .val (.int 1), .unset] []))
    refine Gl.st (fun _ kq => XS.aloadN X6.here hx rfl (hb hby d7_20) rfl rfl kq) ?_
    refine Gl.st (fun _ kq => XS.iloadN X6.here hx rfl (hb hby d7_21) rfl kq) ?_
    refine Gl.st (fun _ kq => XS.iloadN X6.here hx rfl (hb hby d7_22) rfl kq) ?_
    show Gl p.tables e below _ (T6.setTop (mkF m 23 #[.val (.ref tc), .val (.int 0), .val (.int 2), .val (.ref b1), .val (.int 1), .unset] [(.int 2), (.int 0), (.ref tc)]))
    have f17 : Arv Z T6.heap tc kc .char (2 : Int32) [(.int cc0), (.int cc1)] (.int 0) := (f4.keep K6 (ninS ne5 nin0))
    have f18 : Old Z n0 T6.heap := ((pf1.ext E1).keep K6 (allS g2 all0))
    obtain ⟨_, _, ⟨T21, L21, k21, n21⟩, -, X21, ⟨Lc21, hQ21, l21, y21, z21⟩, st21⟩ := Jvm.LawKit.callS X6 hx (y := (⟨"java/lang/StringUTF16", "toBytes", "([CII)[B"⟩ : MethodName)) hown (mvT hZ (tw hw 75 rfl)) (mvT hZ (tw hw 76 rfl)) (mvT hZ (tw hw 41 rfl)) (mvT hZ (tw hw 77 rfl)) (by decide) (backOf (W := 0) (rm_tb2 l Z a0 hw [] (tc) (kc) (cc0) (cc1) T6.heap n0 (Nat.le_trans (Nat.le_trans Z0 E1.1) K6.1) f17 f18 OA OH OL) hZ (tw hw 77 rfl) (tw hw 41 rfl) (by decide) (by decide)) (g := (mkF m 23 #[.val (.ref tc), .val (.int 0), .val (.int 2), .val (.ref b1), .val (.int 1), .unset] [(.int 2), (.int 0), (.ref tc)])) rfl (by rw [hml]; rfl) (argsL := [(.ref tc), (.int 0), (.int 2)]) (rest := []) (lenOf pd___CII__B rfl) rfl (by show 2 * 0 + _ ≤ _; exact Nat.le_of_eq rfl) (hb hby d7_23) (fun _ _ => ⟨rfl, rfl, (by decide : 1 + 1 ≤ _), (by decide : 2 + 4 ≤ _)⟩)
    dsimp only [Pt.U, Pt.locs, Pt.cells, Pt.slots] at X21 l21 y21 z21 st21 hQ21
    subst l21 y21 z21
    obtain ⟨v19, v20, rfl, N21, K21, q21_0, y21_0⟩ := hQ21
    have M21 := Fr.app M6 N21
    have g22 : n0 ≤ v19 := Nat.le_trans (Nat.le_trans (Nat.le_trans Z0 E1.1) K6.1) y21_0
    have s23 : h0.size ≤ v19 := Nat.le_trans (Nat.le_trans (Nat.le_trans (Nat.le_refl _) E1.1) K6.1) y21_0
    refine Gl.st st21 ?_
    show Gl p.tables e below _ (T21.setTop (mkF m 26 #[.val (.ref tc), .val (.int 0), .val (.int 2), .val (.ref b1), .val (.int 1), .unset] [(.ref v19)]))
    show Gl p.tables e below _ (T21.setTop (mkF m 26 #[.val (.ref tc), .val (.int 0), .val (.int 2), .val (.ref b1), .val (.int 1), .unset] [(.ref v19)]))
    refine Gl.st (fun _ kq => XS.astore X21.here hx rfl (hb hby d7_26) rfl rfl (l' := #[.val (.ref tc), .val (.int 0), .val (.int 2), .val (.ref b1), .val (.int 1), .val (.ref v19)]) rfl kq) ?_
    refine Gl.st (fun _ kq => XS.aload X21.here hx rfl (hb hby d7_28) rfl rfl kq) ?_
    refine Gl.st (fun _ kq => XS.iload X21.here hx rfl (hb hby d7_30) rfl kq) ?_
    show Gl p.tables e below _ (T21.setTop (mkF m 32 #[.val (.ref tc), .val (.int 0), .val (.int 2), .val (.ref b1), .val (.int 1), .val (.ref v19)] [(.int 1), (.ref v19)]))
    have f24 : Old Z n0 T21.heap := (f18.keep K21 all0)
    obtain ⟨_, _, ⟨T25, L25, k25, n25⟩, -, X25, ⟨Lc25, hQ25, l25, y25, z25⟩, st25⟩ := Jvm.LawKit.callS X21 hx (y := (⟨"java/lang/StringUTF16", "getChar", "([BI)C"⟩ : MethodName)) hown (mvT hZ (tw hw 91 rfl)) (mvT hZ (tw hw 92 rfl)) (mvT hZ (tw hw 41 rfl)) (mvT hZ (tw hw 93 rfl)) (by decide) (backOf (W := 0) (rm_gc l Z a0 hw [] (v19) (v20) (([cc0, cc1] : List Int32)) (1) T21.heap n0 (Nat.le_trans (Nat.le_trans (Nat.le_trans Z0 E1.1) K6.1) K21.1) q21_0 f24 (Nat.le_of_ble_eq_true rfl) (alcS hcc0 (alcS hcc1 alc0)) (Nat.le_of_ble_eq_true rfl) OA OH OL) hZ (tw hw 93 rfl) (tw hw 41 rfl) (by decide) (by decide)) (g := (mkF m 32 #[.val (.ref tc), .val (.int 0), .val (.int 2), .val (.ref b1), .val (.int 1), .val (.ref v19)] [(.int 1), (.ref v19)])) rfl (by rw [hml]; rfl) (argsL := [(.ref v19), (.int 1)]) (rest := []) (lenOf pd___BI_C rfl) rfl (by show 2 * 0 + _ ≤ _; exact Nat.le_of_eq rfl) (hb hby d7_32) (fun _ _ => ⟨rfl, rfl, (by decide : 2 + 0 ≤ _), (by decide : 6 + 0 ≤ _)⟩)
    dsimp only [Pt.U, Pt.locs, Pt.cells, Pt.slots] at X25 l25 y25 z25 st25 hQ25
    subst l25 y25 z25
    obtain ⟨rfl, N25, e25⟩ := hQ25
    have M25 := Fr.app M21 N25
    refine Gl.st st25 ?_
    show Gl p.tables e below _ (T25.setTop (mkF m 35 #[.val (.ref tc), .val (.int 0), .val (.int 2), .val (.ref b1), .val (.int 1), .val (.ref v19)] [(.int (([cc0, cc1] : List Int32).getD 1 0))]))
    show Gl p.tables e below _ (T25.setTop (mkF m 35 #[.val (.ref tc), .val (.int 0), .val (.int 2), .val (.ref b1), .val (.int 1), .val (.ref v19)] [(.int cc1)]))
    show Gl p.tables e below _ (T25.setTop (mkF m 35 #[.val (.ref tc), .val (.int 0), .val (.int 2), .val (.ref b1), .val (.int 1), .val (.ref v19)] [(.int cc1)]))
    refine Gl.st (fun _ kq => XS.sipush X25.here hx rfl (hb hby d7_35) kq) ?_
    show Gl p.tables e below _ (T25.setTop (mkF m 38 #[.val (.ref tc), .val (.int 0), .val (.int 2), .val (.ref b1), .val (.int 1), .val (.ref v19)] [(.int 255), (.int cc1)]))
    refine Gl.st (fun _ kq => XS.icmpYes X25.here hx rfl (pc0 := 38) (pc' := 54) rfl (hb hby d7_38) rfl (tlt (y6_0 : (255 : Int32) < cc1)).2.2.1 (by decide) (by decide) kq) ?_
    show Gl p.tables e below _ (T25.setTop (mkF m 54 #[.val (.ref tc), .val (.int 0), .val (.int 2), .val (.ref b1), .val (.int 1), .val (.ref v19)] []))
    refine Gl.st (fun _ kq => XS.aload X25.here hx rfl (hb hby d7_54) rfl rfl kq) ?_
    have K26 : Keep h0 T21.heap [] := ((((Keep.refl h0 []).ext E1).trans K6 (allS (Or.inr s3) all0)).trans K21 all0)
    exact Gl.retA X25 hx Bd.returns rfl rfl (hb hby d7_56) hlk (by decide) (by decide) (by rw [e25]; exact ⟨v19, v20, rfl, M25, K26, q21_0, s23⟩)
theorem ef_cfa2 (m : MethodId) (t : Addr) : entryFrame m #[(.ref t), (.int 2)] 2 = mkF m 0 #[.val (.ref t), .val (.int 2)] [] := by first | (simp [entryFrame, mkF, argsToLocals, Value.category]; done) | rfl
def Q_cfa2 (Z : State) (t : Addr) (k : ClassId) (cc0 : Int32) (cc1 : Int32) (h0 : Heap) (n0 : Nat) (v : Option Value) (h : Heap) (L : List Loc) : Prop := (v = some (.int 1) ∧ Fr n0 L ∧ h = h0)
set_option maxRecDepth 65536 in
set_option maxHeartbeats 40000000 in
theorem rm_cfa2 (l : Launch) (Z : State) (a0 : Array Value) (hw : ∀ d ∈ tables_1, d.before a0 Z = true) (ws : List Jvm.Cond) (t : Addr) (k : ClassId) (cc0 : Int32) (cc1 : Int32) (h0 : Heap) (n0 : Nat) (Z0 : n0 ≤ h0.size) (pf0 : Arv Z h0 t k .byte (Int32.ofNat (2 * ([cc0, cc1] : List Int32).length)) (own_us ([cc0, cc1] : List Int32)) (.int 0)) :
    MetFree l (⟨"java/lang/StringUTF16", "coderFromArrayLen", "([BI)B"⟩ : MethodName) (head1 (Jvm.Cond.code (⟨"java/lang/StringUTF16", "coderFromArrayLen", "([BI)B"⟩ : MethodName) jdk_52_method_15_code 2 (some .byte) :: ws) ({ frames := 0, cells := 0, slots := 0, locals := 0 } : Room)) (fun aa U => aa = #[(.ref t), (.int 2)] ∧ Z.Warmed39 U.vm ∧ U.heap = h0) (fun _ _ _ _ _ => True) (fun _ U o U' => ∃ v L, o = .returned v ∧ Q_cfa2 Z t k cc0 cc1 h0 n0 v U'.heap L ∧ FrameEnd U o U' L ({ frames := 0, cells := 0, slots := 0, locals := 0 } : Room).cells ({ frames := 0, cells := 0, slots := 0, locals := 0 } : Room).slots) := by
  refine MetFree.of_bodySF (plainFor_of_name pn_java_lang_StringUTF16) hisR ?_
  intro p e s m args below meth c s₁ Bd hml0 hP hK
  obtain ⟨rfl, hZ, hh⟩ := hP
  have hx := Bd.exec
  have hby := Bd.bytes
  have hlk : meth.locks = false := BodyLoose.notSynchronized Bd
  have hml : c.maxLocals = 2 := hml0
  have hown : s.vm.findClass "java/lang/StringUTF16" = some m.cls := findClass_of_methodNamed Bd.named
  have hnm := (name_of_methodNamed Bd.named Bd.method).1
  have X0 : Stand p l e ({ frames := 0, cells := 0, slots := 0, locals := 0 } : Room) s m #[(.ref t), (.int 2)] below meth c s₁ [] 0 0 := Stand.of_body Bd
  have e0 : s₁.heap = h0 := by rw [← hh, Bd.state]; rfl
  have N0 := Fr.nil n0
  show Gl p.tables e below (EndN s (Q_cfa2 Z t k cc0 cc1 h0 n0) ({ frames := 0, cells := 0, slots := 0, locals := 0 } : Room).cells ({ frames := 0, cells := 0, slots := 0, locals := 0 } : Room).slots) _
  refine Gl.cast (ef_cfa2 m t) ?_
  show Gl p.tables e below _ (s₁.setTop (mkF m 0 #[.val (.ref t), .val (.int 2)] []))
  refine Gl.st (fun _ kq => XS.iloadN X0.here hx rfl (hb hby d9_0) rfl kq) ?_
  refine Gl.st (fun _ kq => XS.aloadN X0.here hx rfl (hb hby d9_1) rfl rfl kq) ?_
  show Gl p.tables e below _ (s₁.setTop (mkF m 2 #[.val (.ref t), .val (.int 2)] [(.ref t), (.int 2)]))
  obtain ⟨c1, a1, q1, S1, M1, H1, G1⟩ := id pf0
  refine Gl.st (fun _ kq => X0.arraylength hx (by rw [e0]; exact a1.1) (State.isArrayOf_alike hZ.alike a1.2.1) (g := (mkF m 2 #[.val (.ref t), .val (.int 2)] [(.ref t), (.int 2)])) rfl rfl (hb hby d9_2) _ kq) ?_
  rw [len_of S1 M1]
  show Gl p.tables e below _ (s₁.setTop (mkF m 3 #[.val (.ref t), .val (.int 2)] [(.int (Int32.ofNat (2 * ([cc0, cc1] : List Int32).length))), (.int 2)]))
  show Gl p.tables e below _ (s₁.setTop (mkF m 3 #[.val (.ref t), .val (.int 2)] [(.int 4), (.int 2)]))
  refine Gl.st (fun _ kq => XS.isub X0.here hx rfl (hb hby d9_3) rfl kq) ?_
  refine Gl.st (fun _ kq => XS.bipush X0.here hx rfl (hb hby d9_4) kq) ?_
  refine Gl.st (fun _ kq => XS.iushr X0.here hx rfl (hb hby d9_6) rfl kq) ?_
  refine Gl.st (fun _ kq => XS.i2b X0.here hx rfl (hb hby d9_7) rfl kq) ?_
  exact Gl.retN X0 hx (t := .byte) Bd.returns (by simp) (hb hby d9_8) hlk (by decide) (by decide) (by rw [e0]; exact ⟨rfl, N0, rfl⟩)
theorem ef_c3_3 (m : MethodId) (tc : Addr) : entryFrame m #[(.ref tc), (.int 0), (.int 3)] 6 = mkF m 0 #[.val (.ref tc), .val (.int 0), .val (.int 3), .unset, .unset, .unset] [] := by first | (simp [entryFrame, mkF, argsToLocals, Value.category]; done) | rfl
def Q_c3_3 (Z : State) (tc : Addr) (kc : ClassId) (cc0 : Int32) (cc1 : Int32) (cc2 : Int32) (h0 : Heap) (n0 : Nat) (v : Option Value) (h : Heap) (L : List Loc) : Prop := (∃ t : Addr, ∃ k : ClassId, v = some (.ref t) ∧ Fr n0 L ∧ Keep h0 h [] ∧ Arv Z h t k .byte (Int32.ofNat (2 * ([cc0, cc1, cc2] : List Int32).length)) (own_us ([cc0, cc1, cc2] : List Int32)) (.int 0) ∧ (h0.size ≤ t))
set_option maxRecDepth 65536 in
set_option maxHeartbeats 40000000 in
theorem rm_c3_3 (l : Launch) (Z : State) (a0 : Array Value) (hw : ∀ d ∈ tables_1, d.before a0 Z = true) (ws : List Jvm.Cond) (tc : Addr) (kc : ClassId) (cc0 : Int32) (cc1 : Int32) (cc2 : Int32) (h0 : Heap) (n0 : Nat) (Z0 : n0 ≤ h0.size) (pf0 : Arv Z h0 tc kc .char (3 : Int32) [(.int cc0), (.int cc1), (.int cc2)] (.int 0)) (pf1 : Old Z n0 h0) (hcc0 : own_h cc0) (hcc1 : own_h cc1) (hcc2 : own_h cc2) (OA : Sta Z Z.heap "java/lang/StringUTF16" "$assertionsDisabled" "Z" (.int 1)) (OH : Sta Z Z.heap "java/lang/StringUTF16" "HI_BYTE_SHIFT" "I" (.int 0)) (OL : Sta Z Z.heap "java/lang/StringUTF16" "LO_BYTE_SHIFT" "I" (.int 8)) (hU : (255 : Int32) < cc0 ∨ (255 : Int32) < cc1 ∨ (255 : Int32) < cc2) :
    MetFree l (⟨"java/lang/StringUTF16", "compress", "([CII)[B"⟩ : MethodName) (head1 (Jvm.Cond.code (⟨"java/lang/StringUTF16", "compress", "([CII)[B"⟩ : MethodName) jdk_52_method_16_code 6 (some (.array .byte)) :: ws) ({ frames := 3, cells := 2, slots := 9, locals := 40 } : Room)) (fun aa U => aa = #[(.ref tc), (.int 0), (.int 3)] ∧ Z.Warmed39 U.vm ∧ U.heap = h0) (fun _ _ _ _ _ => True) (fun _ U o U' => ∃ v L, o = .returned v ∧ Q_c3_3 Z tc kc cc0 cc1 cc2 h0 n0 v U'.heap L ∧ FrameEnd U o U' L ({ frames := 3, cells := 2, slots := 9, locals := 40 } : Room).cells ({ frames := 3, cells := 2, slots := 9, locals := 40 } : Room).slots) := by
  refine MetFree.of_bodySF (plainFor_of_name pn_java_lang_StringUTF16) hisR ?_
  intro p e s m args below meth c s₁ Bd hml0 hP hK
  obtain ⟨rfl, hZ, hh⟩ := hP
  have hx := Bd.exec
  have hby := Bd.bytes
  have hlk : meth.locks = false := BodyLoose.notSynchronized Bd
  have hml : c.maxLocals = 6 := hml0
  have hown : s.vm.findClass "java/lang/StringUTF16" = some m.cls := findClass_of_methodNamed Bd.named
  have hnm := (name_of_methodNamed Bd.named Bd.method).1
  have X0 : Stand p l e ({ frames := 3, cells := 2, slots := 9, locals := 40 } : Room) s m #[(.ref tc), (.int 0), (.int 3)] below meth c s₁ [] 0 0 := Stand.of_body Bd
  have e0 : s₁.heap = h0 := by rw [← hh, Bd.state]; rfl
  have N0 := Fr.nil n0
  show Gl p.tables e below (EndN s (Q_c3_3 Z tc kc cc0 cc1 cc2 h0 n0) ({ frames := 3, cells := 2, slots := 9, locals := 40 } : Room).cells ({ frames := 3, cells := 2, slots := 9, locals := 40 } : Room).slots) _
  refine Gl.cast (ef_c3_3 m tc) ?_
  show Gl p.tables e below _ (s₁.setTop (mkF m 0 #[.val (.ref tc), .val (.int 0), .val (.int 3), .unset, .unset, .unset] []))
  refine Gl.st (fun _ kq => XS.iloadN X0.here hx rfl (hb hby d7_0) rfl kq) ?_
  show Gl p.tables e below _ (s₁.setTop (mkF m 1 #[.val (.ref tc), .val (.int 0), .val (.int 3), .unset, .unset, .unset] [(.int 3)]))
  obtain ⟨T1, h1, k1, X1, e1, E1, A1, st1⟩ := newP X0 hx hZ (tw hw 17 rfl) e0 (g := (mkF m 1 #[.val (.ref tc), .val (.int 0), .val (.int 3), .unset, .unset, .unset] [(.int 3)])) rfl (hb hby d7_1) rfl (by decide) (cap := 3) (by decide) (by decide) (by decide) (by decide)
  obtain ⟨b1, g1⟩ : ∃ z, z = h0.size := ⟨_, rfl⟩
  rw [← g1] at A1 st1
  refine Gl.st st1 ?_
  have g2 : n0 ≤ b1 := Nat.le_trans Z0 (Nat.le_of_eq g1.symm)
  have s3 : h0.size ≤ b1 := Nat.le_trans (Nat.le_refl _) (Nat.le_of_eq g1.symm)
  have V1 : Arv Z h1 b1 k1 .byte (3 : Int32) [(.int 0), (.int 0), (.int 0)] (.int 0) := (Arv.new A1 (by decide)).pad (pad_rep [] (.int 0) 3)
  show Gl p.tables e below _ (T1.setTop (mkF m 3 #[.val (.ref tc), .val (.int 0), .val (.int 3), .unset, .unset, .unset] [(.ref b1)]))
  refine Gl.st (fun _ kq => XS.astoreN X1.here hx rfl (hb hby d7_3) rfl rfl (l' := #[.val (.ref tc), .val (.int 0), .val (.int 3), .val (.ref b1), .unset, .unset]) rfl kq) ?_
  refine Gl.st (fun _ kq => XS.aloadN X1.here hx rfl (hb hby d7_4) rfl rfl kq) ?_
  refine Gl.st (fun _ kq => XS.iloadN X1.here hx rfl (hb hby d7_5) rfl kq) ?_
  refine Gl.st (fun _ kq => XS.aloadN X1.here hx rfl (hb hby d7_6) rfl rfl kq) ?_
  refine Gl.st (fun _ kq => XS.iconst X1.here hx rfl (hb hby d7_7) kq) ?_
  refine Gl.st (fun _ kq => XS.iloadN X1.here hx rfl (hb hby d7_8) rfl kq) ?_
  show Gl p.tables e below _ (T1.setTop (mkF m 9 #[.val (.ref tc), .val (.int 0), .val (.int 3), .val (.ref b1), .unset, .unset] [(.int 3), (.int 0), (.ref b1), (.int 0), (.ref tc)]))
  have f4 : Arv Z h1 tc kc .char (3 : Int32) [(.int cc0), (.int cc1), (.int cc2)] (.int 0) := (pf0.ext E1)
  have ne5 : tc ≠ b1 := Nat.ne_of_lt (Nat.lt_of_lt_of_le pf0.lt (Nat.le_of_eq g1.symm))
  obtain ⟨_, _, ⟨T6, L6, k6, n6⟩, -, X6, ⟨Lc6, hQ6, l6, y6, z6⟩, st6⟩ := Jvm.LawKit.callS X1 hx (y := (⟨"java/lang/StringUTF16", "compress", "([CI[BII)I"⟩ : MethodName)) hown (mvT hZ (tw hw 43 rfl)) (mvT hZ (tw hw 44 rfl)) (mvT hZ (tw hw 41 rfl)) (mvT hZ (tw hw 45 rfl)) (by decide) (backOf (W := 0) (rm_c5_3 l Z a0 hw [] (tc) (kc) (b1) (k1) (cc0) (cc1) (cc2) h1 n0 (Nat.le_trans Z0 E1.1) f4 V1 g2 ne5 hU) hZ (tw hw 45 rfl) (tw hw 41 rfl) (by decide) (by decide)) (g := (mkF m 9 #[.val (.ref tc), .val (.int 0), .val (.int 3), .val (.ref b1), .unset, .unset] [(.int 3), (.int 0), (.ref b1), (.int 0), (.ref tc)])) rfl (by rw [hml]; rfl) (argsL := [(.ref tc), (.int 0), (.ref b1), (.int 0), (.int 3)]) (rest := []) (lenOf pd___CI_BII_I rfl) rfl (by show 2 * 0 + _ ≤ _; exact Nat.le_of_eq rfl) (hb hby d7_9) (fun _ _ => ⟨rfl, e1, (by decide : 1 + 0 ≤ _), (by decide : 3 + 0 ≤ _)⟩)
  dsimp only [Pt.U, Pt.locs, Pt.cells, Pt.slots] at X6 l6 y6 z6 st6 hQ6
  subst l6 y6 z6
  rcases hQ6 with ⟨rfl, N6, K6, y6_0⟩ | ⟨rfl, N6, K6, y6_0⟩ | ⟨rfl, N6, K6, y6_0⟩
  · have M6 := Fr.app N0 N6
    refine Gl.st st6 ?_
    show Gl p.tables e below _ (T6.setTop (mkF m 12 #[.val (.ref tc), .val (.int 0), .val (.int 3), .val (.ref b1), .unset, .unset] [(.int 0)]))
    refine Gl.st (fun _ kq => XS.istore X6.here hx rfl (hb hby d7_12) rfl (l' := #[.val (.ref tc), .val (.int 0), .val (.int 3), .val (.ref b1), .val (.int 0), .unset]) rfl kq) ?_
    refine Gl.st (fun _ kq => XS.iload X6.here hx rfl (hb hby d7_14) rfl kq) ?_
    refine Gl.st (fun _ kq => XS.iloadN X6.here hx rfl (hb hby d7_16) rfl kq) ?_
    show Gl p.tables e below _ (T6.setTop (mkF m 17 #[.val (.ref tc), .val (.int 0), .val (.int 3), .val (.ref b1), .val (.int 0), .unset] [(.int 3), (.int 0)]))
    refine Gl.st (fun _ kq => XS.icmpNo X6.here hx rfl (hb hby d7_17) rfl (feq ((by decide) : ¬ ((0 : Int32) = (3 : Int32)))).1 kq) ?_
    show Gl p.tables e below _ (T6.setTop (mkF m 20 #[.val (.ref tc), .val (.int 0), .val (.int 3), .val (.ref b1), .val (.int 0), .unset] []))
    refine Gl.st (fun _ kq => XS.aloadN X6.here hx rfl (hb hby d7_20) rfl rfl kq) ?_
    refine Gl.st (fun _ kq => XS.iloadN X6.here hx rfl (hb hby d7_21) rfl kq) ?_
    refine Gl.st (fun _ kq => XS.iloadN X6.here hx rfl (hb hby d7_22) rfl kq) ?_
    show Gl p.tables e below _ (T6.setTop (mkF m 23 #[.val (.ref tc), .val (.int 0), .val (.int 3), .val (.ref b1), .val (.int 0), .unset] [(.int 3), (.int 0), (.ref tc)]))
    have f7 : Arv Z T6.heap tc kc .char (3 : Int32) [(.int cc0), (.int cc1), (.int cc2)] (.int 0) := (f4.keep K6 (ninS ne5 nin0))
    have f8 : Old Z n0 T6.heap := ((pf1.ext E1).keep K6 (allS g2 all0))
    obtain ⟨_, _, ⟨T11, L11, k11, n11⟩, -, X11, ⟨Lc11, hQ11, l11, y11, z11⟩, st11⟩ := Jvm.LawKit.callS X6 hx (y := (⟨"java/lang/StringUTF16", "toBytes", "([CII)[B"⟩ : MethodName)) hown (mvT hZ (tw hw 75 rfl)) (mvT hZ (tw hw 76 rfl)) (mvT hZ (tw hw 41 rfl)) (mvT hZ (tw hw 77 rfl)) (by decide) (backOf (W := 0) (rm_tb3 l Z a0 hw [] (tc) (kc) (cc0) (cc1) (cc2) T6.heap n0 (Nat.le_trans (Nat.le_trans Z0 E1.1) K6.1) f7 f8 OA OH OL) hZ (tw hw 77 rfl) (tw hw 41 rfl) (by decide) (by decide)) (g := (mkF m 23 #[.val (.ref tc), .val (.int 0), .val (.int 3), .val (.ref b1), .val (.int 0), .unset] [(.int 3), (.int 0), (.ref tc)])) rfl (by rw [hml]; rfl) (argsL := [(.ref tc), (.int 0), (.int 3)]) (rest := []) (lenOf pd___CII__B rfl) rfl (by show 2 * 0 + _ ≤ _; exact Nat.le_of_eq rfl) (hb hby d7_23) (fun _ _ => ⟨rfl, rfl, (by decide : 1 + 1 ≤ _), (by decide : 3 + 6 ≤ _)⟩)
    dsimp only [Pt.U, Pt.locs, Pt.cells, Pt.slots] at X11 l11 y11 z11 st11 hQ11
    subst l11 y11 z11
    obtain ⟨v9, v10, rfl, N11, K11, q11_0, y11_0⟩ := hQ11
    have M11 := Fr.app M6 N11
    have g12 : n0 ≤ v9 := Nat.le_trans (Nat.le_trans (Nat.le_trans Z0 E1.1) K6.1) y11_0
    have s13 : h0.size ≤ v9 := Nat.le_trans (Nat.le_trans (Nat.le_trans (Nat.le_refl _) E1.1) K6.1) y11_0
    refine Gl.st st11 ?_
    show Gl p.tables e below _ (T11.setTop (mkF m 26 #[.val (.ref tc), .val (.int 0), .val (.int 3), .val (.ref b1), .val (.int 0), .unset] [(.ref v9)]))
    show Gl p.tables e below _ (T11.setTop (mkF m 26 #[.val (.ref tc), .val (.int 0), .val (.int 3), .val (.ref b1), .val (.int 0), .unset] [(.ref v9)]))
    refine Gl.st (fun _ kq => XS.astore X11.here hx rfl (hb hby d7_26) rfl rfl (l' := #[.val (.ref tc), .val (.int 0), .val (.int 3), .val (.ref b1), .val (.int 0), .val (.ref v9)]) rfl kq) ?_
    refine Gl.st (fun _ kq => XS.aload X11.here hx rfl (hb hby d7_28) rfl rfl kq) ?_
    refine Gl.st (fun _ kq => XS.iload X11.here hx rfl (hb hby d7_30) rfl kq) ?_
    show Gl p.tables e below _ (T11.setTop (mkF m 32 #[.val (.ref tc), .val (.int 0), .val (.int 3), .val (.ref b1), .val (.int 0), .val (.ref v9)] [(.int 0), (.ref v9)]))
    have f14 : Old Z n0 T11.heap := (f8.keep K11 all0)
    obtain ⟨_, _, ⟨T15, L15, k15, n15⟩, -, X15, ⟨Lc15, hQ15, l15, y15, z15⟩, st15⟩ := Jvm.LawKit.callS X11 hx (y := (⟨"java/lang/StringUTF16", "getChar", "([BI)C"⟩ : MethodName)) hown (mvT hZ (tw hw 91 rfl)) (mvT hZ (tw hw 92 rfl)) (mvT hZ (tw hw 41 rfl)) (mvT hZ (tw hw 93 rfl)) (by decide) (backOf (W := 0) (rm_gc l Z a0 hw [] (v9) (v10) (([cc0, cc1, cc2] : List Int32)) (0) T11.heap n0 (Nat.le_trans (Nat.le_trans (Nat.le_trans Z0 E1.1) K6.1) K11.1) q11_0 f14 (Nat.le_of_ble_eq_true rfl) (alcS hcc0 (alcS hcc1 (alcS hcc2 alc0))) (Nat.le_of_ble_eq_true rfl) OA OH OL) hZ (tw hw 93 rfl) (tw hw 41 rfl) (by decide) (by decide)) (g := (mkF m 32 #[.val (.ref tc), .val (.int 0), .val (.int 3), .val (.ref b1), .val (.int 0), .val (.ref v9)] [(.int 0), (.ref v9)])) rfl (by rw [hml]; rfl) (argsL := [(.ref v9), (.int 0)]) (rest := []) (lenOf pd___BI_C rfl) rfl (by show 2 * 0 + _ ≤ _; exact Nat.le_of_eq rfl) (hb hby d7_32) (fun _ _ => ⟨rfl, rfl, (by decide : 2 + 0 ≤ _), (by decide : 9 + 0 ≤ _)⟩)
    dsimp only [Pt.U, Pt.locs, Pt.cells, Pt.slots] at X15 l15 y15 z15 st15 hQ15
    subst l15 y15 z15
    obtain ⟨rfl, N15, e15⟩ := hQ15
    have M15 := Fr.app M11 N15
    refine Gl.st st15 ?_
    show Gl p.tables e below _ (T15.setTop (mkF m 35 #[.val (.ref tc), .val (.int 0), .val (.int 3), .val (.ref b1), .val (.int 0), .val (.ref v9)] [(.int (([cc0, cc1, cc2] : List Int32).getD 0 0))]))
    show Gl p.tables e below _ (T15.setTop (mkF m 35 #[.val (.ref tc), .val (.int 0), .val (.int 3), .val (.ref b1), .val (.int 0), .val (.ref v9)] [(.int cc0)]))
    show Gl p.tables e below _ (T15.setTop (mkF m 35 #[.val (.ref tc), .val (.int 0), .val (.int 3), .val (.ref b1), .val (.int 0), .val (.ref v9)] [(.int cc0)]))
    refine Gl.st (fun _ kq => XS.sipush X15.here hx rfl (hb hby d7_35) kq) ?_
    show Gl p.tables e below _ (T15.setTop (mkF m 38 #[.val (.ref tc), .val (.int 0), .val (.int 3), .val (.ref b1), .val (.int 0), .val (.ref v9)] [(.int 255), (.int cc0)]))
    refine Gl.st (fun _ kq => XS.icmpYes X15.here hx rfl (pc0 := 38) (pc' := 54) rfl (hb hby d7_38) rfl (tlt (y6_0 : (255 : Int32) < cc0)).2.2.1 (by decide) (by decide) kq) ?_
    show Gl p.tables e below _ (T15.setTop (mkF m 54 #[.val (.ref tc), .val (.int 0), .val (.int 3), .val (.ref b1), .val (.int 0), .val (.ref v9)] []))
    refine Gl.st (fun _ kq => XS.aload X15.here hx rfl (hb hby d7_54) rfl rfl kq) ?_
    have K16 : Keep h0 T11.heap [] := ((((Keep.refl h0 []).ext E1).trans K6 (allS (Or.inr s3) all0)).trans K11 all0)
    exact Gl.retA X15 hx Bd.returns rfl rfl (hb hby d7_56) hlk (by decide) (by decide) (by rw [e15]; exact ⟨v9, v10, rfl, M15, K16, q11_0, s13⟩)
  · have M6 := Fr.app N0 N6
    refine Gl.st st6 ?_
    show Gl p.tables e below _ (T6.setTop (mkF m 12 #[.val (.ref tc), .val (.int 0), .val (.int 3), .val (.ref b1), .unset, .unset] [(.int 1)]))
    refine Gl.st (fun _ kq => XS.istore X6.here hx rfl (hb hby d7_12) rfl (l' := #[.val (.ref tc), .val (.int 0), .val (.int 3), .val (.ref b1), .val (.int 1), .unset]) rfl kq) ?_
    refine Gl.st (fun _ kq => XS.iload X6.here hx rfl (hb hby d7_14) rfl kq) ?_
    refine Gl.st (fun _ kq => XS.iloadN X6.here hx rfl (hb hby d7_16) rfl kq) ?_
    show Gl p.tables e below _ (T6.setTop (mkF m 17 #[.val (.ref tc), .val (.int 0), .val (.int 3), .val (.ref b1), .val (.int 1), .unset] [(.int 3), (.int 1)]))
    refine Gl.st (fun _ kq => XS.icmpNo X6.here hx rfl (hb hby d7_17) rfl (feq ((by decide) : ¬ ((1 : Int32) = (3 : Int32)))).1 kq) ?_
    show Gl p.tables e below _ (T6.setTop (mkF m 20 #[.val (.ref tc), .val (.int 0), .val (.int 3), .val (.ref b1), .val (.int 1), .unset] []))
    refine Gl.st (fun _ kq => XS.aloadN X6.here hx rfl (hb hby d7_20) rfl rfl kq) ?_
    refine Gl.st (fun _ kq => XS.iloadN X6.here hx rfl (hb hby d7_21) rfl kq) ?_
    refine Gl.st (fun _ kq => XS.iloadN X6.here hx rfl (hb hby d7_22) rfl kq) ?_
    show Gl p.tables e below _ (T6.setTop (mkF m 23 #[.val (.ref tc), .val (.int 0), .val (.int 3), .val (.ref b1), .val (.int 1), .unset] [(.int 3), (.int 0), (.ref tc)]))
    have f17 : Arv Z T6.heap tc kc .char (3 : Int32) [(.int cc0), (.int cc1), (.int cc2)] (.int 0) := (f4.keep K6 (ninS ne5 nin0))
    have f18 : Old Z n0 T6.heap := ((pf1.ext E1).keep K6 (allS g2 all0))
    obtain ⟨_, _, ⟨T21, L21, k21, n21⟩, -, X21, ⟨Lc21, hQ21, l21, y21, z21⟩, st21⟩ := Jvm.LawKit.callS X6 hx (y := (⟨"java/lang/StringUTF16", "toBytes", "([CII)[B"⟩ : MethodName)) hown (mvT hZ (tw hw 75 rfl)) (mvT hZ (tw hw 76 rfl)) (mvT hZ (tw hw 41 rfl)) (mvT hZ (tw hw 77 rfl)) (by decide) (backOf (W := 0) (rm_tb3 l Z a0 hw [] (tc) (kc) (cc0) (cc1) (cc2) T6.heap n0 (Nat.le_trans (Nat.le_trans Z0 E1.1) K6.1) f17 f18 OA OH OL) hZ (tw hw 77 rfl) (tw hw 41 rfl) (by decide) (by decide)) (g := (mkF m 23 #[.val (.ref tc), .val (.int 0), .val (.int 3), .val (.ref b1), .val (.int 1), .unset] [(.int 3), (.int 0), (.ref tc)])) rfl (by rw [hml]; rfl) (argsL := [(.ref tc), (.int 0), (.int 3)]) (rest := []) (lenOf pd___CII__B rfl) rfl (by show 2 * 0 + _ ≤ _; exact Nat.le_of_eq rfl) (hb hby d7_23) (fun _ _ => ⟨rfl, rfl, (by decide : 1 + 1 ≤ _), (by decide : 3 + 6 ≤ _)⟩)
    dsimp only [Pt.U, Pt.locs, Pt.cells, Pt.slots] at X21 l21 y21 z21 st21 hQ21
    subst l21 y21 z21
    obtain ⟨v19, v20, rfl, N21, K21, q21_0, y21_0⟩ := hQ21
    have M21 := Fr.app M6 N21
    have g22 : n0 ≤ v19 := Nat.le_trans (Nat.le_trans (Nat.le_trans Z0 E1.1) K6.1) y21_0
    have s23 : h0.size ≤ v19 := Nat.le_trans (Nat.le_trans (Nat.le_trans (Nat.le_refl _) E1.1) K6.1) y21_0
    refine Gl.st st21 ?_
    show Gl p.tables e below _ (T21.setTop (mkF m 26 #[.val (.ref tc), .val (.int 0), .val (.int 3), .val (.ref b1), .val (.int 1), .unset] [(.ref v19)]))
    show Gl p.tables e below _ (T21.setTop (mkF m 26 #[.val (.ref tc), .val (.int 0), .val (.int 3), .val (.ref b1), .val (.int 1), .unset] [(.ref v19)]))
    refine Gl.st (fun _ kq => XS.astore X21.here hx rfl (hb hby d7_26) rfl rfl (l' := #[.val (.ref tc), .val (.int 0), .val (.int 3), .val (.ref b1), .val (.int 1), .val (.ref v19)]) rfl kq) ?_
    refine Gl.st (fun _ kq => XS.aload X21.here hx rfl (hb hby d7_28) rfl rfl kq) ?_
    refine Gl.st (fun _ kq => XS.iload X21.here hx rfl (hb hby d7_30) rfl kq) ?_
    show Gl p.tables e below _ (T21.setTop (mkF m 32 #[.val (.ref tc), .val (.int 0), .val (.int 3), .val (.ref b1), .val (.int 1), .val (.ref v19)] [(.int 1), (.ref v19)]))
    have f24 : Old Z n0 T21.heap := (f18.keep K21 all0)
    obtain ⟨_, _, ⟨T25, L25, k25, n25⟩, -, X25, ⟨Lc25, hQ25, l25, y25, z25⟩, st25⟩ := Jvm.LawKit.callS X21 hx (y := (⟨"java/lang/StringUTF16", "getChar", "([BI)C"⟩ : MethodName)) hown (mvT hZ (tw hw 91 rfl)) (mvT hZ (tw hw 92 rfl)) (mvT hZ (tw hw 41 rfl)) (mvT hZ (tw hw 93 rfl)) (by decide) (backOf (W := 0) (rm_gc l Z a0 hw [] (v19) (v20) (([cc0, cc1, cc2] : List Int32)) (1) T21.heap n0 (Nat.le_trans (Nat.le_trans (Nat.le_trans Z0 E1.1) K6.1) K21.1) q21_0 f24 (Nat.le_of_ble_eq_true rfl) (alcS hcc0 (alcS hcc1 (alcS hcc2 alc0))) (Nat.le_of_ble_eq_true rfl) OA OH OL) hZ (tw hw 93 rfl) (tw hw 41 rfl) (by decide) (by decide)) (g := (mkF m 32 #[.val (.ref tc), .val (.int 0), .val (.int 3), .val (.ref b1), .val (.int 1), .val (.ref v19)] [(.int 1), (.ref v19)])) rfl (by rw [hml]; rfl) (argsL := [(.ref v19), (.int 1)]) (rest := []) (lenOf pd___BI_C rfl) rfl (by show 2 * 0 + _ ≤ _; exact Nat.le_of_eq rfl) (hb hby d7_32) (fun _ _ => ⟨rfl, rfl, (by decide : 2 + 0 ≤ _), (by decide : 9 + 0 ≤ _)⟩)
    dsimp only [Pt.U, Pt.locs, Pt.cells, Pt.slots] at X25 l25 y25 z25 st25 hQ25
    subst l25 y25 z25
    obtain ⟨rfl, N25, e25⟩ := hQ25
    have M25 := Fr.app M21 N25
    refine Gl.st st25 ?_
    show Gl p.tables e below _ (T25.setTop (mkF m 35 #[.val (.ref tc), .val (.int 0), .val (.int 3), .val (.ref b1), .val (.int 1), .val (.ref v19)] [(.int (([cc0, cc1, cc2] : List Int32).getD 1 0))]))
    show Gl p.tables e below _ (T25.setTop (mkF m 35 #[.val (.ref tc), .val (.int 0), .val (.int 3), .val (.ref b1), .val (.int 1), .val (.ref v19)] [(.int cc1)]))
    show Gl p.tables e below _ (T25.setTop (mkF m 35 #[.val (.ref tc), .val (.int 0), .val (.int 3), .val (.ref b1), .val (.int 1), .val (.ref v19)] [(.int cc1)]))
    refine Gl.st (fun _ kq => XS.sipush X25.here hx rfl (hb hby d7_35) kq) ?_
    show Gl p.tables e below _ (T25.setTop (mkF m 38 #[.val (.ref tc), .val (.int 0), .val (.int 3), .val (.ref b1), .val (.int 1), .val (.ref v19)] [(.int 255), (.int cc1)]))
    refine Gl.st (fun _ kq => XS.icmpYes X25.here hx rfl (pc0 := 38) (pc' := 54) rfl (hb hby d7_38) rfl (tlt (y6_0 : (255 : Int32) < cc1)).2.2.1 (by decide) (by decide) kq) ?_
    show Gl p.tables e below _ (T25.setTop (mkF m 54 #[.val (.ref tc), .val (.int 0), .val (.int 3), .val (.ref b1), .val (.int 1), .val (.ref v19)] []))
    refine Gl.st (fun _ kq => XS.aload X25.here hx rfl (hb hby d7_54) rfl rfl kq) ?_
    have K26 : Keep h0 T21.heap [] := ((((Keep.refl h0 []).ext E1).trans K6 (allS (Or.inr s3) all0)).trans K21 all0)
    exact Gl.retA X25 hx Bd.returns rfl rfl (hb hby d7_56) hlk (by decide) (by decide) (by rw [e25]; exact ⟨v19, v20, rfl, M25, K26, q21_0, s23⟩)
  · have M6 := Fr.app N0 N6
    refine Gl.st st6 ?_
    show Gl p.tables e below _ (T6.setTop (mkF m 12 #[.val (.ref tc), .val (.int 0), .val (.int 3), .val (.ref b1), .unset, .unset] [(.int 2)]))
    refine Gl.st (fun _ kq => XS.istore X6.here hx rfl (hb hby d7_12) rfl (l' := #[.val (.ref tc), .val (.int 0), .val (.int 3), .val (.ref b1), .val (.int 2), .unset]) rfl kq) ?_
    refine Gl.st (fun _ kq => XS.iload X6.here hx rfl (hb hby d7_14) rfl kq) ?_
    refine Gl.st (fun _ kq => XS.iloadN X6.here hx rfl (hb hby d7_16) rfl kq) ?_
    show Gl p.tables e below _ (T6.setTop (mkF m 17 #[.val (.ref tc), .val (.int 0), .val (.int 3), .val (.ref b1), .val (.int 2), .unset] [(.int 3), (.int 2)]))
    refine Gl.st (fun _ kq => XS.icmpNo X6.here hx rfl (hb hby d7_17) rfl (feq ((by decide) : ¬ ((2 : Int32) = (3 : Int32)))).1 kq) ?_
    show Gl p.tables e below _ (T6.setTop (mkF m 20 #[.val (.ref tc), .val (.int 0), .val (.int 3), .val (.ref b1), .val (.int 2), .unset] []))
    refine Gl.st (fun _ kq => XS.aloadN X6.here hx rfl (hb hby d7_20) rfl rfl kq) ?_
    refine Gl.st (fun _ kq => XS.iloadN X6.here hx rfl (hb hby d7_21) rfl kq) ?_
    refine Gl.st (fun _ kq => XS.iloadN X6.here hx rfl (hb hby d7_22) rfl kq) ?_
    show Gl p.tables e below _ (T6.setTop (mkF m 23 #[.val (.ref tc), .val (.int 0), .val (.int 3), .val (.ref b1), .val (.int 2), .unset] [(.int 3), (.int 0), (.ref tc)]))
    have f27 : Arv Z T6.heap tc kc .char (3 : Int32) [(.int cc0), (.int cc1), (.int cc2)] (.int 0) := (f4.keep K6 (ninS ne5 nin0))
    have f28 : Old Z n0 T6.heap := ((pf1.ext E1).keep K6 (allS g2 all0))
    obtain ⟨_, _, ⟨T31, L31, k31, n31⟩, -, X31, ⟨Lc31, hQ31, l31, y31, z31⟩, st31⟩ := Jvm.LawKit.callS X6 hx (y := (⟨"java/lang/StringUTF16", "toBytes", "([CII)[B"⟩ : MethodName)) hown (mvT hZ (tw hw 75 rfl)) (mvT hZ (tw hw 76 rfl)) (mvT hZ (tw hw 41 rfl)) (mvT hZ (tw hw 77 rfl)) (by decide) (backOf (W := 0) (rm_tb3 l Z a0 hw [] (tc) (kc) (cc0) (cc1) (cc2) T6.heap n0 (Nat.le_trans (Nat.le_trans Z0 E1.1) K6.1) f27 f28 OA OH OL) hZ (tw hw 77 rfl) (tw hw 41 rfl) (by decide) (by decide)) (g := (mkF m 23 #[.val (.ref tc), .val (.int 0), .val (.int 3), .val (.ref b1), .val (.int 2), .unset] [(.int 3), (.int 0), (.ref tc)])) rfl (by rw [hml]; rfl) (argsL := [(.ref tc), (.int 0), (.int 3)]) (rest := []) (lenOf pd___CII__B rfl) rfl (by show 2 * 0 + _ ≤ _; exact Nat.le_of_eq rfl) (hb hby d7_23) (fun _ _ => ⟨rfl, rfl, (by decide : 1 + 1 ≤ _), (by decide : 3 + 6 ≤ _)⟩)
    dsimp only [Pt.U, Pt.locs, Pt.cells, Pt.slots] at X31 l31 y31 z31 st31 hQ31
    subst l31 y31 z31
    obtain ⟨v29, v30, rfl, N31, K31, q31_0, y31_0⟩ := hQ31
    have M31 := Fr.app M6 N31
    have g32 : n0 ≤ v29 := Nat.le_trans (Nat.le_trans (Nat.le_trans Z0 E1.1) K6.1) y31_0
    have s33 : h0.size ≤ v29 := Nat.le_trans (Nat.le_trans (Nat.le_trans (Nat.le_refl _) E1.1) K6.1) y31_0
    refine Gl.st st31 ?_
    show Gl p.tables e below _ (T31.setTop (mkF m 26 #[.val (.ref tc), .val (.int 0), .val (.int 3), .val (.ref b1), .val (.int 2), .unset] [(.ref v29)]))
    show Gl p.tables e below _ (T31.setTop (mkF m 26 #[.val (.ref tc), .val (.int 0), .val (.int 3), .val (.ref b1), .val (.int 2), .unset] [(.ref v29)]))
    refine Gl.st (fun _ kq => XS.astore X31.here hx rfl (hb hby d7_26) rfl rfl (l' := #[.val (.ref tc), .val (.int 0), .val (.int 3), .val (.ref b1), .val (.int 2), .val (.ref v29)]) rfl kq) ?_
    refine Gl.st (fun _ kq => XS.aload X31.here hx rfl (hb hby d7_28) rfl rfl kq) ?_
    refine Gl.st (fun _ kq => XS.iload X31.here hx rfl (hb hby d7_30) rfl kq) ?_
    show Gl p.tables e below _ (T31.setTop (mkF m 32 #[.val (.ref tc), .val (.int 0), .val (.int 3), .val (.ref b1), .val (.int 2), .val (.ref v29)] [(.int 2), (.ref v29)]))
    have f34 : Old Z n0 T31.heap := (f28.keep K31 all0)
    obtain ⟨_, _, ⟨T35, L35, k35, n35⟩, -, X35, ⟨Lc35, hQ35, l35, y35, z35⟩, st35⟩ := Jvm.LawKit.callS X31 hx (y := (⟨"java/lang/StringUTF16", "getChar", "([BI)C"⟩ : MethodName)) hown (mvT hZ (tw hw 91 rfl)) (mvT hZ (tw hw 92 rfl)) (mvT hZ (tw hw 41 rfl)) (mvT hZ (tw hw 93 rfl)) (by decide) (backOf (W := 0) (rm_gc l Z a0 hw [] (v29) (v30) (([cc0, cc1, cc2] : List Int32)) (2) T31.heap n0 (Nat.le_trans (Nat.le_trans (Nat.le_trans Z0 E1.1) K6.1) K31.1) q31_0 f34 (Nat.le_of_ble_eq_true rfl) (alcS hcc0 (alcS hcc1 (alcS hcc2 alc0))) (Nat.le_of_ble_eq_true rfl) OA OH OL) hZ (tw hw 93 rfl) (tw hw 41 rfl) (by decide) (by decide)) (g := (mkF m 32 #[.val (.ref tc), .val (.int 0), .val (.int 3), .val (.ref b1), .val (.int 2), .val (.ref v29)] [(.int 2), (.ref v29)])) rfl (by rw [hml]; rfl) (argsL := [(.ref v29), (.int 2)]) (rest := []) (lenOf pd___BI_C rfl) rfl (by show 2 * 0 + _ ≤ _; exact Nat.le_of_eq rfl) (hb hby d7_32) (fun _ _ => ⟨rfl, rfl, (by decide : 2 + 0 ≤ _), (by decide : 9 + 0 ≤ _)⟩)
    dsimp only [Pt.U, Pt.locs, Pt.cells, Pt.slots] at X35 l35 y35 z35 st35 hQ35
    subst l35 y35 z35
    obtain ⟨rfl, N35, e35⟩ := hQ35
    have M35 := Fr.app M31 N35
    refine Gl.st st35 ?_
    show Gl p.tables e below _ (T35.setTop (mkF m 35 #[.val (.ref tc), .val (.int 0), .val (.int 3), .val (.ref b1), .val (.int 2), .val (.ref v29)] [(.int (([cc0, cc1, cc2] : List Int32).getD 2 0))]))
    show Gl p.tables e below _ (T35.setTop (mkF m 35 #[.val (.ref tc), .val (.int 0), .val (.int 3), .val (.ref b1), .val (.int 2), .val (.ref v29)] [(.int cc2)]))
    show Gl p.tables e below _ (T35.setTop (mkF m 35 #[.val (.ref tc), .val (.int 0), .val (.int 3), .val (.ref b1), .val (.int 2), .val (.ref v29)] [(.int cc2)]))
    refine Gl.st (fun _ kq => XS.sipush X35.here hx rfl (hb hby d7_35) kq) ?_
    show Gl p.tables e below _ (T35.setTop (mkF m 38 #[.val (.ref tc), .val (.int 0), .val (.int 3), .val (.ref b1), .val (.int 2), .val (.ref v29)] [(.int 255), (.int cc2)]))
    refine Gl.st (fun _ kq => XS.icmpYes X35.here hx rfl (pc0 := 38) (pc' := 54) rfl (hb hby d7_38) rfl (tlt (y6_0 : (255 : Int32) < cc2)).2.2.1 (by decide) (by decide) kq) ?_
    show Gl p.tables e below _ (T35.setTop (mkF m 54 #[.val (.ref tc), .val (.int 0), .val (.int 3), .val (.ref b1), .val (.int 2), .val (.ref v29)] []))
    refine Gl.st (fun _ kq => XS.aload X35.here hx rfl (hb hby d7_54) rfl rfl kq) ?_
    have K36 : Keep h0 T31.heap [] := ((((Keep.refl h0 []).ext E1).trans K6 (allS (Or.inr s3) all0)).trans K31 all0)
    exact Gl.retA X35 hx Bd.returns rfl rfl (hb hby d7_56) hlk (by decide) (by decide) (by rw [e35]; exact ⟨v29, v30, rfl, M35, K36, q31_0, s33⟩)
theorem ef_cfa3 (m : MethodId) (t : Addr) : entryFrame m #[(.ref t), (.int 3)] 2 = mkF m 0 #[.val (.ref t), .val (.int 3)] [] := by first | (simp [entryFrame, mkF, argsToLocals, Value.category]; done) | rfl
def Q_cfa3 (Z : State) (t : Addr) (k : ClassId) (cc0 : Int32) (cc1 : Int32) (cc2 : Int32) (h0 : Heap) (n0 : Nat) (v : Option Value) (h : Heap) (L : List Loc) : Prop := (v = some (.int 1) ∧ Fr n0 L ∧ h = h0)
set_option maxRecDepth 65536 in
set_option maxHeartbeats 40000000 in
theorem rm_cfa3 (l : Launch) (Z : State) (a0 : Array Value) (hw : ∀ d ∈ tables_1, d.before a0 Z = true) (ws : List Jvm.Cond) (t : Addr) (k : ClassId) (cc0 : Int32) (cc1 : Int32) (cc2 : Int32) (h0 : Heap) (n0 : Nat) (Z0 : n0 ≤ h0.size) (pf0 : Arv Z h0 t k .byte (Int32.ofNat (2 * ([cc0, cc1, cc2] : List Int32).length)) (own_us ([cc0, cc1, cc2] : List Int32)) (.int 0)) :
    MetFree l (⟨"java/lang/StringUTF16", "coderFromArrayLen", "([BI)B"⟩ : MethodName) (head1 (Jvm.Cond.code (⟨"java/lang/StringUTF16", "coderFromArrayLen", "([BI)B"⟩ : MethodName) jdk_52_method_15_code 2 (some .byte) :: ws) ({ frames := 0, cells := 0, slots := 0, locals := 0 } : Room)) (fun aa U => aa = #[(.ref t), (.int 3)] ∧ Z.Warmed39 U.vm ∧ U.heap = h0) (fun _ _ _ _ _ => True) (fun _ U o U' => ∃ v L, o = .returned v ∧ Q_cfa3 Z t k cc0 cc1 cc2 h0 n0 v U'.heap L ∧ FrameEnd U o U' L ({ frames := 0, cells := 0, slots := 0, locals := 0 } : Room).cells ({ frames := 0, cells := 0, slots := 0, locals := 0 } : Room).slots) := by
  refine MetFree.of_bodySF (plainFor_of_name pn_java_lang_StringUTF16) hisR ?_
  intro p e s m args below meth c s₁ Bd hml0 hP hK
  obtain ⟨rfl, hZ, hh⟩ := hP
  have hx := Bd.exec
  have hby := Bd.bytes
  have hlk : meth.locks = false := BodyLoose.notSynchronized Bd
  have hml : c.maxLocals = 2 := hml0
  have hown : s.vm.findClass "java/lang/StringUTF16" = some m.cls := findClass_of_methodNamed Bd.named
  have hnm := (name_of_methodNamed Bd.named Bd.method).1
  have X0 : Stand p l e ({ frames := 0, cells := 0, slots := 0, locals := 0 } : Room) s m #[(.ref t), (.int 3)] below meth c s₁ [] 0 0 := Stand.of_body Bd
  have e0 : s₁.heap = h0 := by rw [← hh, Bd.state]; rfl
  have N0 := Fr.nil n0
  show Gl p.tables e below (EndN s (Q_cfa3 Z t k cc0 cc1 cc2 h0 n0) ({ frames := 0, cells := 0, slots := 0, locals := 0 } : Room).cells ({ frames := 0, cells := 0, slots := 0, locals := 0 } : Room).slots) _
  refine Gl.cast (ef_cfa3 m t) ?_
  show Gl p.tables e below _ (s₁.setTop (mkF m 0 #[.val (.ref t), .val (.int 3)] []))
  refine Gl.st (fun _ kq => XS.iloadN X0.here hx rfl (hb hby d9_0) rfl kq) ?_
  refine Gl.st (fun _ kq => XS.aloadN X0.here hx rfl (hb hby d9_1) rfl rfl kq) ?_
  show Gl p.tables e below _ (s₁.setTop (mkF m 2 #[.val (.ref t), .val (.int 3)] [(.ref t), (.int 3)]))
  obtain ⟨c1, a1, q1, S1, M1, H1, G1⟩ := id pf0
  refine Gl.st (fun _ kq => X0.arraylength hx (by rw [e0]; exact a1.1) (State.isArrayOf_alike hZ.alike a1.2.1) (g := (mkF m 2 #[.val (.ref t), .val (.int 3)] [(.ref t), (.int 3)])) rfl rfl (hb hby d9_2) _ kq) ?_
  rw [len_of S1 M1]
  show Gl p.tables e below _ (s₁.setTop (mkF m 3 #[.val (.ref t), .val (.int 3)] [(.int (Int32.ofNat (2 * ([cc0, cc1, cc2] : List Int32).length))), (.int 3)]))
  show Gl p.tables e below _ (s₁.setTop (mkF m 3 #[.val (.ref t), .val (.int 3)] [(.int 6), (.int 3)]))
  refine Gl.st (fun _ kq => XS.isub X0.here hx rfl (hb hby d9_3) rfl kq) ?_
  refine Gl.st (fun _ kq => XS.bipush X0.here hx rfl (hb hby d9_4) kq) ?_
  refine Gl.st (fun _ kq => XS.iushr X0.here hx rfl (hb hby d9_6) rfl kq) ?_
  refine Gl.st (fun _ kq => XS.i2b X0.here hx rfl (hb hby d9_7) rfl kq) ?_
  exact Gl.retN X0 hx (t := .byte) Bd.returns (by simp) (hb hby d9_8) hlk (by decide) (by decide) (by rw [e0]; exact ⟨rfl, N0, rfl⟩)
theorem ef_c3_4 (m : MethodId) (tc : Addr) : entryFrame m #[(.ref tc), (.int 0), (.int 4)] 6 = mkF m 0 #[.val (.ref tc), .val (.int 0), .val (.int 4), .unset, .unset, .unset] [] := by first | (simp [entryFrame, mkF, argsToLocals, Value.category]; done) | rfl
def Q_c3_4 (Z : State) (tc : Addr) (kc : ClassId) (cc0 : Int32) (cc1 : Int32) (cc2 : Int32) (cc3 : Int32) (h0 : Heap) (n0 : Nat) (v : Option Value) (h : Heap) (L : List Loc) : Prop := (∃ t : Addr, ∃ k : ClassId, v = some (.ref t) ∧ Fr n0 L ∧ Keep h0 h [] ∧ Arv Z h t k .byte (Int32.ofNat (2 * ([cc0, cc1, cc2, cc3] : List Int32).length)) (own_us ([cc0, cc1, cc2, cc3] : List Int32)) (.int 0) ∧ (h0.size ≤ t))
set_option maxRecDepth 65536 in
set_option maxHeartbeats 40000000 in
theorem rm_c3_4 (l : Launch) (Z : State) (a0 : Array Value) (hw : ∀ d ∈ tables_1, d.before a0 Z = true) (ws : List Jvm.Cond) (tc : Addr) (kc : ClassId) (cc0 : Int32) (cc1 : Int32) (cc2 : Int32) (cc3 : Int32) (h0 : Heap) (n0 : Nat) (Z0 : n0 ≤ h0.size) (pf0 : Arv Z h0 tc kc .char (4 : Int32) [(.int cc0), (.int cc1), (.int cc2), (.int cc3)] (.int 0)) (pf1 : Old Z n0 h0) (hcc0 : own_h cc0) (hcc1 : own_h cc1) (hcc2 : own_h cc2) (hcc3 : own_h cc3) (OA : Sta Z Z.heap "java/lang/StringUTF16" "$assertionsDisabled" "Z" (.int 1)) (OH : Sta Z Z.heap "java/lang/StringUTF16" "HI_BYTE_SHIFT" "I" (.int 0)) (OL : Sta Z Z.heap "java/lang/StringUTF16" "LO_BYTE_SHIFT" "I" (.int 8)) (hU : (255 : Int32) < cc0 ∨ (255 : Int32) < cc1 ∨ (255 : Int32) < cc2 ∨ (255 : Int32) < cc3) :
    MetFree l (⟨"java/lang/StringUTF16", "compress", "([CII)[B"⟩ : MethodName) (head1 (Jvm.Cond.code (⟨"java/lang/StringUTF16", "compress", "([CII)[B"⟩ : MethodName) jdk_52_method_16_code 6 (some (.array .byte)) :: ws) ({ frames := 3, cells := 2, slots := 12, locals := 40 } : Room)) (fun aa U => aa = #[(.ref tc), (.int 0), (.int 4)] ∧ Z.Warmed39 U.vm ∧ U.heap = h0) (fun _ _ _ _ _ => True) (fun _ U o U' => ∃ v L, o = .returned v ∧ Q_c3_4 Z tc kc cc0 cc1 cc2 cc3 h0 n0 v U'.heap L ∧ FrameEnd U o U' L ({ frames := 3, cells := 2, slots := 12, locals := 40 } : Room).cells ({ frames := 3, cells := 2, slots := 12, locals := 40 } : Room).slots) := by
  refine MetFree.of_bodySF (plainFor_of_name pn_java_lang_StringUTF16) hisR ?_
  intro p e s m args below meth c s₁ Bd hml0 hP hK
  obtain ⟨rfl, hZ, hh⟩ := hP
  have hx := Bd.exec
  have hby := Bd.bytes
  have hlk : meth.locks = false := BodyLoose.notSynchronized Bd
  have hml : c.maxLocals = 6 := hml0
  have hown : s.vm.findClass "java/lang/StringUTF16" = some m.cls := findClass_of_methodNamed Bd.named
  have hnm := (name_of_methodNamed Bd.named Bd.method).1
  have X0 : Stand p l e ({ frames := 3, cells := 2, slots := 12, locals := 40 } : Room) s m #[(.ref tc), (.int 0), (.int 4)] below meth c s₁ [] 0 0 := Stand.of_body Bd
  have e0 : s₁.heap = h0 := by rw [← hh, Bd.state]; rfl
  have N0 := Fr.nil n0
  show Gl p.tables e below (EndN s (Q_c3_4 Z tc kc cc0 cc1 cc2 cc3 h0 n0) ({ frames := 3, cells := 2, slots := 12, locals := 40 } : Room).cells ({ frames := 3, cells := 2, slots := 12, locals := 40 } : Room).slots) _
  refine Gl.cast (ef_c3_4 m tc) ?_
  show Gl p.tables e below _ (s₁.setTop (mkF m 0 #[.val (.ref tc), .val (.int 0), .val (.int 4), .unset, .unset, .unset] []))
  refine Gl.st (fun _ kq => XS.iloadN X0.here hx rfl (hb hby d7_0) rfl kq) ?_
  show Gl p.tables e below _ (s₁.setTop (mkF m 1 #[.val (.ref tc), .val (.int 0), .val (.int 4), .unset, .unset, .unset] [(.int 4)]))
  obtain ⟨T1, h1, k1, X1, e1, E1, A1, st1⟩ := newP X0 hx hZ (tw hw 17 rfl) e0 (g := (mkF m 1 #[.val (.ref tc), .val (.int 0), .val (.int 4), .unset, .unset, .unset] [(.int 4)])) rfl (hb hby d7_1) rfl (by decide) (cap := 4) (by decide) (by decide) (by decide) (by decide)
  obtain ⟨b1, g1⟩ : ∃ z, z = h0.size := ⟨_, rfl⟩
  rw [← g1] at A1 st1
  refine Gl.st st1 ?_
  have g2 : n0 ≤ b1 := Nat.le_trans Z0 (Nat.le_of_eq g1.symm)
  have s3 : h0.size ≤ b1 := Nat.le_trans (Nat.le_refl _) (Nat.le_of_eq g1.symm)
  have V1 : Arv Z h1 b1 k1 .byte (4 : Int32) [(.int 0), (.int 0), (.int 0), (.int 0)] (.int 0) := (Arv.new A1 (by decide)).pad (pad_rep [] (.int 0) 4)
  show Gl p.tables e below _ (T1.setTop (mkF m 3 #[.val (.ref tc), .val (.int 0), .val (.int 4), .unset, .unset, .unset] [(.ref b1)]))
  refine Gl.st (fun _ kq => XS.astoreN X1.here hx rfl (hb hby d7_3) rfl rfl (l' := #[.val (.ref tc), .val (.int 0), .val (.int 4), .val (.ref b1), .unset, .unset]) rfl kq) ?_
  refine Gl.st (fun _ kq => XS.aloadN X1.here hx rfl (hb hby d7_4) rfl rfl kq) ?_
  refine Gl.st (fun _ kq => XS.iloadN X1.here hx rfl (hb hby d7_5) rfl kq) ?_
  refine Gl.st (fun _ kq => XS.aloadN X1.here hx rfl (hb hby d7_6) rfl rfl kq) ?_
  refine Gl.st (fun _ kq => XS.iconst X1.here hx rfl (hb hby d7_7) kq) ?_
  refine Gl.st (fun _ kq => XS.iloadN X1.here hx rfl (hb hby d7_8) rfl kq) ?_
  show Gl p.tables e below _ (T1.setTop (mkF m 9 #[.val (.ref tc), .val (.int 0), .val (.int 4), .val (.ref b1), .unset, .unset] [(.int 4), (.int 0), (.ref b1), (.int 0), (.ref tc)]))
  have f4 : Arv Z h1 tc kc .char (4 : Int32) [(.int cc0), (.int cc1), (.int cc2), (.int cc3)] (.int 0) := (pf0.ext E1)
  have ne5 : tc ≠ b1 := Nat.ne_of_lt (Nat.lt_of_lt_of_le pf0.lt (Nat.le_of_eq g1.symm))
  obtain ⟨_, _, ⟨T6, L6, k6, n6⟩, -, X6, ⟨Lc6, hQ6, l6, y6, z6⟩, st6⟩ := Jvm.LawKit.callS X1 hx (y := (⟨"java/lang/StringUTF16", "compress", "([CI[BII)I"⟩ : MethodName)) hown (mvT hZ (tw hw 43 rfl)) (mvT hZ (tw hw 44 rfl)) (mvT hZ (tw hw 41 rfl)) (mvT hZ (tw hw 45 rfl)) (by decide) (backOf (W := 0) (rm_c5_4 l Z a0 hw [] (tc) (kc) (b1) (k1) (cc0) (cc1) (cc2) (cc3) h1 n0 (Nat.le_trans Z0 E1.1) f4 V1 g2 ne5 hU) hZ (tw hw 45 rfl) (tw hw 41 rfl) (by decide) (by decide)) (g := (mkF m 9 #[.val (.ref tc), .val (.int 0), .val (.int 4), .val (.ref b1), .unset, .unset] [(.int 4), (.int 0), (.ref b1), (.int 0), (.ref tc)])) rfl (by rw [hml]; rfl) (argsL := [(.ref tc), (.int 0), (.ref b1), (.int 0), (.int 4)]) (rest := []) (lenOf pd___CI_BII_I rfl) rfl (by show 2 * 0 + _ ≤ _; exact Nat.le_of_eq rfl) (hb hby d7_9) (fun _ _ => ⟨rfl, e1, (by decide : 1 + 0 ≤ _), (by decide : 4 + 0 ≤ _)⟩)
  dsimp only [Pt.U, Pt.locs, Pt.cells, Pt.slots] at X6 l6 y6 z6 st6 hQ6
  subst l6 y6 z6
  rcases hQ6 with ⟨rfl, N6, K6, y6_0⟩ | ⟨rfl, N6, K6, y6_0⟩ | ⟨rfl, N6, K6, y6_0⟩ | ⟨rfl, N6, K6, y6_0⟩
  · have M6 := Fr.app N0 N6
    refine Gl.st st6 ?_
    show Gl p.tables e below _ (T6.setTop (mkF m 12 #[.val (.ref tc), .val (.int 0), .val (.int 4), .val (.ref b1), .unset, .unset] [(.int 0)]))
    refine Gl.st (fun _ kq => XS.istore X6.here hx rfl (hb hby d7_12) rfl (l' := #[.val (.ref tc), .val (.int 0), .val (.int 4), .val (.ref b1), .val (.int 0), .unset]) rfl kq) ?_
    refine Gl.st (fun _ kq => XS.iload X6.here hx rfl (hb hby d7_14) rfl kq) ?_
    refine Gl.st (fun _ kq => XS.iloadN X6.here hx rfl (hb hby d7_16) rfl kq) ?_
    show Gl p.tables e below _ (T6.setTop (mkF m 17 #[.val (.ref tc), .val (.int 0), .val (.int 4), .val (.ref b1), .val (.int 0), .unset] [(.int 4), (.int 0)]))
    refine Gl.st (fun _ kq => XS.icmpNo X6.here hx rfl (hb hby d7_17) rfl (feq ((by decide) : ¬ ((0 : Int32) = (4 : Int32)))).1 kq) ?_
    show Gl p.tables e below _ (T6.setTop (mkF m 20 #[.val (.ref tc), .val (.int 0), .val (.int 4), .val (.ref b1), .val (.int 0), .unset] []))
    refine Gl.st (fun _ kq => XS.aloadN X6.here hx rfl (hb hby d7_20) rfl rfl kq) ?_
    refine Gl.st (fun _ kq => XS.iloadN X6.here hx rfl (hb hby d7_21) rfl kq) ?_
    refine Gl.st (fun _ kq => XS.iloadN X6.here hx rfl (hb hby d7_22) rfl kq) ?_
    show Gl p.tables e below _ (T6.setTop (mkF m 23 #[.val (.ref tc), .val (.int 0), .val (.int 4), .val (.ref b1), .val (.int 0), .unset] [(.int 4), (.int 0), (.ref tc)]))
    have f7 : Arv Z T6.heap tc kc .char (4 : Int32) [(.int cc0), (.int cc1), (.int cc2), (.int cc3)] (.int 0) := (f4.keep K6 (ninS ne5 nin0))
    have f8 : Old Z n0 T6.heap := ((pf1.ext E1).keep K6 (allS g2 all0))
    obtain ⟨_, _, ⟨T11, L11, k11, n11⟩, -, X11, ⟨Lc11, hQ11, l11, y11, z11⟩, st11⟩ := Jvm.LawKit.callS X6 hx (y := (⟨"java/lang/StringUTF16", "toBytes", "([CII)[B"⟩ : MethodName)) hown (mvT hZ (tw hw 75 rfl)) (mvT hZ (tw hw 76 rfl)) (mvT hZ (tw hw 41 rfl)) (mvT hZ (tw hw 77 rfl)) (by decide) (backOf (W := 0) (rm_tb4 l Z a0 hw [] (tc) (kc) (cc0) (cc1) (cc2) (cc3) T6.heap n0 (Nat.le_trans (Nat.le_trans Z0 E1.1) K6.1) f7 f8 OA OH OL) hZ (tw hw 77 rfl) (tw hw 41 rfl) (by decide) (by decide)) (g := (mkF m 23 #[.val (.ref tc), .val (.int 0), .val (.int 4), .val (.ref b1), .val (.int 0), .unset] [(.int 4), (.int 0), (.ref tc)])) rfl (by rw [hml]; rfl) (argsL := [(.ref tc), (.int 0), (.int 4)]) (rest := []) (lenOf pd___CII__B rfl) rfl (by show 2 * 0 + _ ≤ _; exact Nat.le_of_eq rfl) (hb hby d7_23) (fun _ _ => ⟨rfl, rfl, (by decide : 1 + 1 ≤ _), (by decide : 4 + 8 ≤ _)⟩)
    dsimp only [Pt.U, Pt.locs, Pt.cells, Pt.slots] at X11 l11 y11 z11 st11 hQ11
    subst l11 y11 z11
    obtain ⟨v9, v10, rfl, N11, K11, q11_0, y11_0⟩ := hQ11
    have M11 := Fr.app M6 N11
    have g12 : n0 ≤ v9 := Nat.le_trans (Nat.le_trans (Nat.le_trans Z0 E1.1) K6.1) y11_0
    have s13 : h0.size ≤ v9 := Nat.le_trans (Nat.le_trans (Nat.le_trans (Nat.le_refl _) E1.1) K6.1) y11_0
    refine Gl.st st11 ?_
    show Gl p.tables e below _ (T11.setTop (mkF m 26 #[.val (.ref tc), .val (.int 0), .val (.int 4), .val (.ref b1), .val (.int 0), .unset] [(.ref v9)]))
    show Gl p.tables e below _ (T11.setTop (mkF m 26 #[.val (.ref tc), .val (.int 0), .val (.int 4), .val (.ref b1), .val (.int 0), .unset] [(.ref v9)]))
    refine Gl.st (fun _ kq => XS.astore X11.here hx rfl (hb hby d7_26) rfl rfl (l' := #[.val (.ref tc), .val (.int 0), .val (.int 4), .val (.ref b1), .val (.int 0), .val (.ref v9)]) rfl kq) ?_
    refine Gl.st (fun _ kq => XS.aload X11.here hx rfl (hb hby d7_28) rfl rfl kq) ?_
    refine Gl.st (fun _ kq => XS.iload X11.here hx rfl (hb hby d7_30) rfl kq) ?_
    show Gl p.tables e below _ (T11.setTop (mkF m 32 #[.val (.ref tc), .val (.int 0), .val (.int 4), .val (.ref b1), .val (.int 0), .val (.ref v9)] [(.int 0), (.ref v9)]))
    have f14 : Old Z n0 T11.heap := (f8.keep K11 all0)
    obtain ⟨_, _, ⟨T15, L15, k15, n15⟩, -, X15, ⟨Lc15, hQ15, l15, y15, z15⟩, st15⟩ := Jvm.LawKit.callS X11 hx (y := (⟨"java/lang/StringUTF16", "getChar", "([BI)C"⟩ : MethodName)) hown (mvT hZ (tw hw 91 rfl)) (mvT hZ (tw hw 92 rfl)) (mvT hZ (tw hw 41 rfl)) (mvT hZ (tw hw 93 rfl)) (by decide) (backOf (W := 0) (rm_gc l Z a0 hw [] (v9) (v10) (([cc0, cc1, cc2, cc3] : List Int32)) (0) T11.heap n0 (Nat.le_trans (Nat.le_trans (Nat.le_trans Z0 E1.1) K6.1) K11.1) q11_0 f14 (Nat.le_of_ble_eq_true rfl) (alcS hcc0 (alcS hcc1 (alcS hcc2 (alcS hcc3 alc0)))) (Nat.le_of_ble_eq_true rfl) OA OH OL) hZ (tw hw 93 rfl) (tw hw 41 rfl) (by decide) (by decide)) (g := (mkF m 32 #[.val (.ref tc), .val (.int 0), .val (.int 4), .val (.ref b1), .val (.int 0), .val (.ref v9)] [(.int 0), (.ref v9)])) rfl (by rw [hml]; rfl) (argsL := [(.ref v9), (.int 0)]) (rest := []) (lenOf pd___BI_C rfl) rfl (by show 2 * 0 + _ ≤ _; exact Nat.le_of_eq rfl) (hb hby d7_32) (fun _ _ => ⟨rfl, rfl, (by decide : 2 + 0 ≤ _), (by decide : 12 + 0 ≤ _)⟩)
    dsimp only [Pt.U, Pt.locs, Pt.cells, Pt.slots] at X15 l15 y15 z15 st15 hQ15
    subst l15 y15 z15
    obtain ⟨rfl, N15, e15⟩ := hQ15
    have M15 := Fr.app M11 N15
    refine Gl.st st15 ?_
    show Gl p.tables e below _ (T15.setTop (mkF m 35 #[.val (.ref tc), .val (.int 0), .val (.int 4), .val (.ref b1), .val (.int 0), .val (.ref v9)] [(.int (([cc0, cc1, cc2, cc3] : List Int32).getD 0 0))]))
    show Gl p.tables e below _ (T15.setTop (mkF m 35 #[.val (.ref tc), .val (.int 0), .val (.int 4), .val (.ref b1), .val (.int 0), .val (.ref v9)] [(.int cc0)]))
    show Gl p.tables e below _ (T15.setTop (mkF m 35 #[.val (.ref tc), .val (.int 0), .val (.int 4), .val (.ref b1), .val (.int 0), .val (.ref v9)] [(.int cc0)]))
    refine Gl.st (fun _ kq => XS.sipush X15.here hx rfl (hb hby d7_35) kq) ?_
    show Gl p.tables e below _ (T15.setTop (mkF m 38 #[.val (.ref tc), .val (.int 0), .val (.int 4), .val (.ref b1), .val (.int 0), .val (.ref v9)] [(.int 255), (.int cc0)]))
    refine Gl.st (fun _ kq => XS.icmpYes X15.here hx rfl (pc0 := 38) (pc' := 54) rfl (hb hby d7_38) rfl (tlt (y6_0 : (255 : Int32) < cc0)).2.2.1 (by decide) (by decide) kq) ?_
    show Gl p.tables e below _ (T15.setTop (mkF m 54 #[.val (.ref tc), .val (.int 0), .val (.int 4), .val (.ref b1), .val (.int 0), .val (.ref v9)] []))
    refine Gl.st (fun _ kq => XS.aload X15.here hx rfl (hb hby d7_54) rfl rfl kq) ?_
    have K16 : Keep h0 T11.heap [] := ((((Keep.refl h0 []).ext E1).trans K6 (allS (Or.inr s3) all0)).trans K11 all0)
    exact Gl.retA X15 hx Bd.returns rfl rfl (hb hby d7_56) hlk (by decide) (by decide) (by rw [e15]; exact ⟨v9, v10, rfl, M15, K16, q11_0, s13⟩)
  · have M6 := Fr.app N0 N6
    refine Gl.st st6 ?_
    show Gl p.tables e below _ (T6.setTop (mkF m 12 #[.val (.ref tc), .val (.int 0), .val (.int 4), .val (.ref b1), .unset, .unset] [(.int 1)]))
    refine Gl.st (fun _ kq => XS.istore X6.here hx rfl (hb hby d7_12) rfl (l' := #[.val (.ref tc), .val (.int 0), .val (.int 4), .val (.ref b1), .val (.int 1), .unset]) rfl kq) ?_
    refine Gl.st (fun _ kq => XS.iload X6.here hx rfl (hb hby d7_14) rfl kq) ?_
    refine Gl.st (fun _ kq => XS.iloadN X6.here hx rfl (hb hby d7_16) rfl kq) ?_
    show Gl p.tables e below _ (T6.setTop (mkF m 17 #[.val (.ref tc), .val (.int 0), .val (.int 4), .val (.ref b1), .val (.int 1), .unset] [(.int 4), (.int 1)]))
    refine Gl.st (fun _ kq => XS.icmpNo X6.here hx rfl (hb hby d7_17) rfl (feq ((by decide) : ¬ ((1 : Int32) = (4 : Int32)))).1 kq) ?_
    show Gl p.tables e below _ (T6.setTop (mkF m 20 #[.val (.ref tc), .val (.int 0), .val (.int 4), .val (.ref b1), .val (.int 1), .unset] []))
    refine Gl.st (fun _ kq => XS.aloadN X6.here hx rfl (hb hby d7_20) rfl rfl kq) ?_
    refine Gl.st (fun _ kq => XS.iloadN X6.here hx rfl (hb hby d7_21) rfl kq) ?_
    refine Gl.st (fun _ kq => XS.iloadN X6.here hx rfl (hb hby d7_22) rfl kq) ?_
    show Gl p.tables e below _ (T6.setTop (mkF m 23 #[.val (.ref tc), .val (.int 0), .val (.int 4), .val (.ref b1), .val (.int 1), .unset] [(.int 4), (.int 0), (.ref tc)]))
    have f17 : Arv Z T6.heap tc kc .char (4 : Int32) [(.int cc0), (.int cc1), (.int cc2), (.int cc3)] (.int 0) := (f4.keep K6 (ninS ne5 nin0))
    have f18 : Old Z n0 T6.heap := ((pf1.ext E1).keep K6 (allS g2 all0))
    obtain ⟨_, _, ⟨T21, L21, k21, n21⟩, -, X21, ⟨Lc21, hQ21, l21, y21, z21⟩, st21⟩ := Jvm.LawKit.callS X6 hx (y := (⟨"java/lang/StringUTF16", "toBytes", "([CII)[B"⟩ : MethodName)) hown (mvT hZ (tw hw 75 rfl)) (mvT hZ (tw hw 76 rfl)) (mvT hZ (tw hw 41 rfl)) (mvT hZ (tw hw 77 rfl)) (by decide) (backOf (W := 0) (rm_tb4 l Z a0 hw [] (tc) (kc) (cc0) (cc1) (cc2) (cc3) T6.heap n0 (Nat.le_trans (Nat.le_trans Z0 E1.1) K6.1) f17 f18 OA OH OL) hZ (tw hw 77 rfl) (tw hw 41 rfl) (by decide) (by decide)) (g := (mkF m 23 #[.val (.ref tc), .val (.int 0), .val (.int 4), .val (.ref b1), .val (.int 1), .unset] [(.int 4), (.int 0), (.ref tc)])) rfl (by rw [hml]; rfl) (argsL := [(.ref tc), (.int 0), (.int 4)]) (rest := []) (lenOf pd___CII__B rfl) rfl (by show 2 * 0 + _ ≤ _; exact Nat.le_of_eq rfl) (hb hby d7_23) (fun _ _ => ⟨rfl, rfl, (by decide : 1 + 1 ≤ _), (by decide : 4 + 8 ≤ _)⟩)
    dsimp only [Pt.U, Pt.locs, Pt.cells, Pt.slots] at X21 l21 y21 z21 st21 hQ21
    subst l21 y21 z21
    obtain ⟨v19, v20, rfl, N21, K21, q21_0, y21_0⟩ := hQ21
    have M21 := Fr.app M6 N21
    have g22 : n0 ≤ v19 := Nat.le_trans (Nat.le_trans (Nat.le_trans Z0 E1.1) K6.1) y21_0
    have s23 : h0.size ≤ v19 := Nat.le_trans (Nat.le_trans (Nat.le_trans (Nat.le_refl _) E1.1) K6.1) y21_0
    refine Gl.st st21 ?_
    show Gl p.tables e below _ (T21.setTop (mkF m 26 #[.val (.ref tc), .val (.int 0), .val (.int 4), .val (.ref b1), .val (.int 1), .unset] [(.ref v19)]))
    show Gl p.tables e below _ (T21.setTop (mkF m 26 #[.val (.ref tc), .val (.int 0), .val (.int 4), .val (.ref b1), .val (.int 1), .unset] [(.ref v19)]))
    refine Gl.st (fun _ kq => XS.astore X21.here hx rfl (hb hby d7_26) rfl rfl (l' := #[.val (.ref tc), .val (.int 0), .val (.int 4), .val (.ref b1), .val (.int 1), .val (.ref v19)]) rfl kq) ?_
    refine Gl.st (fun _ kq => XS.aload X21.here hx rfl (hb hby d7_28) rfl rfl kq) ?_
    refine Gl.st (fun _ kq => XS.iload X21.here hx rfl (hb hby d7_30) rfl kq) ?_
    show Gl p.tables e below _ (T21.setTop (mkF m 32 #[.val (.ref tc), .val (.int 0), .val (.int 4), .val (.ref b1), .val (.int 1), .val (.ref v19)] [(.int 1), (.ref v19)]))
    have f24 : Old Z n0 T21.heap := (f18.keep K21 all0)
    obtain ⟨_, _, ⟨T25, L25, k25, n25⟩, -, X25, ⟨Lc25, hQ25, l25, y25, z25⟩, st25⟩ := Jvm.LawKit.callS X21 hx (y := (⟨"java/lang/StringUTF16", "getChar", "([BI)C"⟩ : MethodName)) hown (mvT hZ (tw hw 91 rfl)) (mvT hZ (tw hw 92 rfl)) (mvT hZ (tw hw 41 rfl)) (mvT hZ (tw hw 93 rfl)) (by decide) (backOf (W := 0) (rm_gc l Z a0 hw [] (v19) (v20) (([cc0, cc1, cc2, cc3] : List Int32)) (1) T21.heap n0 (Nat.le_trans (Nat.le_trans (Nat.le_trans Z0 E1.1) K6.1) K21.1) q21_0 f24 (Nat.le_of_ble_eq_true rfl) (alcS hcc0 (alcS hcc1 (alcS hcc2 (alcS hcc3 alc0)))) (Nat.le_of_ble_eq_true rfl) OA OH OL) hZ (tw hw 93 rfl) (tw hw 41 rfl) (by decide) (by decide)) (g := (mkF m 32 #[.val (.ref tc), .val (.int 0), .val (.int 4), .val (.ref b1), .val (.int 1), .val (.ref v19)] [(.int 1), (.ref v19)])) rfl (by rw [hml]; rfl) (argsL := [(.ref v19), (.int 1)]) (rest := []) (lenOf pd___BI_C rfl) rfl (by show 2 * 0 + _ ≤ _; exact Nat.le_of_eq rfl) (hb hby d7_32) (fun _ _ => ⟨rfl, rfl, (by decide : 2 + 0 ≤ _), (by decide : 12 + 0 ≤ _)⟩)
    dsimp only [Pt.U, Pt.locs, Pt.cells, Pt.slots] at X25 l25 y25 z25 st25 hQ25
    subst l25 y25 z25
    obtain ⟨rfl, N25, e25⟩ := hQ25
    have M25 := Fr.app M21 N25
    refine Gl.st st25 ?_
    show Gl p.tables e below _ (T25.setTop (mkF m 35 #[.val (.ref tc), .val (.int 0), .val (.int 4), .val (.ref b1), .val (.int 1), .val (.ref v19)] [(.int (([cc0, cc1, cc2, cc3] : List Int32).getD 1 0))]))
    show Gl p.tables e below _ (T25.setTop (mkF m 35 #[.val (.ref tc), .val (.int 0), .val (.int 4), .val (.ref b1), .val (.int 1), .val (.ref v19)] [(.int cc1)]))
    show Gl p.tables e below _ (T25.setTop (mkF m 35 #[.val (.ref tc), .val (.int 0), .val (.int 4), .val (.ref b1), .val (.int 1), .val (.ref v19)] [(.int cc1)]))
    refine Gl.st (fun _ kq => XS.sipush X25.here hx rfl (hb hby d7_35) kq) ?_
    show Gl p.tables e below _ (T25.setTop (mkF m 38 #[.val (.ref tc), .val (.int 0), .val (.int 4), .val (.ref b1), .val (.int 1), .val (.ref v19)] [(.int 255), (.int cc1)]))
    refine Gl.st (fun _ kq => XS.icmpYes X25.here hx rfl (pc0 := 38) (pc' := 54) rfl (hb hby d7_38) rfl (tlt (y6_0 : (255 : Int32) < cc1)).2.2.1 (by decide) (by decide) kq) ?_
    show Gl p.tables e below _ (T25.setTop (mkF m 54 #[.val (.ref tc), .val (.int 0), .val (.int 4), .val (.ref b1), .val (.int 1), .val (.ref v19)] []))
    refine Gl.st (fun _ kq => XS.aload X25.here hx rfl (hb hby d7_54) rfl rfl kq) ?_
    have K26 : Keep h0 T21.heap [] := ((((Keep.refl h0 []).ext E1).trans K6 (allS (Or.inr s3) all0)).trans K21 all0)
    exact Gl.retA X25 hx Bd.returns rfl rfl (hb hby d7_56) hlk (by decide) (by decide) (by rw [e25]; exact ⟨v19, v20, rfl, M25, K26, q21_0, s23⟩)
  · have M6 := Fr.app N0 N6
    refine Gl.st st6 ?_
    show Gl p.tables e below _ (T6.setTop (mkF m 12 #[.val (.ref tc), .val (.int 0), .val (.int 4), .val (.ref b1), .unset, .unset] [(.int 2)]))
    refine Gl.st (fun _ kq => XS.istore X6.here hx rfl (hb hby d7_12) rfl (l' := #[.val (.ref tc), .val (.int 0), .val (.int 4), .val (.ref b1), .val (.int 2), .unset]) rfl kq) ?_
    refine Gl.st (fun _ kq => XS.iload X6.here hx rfl (hb hby d7_14) rfl kq) ?_
    refine Gl.st (fun _ kq => XS.iloadN X6.here hx rfl (hb hby d7_16) rfl kq) ?_
    show Gl p.tables e below _ (T6.setTop (mkF m 17 #[.val (.ref tc), .val (.int 0), .val (.int 4), .val (.ref b1), .val (.int 2), .unset] [(.int 4), (.int 2)]))
    refine Gl.st (fun _ kq => XS.icmpNo X6.here hx rfl (hb hby d7_17) rfl (feq ((by decide) : ¬ ((2 : Int32) = (4 : Int32)))).1 kq) ?_
    show Gl p.tables e below _ (T6.setTop (mkF m 20 #[.val (.ref tc), .val (.int 0), .val (.int 4), .val (.ref b1), .val (.int 2), .unset] []))
    refine Gl.st (fun _ kq => XS.aloadN X6.here hx rfl (hb hby d7_20) rfl rfl kq) ?_
    refine Gl.st (fun _ kq => XS.iloadN X6.here hx rfl (hb hby d7_21) rfl kq) ?_
    refine Gl.st (fun _ kq => XS.iloadN X6.here hx rfl (hb hby d7_22) rfl kq) ?_
    show Gl p.tables e below _ (T6.setTop (mkF m 23 #[.val (.ref tc), .val (.int 0), .val (.int 4), .val (.ref b1), .val (.int 2), .unset] [(.int 4), (.int 0), (.ref tc)]))
    have f27 : Arv Z T6.heap tc kc .char (4 : Int32) [(.int cc0), (.int cc1), (.int cc2), (.int cc3)] (.int 0) := (f4.keep K6 (ninS ne5 nin0))
    have f28 : Old Z n0 T6.heap := ((pf1.ext E1).keep K6 (allS g2 all0))
    obtain ⟨_, _, ⟨T31, L31, k31, n31⟩, -, X31, ⟨Lc31, hQ31, l31, y31, z31⟩, st31⟩ := Jvm.LawKit.callS X6 hx (y := (⟨"java/lang/StringUTF16", "toBytes", "([CII)[B"⟩ : MethodName)) hown (mvT hZ (tw hw 75 rfl)) (mvT hZ (tw hw 76 rfl)) (mvT hZ (tw hw 41 rfl)) (mvT hZ (tw hw 77 rfl)) (by decide) (backOf (W := 0) (rm_tb4 l Z a0 hw [] (tc) (kc) (cc0) (cc1) (cc2) (cc3) T6.heap n0 (Nat.le_trans (Nat.le_trans Z0 E1.1) K6.1) f27 f28 OA OH OL) hZ (tw hw 77 rfl) (tw hw 41 rfl) (by decide) (by decide)) (g := (mkF m 23 #[.val (.ref tc), .val (.int 0), .val (.int 4), .val (.ref b1), .val (.int 2), .unset] [(.int 4), (.int 0), (.ref tc)])) rfl (by rw [hml]; rfl) (argsL := [(.ref tc), (.int 0), (.int 4)]) (rest := []) (lenOf pd___CII__B rfl) rfl (by show 2 * 0 + _ ≤ _; exact Nat.le_of_eq rfl) (hb hby d7_23) (fun _ _ => ⟨rfl, rfl, (by decide : 1 + 1 ≤ _), (by decide : 4 + 8 ≤ _)⟩)
    dsimp only [Pt.U, Pt.locs, Pt.cells, Pt.slots] at X31 l31 y31 z31 st31 hQ31
    subst l31 y31 z31
    obtain ⟨v29, v30, rfl, N31, K31, q31_0, y31_0⟩ := hQ31
    have M31 := Fr.app M6 N31
    have g32 : n0 ≤ v29 := Nat.le_trans (Nat.le_trans (Nat.le_trans Z0 E1.1) K6.1) y31_0
    have s33 : h0.size ≤ v29 := Nat.le_trans (Nat.le_trans (Nat.le_trans (Nat.le_refl _) E1.1) K6.1) y31_0
    refine Gl.st st31 ?_
    show Gl p.tables e below _ (T31.setTop (mkF m 26 #[.val (.ref tc), .val (.int 0), .val (.int 4), .val (.ref b1), .val (.int 2), .unset] [(.ref v29)]))
    show Gl p.tables e below _ (T31.setTop (mkF m 26 #[.val (.ref tc), .val (.int 0), .val (.int 4), .val (.ref b1), .val (.int 2), .unset] [(.ref v29)]))
    refine Gl.st (fun _ kq => XS.astore X31.here hx rfl (hb hby d7_26) rfl rfl (l' := #[.val (.ref tc), .val (.int 0), .val (.int 4), .val (.ref b1), .val (.int 2), .val (.ref v29)]) rfl kq) ?_
    refine Gl.st (fun _ kq => XS.aload X31.here hx rfl (hb hby d7_28) rfl rfl kq) ?_
    refine Gl.st (fun _ kq => XS.iload X31.here hx rfl (hb hby d7_30) rfl kq) ?_
    show Gl p.tables e below _ (T31.setTop (mkF m 32 #[.val (.ref tc), .val (.int 0), .val (.int 4), .val (.ref b1), .val (.int 2), .val (.ref v29)] [(.int 2), (.ref v29)]))
    have f34 : Old Z n0 T31.heap := (f28.keep K31 all0)
    obtain ⟨_, _, ⟨T35, L35, k35, n35⟩, -, X35, ⟨Lc35, hQ35, l35, y35, z35⟩, st35⟩ := Jvm.LawKit.callS X31 hx (y := (⟨"java/lang/StringUTF16", "getChar", "([BI)C"⟩ : MethodName)) hown (mvT hZ (tw hw 91 rfl)) (mvT hZ (tw hw 92 rfl)) (mvT hZ (tw hw 41 rfl)) (mvT hZ (tw hw 93 rfl)) (by decide) (backOf (W := 0) (rm_gc l Z a0 hw [] (v29) (v30) (([cc0, cc1, cc2, cc3] : List Int32)) (2) T31.heap n0 (Nat.le_trans (Nat.le_trans (Nat.le_trans Z0 E1.1) K6.1) K31.1) q31_0 f34 (Nat.le_of_ble_eq_true rfl) (alcS hcc0 (alcS hcc1 (alcS hcc2 (alcS hcc3 alc0)))) (Nat.le_of_ble_eq_true rfl) OA OH OL) hZ (tw hw 93 rfl) (tw hw 41 rfl) (by decide) (by decide)) (g := (mkF m 32 #[.val (.ref tc), .val (.int 0), .val (.int 4), .val (.ref b1), .val (.int 2), .val (.ref v29)] [(.int 2), (.ref v29)])) rfl (by rw [hml]; rfl) (argsL := [(.ref v29), (.int 2)]) (rest := []) (lenOf pd___BI_C rfl) rfl (by show 2 * 0 + _ ≤ _; exact Nat.le_of_eq rfl) (hb hby d7_32) (fun _ _ => ⟨rfl, rfl, (by decide : 2 + 0 ≤ _), (by decide : 12 + 0 ≤ _)⟩)
    dsimp only [Pt.U, Pt.locs, Pt.cells, Pt.slots] at X35 l35 y35 z35 st35 hQ35
    subst l35 y35 z35
    obtain ⟨rfl, N35, e35⟩ := hQ35
    have M35 := Fr.app M31 N35
    refine Gl.st st35 ?_
    show Gl p.tables e below _ (T35.setTop (mkF m 35 #[.val (.ref tc), .val (.int 0), .val (.int 4), .val (.ref b1), .val (.int 2), .val (.ref v29)] [(.int (([cc0, cc1, cc2, cc3] : List Int32).getD 2 0))]))
    show Gl p.tables e below _ (T35.setTop (mkF m 35 #[.val (.ref tc), .val (.int 0), .val (.int 4), .val (.ref b1), .val (.int 2), .val (.ref v29)] [(.int cc2)]))
    show Gl p.tables e below _ (T35.setTop (mkF m 35 #[.val (.ref tc), .val (.int 0), .val (.int 4), .val (.ref b1), .val (.int 2), .val (.ref v29)] [(.int cc2)]))
    refine Gl.st (fun _ kq => XS.sipush X35.here hx rfl (hb hby d7_35) kq) ?_
    show Gl p.tables e below _ (T35.setTop (mkF m 38 #[.val (.ref tc), .val (.int 0), .val (.int 4), .val (.ref b1), .val (.int 2), .val (.ref v29)] [(.int 255), (.int cc2)]))
    refine Gl.st (fun _ kq => XS.icmpYes X35.here hx rfl (pc0 := 38) (pc' := 54) rfl (hb hby d7_38) rfl (tlt (y6_0 : (255 : Int32) < cc2)).2.2.1 (by decide) (by decide) kq) ?_
    show Gl p.tables e below _ (T35.setTop (mkF m 54 #[.val (.ref tc), .val (.int 0), .val (.int 4), .val (.ref b1), .val (.int 2), .val (.ref v29)] []))
    refine Gl.st (fun _ kq => XS.aload X35.here hx rfl (hb hby d7_54) rfl rfl kq) ?_
    have K36 : Keep h0 T31.heap [] := ((((Keep.refl h0 []).ext E1).trans K6 (allS (Or.inr s3) all0)).trans K31 all0)
    exact Gl.retA X35 hx Bd.returns rfl rfl (hb hby d7_56) hlk (by decide) (by decide) (by rw [e35]; exact ⟨v29, v30, rfl, M35, K36, q31_0, s33⟩)
  · have M6 := Fr.app N0 N6
    refine Gl.st st6 ?_
    show Gl p.tables e below _ (T6.setTop (mkF m 12 #[.val (.ref tc), .val (.int 0), .val (.int 4), .val (.ref b1), .unset, .unset] [(.int 3)]))
    refine Gl.st (fun _ kq => XS.istore X6.here hx rfl (hb hby d7_12) rfl (l' := #[.val (.ref tc), .val (.int 0), .val (.int 4), .val (.ref b1), .val (.int 3), .unset]) rfl kq) ?_
    refine Gl.st (fun _ kq => XS.iload X6.here hx rfl (hb hby d7_14) rfl kq) ?_
    refine Gl.st (fun _ kq => XS.iloadN X6.here hx rfl (hb hby d7_16) rfl kq) ?_
    show Gl p.tables e below _ (T6.setTop (mkF m 17 #[.val (.ref tc), .val (.int 0), .val (.int 4), .val (.ref b1), .val (.int 3), .unset] [(.int 4), (.int 3)]))
    refine Gl.st (fun _ kq => XS.icmpNo X6.here hx rfl (hb hby d7_17) rfl (feq ((by decide) : ¬ ((3 : Int32) = (4 : Int32)))).1 kq) ?_
    show Gl p.tables e below _ (T6.setTop (mkF m 20 #[.val (.ref tc), .val (.int 0), .val (.int 4), .val (.ref b1), .val (.int 3), .unset] []))
    refine Gl.st (fun _ kq => XS.aloadN X6.here hx rfl (hb hby d7_20) rfl rfl kq) ?_
    refine Gl.st (fun _ kq => XS.iloadN X6.here hx rfl (hb hby d7_21) rfl kq) ?_
    refine Gl.st (fun _ kq => XS.iloadN X6.here hx rfl (hb hby d7_22) rfl kq) ?_
    show Gl p.tables e below _ (T6.setTop (mkF m 23 #[.val (.ref tc), .val (.int 0), .val (.int 4), .val (.ref b1), .val (.int 3), .unset] [(.int 4), (.int 0), (.ref tc)]))
    have f37 : Arv Z T6.heap tc kc .char (4 : Int32) [(.int cc0), (.int cc1), (.int cc2), (.int cc3)] (.int 0) := (f4.keep K6 (ninS ne5 nin0))
    have f38 : Old Z n0 T6.heap := ((pf1.ext E1).keep K6 (allS g2 all0))
    obtain ⟨_, _, ⟨T41, L41, k41, n41⟩, -, X41, ⟨Lc41, hQ41, l41, y41, z41⟩, st41⟩ := Jvm.LawKit.callS X6 hx (y := (⟨"java/lang/StringUTF16", "toBytes", "([CII)[B"⟩ : MethodName)) hown (mvT hZ (tw hw 75 rfl)) (mvT hZ (tw hw 76 rfl)) (mvT hZ (tw hw 41 rfl)) (mvT hZ (tw hw 77 rfl)) (by decide) (backOf (W := 0) (rm_tb4 l Z a0 hw [] (tc) (kc) (cc0) (cc1) (cc2) (cc3) T6.heap n0 (Nat.le_trans (Nat.le_trans Z0 E1.1) K6.1) f37 f38 OA OH OL) hZ (tw hw 77 rfl) (tw hw 41 rfl) (by decide) (by decide)) (g := (mkF m 23 #[.val (.ref tc), .val (.int 0), .val (.int 4), .val (.ref b1), .val (.int 3), .unset] [(.int 4), (.int 0), (.ref tc)])) rfl (by rw [hml]; rfl) (argsL := [(.ref tc), (.int 0), (.int 4)]) (rest := []) (lenOf pd___CII__B rfl) rfl (by show 2 * 0 + _ ≤ _; exact Nat.le_of_eq rfl) (hb hby d7_23) (fun _ _ => ⟨rfl, rfl, (by decide : 1 + 1 ≤ _), (by decide : 4 + 8 ≤ _)⟩)
    dsimp only [Pt.U, Pt.locs, Pt.cells, Pt.slots] at X41 l41 y41 z41 st41 hQ41
    subst l41 y41 z41
    obtain ⟨v39, v40, rfl, N41, K41, q41_0, y41_0⟩ := hQ41
    have M41 := Fr.app M6 N41
    have g42 : n0 ≤ v39 := Nat.le_trans (Nat.le_trans (Nat.le_trans Z0 E1.1) K6.1) y41_0
    have s43 : h0.size ≤ v39 := Nat.le_trans (Nat.le_trans (Nat.le_trans (Nat.le_refl _) E1.1) K6.1) y41_0
    refine Gl.st st41 ?_
    show Gl p.tables e below _ (T41.setTop (mkF m 26 #[.val (.ref tc), .val (.int 0), .val (.int 4), .val (.ref b1), .val (.int 3), .unset] [(.ref v39)]))
    show Gl p.tables e below _ (T41.setTop (mkF m 26 #[.val (.ref tc), .val (.int 0), .val (.int 4), .val (.ref b1), .val (.int 3), .unset] [(.ref v39)]))
    refine Gl.st (fun _ kq => XS.astore X41.here hx rfl (hb hby d7_26) rfl rfl (l' := #[.val (.ref tc), .val (.int 0), .val (.int 4), .val (.ref b1), .val (.int 3), .val (.ref v39)]) rfl kq) ?_
    refine Gl.st (fun _ kq => XS.aload X41.here hx rfl (hb hby d7_28) rfl rfl kq) ?_
    refine Gl.st (fun _ kq => XS.iload X41.here hx rfl (hb hby d7_30) rfl kq) ?_
    show Gl p.tables e below _ (T41.setTop (mkF m 32 #[.val (.ref tc), .val (.int 0), .val (.int 4), .val (.ref b1), .val (.int 3), .val (.ref v39)] [(.int 3), (.ref v39)]))
    have f44 : Old Z n0 T41.heap := (f38.keep K41 all0)
    obtain ⟨_, _, ⟨T45, L45, k45, n45⟩, -, X45, ⟨Lc45, hQ45, l45, y45, z45⟩, st45⟩ := Jvm.LawKit.callS X41 hx (y := (⟨"java/lang/StringUTF16", "getChar", "([BI)C"⟩ : MethodName)) hown (mvT hZ (tw hw 91 rfl)) (mvT hZ (tw hw 92 rfl)) (mvT hZ (tw hw 41 rfl)) (mvT hZ (tw hw 93 rfl)) (by decide) (backOf (W := 0) (rm_gc l Z a0 hw [] (v39) (v40) (([cc0, cc1, cc2, cc3] : List Int32)) (3) T41.heap n0 (Nat.le_trans (Nat.le_trans (Nat.le_trans Z0 E1.1) K6.1) K41.1) q41_0 f44 (Nat.le_of_ble_eq_true rfl) (alcS hcc0 (alcS hcc1 (alcS hcc2 (alcS hcc3 alc0)))) (Nat.le_of_ble_eq_true rfl) OA OH OL) hZ (tw hw 93 rfl) (tw hw 41 rfl) (by decide) (by decide)) (g := (mkF m 32 #[.val (.ref tc), .val (.int 0), .val (.int 4), .val (.ref b1), .val (.int 3), .val (.ref v39)] [(.int 3), (.ref v39)])) rfl (by rw [hml]; rfl) (argsL := [(.ref v39), (.int 3)]) (rest := []) (lenOf pd___BI_C rfl) rfl (by show 2 * 0 + _ ≤ _; exact Nat.le_of_eq rfl) (hb hby d7_32) (fun _ _ => ⟨rfl, rfl, (by decide : 2 + 0 ≤ _), (by decide : 12 + 0 ≤ _)⟩)
    dsimp only [Pt.U, Pt.locs, Pt.cells, Pt.slots] at X45 l45 y45 z45 st45 hQ45
    subst l45 y45 z45
    obtain ⟨rfl, N45, e45⟩ := hQ45
    have M45 := Fr.app M41 N45
    refine Gl.st st45 ?_
    show Gl p.tables e below _ (T45.setTop (mkF m 35 #[.val (.ref tc), .val (.int 0), .val (.int 4), .val (.ref b1), .val (.int 3), .val (.ref v39)] [(.int (([cc0, cc1, cc2, cc3] : List Int32).getD 3 0))]))
    show Gl p.tables e below _ (T45.setTop (mkF m 35 #[.val (.ref tc), .val (.int 0), .val (.int 4), .val (.ref b1), .val (.int 3), .val (.ref v39)] [(.int cc3)]))
    show Gl p.tables e below _ (T45.setTop (mkF m 35 #[.val (.ref tc), .val (.int 0), .val (.int 4), .val (.ref b1), .val (.int 3), .val (.ref v39)] [(.int cc3)]))
    refine Gl.st (fun _ kq => XS.sipush X45.here hx rfl (hb hby d7_35) kq) ?_
    show Gl p.tables e below _ (T45.setTop (mkF m 38 #[.val (.ref tc), .val (.int 0), .val (.int 4), .val (.ref b1), .val (.int 3), .val (.ref v39)] [(.int 255), (.int cc3)]))
    refine Gl.st (fun _ kq => XS.icmpYes X45.here hx rfl (pc0 := 38) (pc' := 54) rfl (hb hby d7_38) rfl (tlt (y6_0 : (255 : Int32) < cc3)).2.2.1 (by decide) (by decide) kq) ?_
    show Gl p.tables e below _ (T45.setTop (mkF m 54 #[.val (.ref tc), .val (.int 0), .val (.int 4), .val (.ref b1), .val (.int 3), .val (.ref v39)] []))
    refine Gl.st (fun _ kq => XS.aload X45.here hx rfl (hb hby d7_54) rfl rfl kq) ?_
    have K46 : Keep h0 T41.heap [] := ((((Keep.refl h0 []).ext E1).trans K6 (allS (Or.inr s3) all0)).trans K41 all0)
    exact Gl.retA X45 hx Bd.returns rfl rfl (hb hby d7_56) hlk (by decide) (by decide) (by rw [e45]; exact ⟨v39, v40, rfl, M45, K46, q41_0, s43⟩)
theorem ef_cfa4 (m : MethodId) (t : Addr) : entryFrame m #[(.ref t), (.int 4)] 2 = mkF m 0 #[.val (.ref t), .val (.int 4)] [] := by first | (simp [entryFrame, mkF, argsToLocals, Value.category]; done) | rfl
def Q_cfa4 (Z : State) (t : Addr) (k : ClassId) (cc0 : Int32) (cc1 : Int32) (cc2 : Int32) (cc3 : Int32) (h0 : Heap) (n0 : Nat) (v : Option Value) (h : Heap) (L : List Loc) : Prop := (v = some (.int 1) ∧ Fr n0 L ∧ h = h0)
set_option maxRecDepth 65536 in
set_option maxHeartbeats 40000000 in
theorem rm_cfa4 (l : Launch) (Z : State) (a0 : Array Value) (hw : ∀ d ∈ tables_1, d.before a0 Z = true) (ws : List Jvm.Cond) (t : Addr) (k : ClassId) (cc0 : Int32) (cc1 : Int32) (cc2 : Int32) (cc3 : Int32) (h0 : Heap) (n0 : Nat) (Z0 : n0 ≤ h0.size) (pf0 : Arv Z h0 t k .byte (Int32.ofNat (2 * ([cc0, cc1, cc2, cc3] : List Int32).length)) (own_us ([cc0, cc1, cc2, cc3] : List Int32)) (.int 0)) :
    MetFree l (⟨"java/lang/StringUTF16", "coderFromArrayLen", "([BI)B"⟩ : MethodName) (head1 (Jvm.Cond.code (⟨"java/lang/StringUTF16", "coderFromArrayLen", "([BI)B"⟩ : MethodName) jdk_52_method_15_code 2 (some .byte) :: ws) ({ frames := 0, cells := 0, slots := 0, locals := 0 } : Room)) (fun aa U => aa = #[(.ref t), (.int 4)] ∧ Z.Warmed39 U.vm ∧ U.heap = h0) (fun _ _ _ _ _ => True) (fun _ U o U' => ∃ v L, o = .returned v ∧ Q_cfa4 Z t k cc0 cc1 cc2 cc3 h0 n0 v U'.heap L ∧ FrameEnd U o U' L ({ frames := 0, cells := 0, slots := 0, locals := 0 } : Room).cells ({ frames := 0, cells := 0, slots := 0, locals := 0 } : Room).slots) := by
  refine MetFree.of_bodySF (plainFor_of_name pn_java_lang_StringUTF16) hisR ?_
  intro p e s m args below meth c s₁ Bd hml0 hP hK
  obtain ⟨rfl, hZ, hh⟩ := hP
  have hx := Bd.exec
  have hby := Bd.bytes
  have hlk : meth.locks = false := BodyLoose.notSynchronized Bd
  have hml : c.maxLocals = 2 := hml0
  have hown : s.vm.findClass "java/lang/StringUTF16" = some m.cls := findClass_of_methodNamed Bd.named
  have hnm := (name_of_methodNamed Bd.named Bd.method).1
  have X0 : Stand p l e ({ frames := 0, cells := 0, slots := 0, locals := 0 } : Room) s m #[(.ref t), (.int 4)] below meth c s₁ [] 0 0 := Stand.of_body Bd
  have e0 : s₁.heap = h0 := by rw [← hh, Bd.state]; rfl
  have N0 := Fr.nil n0
  show Gl p.tables e below (EndN s (Q_cfa4 Z t k cc0 cc1 cc2 cc3 h0 n0) ({ frames := 0, cells := 0, slots := 0, locals := 0 } : Room).cells ({ frames := 0, cells := 0, slots := 0, locals := 0 } : Room).slots) _
  refine Gl.cast (ef_cfa4 m t) ?_
  show Gl p.tables e below _ (s₁.setTop (mkF m 0 #[.val (.ref t), .val (.int 4)] []))
  refine Gl.st (fun _ kq => XS.iloadN X0.here hx rfl (hb hby d9_0) rfl kq) ?_
  refine Gl.st (fun _ kq => XS.aloadN X0.here hx rfl (hb hby d9_1) rfl rfl kq) ?_
  show Gl p.tables e below _ (s₁.setTop (mkF m 2 #[.val (.ref t), .val (.int 4)] [(.ref t), (.int 4)]))
  obtain ⟨c1, a1, q1, S1, M1, H1, G1⟩ := id pf0
  refine Gl.st (fun _ kq => X0.arraylength hx (by rw [e0]; exact a1.1) (State.isArrayOf_alike hZ.alike a1.2.1) (g := (mkF m 2 #[.val (.ref t), .val (.int 4)] [(.ref t), (.int 4)])) rfl rfl (hb hby d9_2) _ kq) ?_
  rw [len_of S1 M1]
  show Gl p.tables e below _ (s₁.setTop (mkF m 3 #[.val (.ref t), .val (.int 4)] [(.int (Int32.ofNat (2 * ([cc0, cc1, cc2, cc3] : List Int32).length))), (.int 4)]))
  show Gl p.tables e below _ (s₁.setTop (mkF m 3 #[.val (.ref t), .val (.int 4)] [(.int 8), (.int 4)]))
  refine Gl.st (fun _ kq => XS.isub X0.here hx rfl (hb hby d9_3) rfl kq) ?_
  refine Gl.st (fun _ kq => XS.bipush X0.here hx rfl (hb hby d9_4) kq) ?_
  refine Gl.st (fun _ kq => XS.iushr X0.here hx rfl (hb hby d9_6) rfl kq) ?_
  refine Gl.st (fun _ kq => XS.i2b X0.here hx rfl (hb hby d9_7) rfl kq) ?_
  exact Gl.retN X0 hx (t := .byte) Bd.returns (by simp) (hb hby d9_8) hlk (by decide) (by decide) (by rw [e0]; exact ⟨rfl, N0, rfl⟩)
theorem d2_27 : decode jdk_42_method_149_code 27 = .ok (.getstatic 38, 3) := by decide +kernel
theorem d2_30 : decode jdk_42_method_149_code 30 = .ok (.ifCond .eq 28, 3) := by decide +kernel
theorem d2_33 : decode jdk_42_method_149_code 33 = .ok (.aload_n 1, 1) := by decide +kernel
theorem d2_34 : decode jdk_42_method_149_code 34 = .ok (.iload_n 2, 1) := by decide +kernel
theorem d2_35 : decode jdk_42_method_149_code 35 = .ok (.iload_n 3, 1) := by decide +kernel
theorem d2_36 : decode jdk_42_method_149_code 36 = .ok (.invokestatic 177, 3) := by decide +kernel
theorem d2_39 : decode jdk_42_method_149_code 39 = .ok (.astore 5, 2) := by decide +kernel
theorem d2_41 : decode jdk_42_method_149_code 41 = .ok (.aload_n 0, 1) := by decide +kernel
theorem d2_42 : decode jdk_42_method_149_code 42 = .ok (.aload 5, 2) := by decide +kernel
theorem d2_44 : decode jdk_42_method_149_code 44 = .ok (.iload_n 3, 1) := by decide +kernel
theorem d2_45 : decode jdk_42_method_149_code 45 = .ok (.invokestatic 47, 3) := by decide +kernel
theorem d2_48 : decode jdk_42_method_149_code 48 = .ok (.putfield 15, 3) := by decide +kernel
theorem d2_51 : decode jdk_42_method_149_code 51 = .ok (.aload_n 0, 1) := by decide +kernel
theorem d2_52 : decode jdk_42_method_149_code 52 = .ok (.aload 5, 2) := by decide +kernel
theorem d2_54 : decode jdk_42_method_149_code 54 = .ok (.putfield 9, 3) := by decide +kernel
theorem d2_57 : decode jdk_42_method_149_code 57 = .ok (.return_, 1) := by decide +kernel
theorem ef_i4_1 (m : MethodId) (b : Addr) (tc : Addr) : entryFrame m #[(.ref b), (.ref tc), (.int 0), (.int 1), .null] 6 = mkF m 0 #[.val (.ref b), .val (.ref tc), .val (.int 0), .val (.int 1), .val .null, .unset] [] := by first | (simp [entryFrame, mkF, argsToLocals, Value.category]; done) | rfl
def Q_i4_1 (Z : State) (b : Addr) (tc : Addr) (kc : ClassId) (cc0 : Int32) (Y1 : Int32) (h0 : Heap) (n0 : Nat) (v : Option Value) (h : Heap) (L : List Loc) : Prop := (∃ t : Addr, ∃ k : ClassId, v = none ∧ Fr n0 L ∧ Keep h0 h [b] ∧ Exa Z h b "java/lang/String" ∧ Fld Z h b "java/lang/String" "coder" "B" (.int 1) ∧ Fld Z h b "java/lang/String" "value" "[B" (.ref t) ∧ Arv Z h t k .byte (Int32.ofNat (2 * ([cc0] : List Int32).length)) (own_us ([cc0] : List Int32)) (.int 0))
set_option maxRecDepth 65536 in
set_option maxHeartbeats 40000000 in
theorem rm_i4_1 (l : Launch) (Z : State) (a0 : Array Value) (hw : ∀ d ∈ tables_1, d.before a0 Z = true) (ws : List Jvm.Cond) (b : Addr) (tc : Addr) (kc : ClassId) (cc0 : Int32) (Y1 : Int32) (h0 : Heap) (n0 : Nat) (Z0 : n0 ≤ h0.size) (pf0 : Exa Z h0 b "java/lang/String") (pf1 : Fld Z h0 b "java/lang/String" "value" "[B" .null) (pf2 : Fld Z h0 b "java/lang/String" "coder" "B" (.int 0)) (pf3 : Arv Z h0 tc kc .char (1 : Int32) [(.int cc0)] (.int 0)) (pf4 : Old Z n0 h0) (gb : n0 ≤ b) (hcc0 : own_h cc0) (OA : Sta Z Z.heap "java/lang/StringUTF16" "$assertionsDisabled" "Z" (.int 1)) (OH : Sta Z Z.heap "java/lang/StringUTF16" "HI_BYTE_SHIFT" "I" (.int 0)) (OL : Sta Z Z.heap "java/lang/StringUTF16" "LO_BYTE_SHIFT" "I" (.int 8)) (hU : (255 : Int32) < cc0) (O2 : Sta Z Z.heap "java/lang/String" "COMPACT_STRINGS" "Z" (.int Y1)) (P5 : ¬ (Y1 = (0 : Int32))) :
    MetFree l (⟨"java/lang/String", "<init>", "([CIILjava/lang/Void;)V"⟩ : MethodName) (head1 (Jvm.Cond.code (⟨"java/lang/String", "<init>", "([CIILjava/lang/Void;)V"⟩ : MethodName) jdk_42_method_149_code 6 none :: ws) ({ frames := 4, cells := 2, slots := 3, locals := 57 } : Room)) (fun aa U => aa = #[(.ref b), (.ref tc), (.int 0), (.int 1), .null] ∧ Z.Warmed39 U.vm ∧ U.heap = h0) (fun _ _ _ _ _ => True) (fun _ U o U' => ∃ v L, o = .returned v ∧ Q_i4_1 Z b tc kc cc0 Y1 h0 n0 v U'.heap L ∧ FrameEnd U o U' L ({ frames := 4, cells := 2, slots := 3, locals := 57 } : Room).cells ({ frames := 4, cells := 2, slots := 3, locals := 57 } : Room).slots) := by
  refine MetFree.of_bodySF (plainFor_of_name pn_java_lang_String) hisR ?_
  intro p e s m args below meth c s₁ Bd hml0 hP hK
  obtain ⟨rfl, hZ, hh⟩ := hP
  have hx := Bd.exec
  have hby := Bd.bytes
  have hlk : meth.locks = false := BodyLoose.notSynchronized Bd
  have hml : c.maxLocals = 6 := hml0
  have hown : s.vm.findClass "java/lang/String" = some m.cls := findClass_of_methodNamed Bd.named
  have hnm := (name_of_methodNamed Bd.named Bd.method).1
  have X0 : Stand p l e ({ frames := 4, cells := 2, slots := 3, locals := 57 } : Room) s m #[(.ref b), (.ref tc), (.int 0), (.int 1), .null] below meth c s₁ [] 0 0 := Stand.of_body Bd
  have e0 : s₁.heap = h0 := by rw [← hh, Bd.state]; rfl
  have N0 := Fr.nil n0
  show Gl p.tables e below (EndN s (Q_i4_1 Z b tc kc cc0 Y1 h0 n0) ({ frames := 4, cells := 2, slots := 3, locals := 57 } : Room).cells ({ frames := 4, cells := 2, slots := 3, locals := 57 } : Room).slots) _
  refine Gl.cast (ef_i4_1 m b tc) ?_
  show Gl p.tables e below _ (s₁.setTop (mkF m 0 #[.val (.ref b), .val (.ref tc), .val (.int 0), .val (.int 1), .val .null, .unset] []))
  refine Gl.st (fun _ kq => XS.aloadN X0.here hx rfl (hb hby d2_0) rfl rfl kq) ?_
  show Gl p.tables e below _ (s₁.setTop (mkF m 1 #[.val (.ref b), .val (.ref tc), .val (.int 0), .val (.int 1), .val .null, .unset] [(.ref b)]))
  obtain ⟨T1, X1, e1, st1⟩ := initO X0 hx hZ hown (tw hw 13 rfl) (tw hw 14 rfl) (tw hw 15 rfl) e0 (g := (mkF m 1 #[.val (.ref b), .val (.ref tc), .val (.int 0), .val (.int 1), .val .null, .unset] [(.ref b)])) rfl (by rw [hml]; rfl) rfl (hb hby d2_1) (by decide) (W := 0) (by show 2 * 0 + _ ≤ _; exact Nat.le_of_eq rfl) (by decide)
  refine Gl.st st1 ?_
  show Gl p.tables e below _ (T1.setTop (mkF m 4 #[.val (.ref b), .val (.ref tc), .val (.int 0), .val (.int 1), .val .null, .unset] []))
  refine Gl.st (fun _ kq => XS.iloadN X1.here hx rfl (hb hby d2_4) rfl kq) ?_
  show Gl p.tables e below _ (T1.setTop (mkF m 5 #[.val (.ref b), .val (.ref tc), .val (.int 0), .val (.int 1), .val .null, .unset] [(.int 1)]))
  refine Gl.st (fun _ kq => XS.ifYes X1.here hx rfl (pc0 := 5) (pc' := 27) rfl (hb hby d2_5) rfl ((if0 _ _).trans (feq ((by decide) : ¬ ((1 : Int32) = (0 : Int32)))).2) (by decide) (by decide) kq) ?_
  show Gl p.tables e below _ (T1.setTop (mkF m 27 #[.val (.ref b), .val (.ref tc), .val (.int 0), .val (.int 1), .val .null, .unset] []))
  obtain ⟨T2, X2, e2, st2⟩ := getS2 X1 hx hZ hown (host := "") (Or.inl (tw hw 38 rfl)) Via.refl e1 (O2.ext pf4.2) (g := (mkF m 27 #[.val (.ref b), .val (.ref tc), .val (.int 0), .val (.int 1), .val .null, .unset] [])) rfl (hb hby d2_27)
  refine Gl.st st2 ?_
  show Gl p.tables e below _ (T2.setTop (mkF m 30 #[.val (.ref b), .val (.ref tc), .val (.int 0), .val (.int 1), .val .null, .unset] [(.int Y1)]))
  refine Gl.st (fun _ kq => XS.ifNo X2.here hx rfl (hb hby d2_30) rfl ((if0 _ _).trans (feq (P5 : ¬ (Y1 = (0 : Int32)))).1) kq) ?_
  show Gl p.tables e below _ (T2.setTop (mkF m 33 #[.val (.ref b), .val (.ref tc), .val (.int 0), .val (.int 1), .val .null, .unset] []))
  refine Gl.st (fun _ kq => XS.aloadN X2.here hx rfl (hb hby d2_33) rfl rfl kq) ?_
  refine Gl.st (fun _ kq => XS.iloadN X2.here hx rfl (hb hby d2_34) rfl kq) ?_
  refine Gl.st (fun _ kq => XS.iloadN X2.here hx rfl (hb hby d2_35) rfl kq) ?_
  show Gl p.tables e below _ (T2.setTop (mkF m 36 #[.val (.ref b), .val (.ref tc), .val (.int 0), .val (.int 1), .val .null, .unset] [(.int 1), (.int 0), (.ref tc)]))
  obtain ⟨_, _, ⟨T5, L5, k5, n5⟩, -, X5, ⟨Lc5, hQ5, l5, y5, z5⟩, st5⟩ := Jvm.LawKit.callS X2 hx (y := (⟨"java/lang/StringUTF16", "compress", "([CII)[B"⟩ : MethodName)) hown (mvT hZ (tw hw 39 rfl)) (mvT hZ (tw hw 40 rfl)) (mvT hZ (tw hw 41 rfl)) (mvT hZ (tw hw 42 rfl)) (by decide) (backOf (W := 0) (rm_c3_1 l Z a0 hw [] (tc) (kc) (cc0) h0 n0 Z0 pf3 pf4 hcc0 OA OH OL hU) hZ (tw hw 42 rfl) (tw hw 41 rfl) (by decide) (by decide)) (g := (mkF m 36 #[.val (.ref b), .val (.ref tc), .val (.int 0), .val (.int 1), .val .null, .unset] [(.int 1), (.int 0), (.ref tc)])) rfl (by rw [hml]; rfl) (argsL := [(.ref tc), (.int 0), (.int 1)]) (rest := []) (lenOf pd___CII__B rfl) rfl (by show 2 * 0 + _ ≤ _; exact Nat.le_of_eq rfl) (hb hby d2_36) (fun _ _ => ⟨rfl, e2, (by decide : 0 + 2 ≤ _), (by decide : 0 + 3 ≤ _)⟩)
  dsimp only [Pt.U, Pt.locs, Pt.cells, Pt.slots] at X5 l5 y5 z5 st5 hQ5
  subst l5 y5 z5
  obtain ⟨v3, v4, rfl, N5, K5, q5_0, y5_0⟩ := hQ5
  have M5 := Fr.app N0 N5
  have g6 : n0 ≤ v3 := Nat.le_trans Z0 y5_0
  have s7 : h0.size ≤ v3 := Nat.le_trans (Nat.le_refl _) y5_0
  refine Gl.st st5 ?_
  show Gl p.tables e below _ (T5.setTop (mkF m 39 #[.val (.ref b), .val (.ref tc), .val (.int 0), .val (.int 1), .val .null, .unset] [(.ref v3)]))
  show Gl p.tables e below _ (T5.setTop (mkF m 39 #[.val (.ref b), .val (.ref tc), .val (.int 0), .val (.int 1), .val .null, .unset] [(.ref v3)]))
  refine Gl.st (fun _ kq => XS.astore X5.here hx rfl (hb hby d2_39) rfl rfl (l' := #[.val (.ref b), .val (.ref tc), .val (.int 0), .val (.int 1), .val .null, .val (.ref v3)]) rfl kq) ?_
  refine Gl.st (fun _ kq => XS.aloadN X5.here hx rfl (hb hby d2_41) rfl rfl kq) ?_
  refine Gl.st (fun _ kq => XS.aload X5.here hx rfl (hb hby d2_42) rfl rfl kq) ?_
  refine Gl.st (fun _ kq => XS.iloadN X5.here hx rfl (hb hby d2_44) rfl kq) ?_
  show Gl p.tables e below _ (T5.setTop (mkF m 45 #[.val (.ref b), .val (.ref tc), .val (.int 0), .val (.int 1), .val .null, .val (.ref v3)] [(.int 1), (.ref v3), (.ref b)]))
  obtain ⟨_, _, ⟨T8, L8, k8, n8⟩, -, X8, ⟨Lc8, hQ8, l8, y8, z8⟩, st8⟩ := Jvm.LawKit.callS X5 hx (y := (⟨"java/lang/StringUTF16", "coderFromArrayLen", "([BI)B"⟩ : MethodName)) hown (mvT hZ (tw hw 46 rfl)) (mvT hZ (tw hw 47 rfl)) (mvT hZ (tw hw 41 rfl)) (mvT hZ (tw hw 48 rfl)) (by decide) (backOf (W := 1) (rm_cfa1 l Z a0 hw [] (v3) (v4) (cc0) T5.heap n0 (Nat.le_trans Z0 K5.1) q5_0) hZ (tw hw 48 rfl) (tw hw 41 rfl) (by decide) (by decide)) (g := (mkF m 45 #[.val (.ref b), .val (.ref tc), .val (.int 0), .val (.int 1), .val .null, .val (.ref v3)] [(.int 1), (.ref v3), (.ref b)])) rfl (by rw [hml]; rfl) (argsL := [(.ref v3), (.int 1)]) (rest := [(.ref b)]) (lenOf pd___BI_B rfl) rfl (by show 2 * 0 + _ ≤ _; exact Nat.le_of_eq rfl) (hb hby d2_45) (fun _ _ => ⟨rfl, rfl, (by decide : 2 + 0 ≤ _), (by decide : 3 + 0 ≤ _)⟩)
  dsimp only [Pt.U, Pt.locs, Pt.cells, Pt.slots] at X8 l8 y8 z8 st8 hQ8
  subst l8 y8 z8
  obtain ⟨rfl, N8, e8⟩ := hQ8
  have M8 := Fr.app M5 N8
  refine Gl.st st8 ?_
  show Gl p.tables e below _ (T8.setTop (mkF m 48 #[.val (.ref b), .val (.ref tc), .val (.int 0), .val (.int 1), .val .null, .val (.ref v3)] [(.int 1), (.ref b)]))
  show Gl p.tables e below _ (T8.setTop (mkF m 48 #[.val (.ref b), .val (.ref tc), .val (.int 0), .val (.int 1), .val .null, .val (.ref v3)] [(.int 1), (.ref b)]))
  have f9 : Fld Z T5.heap b "java/lang/String" "coder" "B" (.int 0) := (pf2.keep K5 nin0)
  have f10 : Exa Z T5.heap b "java/lang/String" := (pf0.keep K5)
  obtain ⟨T11, h11, X11, e11, W11, st11⟩ := putFN X8 hx hZ hown (tw hw 23 rfl) Via.refl e8 f9 f10 (Or.inr ⟨(tw hw 19 rfl), rfl, hnm⟩) (tw hw 3 rfl) (ty := .byte) (v' := (.int 1)) (by decide) rfl (by decide) (g := (mkF m 48 #[.val (.ref b), .val (.ref tc), .val (.int 0), .val (.int 1), .val .null, .val (.ref v3)] [(.int 1), (.ref b)])) rfl rfl (hb hby d2_48)
  refine Gl.st st11 ?_
  have F11 : Fld Z h11 b "java/lang/String" "coder" "B" (.int 1) := Fld.same W11 f9
  have N11 := Fr.snoc X11 M8 gb
  show Gl p.tables e below _ (T11.setTop (mkF m 51 #[.val (.ref b), .val (.ref tc), .val (.int 0), .val (.int 1), .val .null, .val (.ref v3)] []))
  refine Gl.st (fun _ kq => XS.aloadN X11.here hx rfl (hb hby d2_51) rfl rfl kq) ?_
  refine Gl.st (fun _ kq => XS.aload X11.here hx rfl (hb hby d2_52) rfl rfl kq) ?_
  show Gl p.tables e below _ (T11.setTop (mkF m 54 #[.val (.ref b), .val (.ref tc), .val (.int 0), .val (.int 1), .val .null, .val (.ref v3)] [(.ref v3), (.ref b)]))
  have f12 : Fld Z h11 b "java/lang/String" "value" "[B" .null := ((pf1.keep K5 nin0).other W11 (Or.inr (slot_ne (Or.inr (tw hw 18 rfl)) (Or.inr (tw hw 19 rfl)) (by decide) (t := (.array .byte)) (t' := .byte) (by decide) (by decide))))
  have f13 : Exa Z h11 b "java/lang/String" := (f10.wr W11)
  obtain ⟨T14, h14, X14, e14, W14, st14⟩ := putF X11 hx hZ hown (host := "") (Or.inl (tw hw 22 rfl)) Via.refl e11 f12 f13 (Or.inr ⟨(tw hw 18 rfl), rfl, hnm⟩) (tw hw 3 rfl) (ty := (.array .byte)) (by decide) rfl rfl (g := (mkF m 54 #[.val (.ref b), .val (.ref tc), .val (.int 0), .val (.int 1), .val .null, .val (.ref v3)] [(.ref v3), (.ref b)])) rfl rfl (hb hby d2_54)
  refine Gl.st st14 ?_
  have F14 : Fld Z h14 b "java/lang/String" "value" "[B" (.ref v3) := Fld.same W14 f12
  have N14 := Fr.snoc X14 N11 gb
  show Gl p.tables e below _ (T14.setTop (mkF m 57 #[.val (.ref b), .val (.ref tc), .val (.int 0), .val (.int 1), .val .null, .val (.ref v3)] []))
  have K15 : Keep h0 h14 [b] := ((((Keep.refl h0 [b]).trans K5 all0).wr W11 (Or.inl (List.mem_of_getElem? (i := 0) rfl))).wr W14 (Or.inl (List.mem_of_getElem? (i := 0) rfl)))
  have f16 : Exa Z h14 b "java/lang/String" := (f13.wr W14)
  have f17 : Fld Z h14 b "java/lang/String" "coder" "B" (.int 1) := (F11.other W14 (Or.inr (slot_ne (Or.inr (tw hw 19 rfl)) (Or.inr (tw hw 18 rfl)) (by decide) (t := .byte) (t' := (.array .byte)) (by decide) (by decide))))
  have ne18 : v3 ≠ b := Ne.symm (Nat.ne_of_lt (Nat.lt_of_lt_of_le pf0.lt y5_0))
  have f19 : Arv Z h14 v3 v4 .byte (Int32.ofNat (2 * ([cc0] : List Int32).length)) (own_us ([cc0] : List Int32)) (.int 0) := ((q5_0.other W11 ne18).other W14 ne18)
  exact Gl.ret0 X14 hx Bd.returns (hb hby d2_57) hlk (by decide) (by decide) (by rw [e14]; exact ⟨v3, v4, rfl, N14, K15, f16, f17, F14, f19⟩)
theorem ef_i4_2 (m : MethodId) (b : Addr) (tc : Addr) : entryFrame m #[(.ref b), (.ref tc), (.int 0), (.int 2), .null] 6 = mkF m 0 #[.val (.ref b), .val (.ref tc), .val (.int 0), .val (.int 2), .val .null, .unset] [] := by first | (simp [entryFrame, mkF, argsToLocals, Value.category]; done) | rfl
def Q_i4_2 (Z : State) (b : Addr) (tc : Addr) (kc : ClassId) (cc0 : Int32) (cc1 : Int32) (Y1 : Int32) (h0 : Heap) (n0 : Nat) (v : Option Value) (h : Heap) (L : List Loc) : Prop := (∃ t : Addr, ∃ k : ClassId, v = none ∧ Fr n0 L ∧ Keep h0 h [b] ∧ Exa Z h b "java/lang/String" ∧ Fld Z h b "java/lang/String" "coder" "B" (.int 1) ∧ Fld Z h b "java/lang/String" "value" "[B" (.ref t) ∧ Arv Z h t k .byte (Int32.ofNat (2 * ([cc0, cc1] : List Int32).length)) (own_us ([cc0, cc1] : List Int32)) (.int 0))
set_option maxRecDepth 65536 in
set_option maxHeartbeats 40000000 in
theorem rm_i4_2 (l : Launch) (Z : State) (a0 : Array Value) (hw : ∀ d ∈ tables_1, d.before a0 Z = true) (ws : List Jvm.Cond) (b : Addr) (tc : Addr) (kc : ClassId) (cc0 : Int32) (cc1 : Int32) (Y1 : Int32) (h0 : Heap) (n0 : Nat) (Z0 : n0 ≤ h0.size) (pf0 : Exa Z h0 b "java/lang/String") (pf1 : Fld Z h0 b "java/lang/String" "value" "[B" .null) (pf2 : Fld Z h0 b "java/lang/String" "coder" "B" (.int 0)) (pf3 : Arv Z h0 tc kc .char (2 : Int32) [(.int cc0), (.int cc1)] (.int 0)) (pf4 : Old Z n0 h0) (gb : n0 ≤ b) (hcc0 : own_h cc0) (hcc1 : own_h cc1) (OA : Sta Z Z.heap "java/lang/StringUTF16" "$assertionsDisabled" "Z" (.int 1)) (OH : Sta Z Z.heap "java/lang/StringUTF16" "HI_BYTE_SHIFT" "I" (.int 0)) (OL : Sta Z Z.heap "java/lang/StringUTF16" "LO_BYTE_SHIFT" "I" (.int 8)) (hU : (255 : Int32) < cc0 ∨ (255 : Int32) < cc1) (O2 : Sta Z Z.heap "java/lang/String" "COMPACT_STRINGS" "Z" (.int Y1)) (P5 : ¬ (Y1 = (0 : Int32))) :
    MetFree l (⟨"java/lang/String", "<init>", "([CIILjava/lang/Void;)V"⟩ : MethodName) (head1 (Jvm.Cond.code (⟨"java/lang/String", "<init>", "([CIILjava/lang/Void;)V"⟩ : MethodName) jdk_42_method_149_code 6 none :: ws) ({ frames := 4, cells := 2, slots := 6, locals := 57 } : Room)) (fun aa U => aa = #[(.ref b), (.ref tc), (.int 0), (.int 2), .null] ∧ Z.Warmed39 U.vm ∧ U.heap = h0) (fun _ _ _ _ _ => True) (fun _ U o U' => ∃ v L, o = .returned v ∧ Q_i4_2 Z b tc kc cc0 cc1 Y1 h0 n0 v U'.heap L ∧ FrameEnd U o U' L ({ frames := 4, cells := 2, slots := 6, locals := 57 } : Room).cells ({ frames := 4, cells := 2, slots := 6, locals := 57 } : Room).slots) := by
  refine MetFree.of_bodySF (plainFor_of_name pn_java_lang_String) hisR ?_
  intro p e s m args below meth c s₁ Bd hml0 hP hK
  obtain ⟨rfl, hZ, hh⟩ := hP
  have hx := Bd.exec
  have hby := Bd.bytes
  have hlk : meth.locks = false := BodyLoose.notSynchronized Bd
  have hml : c.maxLocals = 6 := hml0
  have hown : s.vm.findClass "java/lang/String" = some m.cls := findClass_of_methodNamed Bd.named
  have hnm := (name_of_methodNamed Bd.named Bd.method).1
  have X0 : Stand p l e ({ frames := 4, cells := 2, slots := 6, locals := 57 } : Room) s m #[(.ref b), (.ref tc), (.int 0), (.int 2), .null] below meth c s₁ [] 0 0 := Stand.of_body Bd
  have e0 : s₁.heap = h0 := by rw [← hh, Bd.state]; rfl
  have N0 := Fr.nil n0
  show Gl p.tables e below (EndN s (Q_i4_2 Z b tc kc cc0 cc1 Y1 h0 n0) ({ frames := 4, cells := 2, slots := 6, locals := 57 } : Room).cells ({ frames := 4, cells := 2, slots := 6, locals := 57 } : Room).slots) _
  refine Gl.cast (ef_i4_2 m b tc) ?_
  show Gl p.tables e below _ (s₁.setTop (mkF m 0 #[.val (.ref b), .val (.ref tc), .val (.int 0), .val (.int 2), .val .null, .unset] []))
  refine Gl.st (fun _ kq => XS.aloadN X0.here hx rfl (hb hby d2_0) rfl rfl kq) ?_
  show Gl p.tables e below _ (s₁.setTop (mkF m 1 #[.val (.ref b), .val (.ref tc), .val (.int 0), .val (.int 2), .val .null, .unset] [(.ref b)]))
  obtain ⟨T1, X1, e1, st1⟩ := initO X0 hx hZ hown (tw hw 13 rfl) (tw hw 14 rfl) (tw hw 15 rfl) e0 (g := (mkF m 1 #[.val (.ref b), .val (.ref tc), .val (.int 0), .val (.int 2), .val .null, .unset] [(.ref b)])) rfl (by rw [hml]; rfl) rfl (hb hby d2_1) (by decide) (W := 0) (by show 2 * 0 + _ ≤ _; exact Nat.le_of_eq rfl) (by decide)
  refine Gl.st st1 ?_
  show Gl p.tables e below _ (T1.setTop (mkF m 4 #[.val (.ref b), .val (.ref tc), .val (.int 0), .val (.int 2), .val .null, .unset] []))
  refine Gl.st (fun _ kq => XS.iloadN X1.here hx rfl (hb hby d2_4) rfl kq) ?_
  show Gl p.tables e below _ (T1.setTop (mkF m 5 #[.val (.ref b), .val (.ref tc), .val (.int 0), .val (.int 2), .val .null, .unset] [(.int 2)]))
  refine Gl.st (fun _ kq => XS.ifYes X1.here hx rfl (pc0 := 5) (pc' := 27) rfl (hb hby d2_5) rfl ((if0 _ _).trans (feq ((by decide) : ¬ ((2 : Int32) = (0 : Int32)))).2) (by decide) (by decide) kq) ?_
  show Gl p.tables e below _ (T1.setTop (mkF m 27 #[.val (.ref b), .val (.ref tc), .val (.int 0), .val (.int 2), .val .null, .unset] []))
  obtain ⟨T2, X2, e2, st2⟩ := getS2 X1 hx hZ hown (host := "") (Or.inl (tw hw 38 rfl)) Via.refl e1 (O2.ext pf4.2) (g := (mkF m 27 #[.val (.ref b), .val (.ref tc), .val (.int 0), .val (.int 2), .val .null, .unset] [])) rfl (hb hby d2_27)
  refine Gl.st st2 ?_
  show Gl p.tables e below _ (T2.setTop (mkF m 30 #[.val (.ref b), .val (.ref tc), .val (.int 0), .val (.int 2), .val .null, .unset] [(.int Y1)]))
  refine Gl.st (fun _ kq => XS.ifNo X2.here hx rfl (hb hby d2_30) rfl ((if0 _ _).trans (feq (P5 : ¬ (Y1 = (0 : Int32)))).1) kq) ?_
  show Gl p.tables e below _ (T2.setTop (mkF m 33 #[.val (.ref b), .val (.ref tc), .val (.int 0), .val (.int 2), .val .null, .unset] []))
  refine Gl.st (fun _ kq => XS.aloadN X2.here hx rfl (hb hby d2_33) rfl rfl kq) ?_
  refine Gl.st (fun _ kq => XS.iloadN X2.here hx rfl (hb hby d2_34) rfl kq) ?_
  refine Gl.st (fun _ kq => XS.iloadN X2.here hx rfl (hb hby d2_35) rfl kq) ?_
  show Gl p.tables e below _ (T2.setTop (mkF m 36 #[.val (.ref b), .val (.ref tc), .val (.int 0), .val (.int 2), .val .null, .unset] [(.int 2), (.int 0), (.ref tc)]))
  obtain ⟨_, _, ⟨T5, L5, k5, n5⟩, -, X5, ⟨Lc5, hQ5, l5, y5, z5⟩, st5⟩ := Jvm.LawKit.callS X2 hx (y := (⟨"java/lang/StringUTF16", "compress", "([CII)[B"⟩ : MethodName)) hown (mvT hZ (tw hw 39 rfl)) (mvT hZ (tw hw 40 rfl)) (mvT hZ (tw hw 41 rfl)) (mvT hZ (tw hw 42 rfl)) (by decide) (backOf (W := 0) (rm_c3_2 l Z a0 hw [] (tc) (kc) (cc0) (cc1) h0 n0 Z0 pf3 pf4 hcc0 hcc1 OA OH OL hU) hZ (tw hw 42 rfl) (tw hw 41 rfl) (by decide) (by decide)) (g := (mkF m 36 #[.val (.ref b), .val (.ref tc), .val (.int 0), .val (.int 2), .val .null, .unset] [(.int 2), (.int 0), (.ref tc)])) rfl (by rw [hml]; rfl) (argsL := [(.ref tc), (.int 0), (.int 2)]) (rest := []) (lenOf pd___CII__B rfl) rfl (by show 2 * 0 + _ ≤ _; exact Nat.le_of_eq rfl) (hb hby d2_36) (fun _ _ => ⟨rfl, e2, (by decide : 0 + 2 ≤ _), (by decide : 0 + 6 ≤ _)⟩)
  dsimp only [Pt.U, Pt.locs, Pt.cells, Pt.slots] at X5 l5 y5 z5 st5 hQ5
  subst l5 y5 z5
  obtain ⟨v3, v4, rfl, N5, K5, q5_0, y5_0⟩ := hQ5
  have M5 := Fr.app N0 N5
  have g6 : n0 ≤ v3 := Nat.le_trans Z0 y5_0
  have s7 : h0.size ≤ v3 := Nat.le_trans (Nat.le_refl _) y5_0
  refine Gl.st st5 ?_
  show Gl p.tables e below _ (T5.setTop (mkF m 39 #[.val (.ref b), .val (.ref tc), .val (.int 0), .val (.int 2), .val .null, .unset] [(.ref v3)]))
  show Gl p.tables e below _ (T5.setTop (mkF m 39 #[.val (.ref b), .val (.ref tc), .val (.int 0), .val (.int 2), .val .null, .unset] [(.ref v3)]))
  refine Gl.st (fun _ kq => XS.astore X5.here hx rfl (hb hby d2_39) rfl rfl (l' := #[.val (.ref b), .val (.ref tc), .val (.int 0), .val (.int 2), .val .null, .val (.ref v3)]) rfl kq) ?_
  refine Gl.st (fun _ kq => XS.aloadN X5.here hx rfl (hb hby d2_41) rfl rfl kq) ?_
  refine Gl.st (fun _ kq => XS.aload X5.here hx rfl (hb hby d2_42) rfl rfl kq) ?_
  refine Gl.st (fun _ kq => XS.iloadN X5.here hx rfl (hb hby d2_44) rfl kq) ?_
  show Gl p.tables e below _ (T5.setTop (mkF m 45 #[.val (.ref b), .val (.ref tc), .val (.int 0), .val (.int 2), .val .null, .val (.ref v3)] [(.int 2), (.ref v3), (.ref b)]))
  obtain ⟨_, _, ⟨T8, L8, k8, n8⟩, -, X8, ⟨Lc8, hQ8, l8, y8, z8⟩, st8⟩ := Jvm.LawKit.callS X5 hx (y := (⟨"java/lang/StringUTF16", "coderFromArrayLen", "([BI)B"⟩ : MethodName)) hown (mvT hZ (tw hw 46 rfl)) (mvT hZ (tw hw 47 rfl)) (mvT hZ (tw hw 41 rfl)) (mvT hZ (tw hw 48 rfl)) (by decide) (backOf (W := 1) (rm_cfa2 l Z a0 hw [] (v3) (v4) (cc0) (cc1) T5.heap n0 (Nat.le_trans Z0 K5.1) q5_0) hZ (tw hw 48 rfl) (tw hw 41 rfl) (by decide) (by decide)) (g := (mkF m 45 #[.val (.ref b), .val (.ref tc), .val (.int 0), .val (.int 2), .val .null, .val (.ref v3)] [(.int 2), (.ref v3), (.ref b)])) rfl (by rw [hml]; rfl) (argsL := [(.ref v3), (.int 2)]) (rest := [(.ref b)]) (lenOf pd___BI_B rfl) rfl (by show 2 * 0 + _ ≤ _; exact Nat.le_of_eq rfl) (hb hby d2_45) (fun _ _ => ⟨rfl, rfl, (by decide : 2 + 0 ≤ _), (by decide : 6 + 0 ≤ _)⟩)
  dsimp only [Pt.U, Pt.locs, Pt.cells, Pt.slots] at X8 l8 y8 z8 st8 hQ8
  subst l8 y8 z8
  obtain ⟨rfl, N8, e8⟩ := hQ8
  have M8 := Fr.app M5 N8
  refine Gl.st st8 ?_
  show Gl p.tables e below _ (T8.setTop (mkF m 48 #[.val (.ref b), .val (.ref tc), .val (.int 0), .val (.int 2), .val .null, .val (.ref v3)] [(.int 1), (.ref b)]))
  show Gl p.tables e below _ (T8.setTop (mkF m 48 #[.val (.ref b), .val (.ref tc), .val (.int 0), .val (.int 2), .val .null, .val (.ref v3)] [(.int 1), (.ref b)]))
  have f9 : Fld Z T5.heap b "java/lang/String" "coder" "B" (.int 0) := (pf2.keep K5 nin0)
  have f10 : Exa Z T5.heap b "java/lang/String" := (pf0.keep K5)
  obtain ⟨T11, h11, X11, e11, W11, st11⟩ := putFN X8 hx hZ hown (tw hw 23 rfl) Via.refl e8 f9 f10 (Or.inr ⟨(tw hw 19 rfl), rfl, hnm⟩) (tw hw 3 rfl) (ty := .byte) (v' := (.int 1)) (by decide) rfl (by decide) (g := (mkF m 48 #[.val (.ref b), .val (.ref tc), .val (.int 0), .val (.int 2), .val .null, .val (.ref v3)] [(.int 1), (.ref b)])) rfl rfl (hb hby d2_48)
  refine Gl.st st11 ?_
  have F11 : Fld Z h11 b "java/lang/String" "coder" "B" (.int 1) := Fld.same W11 f9
  have N11 := Fr.snoc X11 M8 gb
  show Gl p.tables e below _ (T11.setTop (mkF m 51 #[.val (.ref b), .val (.ref tc), .val (.int 0), .val (.int 2), .val .null, .val (.ref v3)] []))
  refine Gl.st (fun _ kq => XS.aloadN X11.here hx rfl (hb hby d2_51) rfl rfl kq) ?_
  refine Gl.st (fun _ kq => XS.aload X11.here hx rfl (hb hby d2_52) rfl rfl kq) ?_
  show Gl p.tables e below _ (T11.setTop (mkF m 54 #[.val (.ref b), .val (.ref tc), .val (.int 0), .val (.int 2), .val .null, .val (.ref v3)] [(.ref v3), (.ref b)]))
  have f12 : Fld Z h11 b "java/lang/String" "value" "[B" .null := ((pf1.keep K5 nin0).other W11 (Or.inr (slot_ne (Or.inr (tw hw 18 rfl)) (Or.inr (tw hw 19 rfl)) (by decide) (t := (.array .byte)) (t' := .byte) (by decide) (by decide))))
  have f13 : Exa Z h11 b "java/lang/String" := (f10.wr W11)
  obtain ⟨T14, h14, X14, e14, W14, st14⟩ := putF X11 hx hZ hown (host := "") (Or.inl (tw hw 22 rfl)) Via.refl e11 f12 f13 (Or.inr ⟨(tw hw 18 rfl), rfl, hnm⟩) (tw hw 3 rfl) (ty := (.array .byte)) (by decide) rfl rfl (g := (mkF m 54 #[.val (.ref b), .val (.ref tc), .val (.int 0), .val (.int 2), .val .null, .val (.ref v3)] [(.ref v3), (.ref b)])) rfl rfl (hb hby d2_54)
  refine Gl.st st14 ?_
  have F14 : Fld Z h14 b "java/lang/String" "value" "[B" (.ref v3) := Fld.same W14 f12
  have N14 := Fr.snoc X14 N11 gb
  show Gl p.tables e below _ (T14.setTop (mkF m 57 #[.val (.ref b), .val (.ref tc), .val (.int 0), .val (.int 2), .val .null, .val (.ref v3)] []))
  have K15 : Keep h0 h14 [b] := ((((Keep.refl h0 [b]).trans K5 all0).wr W11 (Or.inl (List.mem_of_getElem? (i := 0) rfl))).wr W14 (Or.inl (List.mem_of_getElem? (i := 0) rfl)))
  have f16 : Exa Z h14 b "java/lang/String" := (f13.wr W14)
  have f17 : Fld Z h14 b "java/lang/String" "coder" "B" (.int 1) := (F11.other W14 (Or.inr (slot_ne (Or.inr (tw hw 19 rfl)) (Or.inr (tw hw 18 rfl)) (by decide) (t := .byte) (t' := (.array .byte)) (by decide) (by decide))))
  have ne18 : v3 ≠ b := Ne.symm (Nat.ne_of_lt (Nat.lt_of_lt_of_le pf0.lt y5_0))
  have f19 : Arv Z h14 v3 v4 .byte (Int32.ofNat (2 * ([cc0, cc1] : List Int32).length)) (own_us ([cc0, cc1] : List Int32)) (.int 0) := ((q5_0.other W11 ne18).other W14 ne18)
  exact Gl.ret0 X14 hx Bd.returns (hb hby d2_57) hlk (by decide) (by decide) (by rw [e14]; exact ⟨v3, v4, rfl, N14, K15, f16, f17, F14, f19⟩)
theorem ef_i4_3 (m : MethodId) (b : Addr) (tc : Addr) : entryFrame m #[(.ref b), (.ref tc), (.int 0), (.int 3), .null] 6 = mkF m 0 #[.val (.ref b), .val (.ref tc), .val (.int 0), .val (.int 3), .val .null, .unset] [] := by first | (simp [entryFrame, mkF, argsToLocals, Value.category]; done) | rfl
def Q_i4_3 (Z : State) (b : Addr) (tc : Addr) (kc : ClassId) (cc0 : Int32) (cc1 : Int32) (cc2 : Int32) (Y1 : Int32) (h0 : Heap) (n0 : Nat) (v : Option Value) (h : Heap) (L : List Loc) : Prop := (∃ t : Addr, ∃ k : ClassId, v = none ∧ Fr n0 L ∧ Keep h0 h [b] ∧ Exa Z h b "java/lang/String" ∧ Fld Z h b "java/lang/String" "coder" "B" (.int 1) ∧ Fld Z h b "java/lang/String" "value" "[B" (.ref t) ∧ Arv Z h t k .byte (Int32.ofNat (2 * ([cc0, cc1, cc2] : List Int32).length)) (own_us ([cc0, cc1, cc2] : List Int32)) (.int 0))
set_option maxRecDepth 65536 in
set_option maxHeartbeats 40000000 in
theorem rm_i4_3 (l : Launch) (Z : State) (a0 : Array Value) (hw : ∀ d ∈ tables_1, d.before a0 Z = true) (ws : List Jvm.Cond) (b : Addr) (tc : Addr) (kc : ClassId) (cc0 : Int32) (cc1 : Int32) (cc2 : Int32) (Y1 : Int32) (h0 : Heap) (n0 : Nat) (Z0 : n0 ≤ h0.size) (pf0 : Exa Z h0 b "java/lang/String") (pf1 : Fld Z h0 b "java/lang/String" "value" "[B" .null) (pf2 : Fld Z h0 b "java/lang/String" "coder" "B" (.int 0)) (pf3 : Arv Z h0 tc kc .char (3 : Int32) [(.int cc0), (.int cc1), (.int cc2)] (.int 0)) (pf4 : Old Z n0 h0) (gb : n0 ≤ b) (hcc0 : own_h cc0) (hcc1 : own_h cc1) (hcc2 : own_h cc2) (OA : Sta Z Z.heap "java/lang/StringUTF16" "$assertionsDisabled" "Z" (.int 1)) (OH : Sta Z Z.heap "java/lang/StringUTF16" "HI_BYTE_SHIFT" "I" (.int 0)) (OL : Sta Z Z.heap "java/lang/StringUTF16" "LO_BYTE_SHIFT" "I" (.int 8)) (hU : (255 : Int32) < cc0 ∨ (255 : Int32) < cc1 ∨ (255 : Int32) < cc2) (O2 : Sta Z Z.heap "java/lang/String" "COMPACT_STRINGS" "Z" (.int Y1)) (P5 : ¬ (Y1 = (0 : Int32))) :
    MetFree l (⟨"java/lang/String", "<init>", "([CIILjava/lang/Void;)V"⟩ : MethodName) (head1 (Jvm.Cond.code (⟨"java/lang/String", "<init>", "([CIILjava/lang/Void;)V"⟩ : MethodName) jdk_42_method_149_code 6 none :: ws) ({ frames := 4, cells := 2, slots := 9, locals := 57 } : Room)) (fun aa U => aa = #[(.ref b), (.ref tc), (.int 0), (.int 3), .null] ∧ Z.Warmed39 U.vm ∧ U.heap = h0) (fun _ _ _ _ _ => True) (fun _ U o U' => ∃ v L, o = .returned v ∧ Q_i4_3 Z b tc kc cc0 cc1 cc2 Y1 h0 n0 v U'.heap L ∧ FrameEnd U o U' L ({ frames := 4, cells := 2, slots := 9, locals := 57 } : Room).cells ({ frames := 4, cells := 2, slots := 9, locals := 57 } : Room).slots) := by
  refine MetFree.of_bodySF (plainFor_of_name pn_java_lang_String) hisR ?_
  intro p e s m args below meth c s₁ Bd hml0 hP hK
  obtain ⟨rfl, hZ, hh⟩ := hP
  have hx := Bd.exec
  have hby := Bd.bytes
  have hlk : meth.locks = false := BodyLoose.notSynchronized Bd
  have hml : c.maxLocals = 6 := hml0
  have hown : s.vm.findClass "java/lang/String" = some m.cls := findClass_of_methodNamed Bd.named
  have hnm := (name_of_methodNamed Bd.named Bd.method).1
  have X0 : Stand p l e ({ frames := 4, cells := 2, slots := 9, locals := 57 } : Room) s m #[(.ref b), (.ref tc), (.int 0), (.int 3), .null] below meth c s₁ [] 0 0 := Stand.of_body Bd
  have e0 : s₁.heap = h0 := by rw [← hh, Bd.state]; rfl
  have N0 := Fr.nil n0
  show Gl p.tables e below (EndN s (Q_i4_3 Z b tc kc cc0 cc1 cc2 Y1 h0 n0) ({ frames := 4, cells := 2, slots := 9, locals := 57 } : Room).cells ({ frames := 4, cells := 2, slots := 9, locals := 57 } : Room).slots) _
  refine Gl.cast (ef_i4_3 m b tc) ?_
  show Gl p.tables e below _ (s₁.setTop (mkF m 0 #[.val (.ref b), .val (.ref tc), .val (.int 0), .val (.int 3), .val .null, .unset] []))
  refine Gl.st (fun _ kq => XS.aloadN X0.here hx rfl (hb hby d2_0) rfl rfl kq) ?_
  show Gl p.tables e below _ (s₁.setTop (mkF m 1 #[.val (.ref b), .val (.ref tc), .val (.int 0), .val (.int 3), .val .null, .unset] [(.ref b)]))
  obtain ⟨T1, X1, e1, st1⟩ := initO X0 hx hZ hown (tw hw 13 rfl) (tw hw 14 rfl) (tw hw 15 rfl) e0 (g := (mkF m 1 #[.val (.ref b), .val (.ref tc), .val (.int 0), .val (.int 3), .val .null, .unset] [(.ref b)])) rfl (by rw [hml]; rfl) rfl (hb hby d2_1) (by decide) (W := 0) (by show 2 * 0 + _ ≤ _; exact Nat.le_of_eq rfl) (by decide)
  refine Gl.st st1 ?_
  show Gl p.tables e below _ (T1.setTop (mkF m 4 #[.val (.ref b), .val (.ref tc), .val (.int 0), .val (.int 3), .val .null, .unset] []))
  refine Gl.st (fun _ kq => XS.iloadN X1.here hx rfl (hb hby d2_4) rfl kq) ?_
  show Gl p.tables e below _ (T1.setTop (mkF m 5 #[.val (.ref b), .val (.ref tc), .val (.int 0), .val (.int 3), .val .null, .unset] [(.int 3)]))
  refine Gl.st (fun _ kq => XS.ifYes X1.here hx rfl (pc0 := 5) (pc' := 27) rfl (hb hby d2_5) rfl ((if0 _ _).trans (feq ((by decide) : ¬ ((3 : Int32) = (0 : Int32)))).2) (by decide) (by decide) kq) ?_
  show Gl p.tables e below _ (T1.setTop (mkF m 27 #[.val (.ref b), .val (.ref tc), .val (.int 0), .val (.int 3), .val .null, .unset] []))
  obtain ⟨T2, X2, e2, st2⟩ := getS2 X1 hx hZ hown (host := "") (Or.inl (tw hw 38 rfl)) Via.refl e1 (O2.ext pf4.2) (g := (mkF m 27 #[.val (.ref b), .val (.ref tc), .val (.int 0), .val (.int 3), .val .null, .unset] [])) rfl (hb hby d2_27)
  refine Gl.st st2 ?_
  show Gl p.tables e below _ (T2.setTop (mkF m 30 #[.val (.ref b), .val (.ref tc), .val (.int 0), .val (.int 3), .val .null, .unset] [(.int Y1)]))
  refine Gl.st (fun _ kq => XS.ifNo X2.here hx rfl (hb hby d2_30) rfl ((if0 _ _).trans (feq (P5 : ¬ (Y1 = (0 : Int32)))).1) kq) ?_
  show Gl p.tables e below _ (T2.setTop (mkF m 33 #[.val (.ref b), .val (.ref tc), .val (.int 0), .val (.int 3), .val .null, .unset] []))
  refine Gl.st (fun _ kq => XS.aloadN X2.here hx rfl (hb hby d2_33) rfl rfl kq) ?_
  refine Gl.st (fun _ kq => XS.iloadN X2.here hx rfl (hb hby d2_34) rfl kq) ?_
  refine Gl.st (fun _ kq => XS.iloadN X2.here hx rfl (hb hby d2_35) rfl kq) ?_
  show Gl p.tables e below _ (T2.setTop (mkF m 36 #[.val (.ref b), .val (.ref tc), .val (.int 0), .val (.int 3), .val .null, .unset] [(.int 3), (.int 0), (.ref tc)]))
  obtain ⟨_, _, ⟨T5, L5, k5, n5⟩, -, X5, ⟨Lc5, hQ5, l5, y5, z5⟩, st5⟩ := Jvm.LawKit.callS X2 hx (y := (⟨"java/lang/StringUTF16", "compress", "([CII)[B"⟩ : MethodName)) hown (mvT hZ (tw hw 39 rfl)) (mvT hZ (tw hw 40 rfl)) (mvT hZ (tw hw 41 rfl)) (mvT hZ (tw hw 42 rfl)) (by decide) (backOf (W := 0) (rm_c3_3 l Z a0 hw [] (tc) (kc) (cc0) (cc1) (cc2) h0 n0 Z0 pf3 pf4 hcc0 hcc1 hcc2 OA OH OL hU) hZ (tw hw 42 rfl) (tw hw 41 rfl) (by decide) (by decide)) (g := (mkF m 36 #[.val (.ref b), .val (.ref tc), .val (.int 0), .val (.int 3), .val .null, .unset] [(.int 3), (.int 0), (.ref tc)])) rfl (by rw [hml]; rfl) (argsL := [(.ref tc), (.int 0), (.int 3)]) (rest := []) (lenOf pd___CII__B rfl) rfl (by show 2 * 0 + _ ≤ _; exact Nat.le_of_eq rfl) (hb hby d2_36) (fun _ _ => ⟨rfl, e2, (by decide : 0 + 2 ≤ _), (by decide : 0 + 9 ≤ _)⟩)
  dsimp only [Pt.U, Pt.locs, Pt.cells, Pt.slots] at X5 l5 y5 z5 st5 hQ5
  subst l5 y5 z5
  obtain ⟨v3, v4, rfl, N5, K5, q5_0, y5_0⟩ := hQ5
  have M5 := Fr.app N0 N5
  have g6 : n0 ≤ v3 := Nat.le_trans Z0 y5_0
  have s7 : h0.size ≤ v3 := Nat.le_trans (Nat.le_refl _) y5_0
  refine Gl.st st5 ?_
  show Gl p.tables e below _ (T5.setTop (mkF m 39 #[.val (.ref b), .val (.ref tc), .val (.int 0), .val (.int 3), .val .null, .unset] [(.ref v3)]))
  show Gl p.tables e below _ (T5.setTop (mkF m 39 #[.val (.ref b), .val (.ref tc), .val (.int 0), .val (.int 3), .val .null, .unset] [(.ref v3)]))
  refine Gl.st (fun _ kq => XS.astore X5.here hx rfl (hb hby d2_39) rfl rfl (l' := #[.val (.ref b), .val (.ref tc), .val (.int 0), .val (.int 3), .val .null, .val (.ref v3)]) rfl kq) ?_
  refine Gl.st (fun _ kq => XS.aloadN X5.here hx rfl (hb hby d2_41) rfl rfl kq) ?_
  refine Gl.st (fun _ kq => XS.aload X5.here hx rfl (hb hby d2_42) rfl rfl kq) ?_
  refine Gl.st (fun _ kq => XS.iloadN X5.here hx rfl (hb hby d2_44) rfl kq) ?_
  show Gl p.tables e below _ (T5.setTop (mkF m 45 #[.val (.ref b), .val (.ref tc), .val (.int 0), .val (.int 3), .val .null, .val (.ref v3)] [(.int 3), (.ref v3), (.ref b)]))
  obtain ⟨_, _, ⟨T8, L8, k8, n8⟩, -, X8, ⟨Lc8, hQ8, l8, y8, z8⟩, st8⟩ := Jvm.LawKit.callS X5 hx (y := (⟨"java/lang/StringUTF16", "coderFromArrayLen", "([BI)B"⟩ : MethodName)) hown (mvT hZ (tw hw 46 rfl)) (mvT hZ (tw hw 47 rfl)) (mvT hZ (tw hw 41 rfl)) (mvT hZ (tw hw 48 rfl)) (by decide) (backOf (W := 1) (rm_cfa3 l Z a0 hw [] (v3) (v4) (cc0) (cc1) (cc2) T5.heap n0 (Nat.le_trans Z0 K5.1) q5_0) hZ (tw hw 48 rfl) (tw hw 41 rfl) (by decide) (by decide)) (g := (mkF m 45 #[.val (.ref b), .val (.ref tc), .val (.int 0), .val (.int 3), .val .null, .val (.ref v3)] [(.int 3), (.ref v3), (.ref b)])) rfl (by rw [hml]; rfl) (argsL := [(.ref v3), (.int 3)]) (rest := [(.ref b)]) (lenOf pd___BI_B rfl) rfl (by show 2 * 0 + _ ≤ _; exact Nat.le_of_eq rfl) (hb hby d2_45) (fun _ _ => ⟨rfl, rfl, (by decide : 2 + 0 ≤ _), (by decide : 9 + 0 ≤ _)⟩)
  dsimp only [Pt.U, Pt.locs, Pt.cells, Pt.slots] at X8 l8 y8 z8 st8 hQ8
  subst l8 y8 z8
  obtain ⟨rfl, N8, e8⟩ := hQ8
  have M8 := Fr.app M5 N8
  refine Gl.st st8 ?_
  show Gl p.tables e below _ (T8.setTop (mkF m 48 #[.val (.ref b), .val (.ref tc), .val (.int 0), .val (.int 3), .val .null, .val (.ref v3)] [(.int 1), (.ref b)]))
  show Gl p.tables e below _ (T8.setTop (mkF m 48 #[.val (.ref b), .val (.ref tc), .val (.int 0), .val (.int 3), .val .null, .val (.ref v3)] [(.int 1), (.ref b)]))
  have f9 : Fld Z T5.heap b "java/lang/String" "coder" "B" (.int 0) := (pf2.keep K5 nin0)
  have f10 : Exa Z T5.heap b "java/lang/String" := (pf0.keep K5)
  obtain ⟨T11, h11, X11, e11, W11, st11⟩ := putFN X8 hx hZ hown (tw hw 23 rfl) Via.refl e8 f9 f10 (Or.inr ⟨(tw hw 19 rfl), rfl, hnm⟩) (tw hw 3 rfl) (ty := .byte) (v' := (.int 1)) (by decide) rfl (by decide) (g := (mkF m 48 #[.val (.ref b), .val (.ref tc), .val (.int 0), .val (.int 3), .val .null, .val (.ref v3)] [(.int 1), (.ref b)])) rfl rfl (hb hby d2_48)
  refine Gl.st st11 ?_
  have F11 : Fld Z h11 b "java/lang/String" "coder" "B" (.int 1) := Fld.same W11 f9
  have N11 := Fr.snoc X11 M8 gb
  show Gl p.tables e below _ (T11.setTop (mkF m 51 #[.val (.ref b), .val (.ref tc), .val (.int 0), .val (.int 3), .val .null, .val (.ref v3)] []))
  refine Gl.st (fun _ kq => XS.aloadN X11.here hx rfl (hb hby d2_51) rfl rfl kq) ?_
  refine Gl.st (fun _ kq => XS.aload X11.here hx rfl (hb hby d2_52) rfl rfl kq) ?_
  show Gl p.tables e below _ (T11.setTop (mkF m 54 #[.val (.ref b), .val (.ref tc), .val (.int 0), .val (.int 3), .val .null, .val (.ref v3)] [(.ref v3), (.ref b)]))
  have f12 : Fld Z h11 b "java/lang/String" "value" "[B" .null := ((pf1.keep K5 nin0).other W11 (Or.inr (slot_ne (Or.inr (tw hw 18 rfl)) (Or.inr (tw hw 19 rfl)) (by decide) (t := (.array .byte)) (t' := .byte) (by decide) (by decide))))
  have f13 : Exa Z h11 b "java/lang/String" := (f10.wr W11)
  obtain ⟨T14, h14, X14, e14, W14, st14⟩ := putF X11 hx hZ hown (host := "") (Or.inl (tw hw 22 rfl)) Via.refl e11 f12 f13 (Or.inr ⟨(tw hw 18 rfl), rfl, hnm⟩) (tw hw 3 rfl) (ty := (.array .byte)) (by decide) rfl rfl (g := (mkF m 54 #[.val (.ref b), .val (.ref tc), .val (.int 0), .val (.int 3), .val .null, .val (.ref v3)] [(.ref v3), (.ref b)])) rfl rfl (hb hby d2_54)
  refine Gl.st st14 ?_
  have F14 : Fld Z h14 b "java/lang/String" "value" "[B" (.ref v3) := Fld.same W14 f12
  have N14 := Fr.snoc X14 N11 gb
  show Gl p.tables e below _ (T14.setTop (mkF m 57 #[.val (.ref b), .val (.ref tc), .val (.int 0), .val (.int 3), .val .null, .val (.ref v3)] []))
  have K15 : Keep h0 h14 [b] := ((((Keep.refl h0 [b]).trans K5 all0).wr W11 (Or.inl (List.mem_of_getElem? (i := 0) rfl))).wr W14 (Or.inl (List.mem_of_getElem? (i := 0) rfl)))
  have f16 : Exa Z h14 b "java/lang/String" := (f13.wr W14)
  have f17 : Fld Z h14 b "java/lang/String" "coder" "B" (.int 1) := (F11.other W14 (Or.inr (slot_ne (Or.inr (tw hw 19 rfl)) (Or.inr (tw hw 18 rfl)) (by decide) (t := .byte) (t' := (.array .byte)) (by decide) (by decide))))
  have ne18 : v3 ≠ b := Ne.symm (Nat.ne_of_lt (Nat.lt_of_lt_of_le pf0.lt y5_0))
  have f19 : Arv Z h14 v3 v4 .byte (Int32.ofNat (2 * ([cc0, cc1, cc2] : List Int32).length)) (own_us ([cc0, cc1, cc2] : List Int32)) (.int 0) := ((q5_0.other W11 ne18).other W14 ne18)
  exact Gl.ret0 X14 hx Bd.returns (hb hby d2_57) hlk (by decide) (by decide) (by rw [e14]; exact ⟨v3, v4, rfl, N14, K15, f16, f17, F14, f19⟩)
theorem ef_i4_4 (m : MethodId) (b : Addr) (tc : Addr) : entryFrame m #[(.ref b), (.ref tc), (.int 0), (.int 4), .null] 6 = mkF m 0 #[.val (.ref b), .val (.ref tc), .val (.int 0), .val (.int 4), .val .null, .unset] [] := by first | (simp [entryFrame, mkF, argsToLocals, Value.category]; done) | rfl
def Q_i4_4 (Z : State) (b : Addr) (tc : Addr) (kc : ClassId) (cc0 : Int32) (cc1 : Int32) (cc2 : Int32) (cc3 : Int32) (Y1 : Int32) (h0 : Heap) (n0 : Nat) (v : Option Value) (h : Heap) (L : List Loc) : Prop := (∃ t : Addr, ∃ k : ClassId, v = none ∧ Fr n0 L ∧ Keep h0 h [b] ∧ Exa Z h b "java/lang/String" ∧ Fld Z h b "java/lang/String" "coder" "B" (.int 1) ∧ Fld Z h b "java/lang/String" "value" "[B" (.ref t) ∧ Arv Z h t k .byte (Int32.ofNat (2 * ([cc0, cc1, cc2, cc3] : List Int32).length)) (own_us ([cc0, cc1, cc2, cc3] : List Int32)) (.int 0))
set_option maxRecDepth 65536 in
set_option maxHeartbeats 40000000 in
theorem rm_i4_4 (l : Launch) (Z : State) (a0 : Array Value) (hw : ∀ d ∈ tables_1, d.before a0 Z = true) (ws : List Jvm.Cond) (b : Addr) (tc : Addr) (kc : ClassId) (cc0 : Int32) (cc1 : Int32) (cc2 : Int32) (cc3 : Int32) (Y1 : Int32) (h0 : Heap) (n0 : Nat) (Z0 : n0 ≤ h0.size) (pf0 : Exa Z h0 b "java/lang/String") (pf1 : Fld Z h0 b "java/lang/String" "value" "[B" .null) (pf2 : Fld Z h0 b "java/lang/String" "coder" "B" (.int 0)) (pf3 : Arv Z h0 tc kc .char (4 : Int32) [(.int cc0), (.int cc1), (.int cc2), (.int cc3)] (.int 0)) (pf4 : Old Z n0 h0) (gb : n0 ≤ b) (hcc0 : own_h cc0) (hcc1 : own_h cc1) (hcc2 : own_h cc2) (hcc3 : own_h cc3) (OA : Sta Z Z.heap "java/lang/StringUTF16" "$assertionsDisabled" "Z" (.int 1)) (OH : Sta Z Z.heap "java/lang/StringUTF16" "HI_BYTE_SHIFT" "I" (.int 0)) (OL : Sta Z Z.heap "java/lang/StringUTF16" "LO_BYTE_SHIFT" "I" (.int 8)) (hU : (255 : Int32) < cc0 ∨ (255 : Int32) < cc1 ∨ (255 : Int32) < cc2 ∨ (255 : Int32) < cc3) (O2 : Sta Z Z.heap "java/lang/String" "COMPACT_STRINGS" "Z" (.int Y1)) (P5 : ¬ (Y1 = (0 : Int32))) :
    MetFree l (⟨"java/lang/String", "<init>", "([CIILjava/lang/Void;)V"⟩ : MethodName) (head1 (Jvm.Cond.code (⟨"java/lang/String", "<init>", "([CIILjava/lang/Void;)V"⟩ : MethodName) jdk_42_method_149_code 6 none :: ws) ({ frames := 4, cells := 2, slots := 12, locals := 57 } : Room)) (fun aa U => aa = #[(.ref b), (.ref tc), (.int 0), (.int 4), .null] ∧ Z.Warmed39 U.vm ∧ U.heap = h0) (fun _ _ _ _ _ => True) (fun _ U o U' => ∃ v L, o = .returned v ∧ Q_i4_4 Z b tc kc cc0 cc1 cc2 cc3 Y1 h0 n0 v U'.heap L ∧ FrameEnd U o U' L ({ frames := 4, cells := 2, slots := 12, locals := 57 } : Room).cells ({ frames := 4, cells := 2, slots := 12, locals := 57 } : Room).slots) := by
  refine MetFree.of_bodySF (plainFor_of_name pn_java_lang_String) hisR ?_
  intro p e s m args below meth c s₁ Bd hml0 hP hK
  obtain ⟨rfl, hZ, hh⟩ := hP
  have hx := Bd.exec
  have hby := Bd.bytes
  have hlk : meth.locks = false := BodyLoose.notSynchronized Bd
  have hml : c.maxLocals = 6 := hml0
  have hown : s.vm.findClass "java/lang/String" = some m.cls := findClass_of_methodNamed Bd.named
  have hnm := (name_of_methodNamed Bd.named Bd.method).1
  have X0 : Stand p l e ({ frames := 4, cells := 2, slots := 12, locals := 57 } : Room) s m #[(.ref b), (.ref tc), (.int 0), (.int 4), .null] below meth c s₁ [] 0 0 := Stand.of_body Bd
  have e0 : s₁.heap = h0 := by rw [← hh, Bd.state]; rfl
  have N0 := Fr.nil n0
  show Gl p.tables e below (EndN s (Q_i4_4 Z b tc kc cc0 cc1 cc2 cc3 Y1 h0 n0) ({ frames := 4, cells := 2, slots := 12, locals := 57 } : Room).cells ({ frames := 4, cells := 2, slots := 12, locals := 57 } : Room).slots) _
  refine Gl.cast (ef_i4_4 m b tc) ?_
  show Gl p.tables e below _ (s₁.setTop (mkF m 0 #[.val (.ref b), .val (.ref tc), .val (.int 0), .val (.int 4), .val .null, .unset] []))
  refine Gl.st (fun _ kq => XS.aloadN X0.here hx rfl (hb hby d2_0) rfl rfl kq) ?_
  show Gl p.tables e below _ (s₁.setTop (mkF m 1 #[.val (.ref b), .val (.ref tc), .val (.int 0), .val (.int 4), .val .null, .unset] [(.ref b)]))
  obtain ⟨T1, X1, e1, st1⟩ := initO X0 hx hZ hown (tw hw 13 rfl) (tw hw 14 rfl) (tw hw 15 rfl) e0 (g := (mkF m 1 #[.val (.ref b), .val (.ref tc), .val (.int 0), .val (.int 4), .val .null, .unset] [(.ref b)])) rfl (by rw [hml]; rfl) rfl (hb hby d2_1) (by decide) (W := 0) (by show 2 * 0 + _ ≤ _; exact Nat.le_of_eq rfl) (by decide)
  refine Gl.st st1 ?_
  show Gl p.tables e below _ (T1.setTop (mkF m 4 #[.val (.ref b), .val (.ref tc), .val (.int 0), .val (.int 4), .val .null, .unset] []))
  refine Gl.st (fun _ kq => XS.iloadN X1.here hx rfl (hb hby d2_4) rfl kq) ?_
  show Gl p.tables e below _ (T1.setTop (mkF m 5 #[.val (.ref b), .val (.ref tc), .val (.int 0), .val (.int 4), .val .null, .unset] [(.int 4)]))
  refine Gl.st (fun _ kq => XS.ifYes X1.here hx rfl (pc0 := 5) (pc' := 27) rfl (hb hby d2_5) rfl ((if0 _ _).trans (feq ((by decide) : ¬ ((4 : Int32) = (0 : Int32)))).2) (by decide) (by decide) kq) ?_
  show Gl p.tables e below _ (T1.setTop (mkF m 27 #[.val (.ref b), .val (.ref tc), .val (.int 0), .val (.int 4), .val .null, .unset] []))
  obtain ⟨T2, X2, e2, st2⟩ := getS2 X1 hx hZ hown (host := "") (Or.inl (tw hw 38 rfl)) Via.refl e1 (O2.ext pf4.2) (g := (mkF m 27 #[.val (.ref b), .val (.ref tc), .val (.int 0), .val (.int 4), .val .null, .unset] [])) rfl (hb hby d2_27)
  refine Gl.st st2 ?_
  show Gl p.tables e below _ (T2.setTop (mkF m 30 #[.val (.ref b), .val (.ref tc), .val (.int 0), .val (.int 4), .val .null, .unset] [(.int Y1)]))
  refine Gl.st (fun _ kq => XS.ifNo X2.here hx rfl (hb hby d2_30) rfl ((if0 _ _).trans (feq (P5 : ¬ (Y1 = (0 : Int32)))).1) kq) ?_
  show Gl p.tables e below _ (T2.setTop (mkF m 33 #[.val (.ref b), .val (.ref tc), .val (.int 0), .val (.int 4), .val .null, .unset] []))
  refine Gl.st (fun _ kq => XS.aloadN X2.here hx rfl (hb hby d2_33) rfl rfl kq) ?_
  refine Gl.st (fun _ kq => XS.iloadN X2.here hx rfl (hb hby d2_34) rfl kq) ?_
  refine Gl.st (fun _ kq => XS.iloadN X2.here hx rfl (hb hby d2_35) rfl kq) ?_
  show Gl p.tables e below _ (T2.setTop (mkF m 36 #[.val (.ref b), .val (.ref tc), .val (.int 0), .val (.int 4), .val .null, .unset] [(.int 4), (.int 0), (.ref tc)]))
  obtain ⟨_, _, ⟨T5, L5, k5, n5⟩, -, X5, ⟨Lc5, hQ5, l5, y5, z5⟩, st5⟩ := Jvm.LawKit.callS X2 hx (y := (⟨"java/lang/StringUTF16", "compress", "([CII)[B"⟩ : MethodName)) hown (mvT hZ (tw hw 39 rfl)) (mvT hZ (tw hw 40 rfl)) (mvT hZ (tw hw 41 rfl)) (mvT hZ (tw hw 42 rfl)) (by decide) (backOf (W := 0) (rm_c3_4 l Z a0 hw [] (tc) (kc) (cc0) (cc1) (cc2) (cc3) h0 n0 Z0 pf3 pf4 hcc0 hcc1 hcc2 hcc3 OA OH OL hU) hZ (tw hw 42 rfl) (tw hw 41 rfl) (by decide) (by decide)) (g := (mkF m 36 #[.val (.ref b), .val (.ref tc), .val (.int 0), .val (.int 4), .val .null, .unset] [(.int 4), (.int 0), (.ref tc)])) rfl (by rw [hml]; rfl) (argsL := [(.ref tc), (.int 0), (.int 4)]) (rest := []) (lenOf pd___CII__B rfl) rfl (by show 2 * 0 + _ ≤ _; exact Nat.le_of_eq rfl) (hb hby d2_36) (fun _ _ => ⟨rfl, e2, (by decide : 0 + 2 ≤ _), (by decide : 0 + 12 ≤ _)⟩)
  dsimp only [Pt.U, Pt.locs, Pt.cells, Pt.slots] at X5 l5 y5 z5 st5 hQ5
  subst l5 y5 z5
  obtain ⟨v3, v4, rfl, N5, K5, q5_0, y5_0⟩ := hQ5
  have M5 := Fr.app N0 N5
  have g6 : n0 ≤ v3 := Nat.le_trans Z0 y5_0
  have s7 : h0.size ≤ v3 := Nat.le_trans (Nat.le_refl _) y5_0
  refine Gl.st st5 ?_
  show Gl p.tables e below _ (T5.setTop (mkF m 39 #[.val (.ref b), .val (.ref tc), .val (.int 0), .val (.int 4), .val .null, .unset] [(.ref v3)]))
  show Gl p.tables e below _ (T5.setTop (mkF m 39 #[.val (.ref b), .val (.ref tc), .val (.int 0), .val (.int 4), .val .null, .unset] [(.ref v3)]))
  refine Gl.st (fun _ kq => XS.astore X5.here hx rfl (hb hby d2_39) rfl rfl (l' := #[.val (.ref b), .val (.ref tc), .val (.int 0), .val (.int 4), .val .null, .val (.ref v3)]) rfl kq) ?_
  refine Gl.st (fun _ kq => XS.aloadN X5.here hx rfl (hb hby d2_41) rfl rfl kq) ?_
  refine Gl.st (fun _ kq => XS.aload X5.here hx rfl (hb hby d2_42) rfl rfl kq) ?_
  refine Gl.st (fun _ kq => XS.iloadN X5.here hx rfl (hb hby d2_44) rfl kq) ?_
  show Gl p.tables e below _ (T5.setTop (mkF m 45 #[.val (.ref b), .val (.ref tc), .val (.int 0), .val (.int 4), .val .null, .val (.ref v3)] [(.int 4), (.ref v3), (.ref b)]))
  obtain ⟨_, _, ⟨T8, L8, k8, n8⟩, -, X8, ⟨Lc8, hQ8, l8, y8, z8⟩, st8⟩ := Jvm.LawKit.callS X5 hx (y := (⟨"java/lang/StringUTF16", "coderFromArrayLen", "([BI)B"⟩ : MethodName)) hown (mvT hZ (tw hw 46 rfl)) (mvT hZ (tw hw 47 rfl)) (mvT hZ (tw hw 41 rfl)) (mvT hZ (tw hw 48 rfl)) (by decide) (backOf (W := 1) (rm_cfa4 l Z a0 hw [] (v3) (v4) (cc0) (cc1) (cc2) (cc3) T5.heap n0 (Nat.le_trans Z0 K5.1) q5_0) hZ (tw hw 48 rfl) (tw hw 41 rfl) (by decide) (by decide)) (g := (mkF m 45 #[.val (.ref b), .val (.ref tc), .val (.int 0), .val (.int 4), .val .null, .val (.ref v3)] [(.int 4), (.ref v3), (.ref b)])) rfl (by rw [hml]; rfl) (argsL := [(.ref v3), (.int 4)]) (rest := [(.ref b)]) (lenOf pd___BI_B rfl) rfl (by show 2 * 0 + _ ≤ _; exact Nat.le_of_eq rfl) (hb hby d2_45) (fun _ _ => ⟨rfl, rfl, (by decide : 2 + 0 ≤ _), (by decide : 12 + 0 ≤ _)⟩)
  dsimp only [Pt.U, Pt.locs, Pt.cells, Pt.slots] at X8 l8 y8 z8 st8 hQ8
  subst l8 y8 z8
  obtain ⟨rfl, N8, e8⟩ := hQ8
  have M8 := Fr.app M5 N8
  refine Gl.st st8 ?_
  show Gl p.tables e below _ (T8.setTop (mkF m 48 #[.val (.ref b), .val (.ref tc), .val (.int 0), .val (.int 4), .val .null, .val (.ref v3)] [(.int 1), (.ref b)]))
  show Gl p.tables e below _ (T8.setTop (mkF m 48 #[.val (.ref b), .val (.ref tc), .val (.int 0), .val (.int 4), .val .null, .val (.ref v3)] [(.int 1), (.ref b)]))
  have f9 : Fld Z T5.heap b "java/lang/String" "coder" "B" (.int 0) := (pf2.keep K5 nin0)
  have f10 : Exa Z T5.heap b "java/lang/String" := (pf0.keep K5)
  obtain ⟨T11, h11, X11, e11, W11, st11⟩ := putFN X8 hx hZ hown (tw hw 23 rfl) Via.refl e8 f9 f10 (Or.inr ⟨(tw hw 19 rfl), rfl, hnm⟩) (tw hw 3 rfl) (ty := .byte) (v' := (.int 1)) (by decide) rfl (by decide) (g := (mkF m 48 #[.val (.ref b), .val (.ref tc), .val (.int 0), .val (.int 4), .val .null, .val (.ref v3)] [(.int 1), (.ref b)])) rfl rfl (hb hby d2_48)
  refine Gl.st st11 ?_
  have F11 : Fld Z h11 b "java/lang/String" "coder" "B" (.int 1) := Fld.same W11 f9
  have N11 := Fr.snoc X11 M8 gb
  show Gl p.tables e below _ (T11.setTop (mkF m 51 #[.val (.ref b), .val (.ref tc), .val (.int 0), .val (.int 4), .val .null, .val (.ref v3)] []))
  refine Gl.st (fun _ kq => XS.aloadN X11.here hx rfl (hb hby d2_51) rfl rfl kq) ?_
  refine Gl.st (fun _ kq => XS.aload X11.here hx rfl (hb hby d2_52) rfl rfl kq) ?_
  show Gl p.tables e below _ (T11.setTop (mkF m 54 #[.val (.ref b), .val (.ref tc), .val (.int 0), .val (.int 4), .val .null, .val (.ref v3)] [(.ref v3), (.ref b)]))
  have f12 : Fld Z h11 b "java/lang/String" "value" "[B" .null := ((pf1.keep K5 nin0).other W11 (Or.inr (slot_ne (Or.inr (tw hw 18 rfl)) (Or.inr (tw hw 19 rfl)) (by decide) (t := (.array .byte)) (t' := .byte) (by decide) (by decide))))
  have f13 : Exa Z h11 b "java/lang/String" := (f10.wr W11)
  obtain ⟨T14, h14, X14, e14, W14, st14⟩ := putF X11 hx hZ hown (host := "") (Or.inl (tw hw 22 rfl)) Via.refl e11 f12 f13 (Or.inr ⟨(tw hw 18 rfl), rfl, hnm⟩) (tw hw 3 rfl) (ty := (.array .byte)) (by decide) rfl rfl (g := (mkF m 54 #[.val (.ref b), .val (.ref tc), .val (.int 0), .val (.int 4), .val .null, .val (.ref v3)] [(.ref v3), (.ref b)])) rfl rfl (hb hby d2_54)
  refine Gl.st st14 ?_
  have F14 : Fld Z h14 b "java/lang/String" "value" "[B" (.ref v3) := Fld.same W14 f12
  have N14 := Fr.snoc X14 N11 gb
  show Gl p.tables e below _ (T14.setTop (mkF m 57 #[.val (.ref b), .val (.ref tc), .val (.int 0), .val (.int 4), .val .null, .val (.ref v3)] []))
  have K15 : Keep h0 h14 [b] := ((((Keep.refl h0 [b]).trans K5 all0).wr W11 (Or.inl (List.mem_of_getElem? (i := 0) rfl))).wr W14 (Or.inl (List.mem_of_getElem? (i := 0) rfl)))
  have f16 : Exa Z h14 b "java/lang/String" := (f13.wr W14)
  have f17 : Fld Z h14 b "java/lang/String" "coder" "B" (.int 1) := (F11.other W14 (Or.inr (slot_ne (Or.inr (tw hw 19 rfl)) (Or.inr (tw hw 18 rfl)) (by decide) (t := .byte) (t' := (.array .byte)) (by decide) (by decide))))
  have ne18 : v3 ≠ b := Ne.symm (Nat.ne_of_lt (Nat.lt_of_lt_of_le pf0.lt y5_0))
  have f19 : Arv Z h14 v3 v4 .byte (Int32.ofNat (2 * ([cc0, cc1, cc2, cc3] : List Int32).length)) (own_us ([cc0, cc1, cc2, cc3] : List Int32)) (.int 0) := ((q5_0.other W11 ne18).other W14 ne18)
  exact Gl.ret0 X14 hx Bd.returns (hb hby d2_57) hlk (by decide) (by decide) (by rw [e14]; exact ⟨v3, v4, rfl, N14, K15, f16, f17, F14, f19⟩)
theorem ef_i1_1 (m : MethodId) (b : Addr) (tc : Addr) : entryFrame m #[(.ref b), (.ref tc)] 2 = mkF m 0 #[.val (.ref b), .val (.ref tc)] [] := by first | (simp [entryFrame, mkF, argsToLocals, Value.category]; done) | rfl
def Q_i1_1 (Z : State) (b : Addr) (tc : Addr) (kc : ClassId) (cc0 : Int32) (Y1 : Int32) (h0 : Heap) (n0 : Nat) (v : Option Value) (h : Heap) (L : List Loc) : Prop := (∃ t : Addr, ∃ k : ClassId, v = none ∧ Fr n0 L ∧ Keep h0 h [b] ∧ Exa Z h b "java/lang/String" ∧ Fld Z h b "java/lang/String" "coder" "B" (.int 1) ∧ Fld Z h b "java/lang/String" "value" "[B" (.ref t) ∧ Arv Z h t k .byte (Int32.ofNat (2 * ([cc0] : List Int32).length)) (own_us ([cc0] : List Int32)) (.int 0))
set_option maxRecDepth 65536 in
set_option maxHeartbeats 40000000 in
theorem rm_i1_1 (l : Launch) (Z : State) (a0 : Array Value) (hw : ∀ d ∈ tables_1, d.before a0 Z = true) (ws : List Jvm.Cond) (b : Addr) (tc : Addr) (kc : ClassId) (cc0 : Int32) (Y1 : Int32) (h0 : Heap) (n0 : Nat) (Z0 : n0 ≤ h0.size) (pf0 : Exa Z h0 b "java/lang/String") (pf1 : Fld Z h0 b "java/lang/String" "value" "[B" .null) (pf2 : Fld Z h0 b "java/lang/String" "coder" "B" (.int 0)) (pf3 : Arv Z h0 tc kc .char (1 : Int32) [(.int cc0)] (.int 0)) (pf4 : Old Z n0 h0) (gb : n0 ≤ b) (hcc0 : own_h cc0) (OA : Sta Z Z.heap "java/lang/StringUTF16" "$assertionsDisabled" "Z" (.int 1)) (OH : Sta Z Z.heap "java/lang/StringUTF16" "HI_BYTE_SHIFT" "I" (.int 0)) (OL : Sta Z Z.heap "java/lang/StringUTF16" "LO_BYTE_SHIFT" "I" (.int 8)) (hU : (255 : Int32) < cc0) (O2 : Sta Z Z.heap "java/lang/String" "COMPACT_STRINGS" "Z" (.int Y1)) (P5 : ¬ (Y1 = (0 : Int32))) :
    MetFree l (⟨"java/lang/String", "<init>", "([C)V"⟩ : MethodName) (head1 (Jvm.Cond.code (⟨"java/lang/String", "<init>", "([C)V"⟩ : MethodName) jdk_42_method_3_code 2 none :: ws) ({ frames := 5, cells := 2, slots := 3, locals := 74 } : Room)) (fun aa U => aa = #[(.ref b), (.ref tc)] ∧ Z.Warmed39 U.vm ∧ U.heap = h0) (fun _ _ _ _ _ => True) (fun _ U o U' => ∃ v L, o = .returned v ∧ Q_i1_1 Z b tc kc cc0 Y1 h0 n0 v U'.heap L ∧ FrameEnd U o U' L ({ frames := 5, cells := 2, slots := 3, locals := 74 } : Room).cells ({ frames := 5, cells := 2, slots := 3, locals := 74 } : Room).slots) := by
  refine MetFree.of_bodySF (plainFor_of_name pn_java_lang_String) hisR ?_
  intro p e s m args below meth c s₁ Bd hml0 hP hK
  obtain ⟨rfl, hZ, hh⟩ := hP
  have hx := Bd.exec
  have hby := Bd.bytes
  have hlk : meth.locks = false := BodyLoose.notSynchronized Bd
  have hml : c.maxLocals = 2 := hml0
  have hown : s.vm.findClass "java/lang/String" = some m.cls := findClass_of_methodNamed Bd.named
  have hnm := (name_of_methodNamed Bd.named Bd.method).1
  have X0 : Stand p l e ({ frames := 5, cells := 2, slots := 3, locals := 74 } : Room) s m #[(.ref b), (.ref tc)] below meth c s₁ [] 0 0 := Stand.of_body Bd
  have e0 : s₁.heap = h0 := by rw [← hh, Bd.state]; rfl
  have N0 := Fr.nil n0
  show Gl p.tables e below (EndN s (Q_i1_1 Z b tc kc cc0 Y1 h0 n0) ({ frames := 5, cells := 2, slots := 3, locals := 74 } : Room).cells ({ frames := 5, cells := 2, slots := 3, locals := 74 } : Room).slots) _
  refine Gl.cast (ef_i1_1 m b tc) ?_
  show Gl p.tables e below _ (s₁.setTop (mkF m 0 #[.val (.ref b), .val (.ref tc)] []))
  refine Gl.st (fun _ kq => XS.aloadN X0.here hx rfl (hb hby d1_0) rfl rfl kq) ?_
  refine Gl.st (fun _ kq => XS.aloadN X0.here hx rfl (hb hby d1_1) rfl rfl kq) ?_
  refine Gl.st (fun _ kq => XS.iconst X0.here hx rfl (hb hby d1_2) kq) ?_
  refine Gl.st (fun _ kq => XS.aloadN X0.here hx rfl (hb hby d1_3) rfl rfl kq) ?_
  show Gl p.tables e below _ (s₁.setTop (mkF m 4 #[.val (.ref b), .val (.ref tc)] [(.ref tc), (.int 0), (.ref tc), (.ref b)]))
  obtain ⟨c1, a1, q1, S1, M1, H1, G1⟩ := id pf3
  refine Gl.st (fun _ kq => X0.arraylength hx (by rw [e0]; exact a1.1) (State.isArrayOf_alike hZ.alike a1.2.1) (g := (mkF m 4 #[.val (.ref b), .val (.ref tc)] [(.ref tc), (.int 0), (.ref tc), (.ref b)])) rfl rfl (hb hby d1_4) _ kq) ?_
  rw [len_of S1 M1]
  show Gl p.tables e below _ (s₁.setTop (mkF m 5 #[.val (.ref b), .val (.ref tc)] [(.int 1), (.int 0), (.ref tc), (.ref b)]))
  refine Gl.st (fun _ kq => XS.aconstNull X0.here hx rfl (hb hby d1_5) kq) ?_
  show Gl p.tables e below _ (s₁.setTop (mkF m 6 #[.val (.ref b), .val (.ref tc)] [.null, (.int 1), (.int 0), (.ref tc), (.ref b)]))
  obtain ⟨_, _, ⟨T4, L4, k4, n4⟩, -, X4, ⟨Lc4, hQ4, l4, y4, z4⟩, st4⟩ := X0.specialBack hx (y := (⟨"java/lang/String", "<init>", "([CIILjava/lang/Void;)V"⟩ : MethodName)) rfl hown (mvT hZ (tw hw 9 rfl)) (mvT hZ (tw hw 10 rfl)) (mvT hZ (tw hw 12 rfl)) (by decide) (backOf (W := 0) (rm_i4_1 l Z a0 hw [] (b) (tc) (kc) (cc0) (Y1) h0 n0 Z0 pf0 pf1 pf2 pf3 pf4 gb hcc0 OA OH OL hU O2 P5) hZ (tw hw 12 rfl) (tw hw 4 rfl) (by decide) (by decide)) (g := (mkF m 6 #[.val (.ref b), .val (.ref tc)] [.null, (.int 1), (.int 0), (.ref tc), (.ref b)])) rfl (by rw [hml]; rfl) (Steps.refl _) (a := b) (argsL := [(.ref tc), (.int 0), (.int 1), .null]) (rest := []) (lenOf pd___CIILjava_lang_Void__V rfl) rfl (by show 2 * 0 + _ ≤ _; exact Nat.le_of_eq rfl) (hb hby d1_6) (fun _ _ => ⟨rfl, e0, (by decide : 0 + 2 ≤ _), (by decide : 0 + 3 ≤ _)⟩)
  dsimp only [Pt.U, Pt.locs, Pt.cells, Pt.slots] at X4 l4 y4 z4 st4 hQ4
  subst l4 y4 z4
  obtain ⟨v2, v3, rfl, N4, K4, q4_0, q4_1, q4_2, q4_3⟩ := hQ4
  have M4 := Fr.app N0 N4
  refine Gl.to st4 ?_
  show Gl p.tables e below _ (T4.setTop (mkF m 9 #[.val (.ref b), .val (.ref tc)] []))
  show Gl p.tables e below _ (T4.setTop (mkF m 9 #[.val (.ref b), .val (.ref tc)] []))
  have K5 : Keep h0 T4.heap [b] := ((Keep.refl h0 [b]).trans K4 (allS (Or.inl (List.mem_of_getElem? (i := 0) rfl)) all0))
  exact Gl.ret0 X4 hx Bd.returns (hb hby d1_9) hlk (by decide) (by decide) ⟨v2, v3, rfl, M4, K5, q4_0, q4_1, q4_2, q4_3⟩
theorem ef_i1_2 (m : MethodId) (b : Addr) (tc : Addr) : entryFrame m #[(.ref b), (.ref tc)] 2 = mkF m 0 #[.val (.ref b), .val (.ref tc)] [] := by first | (simp [entryFrame, mkF, argsToLocals, Value.category]; done) | rfl
def Q_i1_2 (Z : State) (b : Addr) (tc : Addr) (kc : ClassId) (cc0 : Int32) (cc1 : Int32) (Y1 : Int32) (h0 : Heap) (n0 : Nat) (v : Option Value) (h : Heap) (L : List Loc) : Prop := (∃ t : Addr, ∃ k : ClassId, v = none ∧ Fr n0 L ∧ Keep h0 h [b] ∧ Exa Z h b "java/lang/String" ∧ Fld Z h b "java/lang/String" "coder" "B" (.int 1) ∧ Fld Z h b "java/lang/String" "value" "[B" (.ref t) ∧ Arv Z h t k .byte (Int32.ofNat (2 * ([cc0, cc1] : List Int32).length)) (own_us ([cc0, cc1] : List Int32)) (.int 0))
set_option maxRecDepth 65536 in
set_option maxHeartbeats 40000000 in
theorem rm_i1_2 (l : Launch) (Z : State) (a0 : Array Value) (hw : ∀ d ∈ tables_1, d.before a0 Z = true) (ws : List Jvm.Cond) (b : Addr) (tc : Addr) (kc : ClassId) (cc0 : Int32) (cc1 : Int32) (Y1 : Int32) (h0 : Heap) (n0 : Nat) (Z0 : n0 ≤ h0.size) (pf0 : Exa Z h0 b "java/lang/String") (pf1 : Fld Z h0 b "java/lang/String" "value" "[B" .null) (pf2 : Fld Z h0 b "java/lang/String" "coder" "B" (.int 0)) (pf3 : Arv Z h0 tc kc .char (2 : Int32) [(.int cc0), (.int cc1)] (.int 0)) (pf4 : Old Z n0 h0) (gb : n0 ≤ b) (hcc0 : own_h cc0) (hcc1 : own_h cc1) (OA : Sta Z Z.heap "java/lang/StringUTF16" "$assertionsDisabled" "Z" (.int 1)) (OH : Sta Z Z.heap "java/lang/StringUTF16" "HI_BYTE_SHIFT" "I" (.int 0)) (OL : Sta Z Z.heap "java/lang/StringUTF16" "LO_BYTE_SHIFT" "I" (.int 8)) (hU : (255 : Int32) < cc0 ∨ (255 : Int32) < cc1) (O2 : Sta Z Z.heap "java/lang/String" "COMPACT_STRINGS" "Z" (.int Y1)) (P5 : ¬ (Y1 = (0 : Int32))) :
    MetFree l (⟨"java/lang/String", "<init>", "([C)V"⟩ : MethodName) (head1 (Jvm.Cond.code (⟨"java/lang/String", "<init>", "([C)V"⟩ : MethodName) jdk_42_method_3_code 2 none :: ws) ({ frames := 5, cells := 2, slots := 6, locals := 74 } : Room)) (fun aa U => aa = #[(.ref b), (.ref tc)] ∧ Z.Warmed39 U.vm ∧ U.heap = h0) (fun _ _ _ _ _ => True) (fun _ U o U' => ∃ v L, o = .returned v ∧ Q_i1_2 Z b tc kc cc0 cc1 Y1 h0 n0 v U'.heap L ∧ FrameEnd U o U' L ({ frames := 5, cells := 2, slots := 6, locals := 74 } : Room).cells ({ frames := 5, cells := 2, slots := 6, locals := 74 } : Room).slots) := by
  refine MetFree.of_bodySF (plainFor_of_name pn_java_lang_String) hisR ?_
  intro p e s m args below meth c s₁ Bd hml0 hP hK
  obtain ⟨rfl, hZ, hh⟩ := hP
  have hx := Bd.exec
  have hby := Bd.bytes
  have hlk : meth.locks = false := BodyLoose.notSynchronized Bd
  have hml : c.maxLocals = 2 := hml0
  have hown : s.vm.findClass "java/lang/String" = some m.cls := findClass_of_methodNamed Bd.named
  have hnm := (name_of_methodNamed Bd.named Bd.method).1
  have X0 : Stand p l e ({ frames := 5, cells := 2, slots := 6, locals := 74 } : Room) s m #[(.ref b), (.ref tc)] below meth c s₁ [] 0 0 := Stand.of_body Bd
  have e0 : s₁.heap = h0 := by rw [← hh, Bd.state]; rfl
  have N0 := Fr.nil n0
  show Gl p.tables e below (EndN s (Q_i1_2 Z b tc kc cc0 cc1 Y1 h0 n0) ({ frames := 5, cells := 2, slots := 6, locals := 74 } : Room).cells ({ frames := 5, cells := 2, slots := 6, locals := 74 } : Room).slots) _
  refine Gl.cast (ef_i1_2 m b tc) ?_
  show Gl p.tables e below _ (s₁.setTop (mkF m 0 #[.val (.ref b), .val (.ref tc)] []))
  refine Gl.st (fun _ kq => XS.aloadN X0.here hx rfl (hb hby d1_0) rfl rfl kq) ?_
  refine Gl.st (fun _ kq => XS.aloadN X0.here hx rfl (hb hby d1_1) rfl rfl kq) ?_
  refine Gl.st (fun _ kq => XS.iconst X0.here hx rfl (hb hby d1_2) kq) ?_
  refine Gl.st (fun _ kq => XS.aloadN X0.here hx rfl (hb hby d1_3) rfl rfl kq) ?_
  show Gl p.tables e below _ (s₁.setTop (mkF m 4 #[.val (.ref b), .val (.ref tc)] [(.ref tc), (.int 0), (.ref tc), (.ref b)]))
  obtain ⟨c1, a1, q1, S1, M1, H1, G1⟩ := id pf3
  refine Gl.st (fun _ kq => X0.arraylength hx (by rw [e0]; exact a1.1) (State.isArrayOf_alike hZ.alike a1.2.1) (g := (mkF m 4 #[.val (.ref b), .val (.ref tc)] [(.ref tc), (.int 0), (.ref tc), (.ref b)])) rfl rfl (hb hby d1_4) _ kq) ?_
  rw [len_of S1 M1]
  show Gl p.tables e below _ (s₁.setTop (mkF m 5 #[.val (.ref b), .val (.ref tc)] [(.int 2), (.int 0), (.ref tc), (.ref b)]))
  refine Gl.st (fun _ kq => XS.aconstNull X0.here hx rfl (hb hby d1_5) kq) ?_
  show Gl p.tables e below _ (s₁.setTop (mkF m 6 #[.val (.ref b), .val (.ref tc)] [.null, (.int 2), (.int 0), (.ref tc), (.ref b)]))
  obtain ⟨_, _, ⟨T4, L4, k4, n4⟩, -, X4, ⟨Lc4, hQ4, l4, y4, z4⟩, st4⟩ := X0.specialBack hx (y := (⟨"java/lang/String", "<init>", "([CIILjava/lang/Void;)V"⟩ : MethodName)) rfl hown (mvT hZ (tw hw 9 rfl)) (mvT hZ (tw hw 10 rfl)) (mvT hZ (tw hw 12 rfl)) (by decide) (backOf (W := 0) (rm_i4_2 l Z a0 hw [] (b) (tc) (kc) (cc0) (cc1) (Y1) h0 n0 Z0 pf0 pf1 pf2 pf3 pf4 gb hcc0 hcc1 OA OH OL hU O2 P5) hZ (tw hw 12 rfl) (tw hw 4 rfl) (by decide) (by decide)) (g := (mkF m 6 #[.val (.ref b), .val (.ref tc)] [.null, (.int 2), (.int 0), (.ref tc), (.ref b)])) rfl (by rw [hml]; rfl) (Steps.refl _) (a := b) (argsL := [(.ref tc), (.int 0), (.int 2), .null]) (rest := []) (lenOf pd___CIILjava_lang_Void__V rfl) rfl (by show 2 * 0 + _ ≤ _; exact Nat.le_of_eq rfl) (hb hby d1_6) (fun _ _ => ⟨rfl, e0, (by decide : 0 + 2 ≤ _), (by decide : 0 + 6 ≤ _)⟩)
  dsimp only [Pt.U, Pt.locs, Pt.cells, Pt.slots] at X4 l4 y4 z4 st4 hQ4
  subst l4 y4 z4
  obtain ⟨v2, v3, rfl, N4, K4, q4_0, q4_1, q4_2, q4_3⟩ := hQ4
  have M4 := Fr.app N0 N4
  refine Gl.to st4 ?_
  show Gl p.tables e below _ (T4.setTop (mkF m 9 #[.val (.ref b), .val (.ref tc)] []))
  show Gl p.tables e below _ (T4.setTop (mkF m 9 #[.val (.ref b), .val (.ref tc)] []))
  have K5 : Keep h0 T4.heap [b] := ((Keep.refl h0 [b]).trans K4 (allS (Or.inl (List.mem_of_getElem? (i := 0) rfl)) all0))
  exact Gl.ret0 X4 hx Bd.returns (hb hby d1_9) hlk (by decide) (by decide) ⟨v2, v3, rfl, M4, K5, q4_0, q4_1, q4_2, q4_3⟩
theorem ef_i1_3 (m : MethodId) (b : Addr) (tc : Addr) : entryFrame m #[(.ref b), (.ref tc)] 2 = mkF m 0 #[.val (.ref b), .val (.ref tc)] [] := by first | (simp [entryFrame, mkF, argsToLocals, Value.category]; done) | rfl
def Q_i1_3 (Z : State) (b : Addr) (tc : Addr) (kc : ClassId) (cc0 : Int32) (cc1 : Int32) (cc2 : Int32) (Y1 : Int32) (h0 : Heap) (n0 : Nat) (v : Option Value) (h : Heap) (L : List Loc) : Prop := (∃ t : Addr, ∃ k : ClassId, v = none ∧ Fr n0 L ∧ Keep h0 h [b] ∧ Exa Z h b "java/lang/String" ∧ Fld Z h b "java/lang/String" "coder" "B" (.int 1) ∧ Fld Z h b "java/lang/String" "value" "[B" (.ref t) ∧ Arv Z h t k .byte (Int32.ofNat (2 * ([cc0, cc1, cc2] : List Int32).length)) (own_us ([cc0, cc1, cc2] : List Int32)) (.int 0))
set_option maxRecDepth 65536 in
set_option maxHeartbeats 40000000 in
theorem rm_i1_3 (l : Launch) (Z : State) (a0 : Array Value) (hw : ∀ d ∈ tables_1, d.before a0 Z = true) (ws : List Jvm.Cond) (b : Addr) (tc : Addr) (kc : ClassId) (cc0 : Int32) (cc1 : Int32) (cc2 : Int32) (Y1 : Int32) (h0 : Heap) (n0 : Nat) (Z0 : n0 ≤ h0.size) (pf0 : Exa Z h0 b "java/lang/String") (pf1 : Fld Z h0 b "java/lang/String" "value" "[B" .null) (pf2 : Fld Z h0 b "java/lang/String" "coder" "B" (.int 0)) (pf3 : Arv Z h0 tc kc .char (3 : Int32) [(.int cc0), (.int cc1), (.int cc2)] (.int 0)) (pf4 : Old Z n0 h0) (gb : n0 ≤ b) (hcc0 : own_h cc0) (hcc1 : own_h cc1) (hcc2 : own_h cc2) (OA : Sta Z Z.heap "java/lang/StringUTF16" "$assertionsDisabled" "Z" (.int 1)) (OH : Sta Z Z.heap "java/lang/StringUTF16" "HI_BYTE_SHIFT" "I" (.int 0)) (OL : Sta Z Z.heap "java/lang/StringUTF16" "LO_BYTE_SHIFT" "I" (.int 8)) (hU : (255 : Int32) < cc0 ∨ (255 : Int32) < cc1 ∨ (255 : Int32) < cc2) (O2 : Sta Z Z.heap "java/lang/String" "COMPACT_STRINGS" "Z" (.int Y1)) (P5 : ¬ (Y1 = (0 : Int32))) :
    MetFree l (⟨"java/lang/String", "<init>", "([C)V"⟩ : MethodName) (head1 (Jvm.Cond.code (⟨"java/lang/String", "<init>", "([C)V"⟩ : MethodName) jdk_42_method_3_code 2 none :: ws) ({ frames := 5, cells := 2, slots := 9, locals := 74 } : Room)) (fun aa U => aa = #[(.ref b), (.ref tc)] ∧ Z.Warmed39 U.vm ∧ U.heap = h0) (fun _ _ _ _ _ => True) (fun _ U o U' => ∃ v L, o = .returned v ∧ Q_i1_3 Z b tc kc cc0 cc1 cc2 Y1 h0 n0 v U'.heap L ∧ FrameEnd U o U' L ({ frames := 5, cells := 2, slots := 9, locals := 74 } : Room).cells ({ frames := 5, cells := 2, slots := 9, locals := 74 } : Room).slots) := by
  refine MetFree.of_bodySF (plainFor_of_name pn_java_lang_String) hisR ?_
  intro p e s m args below meth c s₁ Bd hml0 hP hK
  obtain ⟨rfl, hZ, hh⟩ := hP
  have hx := Bd.exec
  have hby := Bd.bytes
  have hlk : meth.locks = false := BodyLoose.notSynchronized Bd
  have hml : c.maxLocals = 2 := hml0
  have hown : s.vm.findClass "java/lang/String" = some m.cls := findClass_of_methodNamed Bd.named
  have hnm := (name_of_methodNamed Bd.named Bd.method).1
  have X0 : Stand p l e ({ frames := 5, cells := 2, slots := 9, locals := 74 } : Room) s m #[(.ref b), (.ref tc)] below meth c s₁ [] 0 0 := Stand.of_body Bd
  have e0 : s₁.heap = h0 := by rw [← hh, Bd.state]; rfl
  have N0 := Fr.nil n0
  show Gl p.tables e below (EndN s (Q_i1_3 Z b tc kc cc0 cc1 cc2 Y1 h0 n0) ({ frames := 5, cells := 2, slots := 9, locals := 74 } : Room).cells ({ frames := 5, cells := 2, slots := 9, locals := 74 } : Room).slots) _
  refine Gl.cast (ef_i1_3 m b tc) ?_
  show Gl p.tables e below _ (s₁.setTop (mkF m 0 #[.val (.ref b), .val (.ref tc)] []))
  refine Gl.st (fun _ kq => XS.aloadN X0.here hx rfl (hb hby d1_0) rfl rfl kq) ?_
  refine Gl.st (fun _ kq => XS.aloadN X0.here hx rfl (hb hby d1_1) rfl rfl kq) ?_
  refine Gl.st (fun _ kq => XS.iconst X0.here hx rfl (hb hby d1_2) kq) ?_
  refine Gl.st (fun _ kq => XS.aloadN X0.here hx rfl (hb hby d1_3) rfl rfl kq) ?_
  show Gl p.tables e below _ (s₁.setTop (mkF m 4 #[.val (.ref b), .val (.ref tc)] [(.ref tc), (.int 0), (.ref tc), (.ref b)]))
  obtain ⟨c1, a1, q1, S1, M1, H1, G1⟩ := id pf3
  refine Gl.st (fun _ kq => X0.arraylength hx (by rw [e0]; exact a1.1) (State.isArrayOf_alike hZ.alike a1.2.1) (g := (mkF m 4 #[.val (.ref b), .val (.ref tc)] [(.ref tc), (.int 0), (.ref tc), (.ref b)])) rfl rfl (hb hby d1_4) _ kq) ?_
  rw [len_of S1 M1]
  show Gl p.tables e below _ (s₁.setTop (mkF m 5 #[.val (.ref b), .val (.ref tc)] [(.int 3), (.int 0), (.ref tc), (.ref b)]))
  refine Gl.st (fun _ kq => XS.aconstNull X0.here hx rfl (hb hby d1_5) kq) ?_
  show Gl p.tables e below _ (s₁.setTop (mkF m 6 #[.val (.ref b), .val (.ref tc)] [.null, (.int 3), (.int 0), (.ref tc), (.ref b)]))
  obtain ⟨_, _, ⟨T4, L4, k4, n4⟩, -, X4, ⟨Lc4, hQ4, l4, y4, z4⟩, st4⟩ := X0.specialBack hx (y := (⟨"java/lang/String", "<init>", "([CIILjava/lang/Void;)V"⟩ : MethodName)) rfl hown (mvT hZ (tw hw 9 rfl)) (mvT hZ (tw hw 10 rfl)) (mvT hZ (tw hw 12 rfl)) (by decide) (backOf (W := 0) (rm_i4_3 l Z a0 hw [] (b) (tc) (kc) (cc0) (cc1) (cc2) (Y1) h0 n0 Z0 pf0 pf1 pf2 pf3 pf4 gb hcc0 hcc1 hcc2 OA OH OL hU O2 P5) hZ (tw hw 12 rfl) (tw hw 4 rfl) (by decide) (by decide)) (g := (mkF m 6 #[.val (.ref b), .val (.ref tc)] [.null, (.int 3), (.int 0), (.ref tc), (.ref b)])) rfl (by rw [hml]; rfl) (Steps.refl _) (a := b) (argsL := [(.ref tc), (.int 0), (.int 3), .null]) (rest := []) (lenOf pd___CIILjava_lang_Void__V rfl) rfl (by show 2 * 0 + _ ≤ _; exact Nat.le_of_eq rfl) (hb hby d1_6) (fun _ _ => ⟨rfl, e0, (by decide : 0 + 2 ≤ _), (by decide : 0 + 9 ≤ _)⟩)
  dsimp only [Pt.U, Pt.locs, Pt.cells, Pt.slots] at X4 l4 y4 z4 st4 hQ4
  subst l4 y4 z4
  obtain ⟨v2, v3, rfl, N4, K4, q4_0, q4_1, q4_2, q4_3⟩ := hQ4
  have M4 := Fr.app N0 N4
  refine Gl.to st4 ?_
  show Gl p.tables e below _ (T4.setTop (mkF m 9 #[.val (.ref b), .val (.ref tc)] []))
  show Gl p.tables e below _ (T4.setTop (mkF m 9 #[.val (.ref b), .val (.ref tc)] []))
  have K5 : Keep h0 T4.heap [b] := ((Keep.refl h0 [b]).trans K4 (allS (Or.inl (List.mem_of_getElem? (i := 0) rfl)) all0))
  exact Gl.ret0 X4 hx Bd.returns (hb hby d1_9) hlk (by decide) (by decide) ⟨v2, v3, rfl, M4, K5, q4_0, q4_1, q4_2, q4_3⟩
theorem ef_i1_4 (m : MethodId) (b : Addr) (tc : Addr) : entryFrame m #[(.ref b), (.ref tc)] 2 = mkF m 0 #[.val (.ref b), .val (.ref tc)] [] := by first | (simp [entryFrame, mkF, argsToLocals, Value.category]; done) | rfl
def Q_i1_4 (Z : State) (b : Addr) (tc : Addr) (kc : ClassId) (cc0 : Int32) (cc1 : Int32) (cc2 : Int32) (cc3 : Int32) (Y1 : Int32) (h0 : Heap) (n0 : Nat) (v : Option Value) (h : Heap) (L : List Loc) : Prop := (∃ t : Addr, ∃ k : ClassId, v = none ∧ Fr n0 L ∧ Keep h0 h [b] ∧ Exa Z h b "java/lang/String" ∧ Fld Z h b "java/lang/String" "coder" "B" (.int 1) ∧ Fld Z h b "java/lang/String" "value" "[B" (.ref t) ∧ Arv Z h t k .byte (Int32.ofNat (2 * ([cc0, cc1, cc2, cc3] : List Int32).length)) (own_us ([cc0, cc1, cc2, cc3] : List Int32)) (.int 0))
set_option maxRecDepth 65536 in
set_option maxHeartbeats 40000000 in
theorem rm_i1_4 (l : Launch) (Z : State) (a0 : Array Value) (hw : ∀ d ∈ tables_1, d.before a0 Z = true) (ws : List Jvm.Cond) (b : Addr) (tc : Addr) (kc : ClassId) (cc0 : Int32) (cc1 : Int32) (cc2 : Int32) (cc3 : Int32) (Y1 : Int32) (h0 : Heap) (n0 : Nat) (Z0 : n0 ≤ h0.size) (pf0 : Exa Z h0 b "java/lang/String") (pf1 : Fld Z h0 b "java/lang/String" "value" "[B" .null) (pf2 : Fld Z h0 b "java/lang/String" "coder" "B" (.int 0)) (pf3 : Arv Z h0 tc kc .char (4 : Int32) [(.int cc0), (.int cc1), (.int cc2), (.int cc3)] (.int 0)) (pf4 : Old Z n0 h0) (gb : n0 ≤ b) (hcc0 : own_h cc0) (hcc1 : own_h cc1) (hcc2 : own_h cc2) (hcc3 : own_h cc3) (OA : Sta Z Z.heap "java/lang/StringUTF16" "$assertionsDisabled" "Z" (.int 1)) (OH : Sta Z Z.heap "java/lang/StringUTF16" "HI_BYTE_SHIFT" "I" (.int 0)) (OL : Sta Z Z.heap "java/lang/StringUTF16" "LO_BYTE_SHIFT" "I" (.int 8)) (hU : (255 : Int32) < cc0 ∨ (255 : Int32) < cc1 ∨ (255 : Int32) < cc2 ∨ (255 : Int32) < cc3) (O2 : Sta Z Z.heap "java/lang/String" "COMPACT_STRINGS" "Z" (.int Y1)) (P5 : ¬ (Y1 = (0 : Int32))) :
    MetFree l (⟨"java/lang/String", "<init>", "([C)V"⟩ : MethodName) (head1 (Jvm.Cond.code (⟨"java/lang/String", "<init>", "([C)V"⟩ : MethodName) jdk_42_method_3_code 2 none :: ws) ({ frames := 5, cells := 2, slots := 12, locals := 74 } : Room)) (fun aa U => aa = #[(.ref b), (.ref tc)] ∧ Z.Warmed39 U.vm ∧ U.heap = h0) (fun _ _ _ _ _ => True) (fun _ U o U' => ∃ v L, o = .returned v ∧ Q_i1_4 Z b tc kc cc0 cc1 cc2 cc3 Y1 h0 n0 v U'.heap L ∧ FrameEnd U o U' L ({ frames := 5, cells := 2, slots := 12, locals := 74 } : Room).cells ({ frames := 5, cells := 2, slots := 12, locals := 74 } : Room).slots) := by
  refine MetFree.of_bodySF (plainFor_of_name pn_java_lang_String) hisR ?_
  intro p e s m args below meth c s₁ Bd hml0 hP hK
  obtain ⟨rfl, hZ, hh⟩ := hP
  have hx := Bd.exec
  have hby := Bd.bytes
  have hlk : meth.locks = false := BodyLoose.notSynchronized Bd
  have hml : c.maxLocals = 2 := hml0
  have hown : s.vm.findClass "java/lang/String" = some m.cls := findClass_of_methodNamed Bd.named
  have hnm := (name_of_methodNamed Bd.named Bd.method).1
  have X0 : Stand p l e ({ frames := 5, cells := 2, slots := 12, locals := 74 } : Room) s m #[(.ref b), (.ref tc)] below meth c s₁ [] 0 0 := Stand.of_body Bd
  have e0 : s₁.heap = h0 := by rw [← hh, Bd.state]; rfl
  have N0 := Fr.nil n0
  show Gl p.tables e below (EndN s (Q_i1_4 Z b tc kc cc0 cc1 cc2 cc3 Y1 h0 n0) ({ frames := 5, cells := 2, slots := 12, locals := 74 } : Room).cells ({ frames := 5, cells := 2, slots := 12, locals := 74 } : Room).slots) _
  refine Gl.cast (ef_i1_4 m b tc) ?_
  show Gl p.tables e below _ (s₁.setTop (mkF m 0 #[.val (.ref b), .val (.ref tc)] []))
  refine Gl.st (fun _ kq => XS.aloadN X0.here hx rfl (hb hby d1_0) rfl rfl kq) ?_
  refine Gl.st (fun _ kq => XS.aloadN X0.here hx rfl (hb hby d1_1) rfl rfl kq) ?_
  refine Gl.st (fun _ kq => XS.iconst X0.here hx rfl (hb hby d1_2) kq) ?_
  refine Gl.st (fun _ kq => XS.aloadN X0.here hx rfl (hb hby d1_3) rfl rfl kq) ?_
  show Gl p.tables e below _ (s₁.setTop (mkF m 4 #[.val (.ref b), .val (.ref tc)] [(.ref tc), (.int 0), (.ref tc), (.ref b)]))
  obtain ⟨c1, a1, q1, S1, M1, H1, G1⟩ := id pf3
  refine Gl.st (fun _ kq => X0.arraylength hx (by rw [e0]; exact a1.1) (State.isArrayOf_alike hZ.alike a1.2.1) (g := (mkF m 4 #[.val (.ref b), .val (.ref tc)] [(.ref tc), (.int 0), (.ref tc), (.ref b)])) rfl rfl (hb hby d1_4) _ kq) ?_
  rw [len_of S1 M1]
  show Gl p.tables e below _ (s₁.setTop (mkF m 5 #[.val (.ref b), .val (.ref tc)] [(.int 4), (.int 0), (.ref tc), (.ref b)]))
  refine Gl.st (fun _ kq => XS.aconstNull X0.here hx rfl (hb hby d1_5) kq) ?_
  show Gl p.tables e below _ (s₁.setTop (mkF m 6 #[.val (.ref b), .val (.ref tc)] [.null, (.int 4), (.int 0), (.ref tc), (.ref b)]))
  obtain ⟨_, _, ⟨T4, L4, k4, n4⟩, -, X4, ⟨Lc4, hQ4, l4, y4, z4⟩, st4⟩ := X0.specialBack hx (y := (⟨"java/lang/String", "<init>", "([CIILjava/lang/Void;)V"⟩ : MethodName)) rfl hown (mvT hZ (tw hw 9 rfl)) (mvT hZ (tw hw 10 rfl)) (mvT hZ (tw hw 12 rfl)) (by decide) (backOf (W := 0) (rm_i4_4 l Z a0 hw [] (b) (tc) (kc) (cc0) (cc1) (cc2) (cc3) (Y1) h0 n0 Z0 pf0 pf1 pf2 pf3 pf4 gb hcc0 hcc1 hcc2 hcc3 OA OH OL hU O2 P5) hZ (tw hw 12 rfl) (tw hw 4 rfl) (by decide) (by decide)) (g := (mkF m 6 #[.val (.ref b), .val (.ref tc)] [.null, (.int 4), (.int 0), (.ref tc), (.ref b)])) rfl (by rw [hml]; rfl) (Steps.refl _) (a := b) (argsL := [(.ref tc), (.int 0), (.int 4), .null]) (rest := []) (lenOf pd___CIILjava_lang_Void__V rfl) rfl (by show 2 * 0 + _ ≤ _; exact Nat.le_of_eq rfl) (hb hby d1_6) (fun _ _ => ⟨rfl, e0, (by decide : 0 + 2 ≤ _), (by decide : 0 + 12 ≤ _)⟩)
  dsimp only [Pt.U, Pt.locs, Pt.cells, Pt.slots] at X4 l4 y4 z4 st4 hQ4
  subst l4 y4 z4
  obtain ⟨v2, v3, rfl, N4, K4, q4_0, q4_1, q4_2, q4_3⟩ := hQ4
  have M4 := Fr.app N0 N4
  refine Gl.to st4 ?_
  show Gl p.tables e below _ (T4.setTop (mkF m 9 #[.val (.ref b), .val (.ref tc)] []))
  show Gl p.tables e below _ (T4.setTop (mkF m 9 #[.val (.ref b), .val (.ref tc)] []))
  have K5 : Keep h0 T4.heap [b] := ((Keep.refl h0 [b]).trans K4 (allS (Or.inl (List.mem_of_getElem? (i := 0) rfl)) all0))
  exact Gl.ret0 X4 hx Bd.returns (hb hby d1_9) hlk (by decide) (by decide) ⟨v2, v3, rfl, M4, K5, q4_0, q4_1, q4_2, q4_3⟩
theorem ef_law (m : MethodId) (p0 : Int32) (p1 : Int32) (p2 : Int32) (p3 : Int32) (p4 : Int32) : entryFrame m #[(.int p0), (.int p1), (.int p2), (.int p3), (.int p4)] maxLocals = mkF m 0 #[.val (.int p0), .val (.int p1), .val (.int p2), .val (.int p3), .val (.int p4), .unset, .unset, .unset, .unset, .unset, .unset, .unset] [] := by first | (simp [entryFrame, mkF, argsToLocals, Value.category, maxLocals]; done) | rfl
def Q_law (Z : State) (p0 : Int32) (p1 : Int32) (p2 : Int32) (p3 : Int32) (p4 : Int32) (Y1 : Int32) (Y3 : Value) (h0 : Heap) (n0 : Nat) (v : Option Value) (h : Heap) (L : List Loc) : Prop := (v = some (.int 1) ∧ Fr n0 L)
set_option maxRecDepth 65536 in
set_option maxHeartbeats 40000000 in
theorem rm_law (l : Launch) (Z : State) (a0 : Array Value) (hw : ∀ d ∈ tables_1, d.before a0 Z = true) (ws : List Jvm.Cond) (p0 : Int32) (p1 : Int32) (p2 : Int32) (p3 : Int32) (p4 : Int32) (Y1 : Int32) (Y3 : Value) (h0 : Heap) (n0 : Nat) (Z0 : n0 ≤ h0.size) (pf0 : Old Z n0 h0) (OA : Sta Z Z.heap "java/lang/StringUTF16" "$assertionsDisabled" "Z" (.int 1)) (OH : Sta Z Z.heap "java/lang/StringUTF16" "HI_BYTE_SHIFT" "I" (.int 0)) (OL : Sta Z Z.heap "java/lang/StringUTF16" "LO_BYTE_SHIFT" "I" (.int 8)) (O2 : Sta Z Z.heap "java/lang/String" "COMPACT_STRINGS" "Z" (.int Y1)) (P5 : ¬ (Y1 = (0 : Int32))) (O4 : Sta Z Z.heap "jdk/internal/util/Preconditions" "SIOOBE_FORMATTER" "Ljava/util/function/BiFunction;" Y3) (rG3 : Y3.isRef = true) :
    MetFree l x (head1 (Jvm.Cond.code x code maxLocals ret :: ws) room_1) (fun aa U => aa = #[(.int p0), (.int p1), (.int p2), (.int p3), (.int p4)] ∧ Z.Warmed39 U.vm ∧ U.heap = h0 ∧ CHv Z consts_1 U.vm h0) (fun _ _ _ _ _ => True) (fun _ U o U' => ∃ v L, o = .returned v ∧ Q_law Z p0 p1 p2 p3 p4 Y1 Y3 h0 n0 v U'.heap L ∧ CHr Z consts_1 U.vm U.heap U'.vm U'.heap ∧ ReturnedEndW U o U' L room_1.cells room_1.slots) := by
  refine MetFree.of_bodySF (plainFor_of_name pn_com_example_neighbor_keys_neighborkeys_model_CompositeKeepsOrderPinLaw) hisR ?_
  intro p e s m args below meth c s₁ Bd hml0 hP hK
  obtain ⟨rfl, hZ, hh, hH⟩ := hP
  have hx := Bd.exec
  have hby := Bd.bytes
  have hlk : meth.locks = false := BodyLoose.notSynchronized Bd
  have hml : c.maxLocals = 12 := hml0
  have hown : s.vm.findClass "com/example/neighbor_keys/neighborkeys/model/CompositeKeepsOrderPinLaw" = some m.cls := findClass_of_methodNamed Bd.named
  have hnm := (name_of_methodNamed Bd.named Bd.method).1
  have X0 : Stand p l e room_1 (s.setVm s.vm) m #[(.int p0), (.int p1), (.int p2), (.int p3), (.int p4)] below meth c s₁ [] 0 0 := Stand.of_body Bd
  have e0 : s₁.heap = h0 := by rw [← hh, Bd.state]; rfl
  have N0 := Fr.nil n0
  show Gl p.tables e below (EndH s Z consts_1 (Q_law Z p0 p1 p2 p3 p4 Y1 Y3 h0 n0) room_1.cells room_1.slots) _
  refine Gl.cast (ef_law m p0 p1 p2 p3 p4) ?_
  show Gl p.tables e below _ (s₁.setTop (mkF m 0 #[.val (.int p0), .val (.int p1), .val (.int p2), .val (.int p3), .val (.int p4), .unset, .unset, .unset, .unset, .unset, .unset, .unset] []))
  have hS0 : s.Since s.vm s₁.heap.size := (State.WarmedH.refl s).since _
  have C0 : CHr Z consts_1 s.vm h0 s.vm h0 := CHr.refl hH
  refine Gl.st (fun _ kq => XS.iloadN X0.here hx rfl (hb hby at_0) rfl kq) ?_
  show Gl p.tables e below _ (s₁.setTop (mkF m 1 #[.val (.int p0), .val (.int p1), .val (.int p2), .val (.int p3), .val (.int p4), .unset, .unset, .unset, .unset, .unset, .unset, .unset] [(.int p0)]))
  refine Gl.st (fun _ kq => X0.ldcInt hx hown (mvT hZ (tw hw 0 rfl)) (g := (mkF m 1 #[.val (.int p0), .val (.int p1), .val (.int p2), .val (.int p3), .val (.int p4), .unset, .unset, .unset, .unset, .unset, .unset, .unset] [(.int p0)])) rfl (hb hby at_1) _ kq) ?_
  show Gl p.tables e below _ (s₁.setTop (mkF m 3 #[.val (.int p0), .val (.int p1), .val (.int p2), .val (.int p3), .val (.int p4), .unset, .unset, .unset, .unset, .unset, .unset, .unset] [(.int 2147483647), (.int p0)]))
  refine Gl.st (fun _ kq => XS.iand X0.here hx rfl (hb hby at_3) rfl kq) ?_
  refine Gl.st (fun _ kq => XS.iconst X0.here hx rfl (hb hby at_4) kq) ?_
  show Gl p.tables e below _ (s₁.setTop (mkF m 5 #[.val (.int p0), .val (.int p1), .val (.int p2), .val (.int p3), .val (.int p4), .unset, .unset, .unset, .unset, .unset, .unset, .unset] [(.int 5), (.int (p0 &&& (2147483647 : Int32)))]))
  refine Gl.st (fun _ kq => iremM (g := (mkF m 5 #[.val (.int p0), .val (.int p1), .val (.int p2), .val (.int p3), .val (.int p4), .unset, .unset, .unset, .unset, .unset, .unset, .unset] [(.int 5), (.int (p0 &&& (2147483647 : Int32)))])) X0 hx rfl (hb hby at_5) rfl (by decide) kq) ?_
  show Gl p.tables e below _ (s₁.setTop (mkF m 6 #[.val (.int p0), .val (.int p1), .val (.int p2), .val (.int p3), .val (.int p4), .unset, .unset, .unset, .unset, .unset, .unset, .unset] [(.int ((p0 &&& (2147483647 : Int32)) % (5 : Int32)))]))
  refine Gl.st (fun _ kq => XS.istore X0.here hx rfl (hb hby at_6) rfl (l' := #[.val (.int p0), .val (.int p1), .val (.int p2), .val (.int p3), .val (.int p4), .val (.int ((p0 &&& (2147483647 : Int32)) % (5 : Int32))), .unset, .unset, .unset, .unset, .unset, .unset]) rfl kq) ?_
  refine Gl.st (fun _ kq => XS.iloadN X0.here hx rfl (hb hby at_8) rfl kq) ?_
  show Gl p.tables e below _ (s₁.setTop (mkF m 9 #[.val (.int p0), .val (.int p1), .val (.int p2), .val (.int p3), .val (.int p4), .val (.int ((p0 &&& (2147483647 : Int32)) % (5 : Int32))), .unset, .unset, .unset, .unset, .unset, .unset] [(.int p1)]))
  refine Gl.st (fun _ kq => X0.ldcInt hx hown (mvT hZ (tw hw 1 rfl)) (g := (mkF m 9 #[.val (.int p0), .val (.int p1), .val (.int p2), .val (.int p3), .val (.int p4), .val (.int ((p0 &&& (2147483647 : Int32)) % (5 : Int32))), .unset, .unset, .unset, .unset, .unset, .unset] [(.int p1)])) rfl (hb hby at_9) _ kq) ?_
  show Gl p.tables e below _ (s₁.setTop (mkF m 11 #[.val (.int p0), .val (.int p1), .val (.int p2), .val (.int p3), .val (.int p4), .val (.int ((p0 &&& (2147483647 : Int32)) % (5 : Int32))), .unset, .unset, .unset, .unset, .unset, .unset] [(.int 65535), (.int p1)]))
  refine Gl.st (fun _ kq => XS.iand X0.here hx rfl (hb hby at_11) rfl kq) ?_
  refine Gl.st (fun _ kq => XS.i2c X0.here hx rfl (hb hby at_12) rfl kq) ?_
  refine Gl.st (fun _ kq => XS.istore X0.here hx rfl (hb hby at_13) rfl (l' := #[.val (.int p0), .val (.int p1), .val (.int p2), .val (.int p3), .val (.int p4), .val (.int ((p0 &&& (2147483647 : Int32)) % (5 : Int32))), .val (.int ((p1 &&& (65535 : Int32)).toUInt32.toUInt16.toUInt32.toInt32)), .unset, .unset, .unset, .unset, .unset]) rfl kq) ?_
  refine Gl.st (fun _ kq => XS.iloadN X0.here hx rfl (hb hby at_15) rfl kq) ?_
  show Gl p.tables e below _ (s₁.setTop (mkF m 16 #[.val (.int p0), .val (.int p1), .val (.int p2), .val (.int p3), .val (.int p4), .val (.int ((p0 &&& (2147483647 : Int32)) % (5 : Int32))), .val (.int ((p1 &&& (65535 : Int32)).toUInt32.toUInt16.toUInt32.toInt32)), .unset, .unset, .unset, .unset, .unset] [(.int p2)]))
  refine Gl.st (fun _ kq => X0.ldcInt hx hown (mvT hZ (tw hw 1 rfl)) (g := (mkF m 16 #[.val (.int p0), .val (.int p1), .val (.int p2), .val (.int p3), .val (.int p4), .val (.int ((p0 &&& (2147483647 : Int32)) % (5 : Int32))), .val (.int ((p1 &&& (65535 : Int32)).toUInt32.toUInt16.toUInt32.toInt32)), .unset, .unset, .unset, .unset, .unset] [(.int p2)])) rfl (hb hby at_16) _ kq) ?_
  show Gl p.tables e below _ (s₁.setTop (mkF m 18 #[.val (.int p0), .val (.int p1), .val (.int p2), .val (.int p3), .val (.int p4), .val (.int ((p0 &&& (2147483647 : Int32)) % (5 : Int32))), .val (.int ((p1 &&& (65535 : Int32)).toUInt32.toUInt16.toUInt32.toInt32)), .unset, .unset, .unset, .unset, .unset] [(.int 65535), (.int p2)]))
  refine Gl.st (fun _ kq => XS.iand X0.here hx rfl (hb hby at_18) rfl kq) ?_
  refine Gl.st (fun _ kq => XS.i2c X0.here hx rfl (hb hby at_19) rfl kq) ?_
  refine Gl.st (fun _ kq => XS.istore X0.here hx rfl (hb hby at_20) rfl (l' := #[.val (.int p0), .val (.int p1), .val (.int p2), .val (.int p3), .val (.int p4), .val (.int ((p0 &&& (2147483647 : Int32)) % (5 : Int32))), .val (.int ((p1 &&& (65535 : Int32)).toUInt32.toUInt16.toUInt32.toInt32)), .val (.int ((p2 &&& (65535 : Int32)).toUInt32.toUInt16.toUInt32.toInt32)), .unset, .unset, .unset, .unset]) rfl kq) ?_
  refine Gl.st (fun _ kq => XS.iloadN X0.here hx rfl (hb hby at_22) rfl kq) ?_
  show Gl p.tables e below _ (s₁.setTop (mkF m 23 #[.val (.int p0), .val (.int p1), .val (.int p2), .val (.int p3), .val (.int p4), .val (.int ((p0 &&& (2147483647 : Int32)) % (5 : Int32))), .val (.int ((p1 &&& (65535 : Int32)).toUInt32.toUInt16.toUInt32.toInt32)), .val (.int ((p2 &&& (65535 : Int32)).toUInt32.toUInt16.toUInt32.toInt32)), .unset, .unset, .unset, .unset] [(.int p3)]))
  refine Gl.st (fun _ kq => X0.ldcInt hx hown (mvT hZ (tw hw 1 rfl)) (g := (mkF m 23 #[.val (.int p0), .val (.int p1), .val (.int p2), .val (.int p3), .val (.int p4), .val (.int ((p0 &&& (2147483647 : Int32)) % (5 : Int32))), .val (.int ((p1 &&& (65535 : Int32)).toUInt32.toUInt16.toUInt32.toInt32)), .val (.int ((p2 &&& (65535 : Int32)).toUInt32.toUInt16.toUInt32.toInt32)), .unset, .unset, .unset, .unset] [(.int p3)])) rfl (hb hby at_23) _ kq) ?_
  show Gl p.tables e below _ (s₁.setTop (mkF m 25 #[.val (.int p0), .val (.int p1), .val (.int p2), .val (.int p3), .val (.int p4), .val (.int ((p0 &&& (2147483647 : Int32)) % (5 : Int32))), .val (.int ((p1 &&& (65535 : Int32)).toUInt32.toUInt16.toUInt32.toInt32)), .val (.int ((p2 &&& (65535 : Int32)).toUInt32.toUInt16.toUInt32.toInt32)), .unset, .unset, .unset, .unset] [(.int 65535), (.int p3)]))
  refine Gl.st (fun _ kq => XS.iand X0.here hx rfl (hb hby at_25) rfl kq) ?_
  refine Gl.st (fun _ kq => XS.i2c X0.here hx rfl (hb hby at_26) rfl kq) ?_
  refine Gl.st (fun _ kq => XS.istore X0.here hx rfl (hb hby at_27) rfl (l' := #[.val (.int p0), .val (.int p1), .val (.int p2), .val (.int p3), .val (.int p4), .val (.int ((p0 &&& (2147483647 : Int32)) % (5 : Int32))), .val (.int ((p1 &&& (65535 : Int32)).toUInt32.toUInt16.toUInt32.toInt32)), .val (.int ((p2 &&& (65535 : Int32)).toUInt32.toUInt16.toUInt32.toInt32)), .val (.int ((p3 &&& (65535 : Int32)).toUInt32.toUInt16.toUInt32.toInt32)), .unset, .unset, .unset]) rfl kq) ?_
  refine Gl.st (fun _ kq => XS.iload X0.here hx rfl (hb hby at_29) rfl kq) ?_
  show Gl p.tables e below _ (s₁.setTop (mkF m 31 #[.val (.int p0), .val (.int p1), .val (.int p2), .val (.int p3), .val (.int p4), .val (.int ((p0 &&& (2147483647 : Int32)) % (5 : Int32))), .val (.int ((p1 &&& (65535 : Int32)).toUInt32.toUInt16.toUInt32.toInt32)), .val (.int ((p2 &&& (65535 : Int32)).toUInt32.toUInt16.toUInt32.toInt32)), .val (.int ((p3 &&& (65535 : Int32)).toUInt32.toUInt16.toUInt32.toInt32)), .unset, .unset, .unset] [(.int p4)]))
  refine Gl.st (fun _ kq => X0.ldcInt hx hown (mvT hZ (tw hw 1 rfl)) (g := (mkF m 31 #[.val (.int p0), .val (.int p1), .val (.int p2), .val (.int p3), .val (.int p4), .val (.int ((p0 &&& (2147483647 : Int32)) % (5 : Int32))), .val (.int ((p1 &&& (65535 : Int32)).toUInt32.toUInt16.toUInt32.toInt32)), .val (.int ((p2 &&& (65535 : Int32)).toUInt32.toUInt16.toUInt32.toInt32)), .val (.int ((p3 &&& (65535 : Int32)).toUInt32.toUInt16.toUInt32.toInt32)), .unset, .unset, .unset] [(.int p4)])) rfl (hb hby at_31) _ kq) ?_
  show Gl p.tables e below _ (s₁.setTop (mkF m 33 #[.val (.int p0), .val (.int p1), .val (.int p2), .val (.int p3), .val (.int p4), .val (.int ((p0 &&& (2147483647 : Int32)) % (5 : Int32))), .val (.int ((p1 &&& (65535 : Int32)).toUInt32.toUInt16.toUInt32.toInt32)), .val (.int ((p2 &&& (65535 : Int32)).toUInt32.toUInt16.toUInt32.toInt32)), .val (.int ((p3 &&& (65535 : Int32)).toUInt32.toUInt16.toUInt32.toInt32)), .unset, .unset, .unset] [(.int 65535), (.int p4)]))
  refine Gl.st (fun _ kq => XS.iand X0.here hx rfl (hb hby at_33) rfl kq) ?_
  refine Gl.st (fun _ kq => XS.i2c X0.here hx rfl (hb hby at_34) rfl kq) ?_
  refine Gl.st (fun _ kq => XS.istore X0.here hx rfl (hb hby at_35) rfl (l' := #[.val (.int p0), .val (.int p1), .val (.int p2), .val (.int p3), .val (.int p4), .val (.int ((p0 &&& (2147483647 : Int32)) % (5 : Int32))), .val (.int ((p1 &&& (65535 : Int32)).toUInt32.toUInt16.toUInt32.toInt32)), .val (.int ((p2 &&& (65535 : Int32)).toUInt32.toUInt16.toUInt32.toInt32)), .val (.int ((p3 &&& (65535 : Int32)).toUInt32.toUInt16.toUInt32.toInt32)), .val (.int ((p4 &&& (65535 : Int32)).toUInt32.toUInt16.toUInt32.toInt32)), .unset, .unset]) rfl kq) ?_
  show Gl p.tables e below _ (s₁.setTop (mkF m 37 #[.val (.int p0), .val (.int p1), .val (.int p2), .val (.int p3), .val (.int p4), .val (.int ((p0 &&& (2147483647 : Int32)) % (5 : Int32))), .val (.int ((p1 &&& (65535 : Int32)).toUInt32.toUInt16.toUInt32.toInt32)), .val (.int ((p2 &&& (65535 : Int32)).toUInt32.toUInt16.toUInt32.toInt32)), .val (.int ((p3 &&& (65535 : Int32)).toUInt32.toUInt16.toUInt32.toInt32)), .val (.int ((p4 &&& (65535 : Int32)).toUInt32.toUInt16.toUInt32.toInt32)), .unset, .unset] []))
  have Jc : ∀ (Tc : State) (Lc : List Loc) (vmc : Vm) (kc : Nat) (hSc : s.Since vmc kc) (hZc : Z.Warmed39 vmc) (hoc : vmc.findClass "com/example/neighbor_keys/neighborkeys/model/CompositeKeepsOrderPinLaw" = some m.cls) (hkc : kc ≤ h0.size) (Cc : CHr Z consts_1 s.vm h0 vmc h0) (Xc : Stand p l e room_1 (s.setVm vmc) m #[(.int p0), (.int p1), (.int p2), (.int p3), (.int p4)] below meth c Tc Lc 0 0) (ec : Tc.heap = h0) (Nc : Fr n0 Lc) (nn : Int32) (cc0 : Int32) (cc1 : Int32) (cc2 : Int32) (cc3 : Int32) (yc_0 : own_h cc0) (yc_1 : own_h cc1) (yc_2 : own_h cc2) (yc_3 : own_h cc3), Gl p.tables e below (EndH s Z consts_1 (Q_law Z p0 p1 p2 p3 p4 Y1 Y3 h0 n0) room_1.cells room_1.slots) (Tc.setTop (mkF m 37 #[.val (.int p0), .val (.int p1), .val (.int p2), .val (.int p3), .val (.int p4), .val (.int nn), .val (.int cc0), .val (.int cc1), .val (.int cc2), .val (.int cc3), .unset, .unset] [])) := by
    intro Tc Lc vmc kc hSc hZc hoc hkc Cc Xc ec Nc nn cc0 cc1 cc2 cc3 yc_0 yc_1 yc_2 yc_3
    show Gl p.tables e below _ (Tc.setTop (mkF m 37 #[.val (.int p0), .val (.int p1), .val (.int p2), .val (.int p3), .val (.int p4), .val (.int nn), .val (.int cc0), .val (.int cc1), .val (.int cc2), .val (.int cc3), .unset, .unset] []))
    refine Gl.st (fun _ kq => XS.iload Xc.here hx rfl (hb hby at_37) rfl kq) ?_
    show Gl p.tables e below _ (Tc.setTop (mkF m 39 #[.val (.int p0), .val (.int p1), .val (.int p2), .val (.int p3), .val (.int p4), .val (.int nn), .val (.int cc0), .val (.int cc1), .val (.int cc2), .val (.int cc3), .unset, .unset] [(.int nn)]))
    by_cases hc1 : nn = (0 : Int32)
    · refine Gl.st (fun _ kq => XS.ifNo Xc.here hx rfl (hb hby at_39) rfl ((if0 _ _).trans (teq (hc1 : nn = (0 : Int32))).2) kq) ?_
      show Gl p.tables e below _ (Tc.setTop (mkF m 42 #[.val (.int p0), .val (.int p1), .val (.int p2), .val (.int p3), .val (.int p4), .val (.int nn), .val (.int cc0), .val (.int cc1), .val (.int cc2), .val (.int cc3), .unset, .unset] []))
      obtain ⟨T2, h2, X2, e2, E2, A2, D2, U2, st2⟩ := newO Xc hx hZc hoc (tw hw 2 rfl) (tw hw 3 rfl) (tw hw 4 rfl) ec (g := (mkF m 42 #[.val (.int p0), .val (.int p1), .val (.int p2), .val (.int p3), .val (.int p4), .val (.int nn), .val (.int cc0), .val (.int cc1), .val (.int cc2), .val (.int cc3), .unset, .unset] [])) rfl (hb hby at_42) (by decide) (by decide)
      obtain ⟨b2, g2⟩ : ∃ z, z = h0.size := ⟨_, rfl⟩
      rw [← g2] at A2 D2 U2 st2
      refine Gl.st st2 ?_
      have g3 : n0 ≤ b2 := Nat.le_trans Z0 (Nat.le_of_eq g2.symm)
      have s4 : h0.size ≤ b2 := Nat.le_trans (Nat.le_refl _) (Nat.le_of_eq g2.symm)
      have C5 : CHr Z consts_1 s.vm h0 vmc h2 := Cc.trans (CHr.ext E2 Cc.1)
      have F2_18 : Fld Z h2 b2 "java/lang/String" "value" "[B" .null := D2 (Or.inr (tw hw 18 rfl)) (ty := (.array .byte)) (by decide)
      have F2_19 : Fld Z h2 b2 "java/lang/String" "coder" "B" (.int 0) := D2 (Or.inr (tw hw 19 rfl)) (ty := .byte) (by decide)
      show Gl p.tables e below _ (T2.setTop (mkF m 45 #[.val (.int p0), .val (.int p1), .val (.int p2), .val (.int p3), .val (.int p4), .val (.int nn), .val (.int cc0), .val (.int cc1), .val (.int cc2), .val (.int cc3), .unset, .unset] [(.ref b2)]))
      refine Gl.st (fun _ kq => XS.dup X2.here hx rfl (hb hby at_45) rfl rfl kq) ?_
      refine Gl.st (fun _ kq => XS.iconst X2.here hx rfl (hb hby at_46) kq) ?_
      show Gl p.tables e below _ (T2.setTop (mkF m 47 #[.val (.int p0), .val (.int p1), .val (.int p2), .val (.int p3), .val (.int p4), .val (.int nn), .val (.int cc0), .val (.int cc1), .val (.int cc2), .val (.int cc3), .unset, .unset] [(.int 0), (.ref b2), (.ref b2)]))
      obtain ⟨T6, h6, k6, X6, e6, E6, A6, st6⟩ := newP X2 hx hZc (tw hw 5 rfl) e2 (g := (mkF m 47 #[.val (.int p0), .val (.int p1), .val (.int p2), .val (.int p3), .val (.int p4), .val (.int nn), .val (.int cc0), .val (.int cc1), .val (.int cc2), .val (.int cc3), .unset, .unset] [(.int 0), (.ref b2), (.ref b2)])) rfl (hb hby at_47) rfl (by decide) (cap := 0) (by decide) (by decide) (by decide) (by decide)
      obtain ⟨b6, g6⟩ : ∃ z, z = h2.size := ⟨_, rfl⟩
      rw [← g6] at A6 st6
      refine Gl.st st6 ?_
      have g7 : n0 ≤ b6 := Nat.le_trans (Nat.le_trans Z0 E2.1) (Nat.le_of_eq g6.symm)
      have s8 : h0.size ≤ b6 := Nat.le_trans (Nat.le_trans (Nat.le_refl _) E2.1) (Nat.le_of_eq g6.symm)
      have C9 : CHr Z consts_1 s.vm h0 vmc h6 := C5.trans (CHr.ext E6 C5.1)
      have V6 : Arv Z h6 b6 k6 .char (0 : Int32) [] (.int 0) := (Arv.new A6 (by decide)).pad (pad_rep [] (.int 0) 0)
      show Gl p.tables e below _ (T6.setTop (mkF m 49 #[.val (.int p0), .val (.int p1), .val (.int p2), .val (.int p3), .val (.int p4), .val (.int nn), .val (.int cc0), .val (.int cc1), .val (.int cc2), .val (.int cc3), .unset, .unset] [(.ref b6), (.ref b2), (.ref b2)]))
      have f10 : Exa Z h6 b2 "java/lang/String" := (A2.ext E6)
      have f11 : Fld Z h6 b2 "java/lang/String" "value" "[B" .null := (F2_18.ext E6)
      have f12 : Fld Z h6 b2 "java/lang/String" "coder" "B" (.int 0) := (F2_19.ext E6)
      obtain ⟨_, _, ⟨T15, L15, k15, n15⟩, -, X15, S15, g15, ⟨Lc15, hQ15, l15, y15, z15, R15⟩, st15⟩ := X6.specialBackS hx (y := (⟨"java/lang/String", "<init>", "([C)V"⟩ : MethodName)) rfl hoc (mvT hZc (tw hw 6 rfl)) (mvT hZc (tw hw 7 rfl)) (mvT hZc (tw hw 8 rfl)) (by decide) (backOfSH (W := 1) (rm_se1 l Z a0 hw [] (b2) (b6) ((0 : Int32)) (k6) h6 n0 (Nat.le_trans (Nat.le_trans Z0 E2.1) E6.1) f10 f11 f12 V6 g3) hZc (tw hw 8 rfl) (tw hw 4 rfl) (by decide) (by decide) (elW hw) C9.1) (g := (mkF m 49 #[.val (.int p0), .val (.int p1), .val (.int p2), .val (.int p3), .val (.int p4), .val (.int nn), .val (.int cc0), .val (.int cc1), .val (.int cc2), .val (.int cc3), .unset, .unset] [(.ref b6), (.ref b2), (.ref b2)])) rfl (by rw [hml]; rfl) (Steps.refl _) (a := b2) (argsL := [(.ref b6)]) (rest := [(.ref b2)]) (lenOf pd___C_V rfl) rfl (by show 2 * 0 + _ ≤ _; exact Nat.le_of_eq rfl) (hb hby at_49) (fun _ _ => ⟨rfl, e6, (by decide : 2 + 4 ≤ _), (by decide : 4 + 8 ≤ _)⟩)
      dsimp only [Pt.U, Pt.locs, Pt.cells, Pt.slots] at X15 l15 y15 z15 st15 hQ15 R15
      subst l15 y15 z15
      obtain ⟨X15, S15, hZ15, ho15⟩ := rebS hSc (Nat.le_trans (Nat.le_trans (Nat.le_trans hkc E2.1) E6.1) (Nat.le_of_eq (congrArg Array.size e6).symm)) X15 S15 g15 hZc hoc
      obtain ⟨v13, v14, rfl, N15, K15, q15_0, q15_1, q15_2, q15_3⟩ := hQ15
      have C16 : CHr Z consts_1 s.vm h0 T15.vm T15.heap := C9.trans R15
      have M15 := Fr.app Nc N15
      refine Gl.to st15 ?_
      show Gl p.tables e below _ (T15.setTop (mkF m 52 #[.val (.int p0), .val (.int p1), .val (.int p2), .val (.int p3), .val (.int p4), .val (.int nn), .val (.int cc0), .val (.int cc1), .val (.int cc2), .val (.int cc3), .unset, .unset] [(.ref b2)]))
      show Gl p.tables e below _ (T15.setTop (mkF m 52 #[.val (.int p0), .val (.int p1), .val (.int p2), .val (.int p3), .val (.int p4), .val (.int nn), .val (.int cc0), .val (.int cc1), .val (.int cc2), .val (.int cc3), .unset, .unset] [(.ref b2)]))
      refine Gl.st (fun _ kq => XS.astore X15.here hx rfl (hb hby at_52) rfl rfl (l' := #[.val (.int p0), .val (.int p1), .val (.int p2), .val (.int p3), .val (.int p4), .val (.int nn), .val (.int cc0), .val (.int cc1), .val (.int cc2), .val (.int cc3), .val (.ref b2), .unset]) rfl kq) ?_
      refine Gl.st (fun _ kq => XS.iconst X15.here hx rfl (hb hby at_54) kq) ?_
      refine Gl.st (fun _ kq => XS.istore X15.here hx rfl (hb hby at_55) rfl (l' := #[.val (.int p0), .val (.int p1), .val (.int p2), .val (.int p3), .val (.int p4), .val (.int nn), .val (.int cc0), .val (.int cc1), .val (.int cc2), .val (.int cc3), .val (.ref b2), .val (.int 1)]) rfl kq) ?_
      refine Gl.st (fun _ kq => XS.goto X15.here hx rfl (pc0 := 57) (pc' := 285) rfl (hb hby at_57) (by decide) (by decide) kq) ?_
      show Gl p.tables e below _ (T15.setTop (mkF m 285 #[.val (.int p0), .val (.int p1), .val (.int p2), .val (.int p3), .val (.int p4), .val (.int nn), .val (.int cc0), .val (.int cc1), .val (.int cc2), .val (.int cc3), .val (.ref b2), .val (.int 1)] []))
      refine Gl.st (fun _ kq => XS.aload X15.here hx rfl (hb hby at_285) rfl rfl kq) ?_
      show Gl p.tables e below _ (T15.setTop (mkF m 287 #[.val (.int p0), .val (.int p1), .val (.int p2), .val (.int p3), .val (.int p4), .val (.int nn), .val (.int cc0), .val (.int cc1), .val (.int cc2), .val (.int cc3), .val (.ref b2), .val (.int 1)] [(.ref b2)]))
      have f17 : Old Z n0 T15.heap := (((pf0.ext E2).ext E6).keep K15 (allS g3 all0))
      obtain ⟨_, _, ⟨T19, L19, k19, n19⟩, -, X19, ⟨Lc19, hQ19, l19, y19, z19⟩, st19⟩ := Jvm.LawKit.callS X15 hx (y := (⟨"com/example/neighbor_keys/neighborkeys/model/Composite", "keepsOrder", "(Ljava/lang/String;)Z"⟩ : MethodName)) ho15 (mvT hZ15 (tw hw 24 rfl)) (mvT hZ15 (tw hw 25 rfl)) (mvT hZ15 (tw hw 26 rfl)) (mvT hZ15 (tw hw 27 rfl)) (by decide) (backOf (W := 0) (rm_kl l Z a0 hw [] (b2) (v13) (v14) (([] : List Int32)) (Y1) (Y3) T15.heap n0 (Nat.le_trans (Nat.le_trans (Nat.le_trans Z0 E2.1) E6.1) K15.1) q15_0 q15_1 q15_2 q15_3 f17 (Nat.le_of_ble_eq_true rfl) alc0 alc0 O2 P5 O4 rG3) hZ15 (tw hw 27 rfl) (tw hw 26 rfl) (by decide) (by decide)) (g := (mkF m 287 #[.val (.int p0), .val (.int p1), .val (.int p2), .val (.int p3), .val (.int p4), .val (.int nn), .val (.int cc0), .val (.int cc1), .val (.int cc2), .val (.int cc3), .val (.ref b2), .val (.int 1)] [(.ref b2)])) rfl (by rw [hml]; rfl) (argsL := [(.ref b2)]) (rest := []) (lenOf pd__Ljava_lang_String__Z rfl) rfl (by show 2 * 0 + _ ≤ _; exact Nat.le_of_eq rfl) (hb hby at_287) (fun _ _ => ⟨rfl, rfl, (by decide : 6 + 0 ≤ _), (by decide : 12 + 0 ≤ _)⟩)
      dsimp only [Pt.U, Pt.locs, Pt.cells, Pt.slots] at X19 l19 y19 z19 st19 hQ19
      subst l19 y19 z19
      obtain ⟨v18, rfl, N19, e19, y19_0⟩ := hQ19
      have M19 := Fr.app M15 N19
      refine Gl.st st19 ?_
      show Gl p.tables e below _ (T19.setTop (mkF m 290 #[.val (.int p0), .val (.int p1), .val (.int p2), .val (.int p3), .val (.int p4), .val (.int nn), .val (.int cc0), .val (.int cc1), .val (.int cc2), .val (.int cc3), .val (.ref b2), .val (.int 1)] [(.int v18)]))
      show Gl p.tables e below _ (T19.setTop (mkF m 290 #[.val (.int p0), .val (.int p1), .val (.int p2), .val (.int p3), .val (.int p4), .val (.int nn), .val (.int cc0), .val (.int cc1), .val (.int cc2), .val (.int cc3), .val (.ref b2), .val (.int 1)] [(.int v18)]))
      refine Gl.st (fun _ kq => XS.iload X19.here hx rfl (hb hby at_290) rfl kq) ?_
      show Gl p.tables e below _ (T19.setTop (mkF m 292 #[.val (.int p0), .val (.int p1), .val (.int p2), .val (.int p3), .val (.int p4), .val (.int nn), .val (.int cc0), .val (.int cc1), .val (.int cc2), .val (.int cc3), .val (.ref b2), .val (.int 1)] [(.int 1), (.int v18)]))
      refine Gl.st (fun _ kq => XS.icmpNo X19.here hx rfl (hb hby at_292) rfl (teq ((y19_0.trans rfl) : v18 = (1 : Int32))).2 kq) ?_
      show Gl p.tables e below _ (T19.setTop (mkF m 295 #[.val (.int p0), .val (.int p1), .val (.int p2), .val (.int p3), .val (.int p4), .val (.int nn), .val (.int cc0), .val (.int cc1), .val (.int cc2), .val (.int cc3), .val (.ref b2), .val (.int 1)] []))
      refine Gl.st (fun _ kq => XS.iconst X19.here hx rfl (hb hby at_295) kq) ?_
      refine Gl.st (fun _ kq => XS.goto X19.here hx rfl (pc0 := 296) (pc' := 300) rfl (hb hby at_296) (by decide) (by decide) kq) ?_
      exact Gl.retNH X19 hx S15 (Nat.le_trans (Nat.le_refl _) (Nat.le_of_eq (congrArg Array.size e19).symm)) (by rw [hh, e19]; exact C16.trans (CHv.at X19 hZ15 (elW hw) C16.1)) (t := .boolean) Bd.returns (by simp) (hb hby at_300) hlk (by decide) (by decide) (by rw [e19]; exact ⟨rfl, M19⟩)
    · refine Gl.st (fun _ kq => XS.ifYes Xc.here hx rfl (pc0 := 39) (pc' := 60) rfl (hb hby at_39) rfl ((if0 _ _).trans (feq (hc1 : ¬ (nn = (0 : Int32)))).2) (by decide) (by decide) kq) ?_
      show Gl p.tables e below _ (Tc.setTop (mkF m 60 #[.val (.int p0), .val (.int p1), .val (.int p2), .val (.int p3), .val (.int p4), .val (.int nn), .val (.int cc0), .val (.int cc1), .val (.int cc2), .val (.int cc3), .unset, .unset] []))
      refine Gl.st (fun _ kq => XS.iload Xc.here hx rfl (hb hby at_60) rfl kq) ?_
      refine Gl.st (fun _ kq => XS.iconst Xc.here hx rfl (hb hby at_62) kq) ?_
      show Gl p.tables e below _ (Tc.setTop (mkF m 63 #[.val (.int p0), .val (.int p1), .val (.int p2), .val (.int p3), .val (.int p4), .val (.int nn), .val (.int cc0), .val (.int cc1), .val (.int cc2), .val (.int cc3), .unset, .unset] [(.int 1), (.int nn)]))
      by_cases hc20 : nn = (1 : Int32)
      · refine Gl.st (fun _ kq => XS.icmpNo Xc.here hx rfl (hb hby at_63) rfl (teq (hc20 : nn = (1 : Int32))).2 kq) ?_
        show Gl p.tables e below _ (Tc.setTop (mkF m 66 #[.val (.int p0), .val (.int p1), .val (.int p2), .val (.int p3), .val (.int p4), .val (.int nn), .val (.int cc0), .val (.int cc1), .val (.int cc2), .val (.int cc3), .unset, .unset] []))
        obtain ⟨T21, h21, X21, e21, E21, A21, D21, U21, st21⟩ := newO Xc hx hZc hoc (tw hw 2 rfl) (tw hw 3 rfl) (tw hw 4 rfl) ec (g := (mkF m 66 #[.val (.int p0), .val (.int p1), .val (.int p2), .val (.int p3), .val (.int p4), .val (.int nn), .val (.int cc0), .val (.int cc1), .val (.int cc2), .val (.int cc3), .unset, .unset] [])) rfl (hb hby at_66) (by decide) (by decide)
        obtain ⟨b21, g21⟩ : ∃ z, z = h0.size := ⟨_, rfl⟩
        rw [← g21] at A21 D21 U21 st21
        refine Gl.st st21 ?_
        have g22 : n0 ≤ b21 := Nat.le_trans Z0 (Nat.le_of_eq g21.symm)
        have s23 : h0.size ≤ b21 := Nat.le_trans (Nat.le_refl _) (Nat.le_of_eq g21.symm)
        have C24 : CHr Z consts_1 s.vm h0 vmc h21 := Cc.trans (CHr.ext E21 Cc.1)
        have F21_18 : Fld Z h21 b21 "java/lang/String" "value" "[B" .null := D21 (Or.inr (tw hw 18 rfl)) (ty := (.array .byte)) (by decide)
        have F21_19 : Fld Z h21 b21 "java/lang/String" "coder" "B" (.int 0) := D21 (Or.inr (tw hw 19 rfl)) (ty := .byte) (by decide)
        show Gl p.tables e below _ (T21.setTop (mkF m 69 #[.val (.int p0), .val (.int p1), .val (.int p2), .val (.int p3), .val (.int p4), .val (.int nn), .val (.int cc0), .val (.int cc1), .val (.int cc2), .val (.int cc3), .unset, .unset] [(.ref b21)]))
        refine Gl.st (fun _ kq => XS.dup X21.here hx rfl (hb hby at_69) rfl rfl kq) ?_
        refine Gl.st (fun _ kq => XS.iconst X21.here hx rfl (hb hby at_70) kq) ?_
        show Gl p.tables e below _ (T21.setTop (mkF m 71 #[.val (.int p0), .val (.int p1), .val (.int p2), .val (.int p3), .val (.int p4), .val (.int nn), .val (.int cc0), .val (.int cc1), .val (.int cc2), .val (.int cc3), .unset, .unset] [(.int 1), (.ref b21), (.ref b21)]))
        obtain ⟨T25, h25, k25, X25, e25, E25, A25, st25⟩ := newP X21 hx hZc (tw hw 5 rfl) e21 (g := (mkF m 71 #[.val (.int p0), .val (.int p1), .val (.int p2), .val (.int p3), .val (.int p4), .val (.int nn), .val (.int cc0), .val (.int cc1), .val (.int cc2), .val (.int cc3), .unset, .unset] [(.int 1), (.ref b21), (.ref b21)])) rfl (hb hby at_71) rfl (by decide) (cap := 1) (by decide) (by decide) (by decide) (by decide)
        obtain ⟨b25, g25⟩ : ∃ z, z = h21.size := ⟨_, rfl⟩
        rw [← g25] at A25 st25
        refine Gl.st st25 ?_
        have g26 : n0 ≤ b25 := Nat.le_trans (Nat.le_trans Z0 E21.1) (Nat.le_of_eq g25.symm)
        have s27 : h0.size ≤ b25 := Nat.le_trans (Nat.le_trans (Nat.le_refl _) E21.1) (Nat.le_of_eq g25.symm)
        have C28 : CHr Z consts_1 s.vm h0 vmc h25 := C24.trans (CHr.ext E25 C24.1)
        have V25 : Arv Z h25 b25 k25 .char (1 : Int32) [(.int 0)] (.int 0) := (Arv.new A25 (by decide)).pad (pad_rep [] (.int 0) 1)
        show Gl p.tables e below _ (T25.setTop (mkF m 73 #[.val (.int p0), .val (.int p1), .val (.int p2), .val (.int p3), .val (.int p4), .val (.int nn), .val (.int cc0), .val (.int cc1), .val (.int cc2), .val (.int cc3), .unset, .unset] [(.ref b25), (.ref b21), (.ref b21)]))
        refine Gl.st (fun _ kq => XS.dup X25.here hx rfl (hb hby at_73) rfl rfl kq) ?_
        refine Gl.st (fun _ kq => XS.iconst X25.here hx rfl (hb hby at_74) kq) ?_
        refine Gl.st (fun _ kq => XS.iload X25.here hx rfl (hb hby at_75) rfl kq) ?_
        show Gl p.tables e below _ (T25.setTop (mkF m 77 #[.val (.int p0), .val (.int p1), .val (.int p2), .val (.int p3), .val (.int p4), .val (.int nn), .val (.int cc0), .val (.int cc1), .val (.int cc2), .val (.int cc3), .unset, .unset] [(.int cc0), (.int 0), (.ref b25), (.ref b25), (.ref b21), (.ref b21)]))
        obtain ⟨c29, a29, q29, S29, M29, H29, G29⟩ := id V25
        obtain ⟨T29, h29, X29, e29, W29, st29⟩ := stC X25 hx hZc e25 a29 (j := (0 : Int32)) (inb_of S29 ⟨by decide, by decide⟩) (g := (mkF m 77 #[.val (.int p0), .val (.int p1), .val (.int p2), .val (.int p3), .val (.int p4), .val (.int nn), .val (.int cc0), .val (.int cc1), .val (.int cc2), .val (.int cc3), .unset, .unset] [(.int cc0), (.int 0), (.ref b25), (.ref b25), (.ref b21), (.ref b21)])) rfl rfl (hb hby at_77)
        refine Gl.st st29 ?_
        have C30 : CHr Z consts_1 s.vm h0 vmc h29 := C28.trans (CHr.wr W29 (Safe.arv hZc.alike V25 (by decide)) C28.1)
        have V29 : Arv Z h29 b25 k25 .char (1 : Int32) [(.int cc0)] (.int 0) := by
          have q := Arv.set a29 q29 S29 M29 H29 G29 (fits_nar_char _) W29 0 rfl (Nat.le_of_ble_eq_true rfl)
          rw [nar16 yc_0] at q
          exact q
        have N29 := Fr.snoc X29 Nc g26
        show Gl p.tables e below _ (T29.setTop (mkF m 78 #[.val (.int p0), .val (.int p1), .val (.int p2), .val (.int p3), .val (.int p4), .val (.int nn), .val (.int cc0), .val (.int cc1), .val (.int cc2), .val (.int cc3), .unset, .unset] [(.ref b25), (.ref b21), (.ref b21)]))
        by_cases hU : (255 : Int32) < cc0
        · have f31 : Exa Z h29 b21 "java/lang/String" := ((A21.ext E25).wr W29)
          have ne32 : b21 ≠ b25 := Nat.ne_of_lt (Nat.lt_of_lt_of_le A21.lt (Nat.le_of_eq g25.symm))
          have f33 : Fld Z h29 b21 "java/lang/String" "value" "[B" .null := ((F21_18.ext E25).other W29 (Or.inl ne32))
          have f34 : Fld Z h29 b21 "java/lang/String" "coder" "B" (.int 0) := ((F21_19.ext E25).other W29 (Or.inl ne32))
          have f35 : Old Z n0 h29 := (((pf0.ext E21).ext E25).wr W29 g26)
          have Sf39 : Safe Z consts_1 vmc h29 b21 := (Safe.wr W29 (Safe.arv hZc.alike V25 (by decide)) C28.1 (Safe.ext E25 C24.1 (Safe.ext E21 Cc.1 (Safe.new (EL := consts_1) (vm := vmc) (Nat.le_of_eq g21.symm)))))
          obtain ⟨_, _, ⟨T38, L38, k38, n38⟩, -, X38, ⟨Lc38, hQ38, l38, y38, z38⟩, st38⟩ := X29.specialBack hx (y := (⟨"java/lang/String", "<init>", "([C)V"⟩ : MethodName)) rfl hoc (mvT hZc (tw hw 6 rfl)) (mvT hZc (tw hw 7 rfl)) (mvT hZc (tw hw 8 rfl)) (by decide) (backOf (W := 1) (rm_i1_1 l Z a0 hw [] (b21) (b25) (k25) (cc0) (Y1) h29 n0 (Nat.le_trans (Nat.le_trans (Nat.le_trans Z0 E21.1) E25.1) (Keep.of_wr W29).1) f31 f33 f34 V29 f35 g22 yc_0 OA OH OL hU O2 P5) hZc (tw hw 8 rfl) (tw hw 4 rfl) (by decide) (by decide)) (g := (mkF m 78 #[.val (.int p0), .val (.int p1), .val (.int p2), .val (.int p3), .val (.int p4), .val (.int nn), .val (.int cc0), .val (.int cc1), .val (.int cc2), .val (.int cc3), .unset, .unset] [(.ref b25), (.ref b21), (.ref b21)])) rfl (by rw [hml]; rfl) (Steps.refl _) (a := b21) (argsL := [(.ref b25)]) (rest := [(.ref b21)]) (lenOf pd___C_V rfl) rfl (by show 2 * 0 + _ ≤ _; exact Nat.le_of_eq rfl) (hb hby at_78) (fun _ _ => ⟨rfl, e29, (by decide : 2 + 2 ≤ _), (by decide : 5 + 3 ≤ _)⟩)
          dsimp only [Pt.U, Pt.locs, Pt.cells, Pt.slots] at X38 l38 y38 z38 st38 hQ38
          subst l38 y38 z38
          obtain ⟨v36, v37, rfl, N38, K38, q38_0, q38_1, q38_2, q38_3⟩ := hQ38
          have C40 : CHr Z consts_1 s.vm h0 vmc T38.heap := C30.trans (CHr.keep K38 (sfS Sf39 sf0) C30.1)
          have M38 := Fr.app N29 N38
          refine Gl.to st38 ?_
          show Gl p.tables e below _ (T38.setTop (mkF m 81 #[.val (.int p0), .val (.int p1), .val (.int p2), .val (.int p3), .val (.int p4), .val (.int nn), .val (.int cc0), .val (.int cc1), .val (.int cc2), .val (.int cc3), .unset, .unset] [(.ref b21)]))
          show Gl p.tables e below _ (T38.setTop (mkF m 81 #[.val (.int p0), .val (.int p1), .val (.int p2), .val (.int p3), .val (.int p4), .val (.int nn), .val (.int cc0), .val (.int cc1), .val (.int cc2), .val (.int cc3), .unset, .unset] [(.ref b21)]))
          refine Gl.st (fun _ kq => XS.astore X38.here hx rfl (hb hby at_81) rfl rfl (l' := #[.val (.int p0), .val (.int p1), .val (.int p2), .val (.int p3), .val (.int p4), .val (.int nn), .val (.int cc0), .val (.int cc1), .val (.int cc2), .val (.int cc3), .val (.ref b21), .unset]) rfl kq) ?_
          show Gl p.tables e below _ (T38.setTop (mkF m 83 #[.val (.int p0), .val (.int p1), .val (.int p2), .val (.int p3), .val (.int p4), .val (.int nn), .val (.int cc0), .val (.int cc1), .val (.int cc2), .val (.int cc3), .val (.ref b21), .unset] []))
          have Jk1u : ∀ (Tk1u : State) (Lk1u : List Loc) (vmk1u : Vm) (kk1u : Nat) (hSk1u : s.Since vmk1u kk1u) (hZk1u : Z.Warmed39 vmk1u) (hok1u : vmk1u.findClass "com/example/neighbor_keys/neighborkeys/model/CompositeKeepsOrderPinLaw" = some m.cls) (hkk1u : kk1u ≤ T38.heap.size) (Ck1u : CHr Z consts_1 s.vm h0 vmk1u T38.heap) (Xk1u : Stand p l e room_1 (s.setVm vmk1u) m #[(.int p0), (.int p1), (.int p2), (.int p3), (.int p4)] below meth c Tk1u Lk1u 4 8) (ek1u : Tk1u.heap = T38.heap) (Nk1u : Fr n0 Lk1u) (ex : Int32) (yk1u_0 : ex = own_ko ([cc0] : List Int32)), Gl p.tables e below (EndH s Z consts_1 (Q_law Z p0 p1 p2 p3 p4 Y1 Y3 h0 n0) room_1.cells room_1.slots) (Tk1u.setTop (mkF m 285 #[.val (.int p0), .val (.int p1), .val (.int p2), .val (.int p3), .val (.int p4), .val (.int nn), .val (.int cc0), .val (.int cc1), .val (.int cc2), .val (.int cc3), .val (.ref b21), .val (.int ex)] [])) := by
            intro Tk1u Lk1u vmk1u kk1u hSk1u hZk1u hok1u hkk1u Ck1u Xk1u ek1u Nk1u ex yk1u_0
            show Gl p.tables e below _ (Tk1u.setTop (mkF m 285 #[.val (.int p0), .val (.int p1), .val (.int p2), .val (.int p3), .val (.int p4), .val (.int nn), .val (.int cc0), .val (.int cc1), .val (.int cc2), .val (.int cc3), .val (.ref b21), .val (.int ex)] []))
            refine Gl.st (fun _ kq => XS.aload Xk1u.here hx rfl (hb hby at_285) rfl rfl kq) ?_
            show Gl p.tables e below _ (Tk1u.setTop (mkF m 287 #[.val (.int p0), .val (.int p1), .val (.int p2), .val (.int p3), .val (.int p4), .val (.int nn), .val (.int cc0), .val (.int cc1), .val (.int cc2), .val (.int cc3), .val (.ref b21), .val (.int ex)] [(.ref b21)]))
            have f41 : Old Z n0 T38.heap := (f35.keep K38 (allS g22 all0))
            obtain ⟨_, _, ⟨T43, L43, k43, n43⟩, -, X43, ⟨Lc43, hQ43, l43, y43, z43⟩, st43⟩ := Jvm.LawKit.callS Xk1u hx (y := (⟨"com/example/neighbor_keys/neighborkeys/model/Composite", "keepsOrder", "(Ljava/lang/String;)Z"⟩ : MethodName)) hok1u (mvT hZk1u (tw hw 24 rfl)) (mvT hZk1u (tw hw 25 rfl)) (mvT hZk1u (tw hw 26 rfl)) (mvT hZk1u (tw hw 27 rfl)) (by decide) (backOf (W := 0) (rm_ku l Z a0 hw [] (b21) (v36) (v37) (([cc0] : List Int32)) (Y1) (Y3) T38.heap n0 (Nat.le_trans (Nat.le_trans (Nat.le_trans (Nat.le_trans Z0 E21.1) E25.1) (Keep.of_wr W29).1) K38.1) q38_0 q38_1 q38_2 q38_3 f41 (Nat.le_of_ble_eq_true rfl) (alcS yc_0 alc0) OA OH OL O2 P5 O4 rG3) hZk1u (tw hw 27 rfl) (tw hw 26 rfl) (by decide) (by decide)) (g := (mkF m 287 #[.val (.int p0), .val (.int p1), .val (.int p2), .val (.int p3), .val (.int p4), .val (.int nn), .val (.int cc0), .val (.int cc1), .val (.int cc2), .val (.int cc3), .val (.ref b21), .val (.int ex)] [(.ref b21)])) rfl (by rw [hml]; rfl) (argsL := [(.ref b21)]) (rest := []) (lenOf pd__Ljava_lang_String__Z rfl) rfl (by show 2 * 0 + _ ≤ _; exact Nat.le_of_eq rfl) (hb hby at_287) (fun _ _ => ⟨rfl, ek1u, (by decide : 4 + 0 ≤ _), (by decide : 8 + 0 ≤ _)⟩)
            dsimp only [Pt.U, Pt.locs, Pt.cells, Pt.slots] at X43 l43 y43 z43 st43 hQ43
            subst l43 y43 z43
            obtain ⟨v42, rfl, N43, e43, y43_0⟩ := hQ43
            have M43 := Fr.app Nk1u N43
            refine Gl.st st43 ?_
            show Gl p.tables e below _ (T43.setTop (mkF m 290 #[.val (.int p0), .val (.int p1), .val (.int p2), .val (.int p3), .val (.int p4), .val (.int nn), .val (.int cc0), .val (.int cc1), .val (.int cc2), .val (.int cc3), .val (.ref b21), .val (.int ex)] [(.int v42)]))
            show Gl p.tables e below _ (T43.setTop (mkF m 290 #[.val (.int p0), .val (.int p1), .val (.int p2), .val (.int p3), .val (.int p4), .val (.int nn), .val (.int cc0), .val (.int cc1), .val (.int cc2), .val (.int cc3), .val (.ref b21), .val (.int ex)] [(.int v42)]))
            refine Gl.st (fun _ kq => XS.iload X43.here hx rfl (hb hby at_290) rfl kq) ?_
            show Gl p.tables e below _ (T43.setTop (mkF m 292 #[.val (.int p0), .val (.int p1), .val (.int p2), .val (.int p3), .val (.int p4), .val (.int nn), .val (.int cc0), .val (.int cc1), .val (.int cc2), .val (.int cc3), .val (.ref b21), .val (.int ex)] [(.int ex), (.int v42)]))
            refine Gl.st (fun _ kq => XS.icmpNo X43.here hx rfl (hb hby at_292) rfl (teq ((y43_0.trans yk1u_0.symm) : v42 = ex)).2 kq) ?_
            show Gl p.tables e below _ (T43.setTop (mkF m 295 #[.val (.int p0), .val (.int p1), .val (.int p2), .val (.int p3), .val (.int p4), .val (.int nn), .val (.int cc0), .val (.int cc1), .val (.int cc2), .val (.int cc3), .val (.ref b21), .val (.int ex)] []))
            refine Gl.st (fun _ kq => XS.iconst X43.here hx rfl (hb hby at_295) kq) ?_
            refine Gl.st (fun _ kq => XS.goto X43.here hx rfl (pc0 := 296) (pc' := 300) rfl (hb hby at_296) (by decide) (by decide) kq) ?_
            exact Gl.retNH X43 hx hSk1u (Nat.le_trans hkk1u (Nat.le_of_eq (congrArg Array.size e43).symm)) (by rw [hh, e43]; exact Ck1u.trans (CHv.at X43 hZk1u (elW hw) Ck1u.1)) (t := .boolean) Bd.returns (by simp) (hb hby at_300) hlk (by decide) (by decide) (by rw [e43]; exact ⟨rfl, M43⟩)
          refine Gl.st (fun _ kq => XS.iload X38.here hx rfl (hb hby at_83) rfl kq) ?_
          show Gl p.tables e below _ (T38.setTop (mkF m 85 #[.val (.int p0), .val (.int p1), .val (.int p2), .val (.int p3), .val (.int p4), .val (.int nn), .val (.int cc0), .val (.int cc1), .val (.int cc2), .val (.int cc3), .val (.ref b21), .unset] [(.int cc0)]))
          obtain ⟨_, _, ⟨T44, L44, k44, n44⟩, -, X44, ⟨Lc44, hQ44, l44, y44, z44⟩, st44⟩ := Jvm.LawKit.callS X38 hx (y := (⟨"com/example/neighbor_keys/neighborkeys/model/CompositeKeepsOrderPinLaw", "above", "(C)Z"⟩ : MethodName)) hoc (mvT hZc (tw hw 49 rfl)) (mvT hZc (tw hw 50 rfl)) (mvT hZc (tw hw 51 rfl)) (mvT hZc (tw hw 52 rfl)) (by decide) (backOf (W := 0) (rm_ab l Z a0 hw [] (cc0) T38.heap n0 (Nat.le_trans (Nat.le_trans (Nat.le_trans (Nat.le_trans Z0 E21.1) E25.1) (Keep.of_wr W29).1) K38.1) ) hZc (tw hw 52 rfl) (tw hw 51 rfl) (by decide) (by decide)) (g := (mkF m 85 #[.val (.int p0), .val (.int p1), .val (.int p2), .val (.int p3), .val (.int p4), .val (.int nn), .val (.int cc0), .val (.int cc1), .val (.int cc2), .val (.int cc3), .val (.ref b21), .unset] [(.int cc0)])) rfl (by rw [hml]; rfl) (argsL := [(.int cc0)]) (rest := []) (lenOf pd__C_Z rfl) rfl (by show 2 * 0 + _ ≤ _; exact Nat.le_of_eq rfl) (hb hby at_85) (fun _ _ => ⟨rfl, rfl, (by decide : 4 + 0 ≤ _), (by decide : 8 + 0 ≤ _)⟩)
          dsimp only [Pt.U, Pt.locs, Pt.cells, Pt.slots] at X44 l44 y44 z44 st44 hQ44
          subst l44 y44 z44
          rcases hQ44 with ⟨rfl, N44, e44, y44_0⟩ | ⟨rfl, N44, e44, y44_0⟩
          · have M44 := Fr.app M38 N44
            refine Gl.st st44 ?_
            show Gl p.tables e below _ (T44.setTop (mkF m 88 #[.val (.int p0), .val (.int p1), .val (.int p2), .val (.int p3), .val (.int p4), .val (.int nn), .val (.int cc0), .val (.int cc1), .val (.int cc2), .val (.int cc3), .val (.ref b21), .unset] [(.int 1)]))
            refine Gl.st (fun _ kq => XS.istore X44.here hx rfl (hb hby at_88) rfl (l' := #[.val (.int p0), .val (.int p1), .val (.int p2), .val (.int p3), .val (.int p4), .val (.int nn), .val (.int cc0), .val (.int cc1), .val (.int cc2), .val (.int cc3), .val (.ref b21), .val (.int 1)]) rfl kq) ?_
            refine Gl.st (fun _ kq => XS.goto X44.here hx rfl (pc0 := 90) (pc' := 285) rfl (hb hby at_90) (by decide) (by decide) kq) ?_
            show Gl p.tables e below _ (T44.setTop (mkF m 285 #[.val (.int p0), .val (.int p1), .val (.int p2), .val (.int p3), .val (.int p4), .val (.int nn), .val (.int cc0), .val (.int cc1), .val (.int cc2), .val (.int cc3), .val (.ref b21), .val (.int 1)] []))
            exact Jk1u _ _ _ _ hSc hZc hoc (Nat.le_trans (Nat.le_trans (Nat.le_trans (Nat.le_trans hkc E21.1) E25.1) (Keep.of_wr W29).1) K38.1) C40 (X44.more (by decide) (by decide)) e44 M44  ((1 : Int32)) (Eq.symm ((if_pos (own_37 y44_0)).trans rfl))
          · have M44 := Fr.app M38 N44
            refine Gl.st st44 ?_
            show Gl p.tables e below _ (T44.setTop (mkF m 88 #[.val (.int p0), .val (.int p1), .val (.int p2), .val (.int p3), .val (.int p4), .val (.int nn), .val (.int cc0), .val (.int cc1), .val (.int cc2), .val (.int cc3), .val (.ref b21), .unset] [(.int 0)]))
            refine Gl.st (fun _ kq => XS.istore X44.here hx rfl (hb hby at_88) rfl (l' := #[.val (.int p0), .val (.int p1), .val (.int p2), .val (.int p3), .val (.int p4), .val (.int nn), .val (.int cc0), .val (.int cc1), .val (.int cc2), .val (.int cc3), .val (.ref b21), .val (.int 0)]) rfl kq) ?_
            refine Gl.st (fun _ kq => XS.goto X44.here hx rfl (pc0 := 90) (pc' := 285) rfl (hb hby at_90) (by decide) (by decide) kq) ?_
            show Gl p.tables e below _ (T44.setTop (mkF m 285 #[.val (.int p0), .val (.int p1), .val (.int p2), .val (.int p3), .val (.int p4), .val (.int nn), .val (.int cc0), .val (.int cc1), .val (.int cc2), .val (.int cc3), .val (.ref b21), .val (.int 0)] []))
            exact Jk1u _ _ _ _ hSc hZc hoc (Nat.le_trans (Nat.le_trans (Nat.le_trans (Nat.le_trans hkc E21.1) E25.1) (Keep.of_wr W29).1) K38.1) C40 (X44.more (by decide) (by decide)) e44 M44  ((0 : Int32)) (Eq.symm ((if_neg (own_38 y44_0)).trans rfl))
        · have hs0 : ¬ ((255 : Int32) < cc0) := fun q => hU q
          have f45 : Exa Z h29 b21 "java/lang/String" := ((A21.ext E25).wr W29)
          have ne46 : b21 ≠ b25 := Nat.ne_of_lt (Nat.lt_of_lt_of_le A21.lt (Nat.le_of_eq g25.symm))
          have f47 : Fld Z h29 b21 "java/lang/String" "value" "[B" .null := ((F21_18.ext E25).other W29 (Or.inl ne46))
          have f48 : Fld Z h29 b21 "java/lang/String" "coder" "B" (.int 0) := ((F21_19.ext E25).other W29 (Or.inl ne46))
          have f49 : Old Z n0 h29 := (((pf0.ext E21).ext E25).wr W29 g26)
          have hp50 : ∀ c ∈ ([cc0] : List Int32), ¬ c < 0 ∧ ¬ (255 : Int32) < c := (alcS (own_c8 yc_0 hs0) alc0)
          have Sf52 : Safe Z consts_1 vmc h29 b21 := (Safe.wr W29 (Safe.arv hZc.alike V25 (by decide)) C28.1 (Safe.ext E25 C24.1 (Safe.ext E21 Cc.1 (Safe.new (EL := consts_1) (vm := vmc) (Nat.le_of_eq g21.symm)))))
          obtain ⟨_, _, ⟨T51, L51, k51, n51⟩, -, X51, ⟨Lc51, hQ51, l51, y51, z51⟩, st51⟩ := X29.specialBack hx (y := (⟨"java/lang/String", "<init>", "([C)V"⟩ : MethodName)) rfl hoc (mvT hZc (tw hw 6 rfl)) (mvT hZc (tw hw 7 rfl)) (mvT hZc (tw hw 8 rfl)) (by decide) (StrChars.Road.backV (W := 1) hZc (wdNew hw) (kI := 4) (tw hw 3 rfl) (cs := ([cc0] : List Int32)) (bs := (([cc0] : List Int32).map (fun c => c.toInt8.toInt32))) (n := 1) g22 (Nat.le_trans (Nat.le_trans (Nat.le_trans Z0 E21.1) E25.1) (Keep.of_wr W29).1) f45 f47 f48 V29 (O2.ext f49.2) P5 rfl rfl (by decide) (by decide) hp50 rfl (by decide) (by decide)) (g := (mkF m 78 #[.val (.int p0), .val (.int p1), .val (.int p2), .val (.int p3), .val (.int p4), .val (.int nn), .val (.int cc0), .val (.int cc1), .val (.int cc2), .val (.int cc3), .unset, .unset] [(.ref b25), (.ref b21), (.ref b21)])) rfl (by rw [hml]; rfl) (Steps.refl _) (a := b21) (argsL := [(.ref b25)]) (rest := [(.ref b21)]) (lenOf pd___C_V rfl) rfl (by show 2 * 0 + _ ≤ _; exact Nat.le_of_eq rfl) (hb hby at_78) (fun _ _ => ⟨rfl, e29, (by decide : 2 + 1 ≤ _), (by decide : 5 + 1 ≤ _)⟩)
          dsimp only [Pt.U, Pt.locs, Pt.cells, Pt.slots] at X51 l51 y51 z51 st51 hQ51
          subst l51 y51 z51
          obtain ⟨rfl, N51, K51, q51_0, q51_1, t50, k50, y51_0, y51_1, y51_2, q51_2, q51_3⟩ := hQ51
          have C53 : CHr Z consts_1 s.vm h0 vmc T51.heap := C30.trans (CHr.keep K51 (sfS Sf52 sf0) C30.1)
          have M51 := Fr.app N29 N51
          have g54 : n0 ≤ t50 := Nat.le_trans (Nat.le_trans (Nat.le_trans (Nat.le_trans Z0 E21.1) E25.1) (Keep.of_wr W29).1) y51_1
          have s55 : h0.size ≤ t50 := Nat.le_trans (Nat.le_trans (Nat.le_trans (Nat.le_trans (Nat.le_refl _) E21.1) E25.1) (Keep.of_wr W29).1) y51_1
          refine Gl.to st51 ?_
          show Gl p.tables e below _ (T51.setTop (mkF m 81 #[.val (.int p0), .val (.int p1), .val (.int p2), .val (.int p3), .val (.int p4), .val (.int nn), .val (.int cc0), .val (.int cc1), .val (.int cc2), .val (.int cc3), .unset, .unset] [(.ref b21)]))
          show Gl p.tables e below _ (T51.setTop (mkF m 81 #[.val (.int p0), .val (.int p1), .val (.int p2), .val (.int p3), .val (.int p4), .val (.int nn), .val (.int cc0), .val (.int cc1), .val (.int cc2), .val (.int cc3), .unset, .unset] [(.ref b21)]))
          refine Gl.st (fun _ kq => XS.astore X51.here hx rfl (hb hby at_81) rfl rfl (l' := #[.val (.int p0), .val (.int p1), .val (.int p2), .val (.int p3), .val (.int p4), .val (.int nn), .val (.int cc0), .val (.int cc1), .val (.int cc2), .val (.int cc3), .val (.ref b21), .unset]) rfl kq) ?_
          show Gl p.tables e below _ (T51.setTop (mkF m 83 #[.val (.int p0), .val (.int p1), .val (.int p2), .val (.int p3), .val (.int p4), .val (.int nn), .val (.int cc0), .val (.int cc1), .val (.int cc2), .val (.int cc3), .val (.ref b21), .unset] []))
          have Jk1l : ∀ (Tk1l : State) (Lk1l : List Loc) (vmk1l : Vm) (kk1l : Nat) (hSk1l : s.Since vmk1l kk1l) (hZk1l : Z.Warmed39 vmk1l) (hok1l : vmk1l.findClass "com/example/neighbor_keys/neighborkeys/model/CompositeKeepsOrderPinLaw" = some m.cls) (hkk1l : kk1l ≤ T51.heap.size) (Ck1l : CHr Z consts_1 s.vm h0 vmk1l T51.heap) (Xk1l : Stand p l e room_1 (s.setVm vmk1l) m #[(.int p0), (.int p1), (.int p2), (.int p3), (.int p4)] below meth c Tk1l Lk1l 3 6) (ek1l : Tk1l.heap = T51.heap) (Nk1l : Fr n0 Lk1l) (ex : Int32) (yk1l_0 : ex = own_ko ([cc0] : List Int32)), Gl p.tables e below (EndH s Z consts_1 (Q_law Z p0 p1 p2 p3 p4 Y1 Y3 h0 n0) room_1.cells room_1.slots) (Tk1l.setTop (mkF m 285 #[.val (.int p0), .val (.int p1), .val (.int p2), .val (.int p3), .val (.int p4), .val (.int nn), .val (.int cc0), .val (.int cc1), .val (.int cc2), .val (.int cc3), .val (.ref b21), .val (.int ex)] [])) := by
            intro Tk1l Lk1l vmk1l kk1l hSk1l hZk1l hok1l hkk1l Ck1l Xk1l ek1l Nk1l ex yk1l_0
            show Gl p.tables e below _ (Tk1l.setTop (mkF m 285 #[.val (.int p0), .val (.int p1), .val (.int p2), .val (.int p3), .val (.int p4), .val (.int nn), .val (.int cc0), .val (.int cc1), .val (.int cc2), .val (.int cc3), .val (.ref b21), .val (.int ex)] []))
            refine Gl.st (fun _ kq => XS.aload Xk1l.here hx rfl (hb hby at_285) rfl rfl kq) ?_
            show Gl p.tables e below _ (Tk1l.setTop (mkF m 287 #[.val (.int p0), .val (.int p1), .val (.int p2), .val (.int p3), .val (.int p4), .val (.int nn), .val (.int cc0), .val (.int cc1), .val (.int cc2), .val (.int cc3), .val (.ref b21), .val (.int ex)] [(.ref b21)]))
            have f56 : Old Z n0 T51.heap := (f49.keep K51 (allS g22 all0))
            obtain ⟨_, _, ⟨T58, L58, k58, n58⟩, -, X58, ⟨Lc58, hQ58, l58, y58, z58⟩, st58⟩ := Jvm.LawKit.callS Xk1l hx (y := (⟨"com/example/neighbor_keys/neighborkeys/model/Composite", "keepsOrder", "(Ljava/lang/String;)Z"⟩ : MethodName)) hok1l (mvT hZk1l (tw hw 24 rfl)) (mvT hZk1l (tw hw 25 rfl)) (mvT hZk1l (tw hw 26 rfl)) (mvT hZk1l (tw hw 27 rfl)) (by decide) (backOf (W := 0) (rm_kl l Z a0 hw [] (b21) (t50) (k50) (([cc0] : List Int32)) (Y1) (Y3) T51.heap n0 (Nat.le_trans (Nat.le_trans (Nat.le_trans (Nat.le_trans Z0 E21.1) E25.1) (Keep.of_wr W29).1) K51.1) q51_0 q51_1 q51_2 q51_3 f56 (Nat.le_of_ble_eq_true rfl) (alcS yc_0 alc0) (alcS hs0 alc0) O2 P5 O4 rG3) hZk1l (tw hw 27 rfl) (tw hw 26 rfl) (by decide) (by decide)) (g := (mkF m 287 #[.val (.int p0), .val (.int p1), .val (.int p2), .val (.int p3), .val (.int p4), .val (.int nn), .val (.int cc0), .val (.int cc1), .val (.int cc2), .val (.int cc3), .val (.ref b21), .val (.int ex)] [(.ref b21)])) rfl (by rw [hml]; rfl) (argsL := [(.ref b21)]) (rest := []) (lenOf pd__Ljava_lang_String__Z rfl) rfl (by show 2 * 0 + _ ≤ _; exact Nat.le_of_eq rfl) (hb hby at_287) (fun _ _ => ⟨rfl, ek1l, (by decide : 3 + 0 ≤ _), (by decide : 6 + 0 ≤ _)⟩)
            dsimp only [Pt.U, Pt.locs, Pt.cells, Pt.slots] at X58 l58 y58 z58 st58 hQ58
            subst l58 y58 z58
            obtain ⟨v57, rfl, N58, e58, y58_0⟩ := hQ58
            have M58 := Fr.app Nk1l N58
            refine Gl.st st58 ?_
            show Gl p.tables e below _ (T58.setTop (mkF m 290 #[.val (.int p0), .val (.int p1), .val (.int p2), .val (.int p3), .val (.int p4), .val (.int nn), .val (.int cc0), .val (.int cc1), .val (.int cc2), .val (.int cc3), .val (.ref b21), .val (.int ex)] [(.int v57)]))
            show Gl p.tables e below _ (T58.setTop (mkF m 290 #[.val (.int p0), .val (.int p1), .val (.int p2), .val (.int p3), .val (.int p4), .val (.int nn), .val (.int cc0), .val (.int cc1), .val (.int cc2), .val (.int cc3), .val (.ref b21), .val (.int ex)] [(.int v57)]))
            refine Gl.st (fun _ kq => XS.iload X58.here hx rfl (hb hby at_290) rfl kq) ?_
            show Gl p.tables e below _ (T58.setTop (mkF m 292 #[.val (.int p0), .val (.int p1), .val (.int p2), .val (.int p3), .val (.int p4), .val (.int nn), .val (.int cc0), .val (.int cc1), .val (.int cc2), .val (.int cc3), .val (.ref b21), .val (.int ex)] [(.int ex), (.int v57)]))
            refine Gl.st (fun _ kq => XS.icmpNo X58.here hx rfl (hb hby at_292) rfl (teq ((y58_0.trans yk1l_0.symm) : v57 = ex)).2 kq) ?_
            show Gl p.tables e below _ (T58.setTop (mkF m 295 #[.val (.int p0), .val (.int p1), .val (.int p2), .val (.int p3), .val (.int p4), .val (.int nn), .val (.int cc0), .val (.int cc1), .val (.int cc2), .val (.int cc3), .val (.ref b21), .val (.int ex)] []))
            refine Gl.st (fun _ kq => XS.iconst X58.here hx rfl (hb hby at_295) kq) ?_
            refine Gl.st (fun _ kq => XS.goto X58.here hx rfl (pc0 := 296) (pc' := 300) rfl (hb hby at_296) (by decide) (by decide) kq) ?_
            exact Gl.retNH X58 hx hSk1l (Nat.le_trans hkk1l (Nat.le_of_eq (congrArg Array.size e58).symm)) (by rw [hh, e58]; exact Ck1l.trans (CHv.at X58 hZk1l (elW hw) Ck1l.1)) (t := .boolean) Bd.returns (by simp) (hb hby at_300) hlk (by decide) (by decide) (by rw [e58]; exact ⟨rfl, M58⟩)
          refine Gl.st (fun _ kq => XS.iload X51.here hx rfl (hb hby at_83) rfl kq) ?_
          show Gl p.tables e below _ (T51.setTop (mkF m 85 #[.val (.int p0), .val (.int p1), .val (.int p2), .val (.int p3), .val (.int p4), .val (.int nn), .val (.int cc0), .val (.int cc1), .val (.int cc2), .val (.int cc3), .val (.ref b21), .unset] [(.int cc0)]))
          obtain ⟨_, _, ⟨T59, L59, k59, n59⟩, -, X59, ⟨Lc59, hQ59, l59, y59, z59⟩, st59⟩ := Jvm.LawKit.callS X51 hx (y := (⟨"com/example/neighbor_keys/neighborkeys/model/CompositeKeepsOrderPinLaw", "above", "(C)Z"⟩ : MethodName)) hoc (mvT hZc (tw hw 49 rfl)) (mvT hZc (tw hw 50 rfl)) (mvT hZc (tw hw 51 rfl)) (mvT hZc (tw hw 52 rfl)) (by decide) (backOf (W := 0) (rm_ab l Z a0 hw [] (cc0) T51.heap n0 (Nat.le_trans (Nat.le_trans (Nat.le_trans (Nat.le_trans Z0 E21.1) E25.1) (Keep.of_wr W29).1) K51.1) ) hZc (tw hw 52 rfl) (tw hw 51 rfl) (by decide) (by decide)) (g := (mkF m 85 #[.val (.int p0), .val (.int p1), .val (.int p2), .val (.int p3), .val (.int p4), .val (.int nn), .val (.int cc0), .val (.int cc1), .val (.int cc2), .val (.int cc3), .val (.ref b21), .unset] [(.int cc0)])) rfl (by rw [hml]; rfl) (argsL := [(.int cc0)]) (rest := []) (lenOf pd__C_Z rfl) rfl (by show 2 * 0 + _ ≤ _; exact Nat.le_of_eq rfl) (hb hby at_85) (fun _ _ => ⟨rfl, rfl, (by decide : 3 + 0 ≤ _), (by decide : 6 + 0 ≤ _)⟩)
          dsimp only [Pt.U, Pt.locs, Pt.cells, Pt.slots] at X59 l59 y59 z59 st59 hQ59
          subst l59 y59 z59
          rcases hQ59 with ⟨rfl, N59, e59, y59_0⟩ | ⟨rfl, N59, e59, y59_0⟩
          · have M59 := Fr.app M51 N59
            refine Gl.st st59 ?_
            show Gl p.tables e below _ (T59.setTop (mkF m 88 #[.val (.int p0), .val (.int p1), .val (.int p2), .val (.int p3), .val (.int p4), .val (.int nn), .val (.int cc0), .val (.int cc1), .val (.int cc2), .val (.int cc3), .val (.ref b21), .unset] [(.int 1)]))
            refine Gl.st (fun _ kq => XS.istore X59.here hx rfl (hb hby at_88) rfl (l' := #[.val (.int p0), .val (.int p1), .val (.int p2), .val (.int p3), .val (.int p4), .val (.int nn), .val (.int cc0), .val (.int cc1), .val (.int cc2), .val (.int cc3), .val (.ref b21), .val (.int 1)]) rfl kq) ?_
            refine Gl.st (fun _ kq => XS.goto X59.here hx rfl (pc0 := 90) (pc' := 285) rfl (hb hby at_90) (by decide) (by decide) kq) ?_
            show Gl p.tables e below _ (T59.setTop (mkF m 285 #[.val (.int p0), .val (.int p1), .val (.int p2), .val (.int p3), .val (.int p4), .val (.int nn), .val (.int cc0), .val (.int cc1), .val (.int cc2), .val (.int cc3), .val (.ref b21), .val (.int 1)] []))
            exact Jk1l _ _ _ _ hSc hZc hoc (Nat.le_trans (Nat.le_trans (Nat.le_trans (Nat.le_trans hkc E21.1) E25.1) (Keep.of_wr W29).1) K51.1) C53 (X59.more (by decide) (by decide)) e59 M59  ((1 : Int32)) (Eq.symm ((if_pos (own_37 y59_0)).trans rfl))
          · have M59 := Fr.app M51 N59
            refine Gl.st st59 ?_
            show Gl p.tables e below _ (T59.setTop (mkF m 88 #[.val (.int p0), .val (.int p1), .val (.int p2), .val (.int p3), .val (.int p4), .val (.int nn), .val (.int cc0), .val (.int cc1), .val (.int cc2), .val (.int cc3), .val (.ref b21), .unset] [(.int 0)]))
            refine Gl.st (fun _ kq => XS.istore X59.here hx rfl (hb hby at_88) rfl (l' := #[.val (.int p0), .val (.int p1), .val (.int p2), .val (.int p3), .val (.int p4), .val (.int nn), .val (.int cc0), .val (.int cc1), .val (.int cc2), .val (.int cc3), .val (.ref b21), .val (.int 0)]) rfl kq) ?_
            refine Gl.st (fun _ kq => XS.goto X59.here hx rfl (pc0 := 90) (pc' := 285) rfl (hb hby at_90) (by decide) (by decide) kq) ?_
            show Gl p.tables e below _ (T59.setTop (mkF m 285 #[.val (.int p0), .val (.int p1), .val (.int p2), .val (.int p3), .val (.int p4), .val (.int nn), .val (.int cc0), .val (.int cc1), .val (.int cc2), .val (.int cc3), .val (.ref b21), .val (.int 0)] []))
            exact Jk1l _ _ _ _ hSc hZc hoc (Nat.le_trans (Nat.le_trans (Nat.le_trans (Nat.le_trans hkc E21.1) E25.1) (Keep.of_wr W29).1) K51.1) C53 (X59.more (by decide) (by decide)) e59 M59  ((0 : Int32)) (Eq.symm ((if_neg (own_38 y59_0)).trans rfl))
      · refine Gl.st (fun _ kq => XS.icmpYes Xc.here hx rfl (pc0 := 63) (pc' := 93) rfl (hb hby at_63) rfl (feq (hc20 : ¬ (nn = (1 : Int32)))).2 (by decide) (by decide) kq) ?_
        show Gl p.tables e below _ (Tc.setTop (mkF m 93 #[.val (.int p0), .val (.int p1), .val (.int p2), .val (.int p3), .val (.int p4), .val (.int nn), .val (.int cc0), .val (.int cc1), .val (.int cc2), .val (.int cc3), .unset, .unset] []))
        refine Gl.st (fun _ kq => XS.iload Xc.here hx rfl (hb hby at_93) rfl kq) ?_
        refine Gl.st (fun _ kq => XS.iconst Xc.here hx rfl (hb hby at_95) kq) ?_
        show Gl p.tables e below _ (Tc.setTop (mkF m 96 #[.val (.int p0), .val (.int p1), .val (.int p2), .val (.int p3), .val (.int p4), .val (.int nn), .val (.int cc0), .val (.int cc1), .val (.int cc2), .val (.int cc3), .unset, .unset] [(.int 2), (.int nn)]))
        by_cases hc60 : nn = (2 : Int32)
        · refine Gl.st (fun _ kq => XS.icmpNo Xc.here hx rfl (hb hby at_96) rfl (teq (hc60 : nn = (2 : Int32))).2 kq) ?_
          show Gl p.tables e below _ (Tc.setTop (mkF m 99 #[.val (.int p0), .val (.int p1), .val (.int p2), .val (.int p3), .val (.int p4), .val (.int nn), .val (.int cc0), .val (.int cc1), .val (.int cc2), .val (.int cc3), .unset, .unset] []))
          obtain ⟨T61, h61, X61, e61, E61, A61, D61, U61, st61⟩ := newO Xc hx hZc hoc (tw hw 2 rfl) (tw hw 3 rfl) (tw hw 4 rfl) ec (g := (mkF m 99 #[.val (.int p0), .val (.int p1), .val (.int p2), .val (.int p3), .val (.int p4), .val (.int nn), .val (.int cc0), .val (.int cc1), .val (.int cc2), .val (.int cc3), .unset, .unset] [])) rfl (hb hby at_99) (by decide) (by decide)
          obtain ⟨b61, g61⟩ : ∃ z, z = h0.size := ⟨_, rfl⟩
          rw [← g61] at A61 D61 U61 st61
          refine Gl.st st61 ?_
          have g62 : n0 ≤ b61 := Nat.le_trans Z0 (Nat.le_of_eq g61.symm)
          have s63 : h0.size ≤ b61 := Nat.le_trans (Nat.le_refl _) (Nat.le_of_eq g61.symm)
          have C64 : CHr Z consts_1 s.vm h0 vmc h61 := Cc.trans (CHr.ext E61 Cc.1)
          have F61_18 : Fld Z h61 b61 "java/lang/String" "value" "[B" .null := D61 (Or.inr (tw hw 18 rfl)) (ty := (.array .byte)) (by decide)
          have F61_19 : Fld Z h61 b61 "java/lang/String" "coder" "B" (.int 0) := D61 (Or.inr (tw hw 19 rfl)) (ty := .byte) (by decide)
          show Gl p.tables e below _ (T61.setTop (mkF m 102 #[.val (.int p0), .val (.int p1), .val (.int p2), .val (.int p3), .val (.int p4), .val (.int nn), .val (.int cc0), .val (.int cc1), .val (.int cc2), .val (.int cc3), .unset, .unset] [(.ref b61)]))
          refine Gl.st (fun _ kq => XS.dup X61.here hx rfl (hb hby at_102) rfl rfl kq) ?_
          refine Gl.st (fun _ kq => XS.iconst X61.here hx rfl (hb hby at_103) kq) ?_
          show Gl p.tables e below _ (T61.setTop (mkF m 104 #[.val (.int p0), .val (.int p1), .val (.int p2), .val (.int p3), .val (.int p4), .val (.int nn), .val (.int cc0), .val (.int cc1), .val (.int cc2), .val (.int cc3), .unset, .unset] [(.int 2), (.ref b61), (.ref b61)]))
          obtain ⟨T65, h65, k65, X65, e65, E65, A65, st65⟩ := newP X61 hx hZc (tw hw 5 rfl) e61 (g := (mkF m 104 #[.val (.int p0), .val (.int p1), .val (.int p2), .val (.int p3), .val (.int p4), .val (.int nn), .val (.int cc0), .val (.int cc1), .val (.int cc2), .val (.int cc3), .unset, .unset] [(.int 2), (.ref b61), (.ref b61)])) rfl (hb hby at_104) rfl (by decide) (cap := 2) (by decide) (by decide) (by decide) (by decide)
          obtain ⟨b65, g65⟩ : ∃ z, z = h61.size := ⟨_, rfl⟩
          rw [← g65] at A65 st65
          refine Gl.st st65 ?_
          have g66 : n0 ≤ b65 := Nat.le_trans (Nat.le_trans Z0 E61.1) (Nat.le_of_eq g65.symm)
          have s67 : h0.size ≤ b65 := Nat.le_trans (Nat.le_trans (Nat.le_refl _) E61.1) (Nat.le_of_eq g65.symm)
          have C68 : CHr Z consts_1 s.vm h0 vmc h65 := C64.trans (CHr.ext E65 C64.1)
          have V65 : Arv Z h65 b65 k65 .char (2 : Int32) [(.int 0), (.int 0)] (.int 0) := (Arv.new A65 (by decide)).pad (pad_rep [] (.int 0) 2)
          show Gl p.tables e below _ (T65.setTop (mkF m 106 #[.val (.int p0), .val (.int p1), .val (.int p2), .val (.int p3), .val (.int p4), .val (.int nn), .val (.int cc0), .val (.int cc1), .val (.int cc2), .val (.int cc3), .unset, .unset] [(.ref b65), (.ref b61), (.ref b61)]))
          refine Gl.st (fun _ kq => XS.dup X65.here hx rfl (hb hby at_106) rfl rfl kq) ?_
          refine Gl.st (fun _ kq => XS.iconst X65.here hx rfl (hb hby at_107) kq) ?_
          refine Gl.st (fun _ kq => XS.iload X65.here hx rfl (hb hby at_108) rfl kq) ?_
          show Gl p.tables e below _ (T65.setTop (mkF m 110 #[.val (.int p0), .val (.int p1), .val (.int p2), .val (.int p3), .val (.int p4), .val (.int nn), .val (.int cc0), .val (.int cc1), .val (.int cc2), .val (.int cc3), .unset, .unset] [(.int cc0), (.int 0), (.ref b65), (.ref b65), (.ref b61), (.ref b61)]))
          obtain ⟨c69, a69, q69, S69, M69, H69, G69⟩ := id V65
          obtain ⟨T69, h69, X69, e69, W69, st69⟩ := stC X65 hx hZc e65 a69 (j := (0 : Int32)) (inb_of S69 ⟨by decide, by decide⟩) (g := (mkF m 110 #[.val (.int p0), .val (.int p1), .val (.int p2), .val (.int p3), .val (.int p4), .val (.int nn), .val (.int cc0), .val (.int cc1), .val (.int cc2), .val (.int cc3), .unset, .unset] [(.int cc0), (.int 0), (.ref b65), (.ref b65), (.ref b61), (.ref b61)])) rfl rfl (hb hby at_110)
          refine Gl.st st69 ?_
          have C70 : CHr Z consts_1 s.vm h0 vmc h69 := C68.trans (CHr.wr W69 (Safe.arv hZc.alike V65 (by decide)) C68.1)
          have V69 : Arv Z h69 b65 k65 .char (2 : Int32) [(.int cc0), (.int 0)] (.int 0) := by
            have q := Arv.set a69 q69 S69 M69 H69 G69 (fits_nar_char _) W69 0 rfl (Nat.le_of_ble_eq_true rfl)
            rw [nar16 yc_0] at q
            exact q
          have N69 := Fr.snoc X69 Nc g66
          show Gl p.tables e below _ (T69.setTop (mkF m 111 #[.val (.int p0), .val (.int p1), .val (.int p2), .val (.int p3), .val (.int p4), .val (.int nn), .val (.int cc0), .val (.int cc1), .val (.int cc2), .val (.int cc3), .unset, .unset] [(.ref b65), (.ref b61), (.ref b61)]))
          refine Gl.st (fun _ kq => XS.dup X69.here hx rfl (hb hby at_111) rfl rfl kq) ?_
          refine Gl.st (fun _ kq => XS.iconst X69.here hx rfl (hb hby at_112) kq) ?_
          refine Gl.st (fun _ kq => XS.iload X69.here hx rfl (hb hby at_113) rfl kq) ?_
          show Gl p.tables e below _ (T69.setTop (mkF m 115 #[.val (.int p0), .val (.int p1), .val (.int p2), .val (.int p3), .val (.int p4), .val (.int nn), .val (.int cc0), .val (.int cc1), .val (.int cc2), .val (.int cc3), .unset, .unset] [(.int cc1), (.int 1), (.ref b65), (.ref b65), (.ref b61), (.ref b61)]))
          obtain ⟨c71, a71, q71, S71, M71, H71, G71⟩ := id V69
          obtain ⟨T71, h71, X71, e71, W71, st71⟩ := stC X69 hx hZc e69 a71 (j := (1 : Int32)) (inb_of S71 ⟨by decide, by decide⟩) (g := (mkF m 115 #[.val (.int p0), .val (.int p1), .val (.int p2), .val (.int p3), .val (.int p4), .val (.int nn), .val (.int cc0), .val (.int cc1), .val (.int cc2), .val (.int cc3), .unset, .unset] [(.int cc1), (.int 1), (.ref b65), (.ref b65), (.ref b61), (.ref b61)])) rfl rfl (hb hby at_115)
          refine Gl.st st71 ?_
          have C72 : CHr Z consts_1 s.vm h0 vmc h71 := C70.trans (CHr.wr W71 (Safe.arv hZc.alike V69 (by decide)) C70.1)
          have V71 : Arv Z h71 b65 k65 .char (2 : Int32) [(.int cc0), (.int cc1)] (.int 0) := by
            have q := Arv.set a71 q71 S71 M71 H71 G71 (fits_nar_char _) W71 1 rfl (Nat.le_of_ble_eq_true rfl)
            rw [nar16 yc_1] at q
            exact q
          have N71 := Fr.snoc X71 N69 g66
          show Gl p.tables e below _ (T71.setTop (mkF m 116 #[.val (.int p0), .val (.int p1), .val (.int p2), .val (.int p3), .val (.int p4), .val (.int nn), .val (.int cc0), .val (.int cc1), .val (.int cc2), .val (.int cc3), .unset, .unset] [(.ref b65), (.ref b61), (.ref b61)]))
          by_cases hU : (255 : Int32) < cc0 ∨ (255 : Int32) < cc1
          · have f73 : Exa Z h71 b61 "java/lang/String" := (((A61.ext E65).wr W69).wr W71)
            have ne74 : b61 ≠ b65 := Nat.ne_of_lt (Nat.lt_of_lt_of_le A61.lt (Nat.le_of_eq g65.symm))
            have f75 : Fld Z h71 b61 "java/lang/String" "value" "[B" .null := (((F61_18.ext E65).other W69 (Or.inl ne74)).other W71 (Or.inl ne74))
            have f76 : Fld Z h71 b61 "java/lang/String" "coder" "B" (.int 0) := (((F61_19.ext E65).other W69 (Or.inl ne74)).other W71 (Or.inl ne74))
            have f77 : Old Z n0 h71 := ((((pf0.ext E61).ext E65).wr W69 g66).wr W71 g66)
            have Sf81 : Safe Z consts_1 vmc h71 b61 := (Safe.wr W71 (Safe.arv hZc.alike V69 (by decide)) C70.1 (Safe.wr W69 (Safe.arv hZc.alike V65 (by decide)) C68.1 (Safe.ext E65 C64.1 (Safe.ext E61 Cc.1 (Safe.new (EL := consts_1) (vm := vmc) (Nat.le_of_eq g61.symm))))))
            obtain ⟨_, _, ⟨T80, L80, k80, n80⟩, -, X80, ⟨Lc80, hQ80, l80, y80, z80⟩, st80⟩ := X71.specialBack hx (y := (⟨"java/lang/String", "<init>", "([C)V"⟩ : MethodName)) rfl hoc (mvT hZc (tw hw 6 rfl)) (mvT hZc (tw hw 7 rfl)) (mvT hZc (tw hw 8 rfl)) (by decide) (backOf (W := 1) (rm_i1_2 l Z a0 hw [] (b61) (b65) (k65) (cc0) (cc1) (Y1) h71 n0 (Nat.le_trans (Nat.le_trans (Nat.le_trans (Nat.le_trans Z0 E61.1) E65.1) (Keep.of_wr W69).1) (Keep.of_wr W71).1) f73 f75 f76 V71 f77 g62 yc_0 yc_1 OA OH OL hU O2 P5) hZc (tw hw 8 rfl) (tw hw 4 rfl) (by decide) (by decide)) (g := (mkF m 116 #[.val (.int p0), .val (.int p1), .val (.int p2), .val (.int p3), .val (.int p4), .val (.int nn), .val (.int cc0), .val (.int cc1), .val (.int cc2), .val (.int cc3), .unset, .unset] [(.ref b65), (.ref b61), (.ref b61)])) rfl (by rw [hml]; rfl) (Steps.refl _) (a := b61) (argsL := [(.ref b65)]) (rest := [(.ref b61)]) (lenOf pd___C_V rfl) rfl (by show 2 * 0 + _ ≤ _; exact Nat.le_of_eq rfl) (hb hby at_116) (fun _ _ => ⟨rfl, e71, (by decide : 2 + 2 ≤ _), (by decide : 6 + 6 ≤ _)⟩)
            dsimp only [Pt.U, Pt.locs, Pt.cells, Pt.slots] at X80 l80 y80 z80 st80 hQ80
            subst l80 y80 z80
            obtain ⟨v78, v79, rfl, N80, K80, q80_0, q80_1, q80_2, q80_3⟩ := hQ80
            have C82 : CHr Z consts_1 s.vm h0 vmc T80.heap := C72.trans (CHr.keep K80 (sfS Sf81 sf0) C72.1)
            have M80 := Fr.app N71 N80
            refine Gl.to st80 ?_
            show Gl p.tables e below _ (T80.setTop (mkF m 119 #[.val (.int p0), .val (.int p1), .val (.int p2), .val (.int p3), .val (.int p4), .val (.int nn), .val (.int cc0), .val (.int cc1), .val (.int cc2), .val (.int cc3), .unset, .unset] [(.ref b61)]))
            show Gl p.tables e below _ (T80.setTop (mkF m 119 #[.val (.int p0), .val (.int p1), .val (.int p2), .val (.int p3), .val (.int p4), .val (.int nn), .val (.int cc0), .val (.int cc1), .val (.int cc2), .val (.int cc3), .unset, .unset] [(.ref b61)]))
            refine Gl.st (fun _ kq => XS.astore X80.here hx rfl (hb hby at_119) rfl rfl (l' := #[.val (.int p0), .val (.int p1), .val (.int p2), .val (.int p3), .val (.int p4), .val (.int nn), .val (.int cc0), .val (.int cc1), .val (.int cc2), .val (.int cc3), .val (.ref b61), .unset]) rfl kq) ?_
            show Gl p.tables e below _ (T80.setTop (mkF m 121 #[.val (.int p0), .val (.int p1), .val (.int p2), .val (.int p3), .val (.int p4), .val (.int nn), .val (.int cc0), .val (.int cc1), .val (.int cc2), .val (.int cc3), .val (.ref b61), .unset] []))
            have Jk2u : ∀ (Tk2u : State) (Lk2u : List Loc) (vmk2u : Vm) (kk2u : Nat) (hSk2u : s.Since vmk2u kk2u) (hZk2u : Z.Warmed39 vmk2u) (hok2u : vmk2u.findClass "com/example/neighbor_keys/neighborkeys/model/CompositeKeepsOrderPinLaw" = some m.cls) (hkk2u : kk2u ≤ T80.heap.size) (Ck2u : CHr Z consts_1 s.vm h0 vmk2u T80.heap) (Xk2u : Stand p l e room_1 (s.setVm vmk2u) m #[(.int p0), (.int p1), (.int p2), (.int p3), (.int p4)] below meth c Tk2u Lk2u 4 12) (ek2u : Tk2u.heap = T80.heap) (Nk2u : Fr n0 Lk2u) (ex : Int32) (yk2u_0 : ex = own_ko ([cc0, cc1] : List Int32)), Gl p.tables e below (EndH s Z consts_1 (Q_law Z p0 p1 p2 p3 p4 Y1 Y3 h0 n0) room_1.cells room_1.slots) (Tk2u.setTop (mkF m 285 #[.val (.int p0), .val (.int p1), .val (.int p2), .val (.int p3), .val (.int p4), .val (.int nn), .val (.int cc0), .val (.int cc1), .val (.int cc2), .val (.int cc3), .val (.ref b61), .val (.int ex)] [])) := by
              intro Tk2u Lk2u vmk2u kk2u hSk2u hZk2u hok2u hkk2u Ck2u Xk2u ek2u Nk2u ex yk2u_0
              show Gl p.tables e below _ (Tk2u.setTop (mkF m 285 #[.val (.int p0), .val (.int p1), .val (.int p2), .val (.int p3), .val (.int p4), .val (.int nn), .val (.int cc0), .val (.int cc1), .val (.int cc2), .val (.int cc3), .val (.ref b61), .val (.int ex)] []))
              refine Gl.st (fun _ kq => XS.aload Xk2u.here hx rfl (hb hby at_285) rfl rfl kq) ?_
              show Gl p.tables e below _ (Tk2u.setTop (mkF m 287 #[.val (.int p0), .val (.int p1), .val (.int p2), .val (.int p3), .val (.int p4), .val (.int nn), .val (.int cc0), .val (.int cc1), .val (.int cc2), .val (.int cc3), .val (.ref b61), .val (.int ex)] [(.ref b61)]))
              have f83 : Old Z n0 T80.heap := (f77.keep K80 (allS g62 all0))
              obtain ⟨_, _, ⟨T85, L85, k85, n85⟩, -, X85, ⟨Lc85, hQ85, l85, y85, z85⟩, st85⟩ := Jvm.LawKit.callS Xk2u hx (y := (⟨"com/example/neighbor_keys/neighborkeys/model/Composite", "keepsOrder", "(Ljava/lang/String;)Z"⟩ : MethodName)) hok2u (mvT hZk2u (tw hw 24 rfl)) (mvT hZk2u (tw hw 25 rfl)) (mvT hZk2u (tw hw 26 rfl)) (mvT hZk2u (tw hw 27 rfl)) (by decide) (backOf (W := 0) (rm_ku l Z a0 hw [] (b61) (v78) (v79) (([cc0, cc1] : List Int32)) (Y1) (Y3) T80.heap n0 (Nat.le_trans (Nat.le_trans (Nat.le_trans (Nat.le_trans (Nat.le_trans Z0 E61.1) E65.1) (Keep.of_wr W69).1) (Keep.of_wr W71).1) K80.1) q80_0 q80_1 q80_2 q80_3 f83 (Nat.le_of_ble_eq_true rfl) (alcS yc_0 (alcS yc_1 alc0)) OA OH OL O2 P5 O4 rG3) hZk2u (tw hw 27 rfl) (tw hw 26 rfl) (by decide) (by decide)) (g := (mkF m 287 #[.val (.int p0), .val (.int p1), .val (.int p2), .val (.int p3), .val (.int p4), .val (.int nn), .val (.int cc0), .val (.int cc1), .val (.int cc2), .val (.int cc3), .val (.ref b61), .val (.int ex)] [(.ref b61)])) rfl (by rw [hml]; rfl) (argsL := [(.ref b61)]) (rest := []) (lenOf pd__Ljava_lang_String__Z rfl) rfl (by show 2 * 0 + _ ≤ _; exact Nat.le_of_eq rfl) (hb hby at_287) (fun _ _ => ⟨rfl, ek2u, (by decide : 4 + 0 ≤ _), (by decide : 12 + 0 ≤ _)⟩)
              dsimp only [Pt.U, Pt.locs, Pt.cells, Pt.slots] at X85 l85 y85 z85 st85 hQ85
              subst l85 y85 z85
              obtain ⟨v84, rfl, N85, e85, y85_0⟩ := hQ85
              have M85 := Fr.app Nk2u N85
              refine Gl.st st85 ?_
              show Gl p.tables e below _ (T85.setTop (mkF m 290 #[.val (.int p0), .val (.int p1), .val (.int p2), .val (.int p3), .val (.int p4), .val (.int nn), .val (.int cc0), .val (.int cc1), .val (.int cc2), .val (.int cc3), .val (.ref b61), .val (.int ex)] [(.int v84)]))
              show Gl p.tables e below _ (T85.setTop (mkF m 290 #[.val (.int p0), .val (.int p1), .val (.int p2), .val (.int p3), .val (.int p4), .val (.int nn), .val (.int cc0), .val (.int cc1), .val (.int cc2), .val (.int cc3), .val (.ref b61), .val (.int ex)] [(.int v84)]))
              refine Gl.st (fun _ kq => XS.iload X85.here hx rfl (hb hby at_290) rfl kq) ?_
              show Gl p.tables e below _ (T85.setTop (mkF m 292 #[.val (.int p0), .val (.int p1), .val (.int p2), .val (.int p3), .val (.int p4), .val (.int nn), .val (.int cc0), .val (.int cc1), .val (.int cc2), .val (.int cc3), .val (.ref b61), .val (.int ex)] [(.int ex), (.int v84)]))
              refine Gl.st (fun _ kq => XS.icmpNo X85.here hx rfl (hb hby at_292) rfl (teq ((y85_0.trans yk2u_0.symm) : v84 = ex)).2 kq) ?_
              show Gl p.tables e below _ (T85.setTop (mkF m 295 #[.val (.int p0), .val (.int p1), .val (.int p2), .val (.int p3), .val (.int p4), .val (.int nn), .val (.int cc0), .val (.int cc1), .val (.int cc2), .val (.int cc3), .val (.ref b61), .val (.int ex)] []))
              refine Gl.st (fun _ kq => XS.iconst X85.here hx rfl (hb hby at_295) kq) ?_
              refine Gl.st (fun _ kq => XS.goto X85.here hx rfl (pc0 := 296) (pc' := 300) rfl (hb hby at_296) (by decide) (by decide) kq) ?_
              exact Gl.retNH X85 hx hSk2u (Nat.le_trans hkk2u (Nat.le_of_eq (congrArg Array.size e85).symm)) (by rw [hh, e85]; exact Ck2u.trans (CHv.at X85 hZk2u (elW hw) Ck2u.1)) (t := .boolean) Bd.returns (by simp) (hb hby at_300) hlk (by decide) (by decide) (by rw [e85]; exact ⟨rfl, M85⟩)
            refine Gl.st (fun _ kq => XS.iload X80.here hx rfl (hb hby at_121) rfl kq) ?_
            show Gl p.tables e below _ (T80.setTop (mkF m 123 #[.val (.int p0), .val (.int p1), .val (.int p2), .val (.int p3), .val (.int p4), .val (.int nn), .val (.int cc0), .val (.int cc1), .val (.int cc2), .val (.int cc3), .val (.ref b61), .unset] [(.int cc0)]))
            obtain ⟨_, _, ⟨T86, L86, k86, n86⟩, -, X86, ⟨Lc86, hQ86, l86, y86, z86⟩, st86⟩ := Jvm.LawKit.callS X80 hx (y := (⟨"com/example/neighbor_keys/neighborkeys/model/CompositeKeepsOrderPinLaw", "above", "(C)Z"⟩ : MethodName)) hoc (mvT hZc (tw hw 49 rfl)) (mvT hZc (tw hw 50 rfl)) (mvT hZc (tw hw 51 rfl)) (mvT hZc (tw hw 52 rfl)) (by decide) (backOf (W := 0) (rm_ab l Z a0 hw [] (cc0) T80.heap n0 (Nat.le_trans (Nat.le_trans (Nat.le_trans (Nat.le_trans (Nat.le_trans Z0 E61.1) E65.1) (Keep.of_wr W69).1) (Keep.of_wr W71).1) K80.1) ) hZc (tw hw 52 rfl) (tw hw 51 rfl) (by decide) (by decide)) (g := (mkF m 123 #[.val (.int p0), .val (.int p1), .val (.int p2), .val (.int p3), .val (.int p4), .val (.int nn), .val (.int cc0), .val (.int cc1), .val (.int cc2), .val (.int cc3), .val (.ref b61), .unset] [(.int cc0)])) rfl (by rw [hml]; rfl) (argsL := [(.int cc0)]) (rest := []) (lenOf pd__C_Z rfl) rfl (by show 2 * 0 + _ ≤ _; exact Nat.le_of_eq rfl) (hb hby at_123) (fun _ _ => ⟨rfl, rfl, (by decide : 4 + 0 ≤ _), (by decide : 12 + 0 ≤ _)⟩)
            dsimp only [Pt.U, Pt.locs, Pt.cells, Pt.slots] at X86 l86 y86 z86 st86 hQ86
            subst l86 y86 z86
            rcases hQ86 with ⟨rfl, N86, e86, y86_0⟩ | ⟨rfl, N86, e86, y86_0⟩
            · have M86 := Fr.app M80 N86
              refine Gl.st st86 ?_
              show Gl p.tables e below _ (T86.setTop (mkF m 126 #[.val (.int p0), .val (.int p1), .val (.int p2), .val (.int p3), .val (.int p4), .val (.int nn), .val (.int cc0), .val (.int cc1), .val (.int cc2), .val (.int cc3), .val (.ref b61), .unset] [(.int 1)]))
              refine Gl.st (fun _ kq => XS.ifNo X86.here hx rfl (hb hby at_126) rfl ((if0 _ _).trans (feq ((by decide) : ¬ ((1 : Int32) = (0 : Int32)))).1) kq) ?_
              show Gl p.tables e below _ (T86.setTop (mkF m 129 #[.val (.int p0), .val (.int p1), .val (.int p2), .val (.int p3), .val (.int p4), .val (.int nn), .val (.int cc0), .val (.int cc1), .val (.int cc2), .val (.int cc3), .val (.ref b61), .unset] []))
              refine Gl.st (fun _ kq => XS.iload X86.here hx rfl (hb hby at_129) rfl kq) ?_
              show Gl p.tables e below _ (T86.setTop (mkF m 131 #[.val (.int p0), .val (.int p1), .val (.int p2), .val (.int p3), .val (.int p4), .val (.int nn), .val (.int cc0), .val (.int cc1), .val (.int cc2), .val (.int cc3), .val (.ref b61), .unset] [(.int cc1)]))
              obtain ⟨_, _, ⟨T87, L87, k87, n87⟩, -, X87, ⟨Lc87, hQ87, l87, y87, z87⟩, st87⟩ := Jvm.LawKit.callS X86 hx (y := (⟨"com/example/neighbor_keys/neighborkeys/model/CompositeKeepsOrderPinLaw", "above", "(C)Z"⟩ : MethodName)) hoc (mvT hZc (tw hw 49 rfl)) (mvT hZc (tw hw 50 rfl)) (mvT hZc (tw hw 51 rfl)) (mvT hZc (tw hw 52 rfl)) (by decide) (backOf (W := 0) (rm_ab l Z a0 hw [] (cc1) T80.heap n0 (Nat.le_trans (Nat.le_trans (Nat.le_trans (Nat.le_trans (Nat.le_trans Z0 E61.1) E65.1) (Keep.of_wr W69).1) (Keep.of_wr W71).1) K80.1) ) hZc (tw hw 52 rfl) (tw hw 51 rfl) (by decide) (by decide)) (g := (mkF m 131 #[.val (.int p0), .val (.int p1), .val (.int p2), .val (.int p3), .val (.int p4), .val (.int nn), .val (.int cc0), .val (.int cc1), .val (.int cc2), .val (.int cc3), .val (.ref b61), .unset] [(.int cc1)])) rfl (by rw [hml]; rfl) (argsL := [(.int cc1)]) (rest := []) (lenOf pd__C_Z rfl) rfl (by show 2 * 0 + _ ≤ _; exact Nat.le_of_eq rfl) (hb hby at_131) (fun _ _ => ⟨rfl, e86, (by decide : 4 + 0 ≤ _), (by decide : 12 + 0 ≤ _)⟩)
              dsimp only [Pt.U, Pt.locs, Pt.cells, Pt.slots] at X87 l87 y87 z87 st87 hQ87
              subst l87 y87 z87
              rcases hQ87 with ⟨rfl, N87, e87, y87_0⟩ | ⟨rfl, N87, e87, y87_0⟩
              · have M87 := Fr.app M86 N87
                refine Gl.st st87 ?_
                show Gl p.tables e below _ (T87.setTop (mkF m 134 #[.val (.int p0), .val (.int p1), .val (.int p2), .val (.int p3), .val (.int p4), .val (.int nn), .val (.int cc0), .val (.int cc1), .val (.int cc2), .val (.int cc3), .val (.ref b61), .unset] [(.int 1)]))
                refine Gl.st (fun _ kq => XS.ifNo X87.here hx rfl (hb hby at_134) rfl ((if0 _ _).trans (feq ((by decide) : ¬ ((1 : Int32) = (0 : Int32)))).1) kq) ?_
                show Gl p.tables e below _ (T87.setTop (mkF m 137 #[.val (.int p0), .val (.int p1), .val (.int p2), .val (.int p3), .val (.int p4), .val (.int nn), .val (.int cc0), .val (.int cc1), .val (.int cc2), .val (.int cc3), .val (.ref b61), .unset] []))
                refine Gl.st (fun _ kq => XS.iconst X87.here hx rfl (hb hby at_137) kq) ?_
                refine Gl.st (fun _ kq => XS.goto X87.here hx rfl (pc0 := 138) (pc' := 142) rfl (hb hby at_138) (by decide) (by decide) kq) ?_
                refine Gl.st (fun _ kq => XS.istore X87.here hx rfl (hb hby at_142) rfl (l' := #[.val (.int p0), .val (.int p1), .val (.int p2), .val (.int p3), .val (.int p4), .val (.int nn), .val (.int cc0), .val (.int cc1), .val (.int cc2), .val (.int cc3), .val (.ref b61), .val (.int 1)]) rfl kq) ?_
                refine Gl.st (fun _ kq => XS.goto X87.here hx rfl (pc0 := 144) (pc' := 285) rfl (hb hby at_144) (by decide) (by decide) kq) ?_
                show Gl p.tables e below _ (T87.setTop (mkF m 285 #[.val (.int p0), .val (.int p1), .val (.int p2), .val (.int p3), .val (.int p4), .val (.int nn), .val (.int cc0), .val (.int cc1), .val (.int cc2), .val (.int cc3), .val (.ref b61), .val (.int 1)] []))
                exact Jk2u _ _ _ _ hSc hZc hoc (Nat.le_trans (Nat.le_trans (Nat.le_trans (Nat.le_trans (Nat.le_trans hkc E61.1) E65.1) (Keep.of_wr W69).1) (Keep.of_wr W71).1) K80.1) C82 (X87.more (by decide) (by decide)) e87 M87  ((1 : Int32)) (Eq.symm ((if_pos (own_37 y86_0)).trans ((if_pos (own_37 y87_0)).trans rfl)))
              · have M87 := Fr.app M86 N87
                refine Gl.st st87 ?_
                show Gl p.tables e below _ (T87.setTop (mkF m 134 #[.val (.int p0), .val (.int p1), .val (.int p2), .val (.int p3), .val (.int p4), .val (.int nn), .val (.int cc0), .val (.int cc1), .val (.int cc2), .val (.int cc3), .val (.ref b61), .unset] [(.int 0)]))
                refine Gl.st (fun _ kq => XS.ifYes X87.here hx rfl (pc0 := 134) (pc' := 141) rfl (hb hby at_134) rfl ((if0 _ _).trans (teq ((by decide) : (0 : Int32) = (0 : Int32))).1) (by decide) (by decide) kq) ?_
                show Gl p.tables e below _ (T87.setTop (mkF m 141 #[.val (.int p0), .val (.int p1), .val (.int p2), .val (.int p3), .val (.int p4), .val (.int nn), .val (.int cc0), .val (.int cc1), .val (.int cc2), .val (.int cc3), .val (.ref b61), .unset] []))
                refine Gl.st (fun _ kq => XS.iconst X87.here hx rfl (hb hby at_141) kq) ?_
                refine Gl.st (fun _ kq => XS.istore X87.here hx rfl (hb hby at_142) rfl (l' := #[.val (.int p0), .val (.int p1), .val (.int p2), .val (.int p3), .val (.int p4), .val (.int nn), .val (.int cc0), .val (.int cc1), .val (.int cc2), .val (.int cc3), .val (.ref b61), .val (.int 0)]) rfl kq) ?_
                refine Gl.st (fun _ kq => XS.goto X87.here hx rfl (pc0 := 144) (pc' := 285) rfl (hb hby at_144) (by decide) (by decide) kq) ?_
                show Gl p.tables e below _ (T87.setTop (mkF m 285 #[.val (.int p0), .val (.int p1), .val (.int p2), .val (.int p3), .val (.int p4), .val (.int nn), .val (.int cc0), .val (.int cc1), .val (.int cc2), .val (.int cc3), .val (.ref b61), .val (.int 0)] []))
                exact Jk2u _ _ _ _ hSc hZc hoc (Nat.le_trans (Nat.le_trans (Nat.le_trans (Nat.le_trans (Nat.le_trans hkc E61.1) E65.1) (Keep.of_wr W69).1) (Keep.of_wr W71).1) K80.1) C82 (X87.more (by decide) (by decide)) e87 M87  ((0 : Int32)) (Eq.symm ((if_pos (own_37 y86_0)).trans ((if_neg (own_38 y87_0)).trans rfl)))
            · have M86 := Fr.app M80 N86
              refine Gl.st st86 ?_
              show Gl p.tables e below _ (T86.setTop (mkF m 126 #[.val (.int p0), .val (.int p1), .val (.int p2), .val (.int p3), .val (.int p4), .val (.int nn), .val (.int cc0), .val (.int cc1), .val (.int cc2), .val (.int cc3), .val (.ref b61), .unset] [(.int 0)]))
              refine Gl.st (fun _ kq => XS.ifYes X86.here hx rfl (pc0 := 126) (pc' := 141) rfl (hb hby at_126) rfl ((if0 _ _).trans (teq ((by decide) : (0 : Int32) = (0 : Int32))).1) (by decide) (by decide) kq) ?_
              show Gl p.tables e below _ (T86.setTop (mkF m 141 #[.val (.int p0), .val (.int p1), .val (.int p2), .val (.int p3), .val (.int p4), .val (.int nn), .val (.int cc0), .val (.int cc1), .val (.int cc2), .val (.int cc3), .val (.ref b61), .unset] []))
              refine Gl.st (fun _ kq => XS.iconst X86.here hx rfl (hb hby at_141) kq) ?_
              refine Gl.st (fun _ kq => XS.istore X86.here hx rfl (hb hby at_142) rfl (l' := #[.val (.int p0), .val (.int p1), .val (.int p2), .val (.int p3), .val (.int p4), .val (.int nn), .val (.int cc0), .val (.int cc1), .val (.int cc2), .val (.int cc3), .val (.ref b61), .val (.int 0)]) rfl kq) ?_
              refine Gl.st (fun _ kq => XS.goto X86.here hx rfl (pc0 := 144) (pc' := 285) rfl (hb hby at_144) (by decide) (by decide) kq) ?_
              show Gl p.tables e below _ (T86.setTop (mkF m 285 #[.val (.int p0), .val (.int p1), .val (.int p2), .val (.int p3), .val (.int p4), .val (.int nn), .val (.int cc0), .val (.int cc1), .val (.int cc2), .val (.int cc3), .val (.ref b61), .val (.int 0)] []))
              exact Jk2u _ _ _ _ hSc hZc hoc (Nat.le_trans (Nat.le_trans (Nat.le_trans (Nat.le_trans (Nat.le_trans hkc E61.1) E65.1) (Keep.of_wr W69).1) (Keep.of_wr W71).1) K80.1) C82 (X86.more (by decide) (by decide)) e86 M86  ((0 : Int32)) (Eq.symm ((if_neg (own_38 y86_0)).trans rfl))
          · have hs0 : ¬ ((255 : Int32) < cc0) := fun q => hU (Or.inl q)
            have hs1 : ¬ ((255 : Int32) < cc1) := fun q => hU (Or.inr q)
            have f88 : Exa Z h71 b61 "java/lang/String" := (((A61.ext E65).wr W69).wr W71)
            have ne89 : b61 ≠ b65 := Nat.ne_of_lt (Nat.lt_of_lt_of_le A61.lt (Nat.le_of_eq g65.symm))
            have f90 : Fld Z h71 b61 "java/lang/String" "value" "[B" .null := (((F61_18.ext E65).other W69 (Or.inl ne89)).other W71 (Or.inl ne89))
            have f91 : Fld Z h71 b61 "java/lang/String" "coder" "B" (.int 0) := (((F61_19.ext E65).other W69 (Or.inl ne89)).other W71 (Or.inl ne89))
            have f92 : Old Z n0 h71 := ((((pf0.ext E61).ext E65).wr W69 g66).wr W71 g66)
            have hp93 : ∀ c ∈ ([cc0, cc1] : List Int32), ¬ c < 0 ∧ ¬ (255 : Int32) < c := (alcS (own_c8 yc_0 hs0) (alcS (own_c8 yc_1 hs1) alc0))
            have Sf95 : Safe Z consts_1 vmc h71 b61 := (Safe.wr W71 (Safe.arv hZc.alike V69 (by decide)) C70.1 (Safe.wr W69 (Safe.arv hZc.alike V65 (by decide)) C68.1 (Safe.ext E65 C64.1 (Safe.ext E61 Cc.1 (Safe.new (EL := consts_1) (vm := vmc) (Nat.le_of_eq g61.symm))))))
            obtain ⟨_, _, ⟨T94, L94, k94, n94⟩, -, X94, ⟨Lc94, hQ94, l94, y94, z94⟩, st94⟩ := X71.specialBack hx (y := (⟨"java/lang/String", "<init>", "([C)V"⟩ : MethodName)) rfl hoc (mvT hZc (tw hw 6 rfl)) (mvT hZc (tw hw 7 rfl)) (mvT hZc (tw hw 8 rfl)) (by decide) (StrChars.Road.backV (W := 1) hZc (wdNew hw) (kI := 4) (tw hw 3 rfl) (cs := ([cc0, cc1] : List Int32)) (bs := (([cc0, cc1] : List Int32).map (fun c => c.toInt8.toInt32))) (n := 2) g62 (Nat.le_trans (Nat.le_trans (Nat.le_trans (Nat.le_trans Z0 E61.1) E65.1) (Keep.of_wr W69).1) (Keep.of_wr W71).1) f88 f90 f91 V71 (O2.ext f92.2) P5 rfl rfl (by decide) (by decide) hp93 rfl (by decide) (by decide)) (g := (mkF m 116 #[.val (.int p0), .val (.int p1), .val (.int p2), .val (.int p3), .val (.int p4), .val (.int nn), .val (.int cc0), .val (.int cc1), .val (.int cc2), .val (.int cc3), .unset, .unset] [(.ref b65), (.ref b61), (.ref b61)])) rfl (by rw [hml]; rfl) (Steps.refl _) (a := b61) (argsL := [(.ref b65)]) (rest := [(.ref b61)]) (lenOf pd___C_V rfl) rfl (by show 2 * 0 + _ ≤ _; exact Nat.le_of_eq rfl) (hb hby at_116) (fun _ _ => ⟨rfl, e71, (by decide : 2 + 1 ≤ _), (by decide : 6 + 2 ≤ _)⟩)
            dsimp only [Pt.U, Pt.locs, Pt.cells, Pt.slots] at X94 l94 y94 z94 st94 hQ94
            subst l94 y94 z94
            obtain ⟨rfl, N94, K94, q94_0, q94_1, t93, k93, y94_0, y94_1, y94_2, q94_2, q94_3⟩ := hQ94
            have C96 : CHr Z consts_1 s.vm h0 vmc T94.heap := C72.trans (CHr.keep K94 (sfS Sf95 sf0) C72.1)
            have M94 := Fr.app N71 N94
            have g97 : n0 ≤ t93 := Nat.le_trans (Nat.le_trans (Nat.le_trans (Nat.le_trans (Nat.le_trans Z0 E61.1) E65.1) (Keep.of_wr W69).1) (Keep.of_wr W71).1) y94_1
            have s98 : h0.size ≤ t93 := Nat.le_trans (Nat.le_trans (Nat.le_trans (Nat.le_trans (Nat.le_trans (Nat.le_refl _) E61.1) E65.1) (Keep.of_wr W69).1) (Keep.of_wr W71).1) y94_1
            refine Gl.to st94 ?_
            show Gl p.tables e below _ (T94.setTop (mkF m 119 #[.val (.int p0), .val (.int p1), .val (.int p2), .val (.int p3), .val (.int p4), .val (.int nn), .val (.int cc0), .val (.int cc1), .val (.int cc2), .val (.int cc3), .unset, .unset] [(.ref b61)]))
            show Gl p.tables e below _ (T94.setTop (mkF m 119 #[.val (.int p0), .val (.int p1), .val (.int p2), .val (.int p3), .val (.int p4), .val (.int nn), .val (.int cc0), .val (.int cc1), .val (.int cc2), .val (.int cc3), .unset, .unset] [(.ref b61)]))
            refine Gl.st (fun _ kq => XS.astore X94.here hx rfl (hb hby at_119) rfl rfl (l' := #[.val (.int p0), .val (.int p1), .val (.int p2), .val (.int p3), .val (.int p4), .val (.int nn), .val (.int cc0), .val (.int cc1), .val (.int cc2), .val (.int cc3), .val (.ref b61), .unset]) rfl kq) ?_
            show Gl p.tables e below _ (T94.setTop (mkF m 121 #[.val (.int p0), .val (.int p1), .val (.int p2), .val (.int p3), .val (.int p4), .val (.int nn), .val (.int cc0), .val (.int cc1), .val (.int cc2), .val (.int cc3), .val (.ref b61), .unset] []))
            have Jk2l : ∀ (Tk2l : State) (Lk2l : List Loc) (vmk2l : Vm) (kk2l : Nat) (hSk2l : s.Since vmk2l kk2l) (hZk2l : Z.Warmed39 vmk2l) (hok2l : vmk2l.findClass "com/example/neighbor_keys/neighborkeys/model/CompositeKeepsOrderPinLaw" = some m.cls) (hkk2l : kk2l ≤ T94.heap.size) (Ck2l : CHr Z consts_1 s.vm h0 vmk2l T94.heap) (Xk2l : Stand p l e room_1 (s.setVm vmk2l) m #[(.int p0), (.int p1), (.int p2), (.int p3), (.int p4)] below meth c Tk2l Lk2l 3 8) (ek2l : Tk2l.heap = T94.heap) (Nk2l : Fr n0 Lk2l) (ex : Int32) (yk2l_0 : ex = own_ko ([cc0, cc1] : List Int32)), Gl p.tables e below (EndH s Z consts_1 (Q_law Z p0 p1 p2 p3 p4 Y1 Y3 h0 n0) room_1.cells room_1.slots) (Tk2l.setTop (mkF m 285 #[.val (.int p0), .val (.int p1), .val (.int p2), .val (.int p3), .val (.int p4), .val (.int nn), .val (.int cc0), .val (.int cc1), .val (.int cc2), .val (.int cc3), .val (.ref b61), .val (.int ex)] [])) := by
              intro Tk2l Lk2l vmk2l kk2l hSk2l hZk2l hok2l hkk2l Ck2l Xk2l ek2l Nk2l ex yk2l_0
              show Gl p.tables e below _ (Tk2l.setTop (mkF m 285 #[.val (.int p0), .val (.int p1), .val (.int p2), .val (.int p3), .val (.int p4), .val (.int nn), .val (.int cc0), .val (.int cc1), .val (.int cc2), .val (.int cc3), .val (.ref b61), .val (.int ex)] []))
              refine Gl.st (fun _ kq => XS.aload Xk2l.here hx rfl (hb hby at_285) rfl rfl kq) ?_
              show Gl p.tables e below _ (Tk2l.setTop (mkF m 287 #[.val (.int p0), .val (.int p1), .val (.int p2), .val (.int p3), .val (.int p4), .val (.int nn), .val (.int cc0), .val (.int cc1), .val (.int cc2), .val (.int cc3), .val (.ref b61), .val (.int ex)] [(.ref b61)]))
              have f99 : Old Z n0 T94.heap := (f92.keep K94 (allS g62 all0))
              obtain ⟨_, _, ⟨T101, L101, k101, n101⟩, -, X101, ⟨Lc101, hQ101, l101, y101, z101⟩, st101⟩ := Jvm.LawKit.callS Xk2l hx (y := (⟨"com/example/neighbor_keys/neighborkeys/model/Composite", "keepsOrder", "(Ljava/lang/String;)Z"⟩ : MethodName)) hok2l (mvT hZk2l (tw hw 24 rfl)) (mvT hZk2l (tw hw 25 rfl)) (mvT hZk2l (tw hw 26 rfl)) (mvT hZk2l (tw hw 27 rfl)) (by decide) (backOf (W := 0) (rm_kl l Z a0 hw [] (b61) (t93) (k93) (([cc0, cc1] : List Int32)) (Y1) (Y3) T94.heap n0 (Nat.le_trans (Nat.le_trans (Nat.le_trans (Nat.le_trans (Nat.le_trans Z0 E61.1) E65.1) (Keep.of_wr W69).1) (Keep.of_wr W71).1) K94.1) q94_0 q94_1 q94_2 q94_3 f99 (Nat.le_of_ble_eq_true rfl) (alcS yc_0 (alcS yc_1 alc0)) (alcS hs0 (alcS hs1 alc0)) O2 P5 O4 rG3) hZk2l (tw hw 27 rfl) (tw hw 26 rfl) (by decide) (by decide)) (g := (mkF m 287 #[.val (.int p0), .val (.int p1), .val (.int p2), .val (.int p3), .val (.int p4), .val (.int nn), .val (.int cc0), .val (.int cc1), .val (.int cc2), .val (.int cc3), .val (.ref b61), .val (.int ex)] [(.ref b61)])) rfl (by rw [hml]; rfl) (argsL := [(.ref b61)]) (rest := []) (lenOf pd__Ljava_lang_String__Z rfl) rfl (by show 2 * 0 + _ ≤ _; exact Nat.le_of_eq rfl) (hb hby at_287) (fun _ _ => ⟨rfl, ek2l, (by decide : 3 + 0 ≤ _), (by decide : 8 + 0 ≤ _)⟩)
              dsimp only [Pt.U, Pt.locs, Pt.cells, Pt.slots] at X101 l101 y101 z101 st101 hQ101
              subst l101 y101 z101
              obtain ⟨v100, rfl, N101, e101, y101_0⟩ := hQ101
              have M101 := Fr.app Nk2l N101
              refine Gl.st st101 ?_
              show Gl p.tables e below _ (T101.setTop (mkF m 290 #[.val (.int p0), .val (.int p1), .val (.int p2), .val (.int p3), .val (.int p4), .val (.int nn), .val (.int cc0), .val (.int cc1), .val (.int cc2), .val (.int cc3), .val (.ref b61), .val (.int ex)] [(.int v100)]))
              show Gl p.tables e below _ (T101.setTop (mkF m 290 #[.val (.int p0), .val (.int p1), .val (.int p2), .val (.int p3), .val (.int p4), .val (.int nn), .val (.int cc0), .val (.int cc1), .val (.int cc2), .val (.int cc3), .val (.ref b61), .val (.int ex)] [(.int v100)]))
              refine Gl.st (fun _ kq => XS.iload X101.here hx rfl (hb hby at_290) rfl kq) ?_
              show Gl p.tables e below _ (T101.setTop (mkF m 292 #[.val (.int p0), .val (.int p1), .val (.int p2), .val (.int p3), .val (.int p4), .val (.int nn), .val (.int cc0), .val (.int cc1), .val (.int cc2), .val (.int cc3), .val (.ref b61), .val (.int ex)] [(.int ex), (.int v100)]))
              refine Gl.st (fun _ kq => XS.icmpNo X101.here hx rfl (hb hby at_292) rfl (teq ((y101_0.trans yk2l_0.symm) : v100 = ex)).2 kq) ?_
              show Gl p.tables e below _ (T101.setTop (mkF m 295 #[.val (.int p0), .val (.int p1), .val (.int p2), .val (.int p3), .val (.int p4), .val (.int nn), .val (.int cc0), .val (.int cc1), .val (.int cc2), .val (.int cc3), .val (.ref b61), .val (.int ex)] []))
              refine Gl.st (fun _ kq => XS.iconst X101.here hx rfl (hb hby at_295) kq) ?_
              refine Gl.st (fun _ kq => XS.goto X101.here hx rfl (pc0 := 296) (pc' := 300) rfl (hb hby at_296) (by decide) (by decide) kq) ?_
              exact Gl.retNH X101 hx hSk2l (Nat.le_trans hkk2l (Nat.le_of_eq (congrArg Array.size e101).symm)) (by rw [hh, e101]; exact Ck2l.trans (CHv.at X101 hZk2l (elW hw) Ck2l.1)) (t := .boolean) Bd.returns (by simp) (hb hby at_300) hlk (by decide) (by decide) (by rw [e101]; exact ⟨rfl, M101⟩)
            refine Gl.st (fun _ kq => XS.iload X94.here hx rfl (hb hby at_121) rfl kq) ?_
            show Gl p.tables e below _ (T94.setTop (mkF m 123 #[.val (.int p0), .val (.int p1), .val (.int p2), .val (.int p3), .val (.int p4), .val (.int nn), .val (.int cc0), .val (.int cc1), .val (.int cc2), .val (.int cc3), .val (.ref b61), .unset] [(.int cc0)]))
            obtain ⟨_, _, ⟨T102, L102, k102, n102⟩, -, X102, ⟨Lc102, hQ102, l102, y102, z102⟩, st102⟩ := Jvm.LawKit.callS X94 hx (y := (⟨"com/example/neighbor_keys/neighborkeys/model/CompositeKeepsOrderPinLaw", "above", "(C)Z"⟩ : MethodName)) hoc (mvT hZc (tw hw 49 rfl)) (mvT hZc (tw hw 50 rfl)) (mvT hZc (tw hw 51 rfl)) (mvT hZc (tw hw 52 rfl)) (by decide) (backOf (W := 0) (rm_ab l Z a0 hw [] (cc0) T94.heap n0 (Nat.le_trans (Nat.le_trans (Nat.le_trans (Nat.le_trans (Nat.le_trans Z0 E61.1) E65.1) (Keep.of_wr W69).1) (Keep.of_wr W71).1) K94.1) ) hZc (tw hw 52 rfl) (tw hw 51 rfl) (by decide) (by decide)) (g := (mkF m 123 #[.val (.int p0), .val (.int p1), .val (.int p2), .val (.int p3), .val (.int p4), .val (.int nn), .val (.int cc0), .val (.int cc1), .val (.int cc2), .val (.int cc3), .val (.ref b61), .unset] [(.int cc0)])) rfl (by rw [hml]; rfl) (argsL := [(.int cc0)]) (rest := []) (lenOf pd__C_Z rfl) rfl (by show 2 * 0 + _ ≤ _; exact Nat.le_of_eq rfl) (hb hby at_123) (fun _ _ => ⟨rfl, rfl, (by decide : 3 + 0 ≤ _), (by decide : 8 + 0 ≤ _)⟩)
            dsimp only [Pt.U, Pt.locs, Pt.cells, Pt.slots] at X102 l102 y102 z102 st102 hQ102
            subst l102 y102 z102
            rcases hQ102 with ⟨rfl, N102, e102, y102_0⟩ | ⟨rfl, N102, e102, y102_0⟩
            · have M102 := Fr.app M94 N102
              refine Gl.st st102 ?_
              show Gl p.tables e below _ (T102.setTop (mkF m 126 #[.val (.int p0), .val (.int p1), .val (.int p2), .val (.int p3), .val (.int p4), .val (.int nn), .val (.int cc0), .val (.int cc1), .val (.int cc2), .val (.int cc3), .val (.ref b61), .unset] [(.int 1)]))
              refine Gl.st (fun _ kq => XS.ifNo X102.here hx rfl (hb hby at_126) rfl ((if0 _ _).trans (feq ((by decide) : ¬ ((1 : Int32) = (0 : Int32)))).1) kq) ?_
              show Gl p.tables e below _ (T102.setTop (mkF m 129 #[.val (.int p0), .val (.int p1), .val (.int p2), .val (.int p3), .val (.int p4), .val (.int nn), .val (.int cc0), .val (.int cc1), .val (.int cc2), .val (.int cc3), .val (.ref b61), .unset] []))
              refine Gl.st (fun _ kq => XS.iload X102.here hx rfl (hb hby at_129) rfl kq) ?_
              show Gl p.tables e below _ (T102.setTop (mkF m 131 #[.val (.int p0), .val (.int p1), .val (.int p2), .val (.int p3), .val (.int p4), .val (.int nn), .val (.int cc0), .val (.int cc1), .val (.int cc2), .val (.int cc3), .val (.ref b61), .unset] [(.int cc1)]))
              obtain ⟨_, _, ⟨T103, L103, k103, n103⟩, -, X103, ⟨Lc103, hQ103, l103, y103, z103⟩, st103⟩ := Jvm.LawKit.callS X102 hx (y := (⟨"com/example/neighbor_keys/neighborkeys/model/CompositeKeepsOrderPinLaw", "above", "(C)Z"⟩ : MethodName)) hoc (mvT hZc (tw hw 49 rfl)) (mvT hZc (tw hw 50 rfl)) (mvT hZc (tw hw 51 rfl)) (mvT hZc (tw hw 52 rfl)) (by decide) (backOf (W := 0) (rm_ab l Z a0 hw [] (cc1) T94.heap n0 (Nat.le_trans (Nat.le_trans (Nat.le_trans (Nat.le_trans (Nat.le_trans Z0 E61.1) E65.1) (Keep.of_wr W69).1) (Keep.of_wr W71).1) K94.1) ) hZc (tw hw 52 rfl) (tw hw 51 rfl) (by decide) (by decide)) (g := (mkF m 131 #[.val (.int p0), .val (.int p1), .val (.int p2), .val (.int p3), .val (.int p4), .val (.int nn), .val (.int cc0), .val (.int cc1), .val (.int cc2), .val (.int cc3), .val (.ref b61), .unset] [(.int cc1)])) rfl (by rw [hml]; rfl) (argsL := [(.int cc1)]) (rest := []) (lenOf pd__C_Z rfl) rfl (by show 2 * 0 + _ ≤ _; exact Nat.le_of_eq rfl) (hb hby at_131) (fun _ _ => ⟨rfl, e102, (by decide : 3 + 0 ≤ _), (by decide : 8 + 0 ≤ _)⟩)
              dsimp only [Pt.U, Pt.locs, Pt.cells, Pt.slots] at X103 l103 y103 z103 st103 hQ103
              subst l103 y103 z103
              rcases hQ103 with ⟨rfl, N103, e103, y103_0⟩ | ⟨rfl, N103, e103, y103_0⟩
              · have M103 := Fr.app M102 N103
                refine Gl.st st103 ?_
                show Gl p.tables e below _ (T103.setTop (mkF m 134 #[.val (.int p0), .val (.int p1), .val (.int p2), .val (.int p3), .val (.int p4), .val (.int nn), .val (.int cc0), .val (.int cc1), .val (.int cc2), .val (.int cc3), .val (.ref b61), .unset] [(.int 1)]))
                refine Gl.st (fun _ kq => XS.ifNo X103.here hx rfl (hb hby at_134) rfl ((if0 _ _).trans (feq ((by decide) : ¬ ((1 : Int32) = (0 : Int32)))).1) kq) ?_
                show Gl p.tables e below _ (T103.setTop (mkF m 137 #[.val (.int p0), .val (.int p1), .val (.int p2), .val (.int p3), .val (.int p4), .val (.int nn), .val (.int cc0), .val (.int cc1), .val (.int cc2), .val (.int cc3), .val (.ref b61), .unset] []))
                refine Gl.st (fun _ kq => XS.iconst X103.here hx rfl (hb hby at_137) kq) ?_
                refine Gl.st (fun _ kq => XS.goto X103.here hx rfl (pc0 := 138) (pc' := 142) rfl (hb hby at_138) (by decide) (by decide) kq) ?_
                refine Gl.st (fun _ kq => XS.istore X103.here hx rfl (hb hby at_142) rfl (l' := #[.val (.int p0), .val (.int p1), .val (.int p2), .val (.int p3), .val (.int p4), .val (.int nn), .val (.int cc0), .val (.int cc1), .val (.int cc2), .val (.int cc3), .val (.ref b61), .val (.int 1)]) rfl kq) ?_
                refine Gl.st (fun _ kq => XS.goto X103.here hx rfl (pc0 := 144) (pc' := 285) rfl (hb hby at_144) (by decide) (by decide) kq) ?_
                show Gl p.tables e below _ (T103.setTop (mkF m 285 #[.val (.int p0), .val (.int p1), .val (.int p2), .val (.int p3), .val (.int p4), .val (.int nn), .val (.int cc0), .val (.int cc1), .val (.int cc2), .val (.int cc3), .val (.ref b61), .val (.int 1)] []))
                exact Jk2l _ _ _ _ hSc hZc hoc (Nat.le_trans (Nat.le_trans (Nat.le_trans (Nat.le_trans (Nat.le_trans hkc E61.1) E65.1) (Keep.of_wr W69).1) (Keep.of_wr W71).1) K94.1) C96 (X103.more (by decide) (by decide)) e103 M103  ((1 : Int32)) (Eq.symm ((if_pos (own_37 y102_0)).trans ((if_pos (own_37 y103_0)).trans rfl)))
              · have M103 := Fr.app M102 N103
                refine Gl.st st103 ?_
                show Gl p.tables e below _ (T103.setTop (mkF m 134 #[.val (.int p0), .val (.int p1), .val (.int p2), .val (.int p3), .val (.int p4), .val (.int nn), .val (.int cc0), .val (.int cc1), .val (.int cc2), .val (.int cc3), .val (.ref b61), .unset] [(.int 0)]))
                refine Gl.st (fun _ kq => XS.ifYes X103.here hx rfl (pc0 := 134) (pc' := 141) rfl (hb hby at_134) rfl ((if0 _ _).trans (teq ((by decide) : (0 : Int32) = (0 : Int32))).1) (by decide) (by decide) kq) ?_
                show Gl p.tables e below _ (T103.setTop (mkF m 141 #[.val (.int p0), .val (.int p1), .val (.int p2), .val (.int p3), .val (.int p4), .val (.int nn), .val (.int cc0), .val (.int cc1), .val (.int cc2), .val (.int cc3), .val (.ref b61), .unset] []))
                refine Gl.st (fun _ kq => XS.iconst X103.here hx rfl (hb hby at_141) kq) ?_
                refine Gl.st (fun _ kq => XS.istore X103.here hx rfl (hb hby at_142) rfl (l' := #[.val (.int p0), .val (.int p1), .val (.int p2), .val (.int p3), .val (.int p4), .val (.int nn), .val (.int cc0), .val (.int cc1), .val (.int cc2), .val (.int cc3), .val (.ref b61), .val (.int 0)]) rfl kq) ?_
                refine Gl.st (fun _ kq => XS.goto X103.here hx rfl (pc0 := 144) (pc' := 285) rfl (hb hby at_144) (by decide) (by decide) kq) ?_
                show Gl p.tables e below _ (T103.setTop (mkF m 285 #[.val (.int p0), .val (.int p1), .val (.int p2), .val (.int p3), .val (.int p4), .val (.int nn), .val (.int cc0), .val (.int cc1), .val (.int cc2), .val (.int cc3), .val (.ref b61), .val (.int 0)] []))
                exact Jk2l _ _ _ _ hSc hZc hoc (Nat.le_trans (Nat.le_trans (Nat.le_trans (Nat.le_trans (Nat.le_trans hkc E61.1) E65.1) (Keep.of_wr W69).1) (Keep.of_wr W71).1) K94.1) C96 (X103.more (by decide) (by decide)) e103 M103  ((0 : Int32)) (Eq.symm ((if_pos (own_37 y102_0)).trans ((if_neg (own_38 y103_0)).trans rfl)))
            · have M102 := Fr.app M94 N102
              refine Gl.st st102 ?_
              show Gl p.tables e below _ (T102.setTop (mkF m 126 #[.val (.int p0), .val (.int p1), .val (.int p2), .val (.int p3), .val (.int p4), .val (.int nn), .val (.int cc0), .val (.int cc1), .val (.int cc2), .val (.int cc3), .val (.ref b61), .unset] [(.int 0)]))
              refine Gl.st (fun _ kq => XS.ifYes X102.here hx rfl (pc0 := 126) (pc' := 141) rfl (hb hby at_126) rfl ((if0 _ _).trans (teq ((by decide) : (0 : Int32) = (0 : Int32))).1) (by decide) (by decide) kq) ?_
              show Gl p.tables e below _ (T102.setTop (mkF m 141 #[.val (.int p0), .val (.int p1), .val (.int p2), .val (.int p3), .val (.int p4), .val (.int nn), .val (.int cc0), .val (.int cc1), .val (.int cc2), .val (.int cc3), .val (.ref b61), .unset] []))
              refine Gl.st (fun _ kq => XS.iconst X102.here hx rfl (hb hby at_141) kq) ?_
              refine Gl.st (fun _ kq => XS.istore X102.here hx rfl (hb hby at_142) rfl (l' := #[.val (.int p0), .val (.int p1), .val (.int p2), .val (.int p3), .val (.int p4), .val (.int nn), .val (.int cc0), .val (.int cc1), .val (.int cc2), .val (.int cc3), .val (.ref b61), .val (.int 0)]) rfl kq) ?_
              refine Gl.st (fun _ kq => XS.goto X102.here hx rfl (pc0 := 144) (pc' := 285) rfl (hb hby at_144) (by decide) (by decide) kq) ?_
              show Gl p.tables e below _ (T102.setTop (mkF m 285 #[.val (.int p0), .val (.int p1), .val (.int p2), .val (.int p3), .val (.int p4), .val (.int nn), .val (.int cc0), .val (.int cc1), .val (.int cc2), .val (.int cc3), .val (.ref b61), .val (.int 0)] []))
              exact Jk2l _ _ _ _ hSc hZc hoc (Nat.le_trans (Nat.le_trans (Nat.le_trans (Nat.le_trans (Nat.le_trans hkc E61.1) E65.1) (Keep.of_wr W69).1) (Keep.of_wr W71).1) K94.1) C96 (X102.more (by decide) (by decide)) e102 M102  ((0 : Int32)) (Eq.symm ((if_neg (own_38 y102_0)).trans rfl))
        · refine Gl.st (fun _ kq => XS.icmpYes Xc.here hx rfl (pc0 := 96) (pc' := 147) rfl (hb hby at_96) rfl (feq (hc60 : ¬ (nn = (2 : Int32)))).2 (by decide) (by decide) kq) ?_
          show Gl p.tables e below _ (Tc.setTop (mkF m 147 #[.val (.int p0), .val (.int p1), .val (.int p2), .val (.int p3), .val (.int p4), .val (.int nn), .val (.int cc0), .val (.int cc1), .val (.int cc2), .val (.int cc3), .unset, .unset] []))
          refine Gl.st (fun _ kq => XS.iload Xc.here hx rfl (hb hby at_147) rfl kq) ?_
          refine Gl.st (fun _ kq => XS.iconst Xc.here hx rfl (hb hby at_149) kq) ?_
          show Gl p.tables e below _ (Tc.setTop (mkF m 150 #[.val (.int p0), .val (.int p1), .val (.int p2), .val (.int p3), .val (.int p4), .val (.int nn), .val (.int cc0), .val (.int cc1), .val (.int cc2), .val (.int cc3), .unset, .unset] [(.int 3), (.int nn)]))
          by_cases hc104 : nn = (3 : Int32)
          · refine Gl.st (fun _ kq => XS.icmpNo Xc.here hx rfl (hb hby at_150) rfl (teq (hc104 : nn = (3 : Int32))).2 kq) ?_
            show Gl p.tables e below _ (Tc.setTop (mkF m 153 #[.val (.int p0), .val (.int p1), .val (.int p2), .val (.int p3), .val (.int p4), .val (.int nn), .val (.int cc0), .val (.int cc1), .val (.int cc2), .val (.int cc3), .unset, .unset] []))
            obtain ⟨T105, h105, X105, e105, E105, A105, D105, U105, st105⟩ := newO Xc hx hZc hoc (tw hw 2 rfl) (tw hw 3 rfl) (tw hw 4 rfl) ec (g := (mkF m 153 #[.val (.int p0), .val (.int p1), .val (.int p2), .val (.int p3), .val (.int p4), .val (.int nn), .val (.int cc0), .val (.int cc1), .val (.int cc2), .val (.int cc3), .unset, .unset] [])) rfl (hb hby at_153) (by decide) (by decide)
            obtain ⟨b105, g105⟩ : ∃ z, z = h0.size := ⟨_, rfl⟩
            rw [← g105] at A105 D105 U105 st105
            refine Gl.st st105 ?_
            have g106 : n0 ≤ b105 := Nat.le_trans Z0 (Nat.le_of_eq g105.symm)
            have s107 : h0.size ≤ b105 := Nat.le_trans (Nat.le_refl _) (Nat.le_of_eq g105.symm)
            have C108 : CHr Z consts_1 s.vm h0 vmc h105 := Cc.trans (CHr.ext E105 Cc.1)
            have F105_18 : Fld Z h105 b105 "java/lang/String" "value" "[B" .null := D105 (Or.inr (tw hw 18 rfl)) (ty := (.array .byte)) (by decide)
            have F105_19 : Fld Z h105 b105 "java/lang/String" "coder" "B" (.int 0) := D105 (Or.inr (tw hw 19 rfl)) (ty := .byte) (by decide)
            show Gl p.tables e below _ (T105.setTop (mkF m 156 #[.val (.int p0), .val (.int p1), .val (.int p2), .val (.int p3), .val (.int p4), .val (.int nn), .val (.int cc0), .val (.int cc1), .val (.int cc2), .val (.int cc3), .unset, .unset] [(.ref b105)]))
            refine Gl.st (fun _ kq => XS.dup X105.here hx rfl (hb hby at_156) rfl rfl kq) ?_
            refine Gl.st (fun _ kq => XS.iconst X105.here hx rfl (hb hby at_157) kq) ?_
            show Gl p.tables e below _ (T105.setTop (mkF m 158 #[.val (.int p0), .val (.int p1), .val (.int p2), .val (.int p3), .val (.int p4), .val (.int nn), .val (.int cc0), .val (.int cc1), .val (.int cc2), .val (.int cc3), .unset, .unset] [(.int 3), (.ref b105), (.ref b105)]))
            obtain ⟨T109, h109, k109, X109, e109, E109, A109, st109⟩ := newP X105 hx hZc (tw hw 5 rfl) e105 (g := (mkF m 158 #[.val (.int p0), .val (.int p1), .val (.int p2), .val (.int p3), .val (.int p4), .val (.int nn), .val (.int cc0), .val (.int cc1), .val (.int cc2), .val (.int cc3), .unset, .unset] [(.int 3), (.ref b105), (.ref b105)])) rfl (hb hby at_158) rfl (by decide) (cap := 3) (by decide) (by decide) (by decide) (by decide)
            obtain ⟨b109, g109⟩ : ∃ z, z = h105.size := ⟨_, rfl⟩
            rw [← g109] at A109 st109
            refine Gl.st st109 ?_
            have g110 : n0 ≤ b109 := Nat.le_trans (Nat.le_trans Z0 E105.1) (Nat.le_of_eq g109.symm)
            have s111 : h0.size ≤ b109 := Nat.le_trans (Nat.le_trans (Nat.le_refl _) E105.1) (Nat.le_of_eq g109.symm)
            have C112 : CHr Z consts_1 s.vm h0 vmc h109 := C108.trans (CHr.ext E109 C108.1)
            have V109 : Arv Z h109 b109 k109 .char (3 : Int32) [(.int 0), (.int 0), (.int 0)] (.int 0) := (Arv.new A109 (by decide)).pad (pad_rep [] (.int 0) 3)
            show Gl p.tables e below _ (T109.setTop (mkF m 160 #[.val (.int p0), .val (.int p1), .val (.int p2), .val (.int p3), .val (.int p4), .val (.int nn), .val (.int cc0), .val (.int cc1), .val (.int cc2), .val (.int cc3), .unset, .unset] [(.ref b109), (.ref b105), (.ref b105)]))
            refine Gl.st (fun _ kq => XS.dup X109.here hx rfl (hb hby at_160) rfl rfl kq) ?_
            refine Gl.st (fun _ kq => XS.iconst X109.here hx rfl (hb hby at_161) kq) ?_
            refine Gl.st (fun _ kq => XS.iload X109.here hx rfl (hb hby at_162) rfl kq) ?_
            show Gl p.tables e below _ (T109.setTop (mkF m 164 #[.val (.int p0), .val (.int p1), .val (.int p2), .val (.int p3), .val (.int p4), .val (.int nn), .val (.int cc0), .val (.int cc1), .val (.int cc2), .val (.int cc3), .unset, .unset] [(.int cc0), (.int 0), (.ref b109), (.ref b109), (.ref b105), (.ref b105)]))
            obtain ⟨c113, a113, q113, S113, M113, H113, G113⟩ := id V109
            obtain ⟨T113, h113, X113, e113, W113, st113⟩ := stC X109 hx hZc e109 a113 (j := (0 : Int32)) (inb_of S113 ⟨by decide, by decide⟩) (g := (mkF m 164 #[.val (.int p0), .val (.int p1), .val (.int p2), .val (.int p3), .val (.int p4), .val (.int nn), .val (.int cc0), .val (.int cc1), .val (.int cc2), .val (.int cc3), .unset, .unset] [(.int cc0), (.int 0), (.ref b109), (.ref b109), (.ref b105), (.ref b105)])) rfl rfl (hb hby at_164)
            refine Gl.st st113 ?_
            have C114 : CHr Z consts_1 s.vm h0 vmc h113 := C112.trans (CHr.wr W113 (Safe.arv hZc.alike V109 (by decide)) C112.1)
            have V113 : Arv Z h113 b109 k109 .char (3 : Int32) [(.int cc0), (.int 0), (.int 0)] (.int 0) := by
              have q := Arv.set a113 q113 S113 M113 H113 G113 (fits_nar_char _) W113 0 rfl (Nat.le_of_ble_eq_true rfl)
              rw [nar16 yc_0] at q
              exact q
            have N113 := Fr.snoc X113 Nc g110
            show Gl p.tables e below _ (T113.setTop (mkF m 165 #[.val (.int p0), .val (.int p1), .val (.int p2), .val (.int p3), .val (.int p4), .val (.int nn), .val (.int cc0), .val (.int cc1), .val (.int cc2), .val (.int cc3), .unset, .unset] [(.ref b109), (.ref b105), (.ref b105)]))
            refine Gl.st (fun _ kq => XS.dup X113.here hx rfl (hb hby at_165) rfl rfl kq) ?_
            refine Gl.st (fun _ kq => XS.iconst X113.here hx rfl (hb hby at_166) kq) ?_
            refine Gl.st (fun _ kq => XS.iload X113.here hx rfl (hb hby at_167) rfl kq) ?_
            show Gl p.tables e below _ (T113.setTop (mkF m 169 #[.val (.int p0), .val (.int p1), .val (.int p2), .val (.int p3), .val (.int p4), .val (.int nn), .val (.int cc0), .val (.int cc1), .val (.int cc2), .val (.int cc3), .unset, .unset] [(.int cc1), (.int 1), (.ref b109), (.ref b109), (.ref b105), (.ref b105)]))
            obtain ⟨c115, a115, q115, S115, M115, H115, G115⟩ := id V113
            obtain ⟨T115, h115, X115, e115, W115, st115⟩ := stC X113 hx hZc e113 a115 (j := (1 : Int32)) (inb_of S115 ⟨by decide, by decide⟩) (g := (mkF m 169 #[.val (.int p0), .val (.int p1), .val (.int p2), .val (.int p3), .val (.int p4), .val (.int nn), .val (.int cc0), .val (.int cc1), .val (.int cc2), .val (.int cc3), .unset, .unset] [(.int cc1), (.int 1), (.ref b109), (.ref b109), (.ref b105), (.ref b105)])) rfl rfl (hb hby at_169)
            refine Gl.st st115 ?_
            have C116 : CHr Z consts_1 s.vm h0 vmc h115 := C114.trans (CHr.wr W115 (Safe.arv hZc.alike V113 (by decide)) C114.1)
            have V115 : Arv Z h115 b109 k109 .char (3 : Int32) [(.int cc0), (.int cc1), (.int 0)] (.int 0) := by
              have q := Arv.set a115 q115 S115 M115 H115 G115 (fits_nar_char _) W115 1 rfl (Nat.le_of_ble_eq_true rfl)
              rw [nar16 yc_1] at q
              exact q
            have N115 := Fr.snoc X115 N113 g110
            show Gl p.tables e below _ (T115.setTop (mkF m 170 #[.val (.int p0), .val (.int p1), .val (.int p2), .val (.int p3), .val (.int p4), .val (.int nn), .val (.int cc0), .val (.int cc1), .val (.int cc2), .val (.int cc3), .unset, .unset] [(.ref b109), (.ref b105), (.ref b105)]))
            refine Gl.st (fun _ kq => XS.dup X115.here hx rfl (hb hby at_170) rfl rfl kq) ?_
            refine Gl.st (fun _ kq => XS.iconst X115.here hx rfl (hb hby at_171) kq) ?_
            refine Gl.st (fun _ kq => XS.iload X115.here hx rfl (hb hby at_172) rfl kq) ?_
            show Gl p.tables e below _ (T115.setTop (mkF m 174 #[.val (.int p0), .val (.int p1), .val (.int p2), .val (.int p3), .val (.int p4), .val (.int nn), .val (.int cc0), .val (.int cc1), .val (.int cc2), .val (.int cc3), .unset, .unset] [(.int cc2), (.int 2), (.ref b109), (.ref b109), (.ref b105), (.ref b105)]))
            obtain ⟨c117, a117, q117, S117, M117, H117, G117⟩ := id V115
            obtain ⟨T117, h117, X117, e117, W117, st117⟩ := stC X115 hx hZc e115 a117 (j := (2 : Int32)) (inb_of S117 ⟨by decide, by decide⟩) (g := (mkF m 174 #[.val (.int p0), .val (.int p1), .val (.int p2), .val (.int p3), .val (.int p4), .val (.int nn), .val (.int cc0), .val (.int cc1), .val (.int cc2), .val (.int cc3), .unset, .unset] [(.int cc2), (.int 2), (.ref b109), (.ref b109), (.ref b105), (.ref b105)])) rfl rfl (hb hby at_174)
            refine Gl.st st117 ?_
            have C118 : CHr Z consts_1 s.vm h0 vmc h117 := C116.trans (CHr.wr W117 (Safe.arv hZc.alike V115 (by decide)) C116.1)
            have V117 : Arv Z h117 b109 k109 .char (3 : Int32) [(.int cc0), (.int cc1), (.int cc2)] (.int 0) := by
              have q := Arv.set a117 q117 S117 M117 H117 G117 (fits_nar_char _) W117 2 rfl (Nat.le_of_ble_eq_true rfl)
              rw [nar16 yc_2] at q
              exact q
            have N117 := Fr.snoc X117 N115 g110
            show Gl p.tables e below _ (T117.setTop (mkF m 175 #[.val (.int p0), .val (.int p1), .val (.int p2), .val (.int p3), .val (.int p4), .val (.int nn), .val (.int cc0), .val (.int cc1), .val (.int cc2), .val (.int cc3), .unset, .unset] [(.ref b109), (.ref b105), (.ref b105)]))
            by_cases hU : (255 : Int32) < cc0 ∨ (255 : Int32) < cc1 ∨ (255 : Int32) < cc2
            · have f119 : Exa Z h117 b105 "java/lang/String" := ((((A105.ext E109).wr W113).wr W115).wr W117)
              have ne120 : b105 ≠ b109 := Nat.ne_of_lt (Nat.lt_of_lt_of_le A105.lt (Nat.le_of_eq g109.symm))
              have f121 : Fld Z h117 b105 "java/lang/String" "value" "[B" .null := ((((F105_18.ext E109).other W113 (Or.inl ne120)).other W115 (Or.inl ne120)).other W117 (Or.inl ne120))
              have f122 : Fld Z h117 b105 "java/lang/String" "coder" "B" (.int 0) := ((((F105_19.ext E109).other W113 (Or.inl ne120)).other W115 (Or.inl ne120)).other W117 (Or.inl ne120))
              have f123 : Old Z n0 h117 := (((((pf0.ext E105).ext E109).wr W113 g110).wr W115 g110).wr W117 g110)
              have Sf127 : Safe Z consts_1 vmc h117 b105 := (Safe.wr W117 (Safe.arv hZc.alike V115 (by decide)) C116.1 (Safe.wr W115 (Safe.arv hZc.alike V113 (by decide)) C114.1 (Safe.wr W113 (Safe.arv hZc.alike V109 (by decide)) C112.1 (Safe.ext E109 C108.1 (Safe.ext E105 Cc.1 (Safe.new (EL := consts_1) (vm := vmc) (Nat.le_of_eq g105.symm)))))))
              obtain ⟨_, _, ⟨T126, L126, k126, n126⟩, -, X126, ⟨Lc126, hQ126, l126, y126, z126⟩, st126⟩ := X117.specialBack hx (y := (⟨"java/lang/String", "<init>", "([C)V"⟩ : MethodName)) rfl hoc (mvT hZc (tw hw 6 rfl)) (mvT hZc (tw hw 7 rfl)) (mvT hZc (tw hw 8 rfl)) (by decide) (backOf (W := 1) (rm_i1_3 l Z a0 hw [] (b105) (b109) (k109) (cc0) (cc1) (cc2) (Y1) h117 n0 (Nat.le_trans (Nat.le_trans (Nat.le_trans (Nat.le_trans (Nat.le_trans Z0 E105.1) E109.1) (Keep.of_wr W113).1) (Keep.of_wr W115).1) (Keep.of_wr W117).1) f119 f121 f122 V117 f123 g106 yc_0 yc_1 yc_2 OA OH OL hU O2 P5) hZc (tw hw 8 rfl) (tw hw 4 rfl) (by decide) (by decide)) (g := (mkF m 175 #[.val (.int p0), .val (.int p1), .val (.int p2), .val (.int p3), .val (.int p4), .val (.int nn), .val (.int cc0), .val (.int cc1), .val (.int cc2), .val (.int cc3), .unset, .unset] [(.ref b109), (.ref b105), (.ref b105)])) rfl (by rw [hml]; rfl) (Steps.refl _) (a := b105) (argsL := [(.ref b109)]) (rest := [(.ref b105)]) (lenOf pd___C_V rfl) rfl (by show 2 * 0 + _ ≤ _; exact Nat.le_of_eq rfl) (hb hby at_175) (fun _ _ => ⟨rfl, e117, (by decide : 2 + 2 ≤ _), (by decide : 7 + 9 ≤ _)⟩)
              dsimp only [Pt.U, Pt.locs, Pt.cells, Pt.slots] at X126 l126 y126 z126 st126 hQ126
              subst l126 y126 z126
              obtain ⟨v124, v125, rfl, N126, K126, q126_0, q126_1, q126_2, q126_3⟩ := hQ126
              have C128 : CHr Z consts_1 s.vm h0 vmc T126.heap := C118.trans (CHr.keep K126 (sfS Sf127 sf0) C118.1)
              have M126 := Fr.app N117 N126
              refine Gl.to st126 ?_
              show Gl p.tables e below _ (T126.setTop (mkF m 178 #[.val (.int p0), .val (.int p1), .val (.int p2), .val (.int p3), .val (.int p4), .val (.int nn), .val (.int cc0), .val (.int cc1), .val (.int cc2), .val (.int cc3), .unset, .unset] [(.ref b105)]))
              show Gl p.tables e below _ (T126.setTop (mkF m 178 #[.val (.int p0), .val (.int p1), .val (.int p2), .val (.int p3), .val (.int p4), .val (.int nn), .val (.int cc0), .val (.int cc1), .val (.int cc2), .val (.int cc3), .unset, .unset] [(.ref b105)]))
              refine Gl.st (fun _ kq => XS.astore X126.here hx rfl (hb hby at_178) rfl rfl (l' := #[.val (.int p0), .val (.int p1), .val (.int p2), .val (.int p3), .val (.int p4), .val (.int nn), .val (.int cc0), .val (.int cc1), .val (.int cc2), .val (.int cc3), .val (.ref b105), .unset]) rfl kq) ?_
              show Gl p.tables e below _ (T126.setTop (mkF m 180 #[.val (.int p0), .val (.int p1), .val (.int p2), .val (.int p3), .val (.int p4), .val (.int nn), .val (.int cc0), .val (.int cc1), .val (.int cc2), .val (.int cc3), .val (.ref b105), .unset] []))
              have Jk3u : ∀ (Tk3u : State) (Lk3u : List Loc) (vmk3u : Vm) (kk3u : Nat) (hSk3u : s.Since vmk3u kk3u) (hZk3u : Z.Warmed39 vmk3u) (hok3u : vmk3u.findClass "com/example/neighbor_keys/neighborkeys/model/CompositeKeepsOrderPinLaw" = some m.cls) (hkk3u : kk3u ≤ T126.heap.size) (Ck3u : CHr Z consts_1 s.vm h0 vmk3u T126.heap) (Xk3u : Stand p l e room_1 (s.setVm vmk3u) m #[(.int p0), (.int p1), (.int p2), (.int p3), (.int p4)] below meth c Tk3u Lk3u 4 16) (ek3u : Tk3u.heap = T126.heap) (Nk3u : Fr n0 Lk3u) (ex : Int32) (yk3u_0 : ex = own_ko ([cc0, cc1, cc2] : List Int32)), Gl p.tables e below (EndH s Z consts_1 (Q_law Z p0 p1 p2 p3 p4 Y1 Y3 h0 n0) room_1.cells room_1.slots) (Tk3u.setTop (mkF m 285 #[.val (.int p0), .val (.int p1), .val (.int p2), .val (.int p3), .val (.int p4), .val (.int nn), .val (.int cc0), .val (.int cc1), .val (.int cc2), .val (.int cc3), .val (.ref b105), .val (.int ex)] [])) := by
                intro Tk3u Lk3u vmk3u kk3u hSk3u hZk3u hok3u hkk3u Ck3u Xk3u ek3u Nk3u ex yk3u_0
                show Gl p.tables e below _ (Tk3u.setTop (mkF m 285 #[.val (.int p0), .val (.int p1), .val (.int p2), .val (.int p3), .val (.int p4), .val (.int nn), .val (.int cc0), .val (.int cc1), .val (.int cc2), .val (.int cc3), .val (.ref b105), .val (.int ex)] []))
                refine Gl.st (fun _ kq => XS.aload Xk3u.here hx rfl (hb hby at_285) rfl rfl kq) ?_
                show Gl p.tables e below _ (Tk3u.setTop (mkF m 287 #[.val (.int p0), .val (.int p1), .val (.int p2), .val (.int p3), .val (.int p4), .val (.int nn), .val (.int cc0), .val (.int cc1), .val (.int cc2), .val (.int cc3), .val (.ref b105), .val (.int ex)] [(.ref b105)]))
                have f129 : Old Z n0 T126.heap := (f123.keep K126 (allS g106 all0))
                obtain ⟨_, _, ⟨T131, L131, k131, n131⟩, -, X131, ⟨Lc131, hQ131, l131, y131, z131⟩, st131⟩ := Jvm.LawKit.callS Xk3u hx (y := (⟨"com/example/neighbor_keys/neighborkeys/model/Composite", "keepsOrder", "(Ljava/lang/String;)Z"⟩ : MethodName)) hok3u (mvT hZk3u (tw hw 24 rfl)) (mvT hZk3u (tw hw 25 rfl)) (mvT hZk3u (tw hw 26 rfl)) (mvT hZk3u (tw hw 27 rfl)) (by decide) (backOf (W := 0) (rm_ku l Z a0 hw [] (b105) (v124) (v125) (([cc0, cc1, cc2] : List Int32)) (Y1) (Y3) T126.heap n0 (Nat.le_trans (Nat.le_trans (Nat.le_trans (Nat.le_trans (Nat.le_trans (Nat.le_trans Z0 E105.1) E109.1) (Keep.of_wr W113).1) (Keep.of_wr W115).1) (Keep.of_wr W117).1) K126.1) q126_0 q126_1 q126_2 q126_3 f129 (Nat.le_of_ble_eq_true rfl) (alcS yc_0 (alcS yc_1 (alcS yc_2 alc0))) OA OH OL O2 P5 O4 rG3) hZk3u (tw hw 27 rfl) (tw hw 26 rfl) (by decide) (by decide)) (g := (mkF m 287 #[.val (.int p0), .val (.int p1), .val (.int p2), .val (.int p3), .val (.int p4), .val (.int nn), .val (.int cc0), .val (.int cc1), .val (.int cc2), .val (.int cc3), .val (.ref b105), .val (.int ex)] [(.ref b105)])) rfl (by rw [hml]; rfl) (argsL := [(.ref b105)]) (rest := []) (lenOf pd__Ljava_lang_String__Z rfl) rfl (by show 2 * 0 + _ ≤ _; exact Nat.le_of_eq rfl) (hb hby at_287) (fun _ _ => ⟨rfl, ek3u, (by decide : 4 + 0 ≤ _), (by decide : 16 + 0 ≤ _)⟩)
                dsimp only [Pt.U, Pt.locs, Pt.cells, Pt.slots] at X131 l131 y131 z131 st131 hQ131
                subst l131 y131 z131
                obtain ⟨v130, rfl, N131, e131, y131_0⟩ := hQ131
                have M131 := Fr.app Nk3u N131
                refine Gl.st st131 ?_
                show Gl p.tables e below _ (T131.setTop (mkF m 290 #[.val (.int p0), .val (.int p1), .val (.int p2), .val (.int p3), .val (.int p4), .val (.int nn), .val (.int cc0), .val (.int cc1), .val (.int cc2), .val (.int cc3), .val (.ref b105), .val (.int ex)] [(.int v130)]))
                show Gl p.tables e below _ (T131.setTop (mkF m 290 #[.val (.int p0), .val (.int p1), .val (.int p2), .val (.int p3), .val (.int p4), .val (.int nn), .val (.int cc0), .val (.int cc1), .val (.int cc2), .val (.int cc3), .val (.ref b105), .val (.int ex)] [(.int v130)]))
                refine Gl.st (fun _ kq => XS.iload X131.here hx rfl (hb hby at_290) rfl kq) ?_
                show Gl p.tables e below _ (T131.setTop (mkF m 292 #[.val (.int p0), .val (.int p1), .val (.int p2), .val (.int p3), .val (.int p4), .val (.int nn), .val (.int cc0), .val (.int cc1), .val (.int cc2), .val (.int cc3), .val (.ref b105), .val (.int ex)] [(.int ex), (.int v130)]))
                refine Gl.st (fun _ kq => XS.icmpNo X131.here hx rfl (hb hby at_292) rfl (teq ((y131_0.trans yk3u_0.symm) : v130 = ex)).2 kq) ?_
                show Gl p.tables e below _ (T131.setTop (mkF m 295 #[.val (.int p0), .val (.int p1), .val (.int p2), .val (.int p3), .val (.int p4), .val (.int nn), .val (.int cc0), .val (.int cc1), .val (.int cc2), .val (.int cc3), .val (.ref b105), .val (.int ex)] []))
                refine Gl.st (fun _ kq => XS.iconst X131.here hx rfl (hb hby at_295) kq) ?_
                refine Gl.st (fun _ kq => XS.goto X131.here hx rfl (pc0 := 296) (pc' := 300) rfl (hb hby at_296) (by decide) (by decide) kq) ?_
                exact Gl.retNH X131 hx hSk3u (Nat.le_trans hkk3u (Nat.le_of_eq (congrArg Array.size e131).symm)) (by rw [hh, e131]; exact Ck3u.trans (CHv.at X131 hZk3u (elW hw) Ck3u.1)) (t := .boolean) Bd.returns (by simp) (hb hby at_300) hlk (by decide) (by decide) (by rw [e131]; exact ⟨rfl, M131⟩)
              refine Gl.st (fun _ kq => XS.iload X126.here hx rfl (hb hby at_180) rfl kq) ?_
              show Gl p.tables e below _ (T126.setTop (mkF m 182 #[.val (.int p0), .val (.int p1), .val (.int p2), .val (.int p3), .val (.int p4), .val (.int nn), .val (.int cc0), .val (.int cc1), .val (.int cc2), .val (.int cc3), .val (.ref b105), .unset] [(.int cc0)]))
              obtain ⟨_, _, ⟨T132, L132, k132, n132⟩, -, X132, ⟨Lc132, hQ132, l132, y132, z132⟩, st132⟩ := Jvm.LawKit.callS X126 hx (y := (⟨"com/example/neighbor_keys/neighborkeys/model/CompositeKeepsOrderPinLaw", "above", "(C)Z"⟩ : MethodName)) hoc (mvT hZc (tw hw 49 rfl)) (mvT hZc (tw hw 50 rfl)) (mvT hZc (tw hw 51 rfl)) (mvT hZc (tw hw 52 rfl)) (by decide) (backOf (W := 0) (rm_ab l Z a0 hw [] (cc0) T126.heap n0 (Nat.le_trans (Nat.le_trans (Nat.le_trans (Nat.le_trans (Nat.le_trans (Nat.le_trans Z0 E105.1) E109.1) (Keep.of_wr W113).1) (Keep.of_wr W115).1) (Keep.of_wr W117).1) K126.1) ) hZc (tw hw 52 rfl) (tw hw 51 rfl) (by decide) (by decide)) (g := (mkF m 182 #[.val (.int p0), .val (.int p1), .val (.int p2), .val (.int p3), .val (.int p4), .val (.int nn), .val (.int cc0), .val (.int cc1), .val (.int cc2), .val (.int cc3), .val (.ref b105), .unset] [(.int cc0)])) rfl (by rw [hml]; rfl) (argsL := [(.int cc0)]) (rest := []) (lenOf pd__C_Z rfl) rfl (by show 2 * 0 + _ ≤ _; exact Nat.le_of_eq rfl) (hb hby at_182) (fun _ _ => ⟨rfl, rfl, (by decide : 4 + 0 ≤ _), (by decide : 16 + 0 ≤ _)⟩)
              dsimp only [Pt.U, Pt.locs, Pt.cells, Pt.slots] at X132 l132 y132 z132 st132 hQ132
              subst l132 y132 z132
              rcases hQ132 with ⟨rfl, N132, e132, y132_0⟩ | ⟨rfl, N132, e132, y132_0⟩
              · have M132 := Fr.app M126 N132
                refine Gl.st st132 ?_
                show Gl p.tables e below _ (T132.setTop (mkF m 185 #[.val (.int p0), .val (.int p1), .val (.int p2), .val (.int p3), .val (.int p4), .val (.int nn), .val (.int cc0), .val (.int cc1), .val (.int cc2), .val (.int cc3), .val (.ref b105), .unset] [(.int 1)]))
                refine Gl.st (fun _ kq => XS.ifNo X132.here hx rfl (hb hby at_185) rfl ((if0 _ _).trans (feq ((by decide) : ¬ ((1 : Int32) = (0 : Int32)))).1) kq) ?_
                show Gl p.tables e below _ (T132.setTop (mkF m 188 #[.val (.int p0), .val (.int p1), .val (.int p2), .val (.int p3), .val (.int p4), .val (.int nn), .val (.int cc0), .val (.int cc1), .val (.int cc2), .val (.int cc3), .val (.ref b105), .unset] []))
                refine Gl.st (fun _ kq => XS.iload X132.here hx rfl (hb hby at_188) rfl kq) ?_
                show Gl p.tables e below _ (T132.setTop (mkF m 190 #[.val (.int p0), .val (.int p1), .val (.int p2), .val (.int p3), .val (.int p4), .val (.int nn), .val (.int cc0), .val (.int cc1), .val (.int cc2), .val (.int cc3), .val (.ref b105), .unset] [(.int cc1)]))
                obtain ⟨_, _, ⟨T133, L133, k133, n133⟩, -, X133, ⟨Lc133, hQ133, l133, y133, z133⟩, st133⟩ := Jvm.LawKit.callS X132 hx (y := (⟨"com/example/neighbor_keys/neighborkeys/model/CompositeKeepsOrderPinLaw", "above", "(C)Z"⟩ : MethodName)) hoc (mvT hZc (tw hw 49 rfl)) (mvT hZc (tw hw 50 rfl)) (mvT hZc (tw hw 51 rfl)) (mvT hZc (tw hw 52 rfl)) (by decide) (backOf (W := 0) (rm_ab l Z a0 hw [] (cc1) T126.heap n0 (Nat.le_trans (Nat.le_trans (Nat.le_trans (Nat.le_trans (Nat.le_trans (Nat.le_trans Z0 E105.1) E109.1) (Keep.of_wr W113).1) (Keep.of_wr W115).1) (Keep.of_wr W117).1) K126.1) ) hZc (tw hw 52 rfl) (tw hw 51 rfl) (by decide) (by decide)) (g := (mkF m 190 #[.val (.int p0), .val (.int p1), .val (.int p2), .val (.int p3), .val (.int p4), .val (.int nn), .val (.int cc0), .val (.int cc1), .val (.int cc2), .val (.int cc3), .val (.ref b105), .unset] [(.int cc1)])) rfl (by rw [hml]; rfl) (argsL := [(.int cc1)]) (rest := []) (lenOf pd__C_Z rfl) rfl (by show 2 * 0 + _ ≤ _; exact Nat.le_of_eq rfl) (hb hby at_190) (fun _ _ => ⟨rfl, e132, (by decide : 4 + 0 ≤ _), (by decide : 16 + 0 ≤ _)⟩)
                dsimp only [Pt.U, Pt.locs, Pt.cells, Pt.slots] at X133 l133 y133 z133 st133 hQ133
                subst l133 y133 z133
                rcases hQ133 with ⟨rfl, N133, e133, y133_0⟩ | ⟨rfl, N133, e133, y133_0⟩
                · have M133 := Fr.app M132 N133
                  refine Gl.st st133 ?_
                  show Gl p.tables e below _ (T133.setTop (mkF m 193 #[.val (.int p0), .val (.int p1), .val (.int p2), .val (.int p3), .val (.int p4), .val (.int nn), .val (.int cc0), .val (.int cc1), .val (.int cc2), .val (.int cc3), .val (.ref b105), .unset] [(.int 1)]))
                  refine Gl.st (fun _ kq => XS.ifNo X133.here hx rfl (hb hby at_193) rfl ((if0 _ _).trans (feq ((by decide) : ¬ ((1 : Int32) = (0 : Int32)))).1) kq) ?_
                  show Gl p.tables e below _ (T133.setTop (mkF m 196 #[.val (.int p0), .val (.int p1), .val (.int p2), .val (.int p3), .val (.int p4), .val (.int nn), .val (.int cc0), .val (.int cc1), .val (.int cc2), .val (.int cc3), .val (.ref b105), .unset] []))
                  refine Gl.st (fun _ kq => XS.iload X133.here hx rfl (hb hby at_196) rfl kq) ?_
                  show Gl p.tables e below _ (T133.setTop (mkF m 198 #[.val (.int p0), .val (.int p1), .val (.int p2), .val (.int p3), .val (.int p4), .val (.int nn), .val (.int cc0), .val (.int cc1), .val (.int cc2), .val (.int cc3), .val (.ref b105), .unset] [(.int cc2)]))
                  obtain ⟨_, _, ⟨T134, L134, k134, n134⟩, -, X134, ⟨Lc134, hQ134, l134, y134, z134⟩, st134⟩ := Jvm.LawKit.callS X133 hx (y := (⟨"com/example/neighbor_keys/neighborkeys/model/CompositeKeepsOrderPinLaw", "above", "(C)Z"⟩ : MethodName)) hoc (mvT hZc (tw hw 49 rfl)) (mvT hZc (tw hw 50 rfl)) (mvT hZc (tw hw 51 rfl)) (mvT hZc (tw hw 52 rfl)) (by decide) (backOf (W := 0) (rm_ab l Z a0 hw [] (cc2) T126.heap n0 (Nat.le_trans (Nat.le_trans (Nat.le_trans (Nat.le_trans (Nat.le_trans (Nat.le_trans Z0 E105.1) E109.1) (Keep.of_wr W113).1) (Keep.of_wr W115).1) (Keep.of_wr W117).1) K126.1) ) hZc (tw hw 52 rfl) (tw hw 51 rfl) (by decide) (by decide)) (g := (mkF m 198 #[.val (.int p0), .val (.int p1), .val (.int p2), .val (.int p3), .val (.int p4), .val (.int nn), .val (.int cc0), .val (.int cc1), .val (.int cc2), .val (.int cc3), .val (.ref b105), .unset] [(.int cc2)])) rfl (by rw [hml]; rfl) (argsL := [(.int cc2)]) (rest := []) (lenOf pd__C_Z rfl) rfl (by show 2 * 0 + _ ≤ _; exact Nat.le_of_eq rfl) (hb hby at_198) (fun _ _ => ⟨rfl, e133, (by decide : 4 + 0 ≤ _), (by decide : 16 + 0 ≤ _)⟩)
                  dsimp only [Pt.U, Pt.locs, Pt.cells, Pt.slots] at X134 l134 y134 z134 st134 hQ134
                  subst l134 y134 z134
                  rcases hQ134 with ⟨rfl, N134, e134, y134_0⟩ | ⟨rfl, N134, e134, y134_0⟩
                  · have M134 := Fr.app M133 N134
                    refine Gl.st st134 ?_
                    show Gl p.tables e below _ (T134.setTop (mkF m 201 #[.val (.int p0), .val (.int p1), .val (.int p2), .val (.int p3), .val (.int p4), .val (.int nn), .val (.int cc0), .val (.int cc1), .val (.int cc2), .val (.int cc3), .val (.ref b105), .unset] [(.int 1)]))
                    refine Gl.st (fun _ kq => XS.ifNo X134.here hx rfl (hb hby at_201) rfl ((if0 _ _).trans (feq ((by decide) : ¬ ((1 : Int32) = (0 : Int32)))).1) kq) ?_
                    show Gl p.tables e below _ (T134.setTop (mkF m 204 #[.val (.int p0), .val (.int p1), .val (.int p2), .val (.int p3), .val (.int p4), .val (.int nn), .val (.int cc0), .val (.int cc1), .val (.int cc2), .val (.int cc3), .val (.ref b105), .unset] []))
                    refine Gl.st (fun _ kq => XS.iconst X134.here hx rfl (hb hby at_204) kq) ?_
                    refine Gl.st (fun _ kq => XS.goto X134.here hx rfl (pc0 := 205) (pc' := 209) rfl (hb hby at_205) (by decide) (by decide) kq) ?_
                    refine Gl.st (fun _ kq => XS.istore X134.here hx rfl (hb hby at_209) rfl (l' := #[.val (.int p0), .val (.int p1), .val (.int p2), .val (.int p3), .val (.int p4), .val (.int nn), .val (.int cc0), .val (.int cc1), .val (.int cc2), .val (.int cc3), .val (.ref b105), .val (.int 1)]) rfl kq) ?_
                    refine Gl.st (fun _ kq => XS.goto X134.here hx rfl (pc0 := 211) (pc' := 285) rfl (hb hby at_211) (by decide) (by decide) kq) ?_
                    show Gl p.tables e below _ (T134.setTop (mkF m 285 #[.val (.int p0), .val (.int p1), .val (.int p2), .val (.int p3), .val (.int p4), .val (.int nn), .val (.int cc0), .val (.int cc1), .val (.int cc2), .val (.int cc3), .val (.ref b105), .val (.int 1)] []))
                    exact Jk3u _ _ _ _ hSc hZc hoc (Nat.le_trans (Nat.le_trans (Nat.le_trans (Nat.le_trans (Nat.le_trans (Nat.le_trans hkc E105.1) E109.1) (Keep.of_wr W113).1) (Keep.of_wr W115).1) (Keep.of_wr W117).1) K126.1) C128 (X134.more (by decide) (by decide)) e134 M134  ((1 : Int32)) (Eq.symm ((if_pos (own_37 y132_0)).trans ((if_pos (own_37 y133_0)).trans ((if_pos (own_37 y134_0)).trans rfl))))
                  · have M134 := Fr.app M133 N134
                    refine Gl.st st134 ?_
                    show Gl p.tables e below _ (T134.setTop (mkF m 201 #[.val (.int p0), .val (.int p1), .val (.int p2), .val (.int p3), .val (.int p4), .val (.int nn), .val (.int cc0), .val (.int cc1), .val (.int cc2), .val (.int cc3), .val (.ref b105), .unset] [(.int 0)]))
                    refine Gl.st (fun _ kq => XS.ifYes X134.here hx rfl (pc0 := 201) (pc' := 208) rfl (hb hby at_201) rfl ((if0 _ _).trans (teq ((by decide) : (0 : Int32) = (0 : Int32))).1) (by decide) (by decide) kq) ?_
                    show Gl p.tables e below _ (T134.setTop (mkF m 208 #[.val (.int p0), .val (.int p1), .val (.int p2), .val (.int p3), .val (.int p4), .val (.int nn), .val (.int cc0), .val (.int cc1), .val (.int cc2), .val (.int cc3), .val (.ref b105), .unset] []))
                    refine Gl.st (fun _ kq => XS.iconst X134.here hx rfl (hb hby at_208) kq) ?_
                    refine Gl.st (fun _ kq => XS.istore X134.here hx rfl (hb hby at_209) rfl (l' := #[.val (.int p0), .val (.int p1), .val (.int p2), .val (.int p3), .val (.int p4), .val (.int nn), .val (.int cc0), .val (.int cc1), .val (.int cc2), .val (.int cc3), .val (.ref b105), .val (.int 0)]) rfl kq) ?_
                    refine Gl.st (fun _ kq => XS.goto X134.here hx rfl (pc0 := 211) (pc' := 285) rfl (hb hby at_211) (by decide) (by decide) kq) ?_
                    show Gl p.tables e below _ (T134.setTop (mkF m 285 #[.val (.int p0), .val (.int p1), .val (.int p2), .val (.int p3), .val (.int p4), .val (.int nn), .val (.int cc0), .val (.int cc1), .val (.int cc2), .val (.int cc3), .val (.ref b105), .val (.int 0)] []))
                    exact Jk3u _ _ _ _ hSc hZc hoc (Nat.le_trans (Nat.le_trans (Nat.le_trans (Nat.le_trans (Nat.le_trans (Nat.le_trans hkc E105.1) E109.1) (Keep.of_wr W113).1) (Keep.of_wr W115).1) (Keep.of_wr W117).1) K126.1) C128 (X134.more (by decide) (by decide)) e134 M134  ((0 : Int32)) (Eq.symm ((if_pos (own_37 y132_0)).trans ((if_pos (own_37 y133_0)).trans ((if_neg (own_38 y134_0)).trans rfl))))
                · have M133 := Fr.app M132 N133
                  refine Gl.st st133 ?_
                  show Gl p.tables e below _ (T133.setTop (mkF m 193 #[.val (.int p0), .val (.int p1), .val (.int p2), .val (.int p3), .val (.int p4), .val (.int nn), .val (.int cc0), .val (.int cc1), .val (.int cc2), .val (.int cc3), .val (.ref b105), .unset] [(.int 0)]))
                  refine Gl.st (fun _ kq => XS.ifYes X133.here hx rfl (pc0 := 193) (pc' := 208) rfl (hb hby at_193) rfl ((if0 _ _).trans (teq ((by decide) : (0 : Int32) = (0 : Int32))).1) (by decide) (by decide) kq) ?_
                  show Gl p.tables e below _ (T133.setTop (mkF m 208 #[.val (.int p0), .val (.int p1), .val (.int p2), .val (.int p3), .val (.int p4), .val (.int nn), .val (.int cc0), .val (.int cc1), .val (.int cc2), .val (.int cc3), .val (.ref b105), .unset] []))
                  refine Gl.st (fun _ kq => XS.iconst X133.here hx rfl (hb hby at_208) kq) ?_
                  refine Gl.st (fun _ kq => XS.istore X133.here hx rfl (hb hby at_209) rfl (l' := #[.val (.int p0), .val (.int p1), .val (.int p2), .val (.int p3), .val (.int p4), .val (.int nn), .val (.int cc0), .val (.int cc1), .val (.int cc2), .val (.int cc3), .val (.ref b105), .val (.int 0)]) rfl kq) ?_
                  refine Gl.st (fun _ kq => XS.goto X133.here hx rfl (pc0 := 211) (pc' := 285) rfl (hb hby at_211) (by decide) (by decide) kq) ?_
                  show Gl p.tables e below _ (T133.setTop (mkF m 285 #[.val (.int p0), .val (.int p1), .val (.int p2), .val (.int p3), .val (.int p4), .val (.int nn), .val (.int cc0), .val (.int cc1), .val (.int cc2), .val (.int cc3), .val (.ref b105), .val (.int 0)] []))
                  exact Jk3u _ _ _ _ hSc hZc hoc (Nat.le_trans (Nat.le_trans (Nat.le_trans (Nat.le_trans (Nat.le_trans (Nat.le_trans hkc E105.1) E109.1) (Keep.of_wr W113).1) (Keep.of_wr W115).1) (Keep.of_wr W117).1) K126.1) C128 (X133.more (by decide) (by decide)) e133 M133  ((0 : Int32)) (Eq.symm ((if_pos (own_37 y132_0)).trans ((if_neg (own_38 y133_0)).trans rfl)))
              · have M132 := Fr.app M126 N132
                refine Gl.st st132 ?_
                show Gl p.tables e below _ (T132.setTop (mkF m 185 #[.val (.int p0), .val (.int p1), .val (.int p2), .val (.int p3), .val (.int p4), .val (.int nn), .val (.int cc0), .val (.int cc1), .val (.int cc2), .val (.int cc3), .val (.ref b105), .unset] [(.int 0)]))
                refine Gl.st (fun _ kq => XS.ifYes X132.here hx rfl (pc0 := 185) (pc' := 208) rfl (hb hby at_185) rfl ((if0 _ _).trans (teq ((by decide) : (0 : Int32) = (0 : Int32))).1) (by decide) (by decide) kq) ?_
                show Gl p.tables e below _ (T132.setTop (mkF m 208 #[.val (.int p0), .val (.int p1), .val (.int p2), .val (.int p3), .val (.int p4), .val (.int nn), .val (.int cc0), .val (.int cc1), .val (.int cc2), .val (.int cc3), .val (.ref b105), .unset] []))
                refine Gl.st (fun _ kq => XS.iconst X132.here hx rfl (hb hby at_208) kq) ?_
                refine Gl.st (fun _ kq => XS.istore X132.here hx rfl (hb hby at_209) rfl (l' := #[.val (.int p0), .val (.int p1), .val (.int p2), .val (.int p3), .val (.int p4), .val (.int nn), .val (.int cc0), .val (.int cc1), .val (.int cc2), .val (.int cc3), .val (.ref b105), .val (.int 0)]) rfl kq) ?_
                refine Gl.st (fun _ kq => XS.goto X132.here hx rfl (pc0 := 211) (pc' := 285) rfl (hb hby at_211) (by decide) (by decide) kq) ?_
                show Gl p.tables e below _ (T132.setTop (mkF m 285 #[.val (.int p0), .val (.int p1), .val (.int p2), .val (.int p3), .val (.int p4), .val (.int nn), .val (.int cc0), .val (.int cc1), .val (.int cc2), .val (.int cc3), .val (.ref b105), .val (.int 0)] []))
                exact Jk3u _ _ _ _ hSc hZc hoc (Nat.le_trans (Nat.le_trans (Nat.le_trans (Nat.le_trans (Nat.le_trans (Nat.le_trans hkc E105.1) E109.1) (Keep.of_wr W113).1) (Keep.of_wr W115).1) (Keep.of_wr W117).1) K126.1) C128 (X132.more (by decide) (by decide)) e132 M132  ((0 : Int32)) (Eq.symm ((if_neg (own_38 y132_0)).trans rfl))
            · have hs0 : ¬ ((255 : Int32) < cc0) := fun q => hU (Or.inl q)
              have hs1 : ¬ ((255 : Int32) < cc1) := fun q => hU (Or.inr (Or.inl q))
              have hs2 : ¬ ((255 : Int32) < cc2) := fun q => hU (Or.inr (Or.inr q))
              have f135 : Exa Z h117 b105 "java/lang/String" := ((((A105.ext E109).wr W113).wr W115).wr W117)
              have ne136 : b105 ≠ b109 := Nat.ne_of_lt (Nat.lt_of_lt_of_le A105.lt (Nat.le_of_eq g109.symm))
              have f137 : Fld Z h117 b105 "java/lang/String" "value" "[B" .null := ((((F105_18.ext E109).other W113 (Or.inl ne136)).other W115 (Or.inl ne136)).other W117 (Or.inl ne136))
              have f138 : Fld Z h117 b105 "java/lang/String" "coder" "B" (.int 0) := ((((F105_19.ext E109).other W113 (Or.inl ne136)).other W115 (Or.inl ne136)).other W117 (Or.inl ne136))
              have f139 : Old Z n0 h117 := (((((pf0.ext E105).ext E109).wr W113 g110).wr W115 g110).wr W117 g110)
              have hp140 : ∀ c ∈ ([cc0, cc1, cc2] : List Int32), ¬ c < 0 ∧ ¬ (255 : Int32) < c := (alcS (own_c8 yc_0 hs0) (alcS (own_c8 yc_1 hs1) (alcS (own_c8 yc_2 hs2) alc0)))
              have Sf142 : Safe Z consts_1 vmc h117 b105 := (Safe.wr W117 (Safe.arv hZc.alike V115 (by decide)) C116.1 (Safe.wr W115 (Safe.arv hZc.alike V113 (by decide)) C114.1 (Safe.wr W113 (Safe.arv hZc.alike V109 (by decide)) C112.1 (Safe.ext E109 C108.1 (Safe.ext E105 Cc.1 (Safe.new (EL := consts_1) (vm := vmc) (Nat.le_of_eq g105.symm)))))))
              obtain ⟨_, _, ⟨T141, L141, k141, n141⟩, -, X141, ⟨Lc141, hQ141, l141, y141, z141⟩, st141⟩ := X117.specialBack hx (y := (⟨"java/lang/String", "<init>", "([C)V"⟩ : MethodName)) rfl hoc (mvT hZc (tw hw 6 rfl)) (mvT hZc (tw hw 7 rfl)) (mvT hZc (tw hw 8 rfl)) (by decide) (StrChars.Road.backV (W := 1) hZc (wdNew hw) (kI := 4) (tw hw 3 rfl) (cs := ([cc0, cc1, cc2] : List Int32)) (bs := (([cc0, cc1, cc2] : List Int32).map (fun c => c.toInt8.toInt32))) (n := 3) g106 (Nat.le_trans (Nat.le_trans (Nat.le_trans (Nat.le_trans (Nat.le_trans Z0 E105.1) E109.1) (Keep.of_wr W113).1) (Keep.of_wr W115).1) (Keep.of_wr W117).1) f135 f137 f138 V117 (O2.ext f139.2) P5 rfl rfl (by decide) (by decide) hp140 rfl (by decide) (by decide)) (g := (mkF m 175 #[.val (.int p0), .val (.int p1), .val (.int p2), .val (.int p3), .val (.int p4), .val (.int nn), .val (.int cc0), .val (.int cc1), .val (.int cc2), .val (.int cc3), .unset, .unset] [(.ref b109), (.ref b105), (.ref b105)])) rfl (by rw [hml]; rfl) (Steps.refl _) (a := b105) (argsL := [(.ref b109)]) (rest := [(.ref b105)]) (lenOf pd___C_V rfl) rfl (by show 2 * 0 + _ ≤ _; exact Nat.le_of_eq rfl) (hb hby at_175) (fun _ _ => ⟨rfl, e117, (by decide : 2 + 1 ≤ _), (by decide : 7 + 3 ≤ _)⟩)
              dsimp only [Pt.U, Pt.locs, Pt.cells, Pt.slots] at X141 l141 y141 z141 st141 hQ141
              subst l141 y141 z141
              obtain ⟨rfl, N141, K141, q141_0, q141_1, t140, k140, y141_0, y141_1, y141_2, q141_2, q141_3⟩ := hQ141
              have C143 : CHr Z consts_1 s.vm h0 vmc T141.heap := C118.trans (CHr.keep K141 (sfS Sf142 sf0) C118.1)
              have M141 := Fr.app N117 N141
              have g144 : n0 ≤ t140 := Nat.le_trans (Nat.le_trans (Nat.le_trans (Nat.le_trans (Nat.le_trans (Nat.le_trans Z0 E105.1) E109.1) (Keep.of_wr W113).1) (Keep.of_wr W115).1) (Keep.of_wr W117).1) y141_1
              have s145 : h0.size ≤ t140 := Nat.le_trans (Nat.le_trans (Nat.le_trans (Nat.le_trans (Nat.le_trans (Nat.le_trans (Nat.le_refl _) E105.1) E109.1) (Keep.of_wr W113).1) (Keep.of_wr W115).1) (Keep.of_wr W117).1) y141_1
              refine Gl.to st141 ?_
              show Gl p.tables e below _ (T141.setTop (mkF m 178 #[.val (.int p0), .val (.int p1), .val (.int p2), .val (.int p3), .val (.int p4), .val (.int nn), .val (.int cc0), .val (.int cc1), .val (.int cc2), .val (.int cc3), .unset, .unset] [(.ref b105)]))
              show Gl p.tables e below _ (T141.setTop (mkF m 178 #[.val (.int p0), .val (.int p1), .val (.int p2), .val (.int p3), .val (.int p4), .val (.int nn), .val (.int cc0), .val (.int cc1), .val (.int cc2), .val (.int cc3), .unset, .unset] [(.ref b105)]))
              refine Gl.st (fun _ kq => XS.astore X141.here hx rfl (hb hby at_178) rfl rfl (l' := #[.val (.int p0), .val (.int p1), .val (.int p2), .val (.int p3), .val (.int p4), .val (.int nn), .val (.int cc0), .val (.int cc1), .val (.int cc2), .val (.int cc3), .val (.ref b105), .unset]) rfl kq) ?_
              show Gl p.tables e below _ (T141.setTop (mkF m 180 #[.val (.int p0), .val (.int p1), .val (.int p2), .val (.int p3), .val (.int p4), .val (.int nn), .val (.int cc0), .val (.int cc1), .val (.int cc2), .val (.int cc3), .val (.ref b105), .unset] []))
              have Jk3l : ∀ (Tk3l : State) (Lk3l : List Loc) (vmk3l : Vm) (kk3l : Nat) (hSk3l : s.Since vmk3l kk3l) (hZk3l : Z.Warmed39 vmk3l) (hok3l : vmk3l.findClass "com/example/neighbor_keys/neighborkeys/model/CompositeKeepsOrderPinLaw" = some m.cls) (hkk3l : kk3l ≤ T141.heap.size) (Ck3l : CHr Z consts_1 s.vm h0 vmk3l T141.heap) (Xk3l : Stand p l e room_1 (s.setVm vmk3l) m #[(.int p0), (.int p1), (.int p2), (.int p3), (.int p4)] below meth c Tk3l Lk3l 3 10) (ek3l : Tk3l.heap = T141.heap) (Nk3l : Fr n0 Lk3l) (ex : Int32) (yk3l_0 : ex = own_ko ([cc0, cc1, cc2] : List Int32)), Gl p.tables e below (EndH s Z consts_1 (Q_law Z p0 p1 p2 p3 p4 Y1 Y3 h0 n0) room_1.cells room_1.slots) (Tk3l.setTop (mkF m 285 #[.val (.int p0), .val (.int p1), .val (.int p2), .val (.int p3), .val (.int p4), .val (.int nn), .val (.int cc0), .val (.int cc1), .val (.int cc2), .val (.int cc3), .val (.ref b105), .val (.int ex)] [])) := by
                intro Tk3l Lk3l vmk3l kk3l hSk3l hZk3l hok3l hkk3l Ck3l Xk3l ek3l Nk3l ex yk3l_0
                show Gl p.tables e below _ (Tk3l.setTop (mkF m 285 #[.val (.int p0), .val (.int p1), .val (.int p2), .val (.int p3), .val (.int p4), .val (.int nn), .val (.int cc0), .val (.int cc1), .val (.int cc2), .val (.int cc3), .val (.ref b105), .val (.int ex)] []))
                refine Gl.st (fun _ kq => XS.aload Xk3l.here hx rfl (hb hby at_285) rfl rfl kq) ?_
                show Gl p.tables e below _ (Tk3l.setTop (mkF m 287 #[.val (.int p0), .val (.int p1), .val (.int p2), .val (.int p3), .val (.int p4), .val (.int nn), .val (.int cc0), .val (.int cc1), .val (.int cc2), .val (.int cc3), .val (.ref b105), .val (.int ex)] [(.ref b105)]))
                have f146 : Old Z n0 T141.heap := (f139.keep K141 (allS g106 all0))
                obtain ⟨_, _, ⟨T148, L148, k148, n148⟩, -, X148, ⟨Lc148, hQ148, l148, y148, z148⟩, st148⟩ := Jvm.LawKit.callS Xk3l hx (y := (⟨"com/example/neighbor_keys/neighborkeys/model/Composite", "keepsOrder", "(Ljava/lang/String;)Z"⟩ : MethodName)) hok3l (mvT hZk3l (tw hw 24 rfl)) (mvT hZk3l (tw hw 25 rfl)) (mvT hZk3l (tw hw 26 rfl)) (mvT hZk3l (tw hw 27 rfl)) (by decide) (backOf (W := 0) (rm_kl l Z a0 hw [] (b105) (t140) (k140) (([cc0, cc1, cc2] : List Int32)) (Y1) (Y3) T141.heap n0 (Nat.le_trans (Nat.le_trans (Nat.le_trans (Nat.le_trans (Nat.le_trans (Nat.le_trans Z0 E105.1) E109.1) (Keep.of_wr W113).1) (Keep.of_wr W115).1) (Keep.of_wr W117).1) K141.1) q141_0 q141_1 q141_2 q141_3 f146 (Nat.le_of_ble_eq_true rfl) (alcS yc_0 (alcS yc_1 (alcS yc_2 alc0))) (alcS hs0 (alcS hs1 (alcS hs2 alc0))) O2 P5 O4 rG3) hZk3l (tw hw 27 rfl) (tw hw 26 rfl) (by decide) (by decide)) (g := (mkF m 287 #[.val (.int p0), .val (.int p1), .val (.int p2), .val (.int p3), .val (.int p4), .val (.int nn), .val (.int cc0), .val (.int cc1), .val (.int cc2), .val (.int cc3), .val (.ref b105), .val (.int ex)] [(.ref b105)])) rfl (by rw [hml]; rfl) (argsL := [(.ref b105)]) (rest := []) (lenOf pd__Ljava_lang_String__Z rfl) rfl (by show 2 * 0 + _ ≤ _; exact Nat.le_of_eq rfl) (hb hby at_287) (fun _ _ => ⟨rfl, ek3l, (by decide : 3 + 0 ≤ _), (by decide : 10 + 0 ≤ _)⟩)
                dsimp only [Pt.U, Pt.locs, Pt.cells, Pt.slots] at X148 l148 y148 z148 st148 hQ148
                subst l148 y148 z148
                obtain ⟨v147, rfl, N148, e148, y148_0⟩ := hQ148
                have M148 := Fr.app Nk3l N148
                refine Gl.st st148 ?_
                show Gl p.tables e below _ (T148.setTop (mkF m 290 #[.val (.int p0), .val (.int p1), .val (.int p2), .val (.int p3), .val (.int p4), .val (.int nn), .val (.int cc0), .val (.int cc1), .val (.int cc2), .val (.int cc3), .val (.ref b105), .val (.int ex)] [(.int v147)]))
                show Gl p.tables e below _ (T148.setTop (mkF m 290 #[.val (.int p0), .val (.int p1), .val (.int p2), .val (.int p3), .val (.int p4), .val (.int nn), .val (.int cc0), .val (.int cc1), .val (.int cc2), .val (.int cc3), .val (.ref b105), .val (.int ex)] [(.int v147)]))
                refine Gl.st (fun _ kq => XS.iload X148.here hx rfl (hb hby at_290) rfl kq) ?_
                show Gl p.tables e below _ (T148.setTop (mkF m 292 #[.val (.int p0), .val (.int p1), .val (.int p2), .val (.int p3), .val (.int p4), .val (.int nn), .val (.int cc0), .val (.int cc1), .val (.int cc2), .val (.int cc3), .val (.ref b105), .val (.int ex)] [(.int ex), (.int v147)]))
                refine Gl.st (fun _ kq => XS.icmpNo X148.here hx rfl (hb hby at_292) rfl (teq ((y148_0.trans yk3l_0.symm) : v147 = ex)).2 kq) ?_
                show Gl p.tables e below _ (T148.setTop (mkF m 295 #[.val (.int p0), .val (.int p1), .val (.int p2), .val (.int p3), .val (.int p4), .val (.int nn), .val (.int cc0), .val (.int cc1), .val (.int cc2), .val (.int cc3), .val (.ref b105), .val (.int ex)] []))
                refine Gl.st (fun _ kq => XS.iconst X148.here hx rfl (hb hby at_295) kq) ?_
                refine Gl.st (fun _ kq => XS.goto X148.here hx rfl (pc0 := 296) (pc' := 300) rfl (hb hby at_296) (by decide) (by decide) kq) ?_
                exact Gl.retNH X148 hx hSk3l (Nat.le_trans hkk3l (Nat.le_of_eq (congrArg Array.size e148).symm)) (by rw [hh, e148]; exact Ck3l.trans (CHv.at X148 hZk3l (elW hw) Ck3l.1)) (t := .boolean) Bd.returns (by simp) (hb hby at_300) hlk (by decide) (by decide) (by rw [e148]; exact ⟨rfl, M148⟩)
              refine Gl.st (fun _ kq => XS.iload X141.here hx rfl (hb hby at_180) rfl kq) ?_
              show Gl p.tables e below _ (T141.setTop (mkF m 182 #[.val (.int p0), .val (.int p1), .val (.int p2), .val (.int p3), .val (.int p4), .val (.int nn), .val (.int cc0), .val (.int cc1), .val (.int cc2), .val (.int cc3), .val (.ref b105), .unset] [(.int cc0)]))
              obtain ⟨_, _, ⟨T149, L149, k149, n149⟩, -, X149, ⟨Lc149, hQ149, l149, y149, z149⟩, st149⟩ := Jvm.LawKit.callS X141 hx (y := (⟨"com/example/neighbor_keys/neighborkeys/model/CompositeKeepsOrderPinLaw", "above", "(C)Z"⟩ : MethodName)) hoc (mvT hZc (tw hw 49 rfl)) (mvT hZc (tw hw 50 rfl)) (mvT hZc (tw hw 51 rfl)) (mvT hZc (tw hw 52 rfl)) (by decide) (backOf (W := 0) (rm_ab l Z a0 hw [] (cc0) T141.heap n0 (Nat.le_trans (Nat.le_trans (Nat.le_trans (Nat.le_trans (Nat.le_trans (Nat.le_trans Z0 E105.1) E109.1) (Keep.of_wr W113).1) (Keep.of_wr W115).1) (Keep.of_wr W117).1) K141.1) ) hZc (tw hw 52 rfl) (tw hw 51 rfl) (by decide) (by decide)) (g := (mkF m 182 #[.val (.int p0), .val (.int p1), .val (.int p2), .val (.int p3), .val (.int p4), .val (.int nn), .val (.int cc0), .val (.int cc1), .val (.int cc2), .val (.int cc3), .val (.ref b105), .unset] [(.int cc0)])) rfl (by rw [hml]; rfl) (argsL := [(.int cc0)]) (rest := []) (lenOf pd__C_Z rfl) rfl (by show 2 * 0 + _ ≤ _; exact Nat.le_of_eq rfl) (hb hby at_182) (fun _ _ => ⟨rfl, rfl, (by decide : 3 + 0 ≤ _), (by decide : 10 + 0 ≤ _)⟩)
              dsimp only [Pt.U, Pt.locs, Pt.cells, Pt.slots] at X149 l149 y149 z149 st149 hQ149
              subst l149 y149 z149
              rcases hQ149 with ⟨rfl, N149, e149, y149_0⟩ | ⟨rfl, N149, e149, y149_0⟩
              · have M149 := Fr.app M141 N149
                refine Gl.st st149 ?_
                show Gl p.tables e below _ (T149.setTop (mkF m 185 #[.val (.int p0), .val (.int p1), .val (.int p2), .val (.int p3), .val (.int p4), .val (.int nn), .val (.int cc0), .val (.int cc1), .val (.int cc2), .val (.int cc3), .val (.ref b105), .unset] [(.int 1)]))
                refine Gl.st (fun _ kq => XS.ifNo X149.here hx rfl (hb hby at_185) rfl ((if0 _ _).trans (feq ((by decide) : ¬ ((1 : Int32) = (0 : Int32)))).1) kq) ?_
                show Gl p.tables e below _ (T149.setTop (mkF m 188 #[.val (.int p0), .val (.int p1), .val (.int p2), .val (.int p3), .val (.int p4), .val (.int nn), .val (.int cc0), .val (.int cc1), .val (.int cc2), .val (.int cc3), .val (.ref b105), .unset] []))
                refine Gl.st (fun _ kq => XS.iload X149.here hx rfl (hb hby at_188) rfl kq) ?_
                show Gl p.tables e below _ (T149.setTop (mkF m 190 #[.val (.int p0), .val (.int p1), .val (.int p2), .val (.int p3), .val (.int p4), .val (.int nn), .val (.int cc0), .val (.int cc1), .val (.int cc2), .val (.int cc3), .val (.ref b105), .unset] [(.int cc1)]))
                obtain ⟨_, _, ⟨T150, L150, k150, n150⟩, -, X150, ⟨Lc150, hQ150, l150, y150, z150⟩, st150⟩ := Jvm.LawKit.callS X149 hx (y := (⟨"com/example/neighbor_keys/neighborkeys/model/CompositeKeepsOrderPinLaw", "above", "(C)Z"⟩ : MethodName)) hoc (mvT hZc (tw hw 49 rfl)) (mvT hZc (tw hw 50 rfl)) (mvT hZc (tw hw 51 rfl)) (mvT hZc (tw hw 52 rfl)) (by decide) (backOf (W := 0) (rm_ab l Z a0 hw [] (cc1) T141.heap n0 (Nat.le_trans (Nat.le_trans (Nat.le_trans (Nat.le_trans (Nat.le_trans (Nat.le_trans Z0 E105.1) E109.1) (Keep.of_wr W113).1) (Keep.of_wr W115).1) (Keep.of_wr W117).1) K141.1) ) hZc (tw hw 52 rfl) (tw hw 51 rfl) (by decide) (by decide)) (g := (mkF m 190 #[.val (.int p0), .val (.int p1), .val (.int p2), .val (.int p3), .val (.int p4), .val (.int nn), .val (.int cc0), .val (.int cc1), .val (.int cc2), .val (.int cc3), .val (.ref b105), .unset] [(.int cc1)])) rfl (by rw [hml]; rfl) (argsL := [(.int cc1)]) (rest := []) (lenOf pd__C_Z rfl) rfl (by show 2 * 0 + _ ≤ _; exact Nat.le_of_eq rfl) (hb hby at_190) (fun _ _ => ⟨rfl, e149, (by decide : 3 + 0 ≤ _), (by decide : 10 + 0 ≤ _)⟩)
                dsimp only [Pt.U, Pt.locs, Pt.cells, Pt.slots] at X150 l150 y150 z150 st150 hQ150
                subst l150 y150 z150
                rcases hQ150 with ⟨rfl, N150, e150, y150_0⟩ | ⟨rfl, N150, e150, y150_0⟩
                · have M150 := Fr.app M149 N150
                  refine Gl.st st150 ?_
                  show Gl p.tables e below _ (T150.setTop (mkF m 193 #[.val (.int p0), .val (.int p1), .val (.int p2), .val (.int p3), .val (.int p4), .val (.int nn), .val (.int cc0), .val (.int cc1), .val (.int cc2), .val (.int cc3), .val (.ref b105), .unset] [(.int 1)]))
                  refine Gl.st (fun _ kq => XS.ifNo X150.here hx rfl (hb hby at_193) rfl ((if0 _ _).trans (feq ((by decide) : ¬ ((1 : Int32) = (0 : Int32)))).1) kq) ?_
                  show Gl p.tables e below _ (T150.setTop (mkF m 196 #[.val (.int p0), .val (.int p1), .val (.int p2), .val (.int p3), .val (.int p4), .val (.int nn), .val (.int cc0), .val (.int cc1), .val (.int cc2), .val (.int cc3), .val (.ref b105), .unset] []))
                  refine Gl.st (fun _ kq => XS.iload X150.here hx rfl (hb hby at_196) rfl kq) ?_
                  show Gl p.tables e below _ (T150.setTop (mkF m 198 #[.val (.int p0), .val (.int p1), .val (.int p2), .val (.int p3), .val (.int p4), .val (.int nn), .val (.int cc0), .val (.int cc1), .val (.int cc2), .val (.int cc3), .val (.ref b105), .unset] [(.int cc2)]))
                  obtain ⟨_, _, ⟨T151, L151, k151, n151⟩, -, X151, ⟨Lc151, hQ151, l151, y151, z151⟩, st151⟩ := Jvm.LawKit.callS X150 hx (y := (⟨"com/example/neighbor_keys/neighborkeys/model/CompositeKeepsOrderPinLaw", "above", "(C)Z"⟩ : MethodName)) hoc (mvT hZc (tw hw 49 rfl)) (mvT hZc (tw hw 50 rfl)) (mvT hZc (tw hw 51 rfl)) (mvT hZc (tw hw 52 rfl)) (by decide) (backOf (W := 0) (rm_ab l Z a0 hw [] (cc2) T141.heap n0 (Nat.le_trans (Nat.le_trans (Nat.le_trans (Nat.le_trans (Nat.le_trans (Nat.le_trans Z0 E105.1) E109.1) (Keep.of_wr W113).1) (Keep.of_wr W115).1) (Keep.of_wr W117).1) K141.1) ) hZc (tw hw 52 rfl) (tw hw 51 rfl) (by decide) (by decide)) (g := (mkF m 198 #[.val (.int p0), .val (.int p1), .val (.int p2), .val (.int p3), .val (.int p4), .val (.int nn), .val (.int cc0), .val (.int cc1), .val (.int cc2), .val (.int cc3), .val (.ref b105), .unset] [(.int cc2)])) rfl (by rw [hml]; rfl) (argsL := [(.int cc2)]) (rest := []) (lenOf pd__C_Z rfl) rfl (by show 2 * 0 + _ ≤ _; exact Nat.le_of_eq rfl) (hb hby at_198) (fun _ _ => ⟨rfl, e150, (by decide : 3 + 0 ≤ _), (by decide : 10 + 0 ≤ _)⟩)
                  dsimp only [Pt.U, Pt.locs, Pt.cells, Pt.slots] at X151 l151 y151 z151 st151 hQ151
                  subst l151 y151 z151
                  rcases hQ151 with ⟨rfl, N151, e151, y151_0⟩ | ⟨rfl, N151, e151, y151_0⟩
                  · have M151 := Fr.app M150 N151
                    refine Gl.st st151 ?_
                    show Gl p.tables e below _ (T151.setTop (mkF m 201 #[.val (.int p0), .val (.int p1), .val (.int p2), .val (.int p3), .val (.int p4), .val (.int nn), .val (.int cc0), .val (.int cc1), .val (.int cc2), .val (.int cc3), .val (.ref b105), .unset] [(.int 1)]))
                    refine Gl.st (fun _ kq => XS.ifNo X151.here hx rfl (hb hby at_201) rfl ((if0 _ _).trans (feq ((by decide) : ¬ ((1 : Int32) = (0 : Int32)))).1) kq) ?_
                    show Gl p.tables e below _ (T151.setTop (mkF m 204 #[.val (.int p0), .val (.int p1), .val (.int p2), .val (.int p3), .val (.int p4), .val (.int nn), .val (.int cc0), .val (.int cc1), .val (.int cc2), .val (.int cc3), .val (.ref b105), .unset] []))
                    refine Gl.st (fun _ kq => XS.iconst X151.here hx rfl (hb hby at_204) kq) ?_
                    refine Gl.st (fun _ kq => XS.goto X151.here hx rfl (pc0 := 205) (pc' := 209) rfl (hb hby at_205) (by decide) (by decide) kq) ?_
                    refine Gl.st (fun _ kq => XS.istore X151.here hx rfl (hb hby at_209) rfl (l' := #[.val (.int p0), .val (.int p1), .val (.int p2), .val (.int p3), .val (.int p4), .val (.int nn), .val (.int cc0), .val (.int cc1), .val (.int cc2), .val (.int cc3), .val (.ref b105), .val (.int 1)]) rfl kq) ?_
                    refine Gl.st (fun _ kq => XS.goto X151.here hx rfl (pc0 := 211) (pc' := 285) rfl (hb hby at_211) (by decide) (by decide) kq) ?_
                    show Gl p.tables e below _ (T151.setTop (mkF m 285 #[.val (.int p0), .val (.int p1), .val (.int p2), .val (.int p3), .val (.int p4), .val (.int nn), .val (.int cc0), .val (.int cc1), .val (.int cc2), .val (.int cc3), .val (.ref b105), .val (.int 1)] []))
                    exact Jk3l _ _ _ _ hSc hZc hoc (Nat.le_trans (Nat.le_trans (Nat.le_trans (Nat.le_trans (Nat.le_trans (Nat.le_trans hkc E105.1) E109.1) (Keep.of_wr W113).1) (Keep.of_wr W115).1) (Keep.of_wr W117).1) K141.1) C143 (X151.more (by decide) (by decide)) e151 M151  ((1 : Int32)) (Eq.symm ((if_pos (own_37 y149_0)).trans ((if_pos (own_37 y150_0)).trans ((if_pos (own_37 y151_0)).trans rfl))))
                  · have M151 := Fr.app M150 N151
                    refine Gl.st st151 ?_
                    show Gl p.tables e below _ (T151.setTop (mkF m 201 #[.val (.int p0), .val (.int p1), .val (.int p2), .val (.int p3), .val (.int p4), .val (.int nn), .val (.int cc0), .val (.int cc1), .val (.int cc2), .val (.int cc3), .val (.ref b105), .unset] [(.int 0)]))
                    refine Gl.st (fun _ kq => XS.ifYes X151.here hx rfl (pc0 := 201) (pc' := 208) rfl (hb hby at_201) rfl ((if0 _ _).trans (teq ((by decide) : (0 : Int32) = (0 : Int32))).1) (by decide) (by decide) kq) ?_
                    show Gl p.tables e below _ (T151.setTop (mkF m 208 #[.val (.int p0), .val (.int p1), .val (.int p2), .val (.int p3), .val (.int p4), .val (.int nn), .val (.int cc0), .val (.int cc1), .val (.int cc2), .val (.int cc3), .val (.ref b105), .unset] []))
                    refine Gl.st (fun _ kq => XS.iconst X151.here hx rfl (hb hby at_208) kq) ?_
                    refine Gl.st (fun _ kq => XS.istore X151.here hx rfl (hb hby at_209) rfl (l' := #[.val (.int p0), .val (.int p1), .val (.int p2), .val (.int p3), .val (.int p4), .val (.int nn), .val (.int cc0), .val (.int cc1), .val (.int cc2), .val (.int cc3), .val (.ref b105), .val (.int 0)]) rfl kq) ?_
                    refine Gl.st (fun _ kq => XS.goto X151.here hx rfl (pc0 := 211) (pc' := 285) rfl (hb hby at_211) (by decide) (by decide) kq) ?_
                    show Gl p.tables e below _ (T151.setTop (mkF m 285 #[.val (.int p0), .val (.int p1), .val (.int p2), .val (.int p3), .val (.int p4), .val (.int nn), .val (.int cc0), .val (.int cc1), .val (.int cc2), .val (.int cc3), .val (.ref b105), .val (.int 0)] []))
                    exact Jk3l _ _ _ _ hSc hZc hoc (Nat.le_trans (Nat.le_trans (Nat.le_trans (Nat.le_trans (Nat.le_trans (Nat.le_trans hkc E105.1) E109.1) (Keep.of_wr W113).1) (Keep.of_wr W115).1) (Keep.of_wr W117).1) K141.1) C143 (X151.more (by decide) (by decide)) e151 M151  ((0 : Int32)) (Eq.symm ((if_pos (own_37 y149_0)).trans ((if_pos (own_37 y150_0)).trans ((if_neg (own_38 y151_0)).trans rfl))))
                · have M150 := Fr.app M149 N150
                  refine Gl.st st150 ?_
                  show Gl p.tables e below _ (T150.setTop (mkF m 193 #[.val (.int p0), .val (.int p1), .val (.int p2), .val (.int p3), .val (.int p4), .val (.int nn), .val (.int cc0), .val (.int cc1), .val (.int cc2), .val (.int cc3), .val (.ref b105), .unset] [(.int 0)]))
                  refine Gl.st (fun _ kq => XS.ifYes X150.here hx rfl (pc0 := 193) (pc' := 208) rfl (hb hby at_193) rfl ((if0 _ _).trans (teq ((by decide) : (0 : Int32) = (0 : Int32))).1) (by decide) (by decide) kq) ?_
                  show Gl p.tables e below _ (T150.setTop (mkF m 208 #[.val (.int p0), .val (.int p1), .val (.int p2), .val (.int p3), .val (.int p4), .val (.int nn), .val (.int cc0), .val (.int cc1), .val (.int cc2), .val (.int cc3), .val (.ref b105), .unset] []))
                  refine Gl.st (fun _ kq => XS.iconst X150.here hx rfl (hb hby at_208) kq) ?_
                  refine Gl.st (fun _ kq => XS.istore X150.here hx rfl (hb hby at_209) rfl (l' := #[.val (.int p0), .val (.int p1), .val (.int p2), .val (.int p3), .val (.int p4), .val (.int nn), .val (.int cc0), .val (.int cc1), .val (.int cc2), .val (.int cc3), .val (.ref b105), .val (.int 0)]) rfl kq) ?_
                  refine Gl.st (fun _ kq => XS.goto X150.here hx rfl (pc0 := 211) (pc' := 285) rfl (hb hby at_211) (by decide) (by decide) kq) ?_
                  show Gl p.tables e below _ (T150.setTop (mkF m 285 #[.val (.int p0), .val (.int p1), .val (.int p2), .val (.int p3), .val (.int p4), .val (.int nn), .val (.int cc0), .val (.int cc1), .val (.int cc2), .val (.int cc3), .val (.ref b105), .val (.int 0)] []))
                  exact Jk3l _ _ _ _ hSc hZc hoc (Nat.le_trans (Nat.le_trans (Nat.le_trans (Nat.le_trans (Nat.le_trans (Nat.le_trans hkc E105.1) E109.1) (Keep.of_wr W113).1) (Keep.of_wr W115).1) (Keep.of_wr W117).1) K141.1) C143 (X150.more (by decide) (by decide)) e150 M150  ((0 : Int32)) (Eq.symm ((if_pos (own_37 y149_0)).trans ((if_neg (own_38 y150_0)).trans rfl)))
              · have M149 := Fr.app M141 N149
                refine Gl.st st149 ?_
                show Gl p.tables e below _ (T149.setTop (mkF m 185 #[.val (.int p0), .val (.int p1), .val (.int p2), .val (.int p3), .val (.int p4), .val (.int nn), .val (.int cc0), .val (.int cc1), .val (.int cc2), .val (.int cc3), .val (.ref b105), .unset] [(.int 0)]))
                refine Gl.st (fun _ kq => XS.ifYes X149.here hx rfl (pc0 := 185) (pc' := 208) rfl (hb hby at_185) rfl ((if0 _ _).trans (teq ((by decide) : (0 : Int32) = (0 : Int32))).1) (by decide) (by decide) kq) ?_
                show Gl p.tables e below _ (T149.setTop (mkF m 208 #[.val (.int p0), .val (.int p1), .val (.int p2), .val (.int p3), .val (.int p4), .val (.int nn), .val (.int cc0), .val (.int cc1), .val (.int cc2), .val (.int cc3), .val (.ref b105), .unset] []))
                refine Gl.st (fun _ kq => XS.iconst X149.here hx rfl (hb hby at_208) kq) ?_
                refine Gl.st (fun _ kq => XS.istore X149.here hx rfl (hb hby at_209) rfl (l' := #[.val (.int p0), .val (.int p1), .val (.int p2), .val (.int p3), .val (.int p4), .val (.int nn), .val (.int cc0), .val (.int cc1), .val (.int cc2), .val (.int cc3), .val (.ref b105), .val (.int 0)]) rfl kq) ?_
                refine Gl.st (fun _ kq => XS.goto X149.here hx rfl (pc0 := 211) (pc' := 285) rfl (hb hby at_211) (by decide) (by decide) kq) ?_
                show Gl p.tables e below _ (T149.setTop (mkF m 285 #[.val (.int p0), .val (.int p1), .val (.int p2), .val (.int p3), .val (.int p4), .val (.int nn), .val (.int cc0), .val (.int cc1), .val (.int cc2), .val (.int cc3), .val (.ref b105), .val (.int 0)] []))
                exact Jk3l _ _ _ _ hSc hZc hoc (Nat.le_trans (Nat.le_trans (Nat.le_trans (Nat.le_trans (Nat.le_trans (Nat.le_trans hkc E105.1) E109.1) (Keep.of_wr W113).1) (Keep.of_wr W115).1) (Keep.of_wr W117).1) K141.1) C143 (X149.more (by decide) (by decide)) e149 M149  ((0 : Int32)) (Eq.symm ((if_neg (own_38 y149_0)).trans rfl))
          · refine Gl.st (fun _ kq => XS.icmpYes Xc.here hx rfl (pc0 := 150) (pc' := 214) rfl (hb hby at_150) rfl (feq (hc104 : ¬ (nn = (3 : Int32)))).2 (by decide) (by decide) kq) ?_
            show Gl p.tables e below _ (Tc.setTop (mkF m 214 #[.val (.int p0), .val (.int p1), .val (.int p2), .val (.int p3), .val (.int p4), .val (.int nn), .val (.int cc0), .val (.int cc1), .val (.int cc2), .val (.int cc3), .unset, .unset] []))
            obtain ⟨T152, h152, X152, e152, E152, A152, D152, U152, st152⟩ := newO Xc hx hZc hoc (tw hw 2 rfl) (tw hw 3 rfl) (tw hw 4 rfl) ec (g := (mkF m 214 #[.val (.int p0), .val (.int p1), .val (.int p2), .val (.int p3), .val (.int p4), .val (.int nn), .val (.int cc0), .val (.int cc1), .val (.int cc2), .val (.int cc3), .unset, .unset] [])) rfl (hb hby at_214) (by decide) (by decide)
            obtain ⟨b152, g152⟩ : ∃ z, z = h0.size := ⟨_, rfl⟩
            rw [← g152] at A152 D152 U152 st152
            refine Gl.st st152 ?_
            have g153 : n0 ≤ b152 := Nat.le_trans Z0 (Nat.le_of_eq g152.symm)
            have s154 : h0.size ≤ b152 := Nat.le_trans (Nat.le_refl _) (Nat.le_of_eq g152.symm)
            have C155 : CHr Z consts_1 s.vm h0 vmc h152 := Cc.trans (CHr.ext E152 Cc.1)
            have F152_18 : Fld Z h152 b152 "java/lang/String" "value" "[B" .null := D152 (Or.inr (tw hw 18 rfl)) (ty := (.array .byte)) (by decide)
            have F152_19 : Fld Z h152 b152 "java/lang/String" "coder" "B" (.int 0) := D152 (Or.inr (tw hw 19 rfl)) (ty := .byte) (by decide)
            show Gl p.tables e below _ (T152.setTop (mkF m 217 #[.val (.int p0), .val (.int p1), .val (.int p2), .val (.int p3), .val (.int p4), .val (.int nn), .val (.int cc0), .val (.int cc1), .val (.int cc2), .val (.int cc3), .unset, .unset] [(.ref b152)]))
            refine Gl.st (fun _ kq => XS.dup X152.here hx rfl (hb hby at_217) rfl rfl kq) ?_
            refine Gl.st (fun _ kq => XS.iconst X152.here hx rfl (hb hby at_218) kq) ?_
            show Gl p.tables e below _ (T152.setTop (mkF m 219 #[.val (.int p0), .val (.int p1), .val (.int p2), .val (.int p3), .val (.int p4), .val (.int nn), .val (.int cc0), .val (.int cc1), .val (.int cc2), .val (.int cc3), .unset, .unset] [(.int 4), (.ref b152), (.ref b152)]))
            obtain ⟨T156, h156, k156, X156, e156, E156, A156, st156⟩ := newP X152 hx hZc (tw hw 5 rfl) e152 (g := (mkF m 219 #[.val (.int p0), .val (.int p1), .val (.int p2), .val (.int p3), .val (.int p4), .val (.int nn), .val (.int cc0), .val (.int cc1), .val (.int cc2), .val (.int cc3), .unset, .unset] [(.int 4), (.ref b152), (.ref b152)])) rfl (hb hby at_219) rfl (by decide) (cap := 4) (by decide) (by decide) (by decide) (by decide)
            obtain ⟨b156, g156⟩ : ∃ z, z = h152.size := ⟨_, rfl⟩
            rw [← g156] at A156 st156
            refine Gl.st st156 ?_
            have g157 : n0 ≤ b156 := Nat.le_trans (Nat.le_trans Z0 E152.1) (Nat.le_of_eq g156.symm)
            have s158 : h0.size ≤ b156 := Nat.le_trans (Nat.le_trans (Nat.le_refl _) E152.1) (Nat.le_of_eq g156.symm)
            have C159 : CHr Z consts_1 s.vm h0 vmc h156 := C155.trans (CHr.ext E156 C155.1)
            have V156 : Arv Z h156 b156 k156 .char (4 : Int32) [(.int 0), (.int 0), (.int 0), (.int 0)] (.int 0) := (Arv.new A156 (by decide)).pad (pad_rep [] (.int 0) 4)
            show Gl p.tables e below _ (T156.setTop (mkF m 221 #[.val (.int p0), .val (.int p1), .val (.int p2), .val (.int p3), .val (.int p4), .val (.int nn), .val (.int cc0), .val (.int cc1), .val (.int cc2), .val (.int cc3), .unset, .unset] [(.ref b156), (.ref b152), (.ref b152)]))
            refine Gl.st (fun _ kq => XS.dup X156.here hx rfl (hb hby at_221) rfl rfl kq) ?_
            refine Gl.st (fun _ kq => XS.iconst X156.here hx rfl (hb hby at_222) kq) ?_
            refine Gl.st (fun _ kq => XS.iload X156.here hx rfl (hb hby at_223) rfl kq) ?_
            show Gl p.tables e below _ (T156.setTop (mkF m 225 #[.val (.int p0), .val (.int p1), .val (.int p2), .val (.int p3), .val (.int p4), .val (.int nn), .val (.int cc0), .val (.int cc1), .val (.int cc2), .val (.int cc3), .unset, .unset] [(.int cc0), (.int 0), (.ref b156), (.ref b156), (.ref b152), (.ref b152)]))
            obtain ⟨c160, a160, q160, S160, M160, H160, G160⟩ := id V156
            obtain ⟨T160, h160, X160, e160, W160, st160⟩ := stC X156 hx hZc e156 a160 (j := (0 : Int32)) (inb_of S160 ⟨by decide, by decide⟩) (g := (mkF m 225 #[.val (.int p0), .val (.int p1), .val (.int p2), .val (.int p3), .val (.int p4), .val (.int nn), .val (.int cc0), .val (.int cc1), .val (.int cc2), .val (.int cc3), .unset, .unset] [(.int cc0), (.int 0), (.ref b156), (.ref b156), (.ref b152), (.ref b152)])) rfl rfl (hb hby at_225)
            refine Gl.st st160 ?_
            have C161 : CHr Z consts_1 s.vm h0 vmc h160 := C159.trans (CHr.wr W160 (Safe.arv hZc.alike V156 (by decide)) C159.1)
            have V160 : Arv Z h160 b156 k156 .char (4 : Int32) [(.int cc0), (.int 0), (.int 0), (.int 0)] (.int 0) := by
              have q := Arv.set a160 q160 S160 M160 H160 G160 (fits_nar_char _) W160 0 rfl (Nat.le_of_ble_eq_true rfl)
              rw [nar16 yc_0] at q
              exact q
            have N160 := Fr.snoc X160 Nc g157
            show Gl p.tables e below _ (T160.setTop (mkF m 226 #[.val (.int p0), .val (.int p1), .val (.int p2), .val (.int p3), .val (.int p4), .val (.int nn), .val (.int cc0), .val (.int cc1), .val (.int cc2), .val (.int cc3), .unset, .unset] [(.ref b156), (.ref b152), (.ref b152)]))
            refine Gl.st (fun _ kq => XS.dup X160.here hx rfl (hb hby at_226) rfl rfl kq) ?_
            refine Gl.st (fun _ kq => XS.iconst X160.here hx rfl (hb hby at_227) kq) ?_
            refine Gl.st (fun _ kq => XS.iload X160.here hx rfl (hb hby at_228) rfl kq) ?_
            show Gl p.tables e below _ (T160.setTop (mkF m 230 #[.val (.int p0), .val (.int p1), .val (.int p2), .val (.int p3), .val (.int p4), .val (.int nn), .val (.int cc0), .val (.int cc1), .val (.int cc2), .val (.int cc3), .unset, .unset] [(.int cc1), (.int 1), (.ref b156), (.ref b156), (.ref b152), (.ref b152)]))
            obtain ⟨c162, a162, q162, S162, M162, H162, G162⟩ := id V160
            obtain ⟨T162, h162, X162, e162, W162, st162⟩ := stC X160 hx hZc e160 a162 (j := (1 : Int32)) (inb_of S162 ⟨by decide, by decide⟩) (g := (mkF m 230 #[.val (.int p0), .val (.int p1), .val (.int p2), .val (.int p3), .val (.int p4), .val (.int nn), .val (.int cc0), .val (.int cc1), .val (.int cc2), .val (.int cc3), .unset, .unset] [(.int cc1), (.int 1), (.ref b156), (.ref b156), (.ref b152), (.ref b152)])) rfl rfl (hb hby at_230)
            refine Gl.st st162 ?_
            have C163 : CHr Z consts_1 s.vm h0 vmc h162 := C161.trans (CHr.wr W162 (Safe.arv hZc.alike V160 (by decide)) C161.1)
            have V162 : Arv Z h162 b156 k156 .char (4 : Int32) [(.int cc0), (.int cc1), (.int 0), (.int 0)] (.int 0) := by
              have q := Arv.set a162 q162 S162 M162 H162 G162 (fits_nar_char _) W162 1 rfl (Nat.le_of_ble_eq_true rfl)
              rw [nar16 yc_1] at q
              exact q
            have N162 := Fr.snoc X162 N160 g157
            show Gl p.tables e below _ (T162.setTop (mkF m 231 #[.val (.int p0), .val (.int p1), .val (.int p2), .val (.int p3), .val (.int p4), .val (.int nn), .val (.int cc0), .val (.int cc1), .val (.int cc2), .val (.int cc3), .unset, .unset] [(.ref b156), (.ref b152), (.ref b152)]))
            refine Gl.st (fun _ kq => XS.dup X162.here hx rfl (hb hby at_231) rfl rfl kq) ?_
            refine Gl.st (fun _ kq => XS.iconst X162.here hx rfl (hb hby at_232) kq) ?_
            refine Gl.st (fun _ kq => XS.iload X162.here hx rfl (hb hby at_233) rfl kq) ?_
            show Gl p.tables e below _ (T162.setTop (mkF m 235 #[.val (.int p0), .val (.int p1), .val (.int p2), .val (.int p3), .val (.int p4), .val (.int nn), .val (.int cc0), .val (.int cc1), .val (.int cc2), .val (.int cc3), .unset, .unset] [(.int cc2), (.int 2), (.ref b156), (.ref b156), (.ref b152), (.ref b152)]))
            obtain ⟨c164, a164, q164, S164, M164, H164, G164⟩ := id V162
            obtain ⟨T164, h164, X164, e164, W164, st164⟩ := stC X162 hx hZc e162 a164 (j := (2 : Int32)) (inb_of S164 ⟨by decide, by decide⟩) (g := (mkF m 235 #[.val (.int p0), .val (.int p1), .val (.int p2), .val (.int p3), .val (.int p4), .val (.int nn), .val (.int cc0), .val (.int cc1), .val (.int cc2), .val (.int cc3), .unset, .unset] [(.int cc2), (.int 2), (.ref b156), (.ref b156), (.ref b152), (.ref b152)])) rfl rfl (hb hby at_235)
            refine Gl.st st164 ?_
            have C165 : CHr Z consts_1 s.vm h0 vmc h164 := C163.trans (CHr.wr W164 (Safe.arv hZc.alike V162 (by decide)) C163.1)
            have V164 : Arv Z h164 b156 k156 .char (4 : Int32) [(.int cc0), (.int cc1), (.int cc2), (.int 0)] (.int 0) := by
              have q := Arv.set a164 q164 S164 M164 H164 G164 (fits_nar_char _) W164 2 rfl (Nat.le_of_ble_eq_true rfl)
              rw [nar16 yc_2] at q
              exact q
            have N164 := Fr.snoc X164 N162 g157
            show Gl p.tables e below _ (T164.setTop (mkF m 236 #[.val (.int p0), .val (.int p1), .val (.int p2), .val (.int p3), .val (.int p4), .val (.int nn), .val (.int cc0), .val (.int cc1), .val (.int cc2), .val (.int cc3), .unset, .unset] [(.ref b156), (.ref b152), (.ref b152)]))
            refine Gl.st (fun _ kq => XS.dup X164.here hx rfl (hb hby at_236) rfl rfl kq) ?_
            refine Gl.st (fun _ kq => XS.iconst X164.here hx rfl (hb hby at_237) kq) ?_
            refine Gl.st (fun _ kq => XS.iload X164.here hx rfl (hb hby at_238) rfl kq) ?_
            show Gl p.tables e below _ (T164.setTop (mkF m 240 #[.val (.int p0), .val (.int p1), .val (.int p2), .val (.int p3), .val (.int p4), .val (.int nn), .val (.int cc0), .val (.int cc1), .val (.int cc2), .val (.int cc3), .unset, .unset] [(.int cc3), (.int 3), (.ref b156), (.ref b156), (.ref b152), (.ref b152)]))
            obtain ⟨c166, a166, q166, S166, M166, H166, G166⟩ := id V164
            obtain ⟨T166, h166, X166, e166, W166, st166⟩ := stC X164 hx hZc e164 a166 (j := (3 : Int32)) (inb_of S166 ⟨by decide, by decide⟩) (g := (mkF m 240 #[.val (.int p0), .val (.int p1), .val (.int p2), .val (.int p3), .val (.int p4), .val (.int nn), .val (.int cc0), .val (.int cc1), .val (.int cc2), .val (.int cc3), .unset, .unset] [(.int cc3), (.int 3), (.ref b156), (.ref b156), (.ref b152), (.ref b152)])) rfl rfl (hb hby at_240)
            refine Gl.st st166 ?_
            have C167 : CHr Z consts_1 s.vm h0 vmc h166 := C165.trans (CHr.wr W166 (Safe.arv hZc.alike V164 (by decide)) C165.1)
            have V166 : Arv Z h166 b156 k156 .char (4 : Int32) [(.int cc0), (.int cc1), (.int cc2), (.int cc3)] (.int 0) := by
              have q := Arv.set a166 q166 S166 M166 H166 G166 (fits_nar_char _) W166 3 rfl (Nat.le_of_ble_eq_true rfl)
              rw [nar16 yc_3] at q
              exact q
            have N166 := Fr.snoc X166 N164 g157
            show Gl p.tables e below _ (T166.setTop (mkF m 241 #[.val (.int p0), .val (.int p1), .val (.int p2), .val (.int p3), .val (.int p4), .val (.int nn), .val (.int cc0), .val (.int cc1), .val (.int cc2), .val (.int cc3), .unset, .unset] [(.ref b156), (.ref b152), (.ref b152)]))
            by_cases hU : (255 : Int32) < cc0 ∨ (255 : Int32) < cc1 ∨ (255 : Int32) < cc2 ∨ (255 : Int32) < cc3
            · have f168 : Exa Z h166 b152 "java/lang/String" := (((((A152.ext E156).wr W160).wr W162).wr W164).wr W166)
              have ne169 : b152 ≠ b156 := Nat.ne_of_lt (Nat.lt_of_lt_of_le A152.lt (Nat.le_of_eq g156.symm))
              have f170 : Fld Z h166 b152 "java/lang/String" "value" "[B" .null := (((((F152_18.ext E156).other W160 (Or.inl ne169)).other W162 (Or.inl ne169)).other W164 (Or.inl ne169)).other W166 (Or.inl ne169))
              have f171 : Fld Z h166 b152 "java/lang/String" "coder" "B" (.int 0) := (((((F152_19.ext E156).other W160 (Or.inl ne169)).other W162 (Or.inl ne169)).other W164 (Or.inl ne169)).other W166 (Or.inl ne169))
              have f172 : Old Z n0 h166 := ((((((pf0.ext E152).ext E156).wr W160 g157).wr W162 g157).wr W164 g157).wr W166 g157)
              have Sf176 : Safe Z consts_1 vmc h166 b152 := (Safe.wr W166 (Safe.arv hZc.alike V164 (by decide)) C165.1 (Safe.wr W164 (Safe.arv hZc.alike V162 (by decide)) C163.1 (Safe.wr W162 (Safe.arv hZc.alike V160 (by decide)) C161.1 (Safe.wr W160 (Safe.arv hZc.alike V156 (by decide)) C159.1 (Safe.ext E156 C155.1 (Safe.ext E152 Cc.1 (Safe.new (EL := consts_1) (vm := vmc) (Nat.le_of_eq g152.symm))))))))
              obtain ⟨_, _, ⟨T175, L175, k175, n175⟩, -, X175, ⟨Lc175, hQ175, l175, y175, z175⟩, st175⟩ := X166.specialBack hx (y := (⟨"java/lang/String", "<init>", "([C)V"⟩ : MethodName)) rfl hoc (mvT hZc (tw hw 6 rfl)) (mvT hZc (tw hw 7 rfl)) (mvT hZc (tw hw 8 rfl)) (by decide) (backOf (W := 1) (rm_i1_4 l Z a0 hw [] (b152) (b156) (k156) (cc0) (cc1) (cc2) (cc3) (Y1) h166 n0 (Nat.le_trans (Nat.le_trans (Nat.le_trans (Nat.le_trans (Nat.le_trans (Nat.le_trans Z0 E152.1) E156.1) (Keep.of_wr W160).1) (Keep.of_wr W162).1) (Keep.of_wr W164).1) (Keep.of_wr W166).1) f168 f170 f171 V166 f172 g153 yc_0 yc_1 yc_2 yc_3 OA OH OL hU O2 P5) hZc (tw hw 8 rfl) (tw hw 4 rfl) (by decide) (by decide)) (g := (mkF m 241 #[.val (.int p0), .val (.int p1), .val (.int p2), .val (.int p3), .val (.int p4), .val (.int nn), .val (.int cc0), .val (.int cc1), .val (.int cc2), .val (.int cc3), .unset, .unset] [(.ref b156), (.ref b152), (.ref b152)])) rfl (by rw [hml]; rfl) (Steps.refl _) (a := b152) (argsL := [(.ref b156)]) (rest := [(.ref b152)]) (lenOf pd___C_V rfl) rfl (by show 2 * 0 + _ ≤ _; exact Nat.le_of_eq rfl) (hb hby at_241) (fun _ _ => ⟨rfl, e166, (by decide : 2 + 2 ≤ _), (by decide : 8 + 12 ≤ _)⟩)
              dsimp only [Pt.U, Pt.locs, Pt.cells, Pt.slots] at X175 l175 y175 z175 st175 hQ175
              subst l175 y175 z175
              obtain ⟨v173, v174, rfl, N175, K175, q175_0, q175_1, q175_2, q175_3⟩ := hQ175
              have C177 : CHr Z consts_1 s.vm h0 vmc T175.heap := C167.trans (CHr.keep K175 (sfS Sf176 sf0) C167.1)
              have M175 := Fr.app N166 N175
              refine Gl.to st175 ?_
              show Gl p.tables e below _ (T175.setTop (mkF m 244 #[.val (.int p0), .val (.int p1), .val (.int p2), .val (.int p3), .val (.int p4), .val (.int nn), .val (.int cc0), .val (.int cc1), .val (.int cc2), .val (.int cc3), .unset, .unset] [(.ref b152)]))
              show Gl p.tables e below _ (T175.setTop (mkF m 244 #[.val (.int p0), .val (.int p1), .val (.int p2), .val (.int p3), .val (.int p4), .val (.int nn), .val (.int cc0), .val (.int cc1), .val (.int cc2), .val (.int cc3), .unset, .unset] [(.ref b152)]))
              refine Gl.st (fun _ kq => XS.astore X175.here hx rfl (hb hby at_244) rfl rfl (l' := #[.val (.int p0), .val (.int p1), .val (.int p2), .val (.int p3), .val (.int p4), .val (.int nn), .val (.int cc0), .val (.int cc1), .val (.int cc2), .val (.int cc3), .val (.ref b152), .unset]) rfl kq) ?_
              show Gl p.tables e below _ (T175.setTop (mkF m 246 #[.val (.int p0), .val (.int p1), .val (.int p2), .val (.int p3), .val (.int p4), .val (.int nn), .val (.int cc0), .val (.int cc1), .val (.int cc2), .val (.int cc3), .val (.ref b152), .unset] []))
              have Jk4u : ∀ (Tk4u : State) (Lk4u : List Loc) (vmk4u : Vm) (kk4u : Nat) (hSk4u : s.Since vmk4u kk4u) (hZk4u : Z.Warmed39 vmk4u) (hok4u : vmk4u.findClass "com/example/neighbor_keys/neighborkeys/model/CompositeKeepsOrderPinLaw" = some m.cls) (hkk4u : kk4u ≤ T175.heap.size) (Ck4u : CHr Z consts_1 s.vm h0 vmk4u T175.heap) (Xk4u : Stand p l e room_1 (s.setVm vmk4u) m #[(.int p0), (.int p1), (.int p2), (.int p3), (.int p4)] below meth c Tk4u Lk4u 4 20) (ek4u : Tk4u.heap = T175.heap) (Nk4u : Fr n0 Lk4u) (ex : Int32) (yk4u_0 : ex = own_ko ([cc0, cc1, cc2, cc3] : List Int32)), Gl p.tables e below (EndH s Z consts_1 (Q_law Z p0 p1 p2 p3 p4 Y1 Y3 h0 n0) room_1.cells room_1.slots) (Tk4u.setTop (mkF m 285 #[.val (.int p0), .val (.int p1), .val (.int p2), .val (.int p3), .val (.int p4), .val (.int nn), .val (.int cc0), .val (.int cc1), .val (.int cc2), .val (.int cc3), .val (.ref b152), .val (.int ex)] [])) := by
                intro Tk4u Lk4u vmk4u kk4u hSk4u hZk4u hok4u hkk4u Ck4u Xk4u ek4u Nk4u ex yk4u_0
                show Gl p.tables e below _ (Tk4u.setTop (mkF m 285 #[.val (.int p0), .val (.int p1), .val (.int p2), .val (.int p3), .val (.int p4), .val (.int nn), .val (.int cc0), .val (.int cc1), .val (.int cc2), .val (.int cc3), .val (.ref b152), .val (.int ex)] []))
                refine Gl.st (fun _ kq => XS.aload Xk4u.here hx rfl (hb hby at_285) rfl rfl kq) ?_
                show Gl p.tables e below _ (Tk4u.setTop (mkF m 287 #[.val (.int p0), .val (.int p1), .val (.int p2), .val (.int p3), .val (.int p4), .val (.int nn), .val (.int cc0), .val (.int cc1), .val (.int cc2), .val (.int cc3), .val (.ref b152), .val (.int ex)] [(.ref b152)]))
                have f178 : Old Z n0 T175.heap := (f172.keep K175 (allS g153 all0))
                obtain ⟨_, _, ⟨T180, L180, k180, n180⟩, -, X180, ⟨Lc180, hQ180, l180, y180, z180⟩, st180⟩ := Jvm.LawKit.callS Xk4u hx (y := (⟨"com/example/neighbor_keys/neighborkeys/model/Composite", "keepsOrder", "(Ljava/lang/String;)Z"⟩ : MethodName)) hok4u (mvT hZk4u (tw hw 24 rfl)) (mvT hZk4u (tw hw 25 rfl)) (mvT hZk4u (tw hw 26 rfl)) (mvT hZk4u (tw hw 27 rfl)) (by decide) (backOf (W := 0) (rm_ku l Z a0 hw [] (b152) (v173) (v174) (([cc0, cc1, cc2, cc3] : List Int32)) (Y1) (Y3) T175.heap n0 (Nat.le_trans (Nat.le_trans (Nat.le_trans (Nat.le_trans (Nat.le_trans (Nat.le_trans (Nat.le_trans Z0 E152.1) E156.1) (Keep.of_wr W160).1) (Keep.of_wr W162).1) (Keep.of_wr W164).1) (Keep.of_wr W166).1) K175.1) q175_0 q175_1 q175_2 q175_3 f178 (Nat.le_of_ble_eq_true rfl) (alcS yc_0 (alcS yc_1 (alcS yc_2 (alcS yc_3 alc0)))) OA OH OL O2 P5 O4 rG3) hZk4u (tw hw 27 rfl) (tw hw 26 rfl) (by decide) (by decide)) (g := (mkF m 287 #[.val (.int p0), .val (.int p1), .val (.int p2), .val (.int p3), .val (.int p4), .val (.int nn), .val (.int cc0), .val (.int cc1), .val (.int cc2), .val (.int cc3), .val (.ref b152), .val (.int ex)] [(.ref b152)])) rfl (by rw [hml]; rfl) (argsL := [(.ref b152)]) (rest := []) (lenOf pd__Ljava_lang_String__Z rfl) rfl (by show 2 * 0 + _ ≤ _; exact Nat.le_of_eq rfl) (hb hby at_287) (fun _ _ => ⟨rfl, ek4u, (by decide : 4 + 0 ≤ _), (by decide : 20 + 0 ≤ _)⟩)
                dsimp only [Pt.U, Pt.locs, Pt.cells, Pt.slots] at X180 l180 y180 z180 st180 hQ180
                subst l180 y180 z180
                obtain ⟨v179, rfl, N180, e180, y180_0⟩ := hQ180
                have M180 := Fr.app Nk4u N180
                refine Gl.st st180 ?_
                show Gl p.tables e below _ (T180.setTop (mkF m 290 #[.val (.int p0), .val (.int p1), .val (.int p2), .val (.int p3), .val (.int p4), .val (.int nn), .val (.int cc0), .val (.int cc1), .val (.int cc2), .val (.int cc3), .val (.ref b152), .val (.int ex)] [(.int v179)]))
                show Gl p.tables e below _ (T180.setTop (mkF m 290 #[.val (.int p0), .val (.int p1), .val (.int p2), .val (.int p3), .val (.int p4), .val (.int nn), .val (.int cc0), .val (.int cc1), .val (.int cc2), .val (.int cc3), .val (.ref b152), .val (.int ex)] [(.int v179)]))
                refine Gl.st (fun _ kq => XS.iload X180.here hx rfl (hb hby at_290) rfl kq) ?_
                show Gl p.tables e below _ (T180.setTop (mkF m 292 #[.val (.int p0), .val (.int p1), .val (.int p2), .val (.int p3), .val (.int p4), .val (.int nn), .val (.int cc0), .val (.int cc1), .val (.int cc2), .val (.int cc3), .val (.ref b152), .val (.int ex)] [(.int ex), (.int v179)]))
                refine Gl.st (fun _ kq => XS.icmpNo X180.here hx rfl (hb hby at_292) rfl (teq ((y180_0.trans yk4u_0.symm) : v179 = ex)).2 kq) ?_
                show Gl p.tables e below _ (T180.setTop (mkF m 295 #[.val (.int p0), .val (.int p1), .val (.int p2), .val (.int p3), .val (.int p4), .val (.int nn), .val (.int cc0), .val (.int cc1), .val (.int cc2), .val (.int cc3), .val (.ref b152), .val (.int ex)] []))
                refine Gl.st (fun _ kq => XS.iconst X180.here hx rfl (hb hby at_295) kq) ?_
                refine Gl.st (fun _ kq => XS.goto X180.here hx rfl (pc0 := 296) (pc' := 300) rfl (hb hby at_296) (by decide) (by decide) kq) ?_
                exact Gl.retNH X180 hx hSk4u (Nat.le_trans hkk4u (Nat.le_of_eq (congrArg Array.size e180).symm)) (by rw [hh, e180]; exact Ck4u.trans (CHv.at X180 hZk4u (elW hw) Ck4u.1)) (t := .boolean) Bd.returns (by simp) (hb hby at_300) hlk (by decide) (by decide) (by rw [e180]; exact ⟨rfl, M180⟩)
              refine Gl.st (fun _ kq => XS.iload X175.here hx rfl (hb hby at_246) rfl kq) ?_
              show Gl p.tables e below _ (T175.setTop (mkF m 248 #[.val (.int p0), .val (.int p1), .val (.int p2), .val (.int p3), .val (.int p4), .val (.int nn), .val (.int cc0), .val (.int cc1), .val (.int cc2), .val (.int cc3), .val (.ref b152), .unset] [(.int cc0)]))
              obtain ⟨_, _, ⟨T181, L181, k181, n181⟩, -, X181, ⟨Lc181, hQ181, l181, y181, z181⟩, st181⟩ := Jvm.LawKit.callS X175 hx (y := (⟨"com/example/neighbor_keys/neighborkeys/model/CompositeKeepsOrderPinLaw", "above", "(C)Z"⟩ : MethodName)) hoc (mvT hZc (tw hw 49 rfl)) (mvT hZc (tw hw 50 rfl)) (mvT hZc (tw hw 51 rfl)) (mvT hZc (tw hw 52 rfl)) (by decide) (backOf (W := 0) (rm_ab l Z a0 hw [] (cc0) T175.heap n0 (Nat.le_trans (Nat.le_trans (Nat.le_trans (Nat.le_trans (Nat.le_trans (Nat.le_trans (Nat.le_trans Z0 E152.1) E156.1) (Keep.of_wr W160).1) (Keep.of_wr W162).1) (Keep.of_wr W164).1) (Keep.of_wr W166).1) K175.1) ) hZc (tw hw 52 rfl) (tw hw 51 rfl) (by decide) (by decide)) (g := (mkF m 248 #[.val (.int p0), .val (.int p1), .val (.int p2), .val (.int p3), .val (.int p4), .val (.int nn), .val (.int cc0), .val (.int cc1), .val (.int cc2), .val (.int cc3), .val (.ref b152), .unset] [(.int cc0)])) rfl (by rw [hml]; rfl) (argsL := [(.int cc0)]) (rest := []) (lenOf pd__C_Z rfl) rfl (by show 2 * 0 + _ ≤ _; exact Nat.le_of_eq rfl) (hb hby at_248) (fun _ _ => ⟨rfl, rfl, (by decide : 4 + 0 ≤ _), (by decide : 20 + 0 ≤ _)⟩)
              dsimp only [Pt.U, Pt.locs, Pt.cells, Pt.slots] at X181 l181 y181 z181 st181 hQ181
              subst l181 y181 z181
              rcases hQ181 with ⟨rfl, N181, e181, y181_0⟩ | ⟨rfl, N181, e181, y181_0⟩
              · have M181 := Fr.app M175 N181
                refine Gl.st st181 ?_
                show Gl p.tables e below _ (T181.setTop (mkF m 251 #[.val (.int p0), .val (.int p1), .val (.int p2), .val (.int p3), .val (.int p4), .val (.int nn), .val (.int cc0), .val (.int cc1), .val (.int cc2), .val (.int cc3), .val (.ref b152), .unset] [(.int 1)]))
                refine Gl.st (fun _ kq => XS.ifNo X181.here hx rfl (hb hby at_251) rfl ((if0 _ _).trans (feq ((by decide) : ¬ ((1 : Int32) = (0 : Int32)))).1) kq) ?_
                show Gl p.tables e below _ (T181.setTop (mkF m 254 #[.val (.int p0), .val (.int p1), .val (.int p2), .val (.int p3), .val (.int p4), .val (.int nn), .val (.int cc0), .val (.int cc1), .val (.int cc2), .val (.int cc3), .val (.ref b152), .unset] []))
                refine Gl.st (fun _ kq => XS.iload X181.here hx rfl (hb hby at_254) rfl kq) ?_
                show Gl p.tables e below _ (T181.setTop (mkF m 256 #[.val (.int p0), .val (.int p1), .val (.int p2), .val (.int p3), .val (.int p4), .val (.int nn), .val (.int cc0), .val (.int cc1), .val (.int cc2), .val (.int cc3), .val (.ref b152), .unset] [(.int cc1)]))
                obtain ⟨_, _, ⟨T182, L182, k182, n182⟩, -, X182, ⟨Lc182, hQ182, l182, y182, z182⟩, st182⟩ := Jvm.LawKit.callS X181 hx (y := (⟨"com/example/neighbor_keys/neighborkeys/model/CompositeKeepsOrderPinLaw", "above", "(C)Z"⟩ : MethodName)) hoc (mvT hZc (tw hw 49 rfl)) (mvT hZc (tw hw 50 rfl)) (mvT hZc (tw hw 51 rfl)) (mvT hZc (tw hw 52 rfl)) (by decide) (backOf (W := 0) (rm_ab l Z a0 hw [] (cc1) T175.heap n0 (Nat.le_trans (Nat.le_trans (Nat.le_trans (Nat.le_trans (Nat.le_trans (Nat.le_trans (Nat.le_trans Z0 E152.1) E156.1) (Keep.of_wr W160).1) (Keep.of_wr W162).1) (Keep.of_wr W164).1) (Keep.of_wr W166).1) K175.1) ) hZc (tw hw 52 rfl) (tw hw 51 rfl) (by decide) (by decide)) (g := (mkF m 256 #[.val (.int p0), .val (.int p1), .val (.int p2), .val (.int p3), .val (.int p4), .val (.int nn), .val (.int cc0), .val (.int cc1), .val (.int cc2), .val (.int cc3), .val (.ref b152), .unset] [(.int cc1)])) rfl (by rw [hml]; rfl) (argsL := [(.int cc1)]) (rest := []) (lenOf pd__C_Z rfl) rfl (by show 2 * 0 + _ ≤ _; exact Nat.le_of_eq rfl) (hb hby at_256) (fun _ _ => ⟨rfl, e181, (by decide : 4 + 0 ≤ _), (by decide : 20 + 0 ≤ _)⟩)
                dsimp only [Pt.U, Pt.locs, Pt.cells, Pt.slots] at X182 l182 y182 z182 st182 hQ182
                subst l182 y182 z182
                rcases hQ182 with ⟨rfl, N182, e182, y182_0⟩ | ⟨rfl, N182, e182, y182_0⟩
                · have M182 := Fr.app M181 N182
                  refine Gl.st st182 ?_
                  show Gl p.tables e below _ (T182.setTop (mkF m 259 #[.val (.int p0), .val (.int p1), .val (.int p2), .val (.int p3), .val (.int p4), .val (.int nn), .val (.int cc0), .val (.int cc1), .val (.int cc2), .val (.int cc3), .val (.ref b152), .unset] [(.int 1)]))
                  refine Gl.st (fun _ kq => XS.ifNo X182.here hx rfl (hb hby at_259) rfl ((if0 _ _).trans (feq ((by decide) : ¬ ((1 : Int32) = (0 : Int32)))).1) kq) ?_
                  show Gl p.tables e below _ (T182.setTop (mkF m 262 #[.val (.int p0), .val (.int p1), .val (.int p2), .val (.int p3), .val (.int p4), .val (.int nn), .val (.int cc0), .val (.int cc1), .val (.int cc2), .val (.int cc3), .val (.ref b152), .unset] []))
                  refine Gl.st (fun _ kq => XS.iload X182.here hx rfl (hb hby at_262) rfl kq) ?_
                  show Gl p.tables e below _ (T182.setTop (mkF m 264 #[.val (.int p0), .val (.int p1), .val (.int p2), .val (.int p3), .val (.int p4), .val (.int nn), .val (.int cc0), .val (.int cc1), .val (.int cc2), .val (.int cc3), .val (.ref b152), .unset] [(.int cc2)]))
                  obtain ⟨_, _, ⟨T183, L183, k183, n183⟩, -, X183, ⟨Lc183, hQ183, l183, y183, z183⟩, st183⟩ := Jvm.LawKit.callS X182 hx (y := (⟨"com/example/neighbor_keys/neighborkeys/model/CompositeKeepsOrderPinLaw", "above", "(C)Z"⟩ : MethodName)) hoc (mvT hZc (tw hw 49 rfl)) (mvT hZc (tw hw 50 rfl)) (mvT hZc (tw hw 51 rfl)) (mvT hZc (tw hw 52 rfl)) (by decide) (backOf (W := 0) (rm_ab l Z a0 hw [] (cc2) T175.heap n0 (Nat.le_trans (Nat.le_trans (Nat.le_trans (Nat.le_trans (Nat.le_trans (Nat.le_trans (Nat.le_trans Z0 E152.1) E156.1) (Keep.of_wr W160).1) (Keep.of_wr W162).1) (Keep.of_wr W164).1) (Keep.of_wr W166).1) K175.1) ) hZc (tw hw 52 rfl) (tw hw 51 rfl) (by decide) (by decide)) (g := (mkF m 264 #[.val (.int p0), .val (.int p1), .val (.int p2), .val (.int p3), .val (.int p4), .val (.int nn), .val (.int cc0), .val (.int cc1), .val (.int cc2), .val (.int cc3), .val (.ref b152), .unset] [(.int cc2)])) rfl (by rw [hml]; rfl) (argsL := [(.int cc2)]) (rest := []) (lenOf pd__C_Z rfl) rfl (by show 2 * 0 + _ ≤ _; exact Nat.le_of_eq rfl) (hb hby at_264) (fun _ _ => ⟨rfl, e182, (by decide : 4 + 0 ≤ _), (by decide : 20 + 0 ≤ _)⟩)
                  dsimp only [Pt.U, Pt.locs, Pt.cells, Pt.slots] at X183 l183 y183 z183 st183 hQ183
                  subst l183 y183 z183
                  rcases hQ183 with ⟨rfl, N183, e183, y183_0⟩ | ⟨rfl, N183, e183, y183_0⟩
                  · have M183 := Fr.app M182 N183
                    refine Gl.st st183 ?_
                    show Gl p.tables e below _ (T183.setTop (mkF m 267 #[.val (.int p0), .val (.int p1), .val (.int p2), .val (.int p3), .val (.int p4), .val (.int nn), .val (.int cc0), .val (.int cc1), .val (.int cc2), .val (.int cc3), .val (.ref b152), .unset] [(.int 1)]))
                    refine Gl.st (fun _ kq => XS.ifNo X183.here hx rfl (hb hby at_267) rfl ((if0 _ _).trans (feq ((by decide) : ¬ ((1 : Int32) = (0 : Int32)))).1) kq) ?_
                    show Gl p.tables e below _ (T183.setTop (mkF m 270 #[.val (.int p0), .val (.int p1), .val (.int p2), .val (.int p3), .val (.int p4), .val (.int nn), .val (.int cc0), .val (.int cc1), .val (.int cc2), .val (.int cc3), .val (.ref b152), .unset] []))
                    refine Gl.st (fun _ kq => XS.iload X183.here hx rfl (hb hby at_270) rfl kq) ?_
                    show Gl p.tables e below _ (T183.setTop (mkF m 272 #[.val (.int p0), .val (.int p1), .val (.int p2), .val (.int p3), .val (.int p4), .val (.int nn), .val (.int cc0), .val (.int cc1), .val (.int cc2), .val (.int cc3), .val (.ref b152), .unset] [(.int cc3)]))
                    obtain ⟨_, _, ⟨T184, L184, k184, n184⟩, -, X184, ⟨Lc184, hQ184, l184, y184, z184⟩, st184⟩ := Jvm.LawKit.callS X183 hx (y := (⟨"com/example/neighbor_keys/neighborkeys/model/CompositeKeepsOrderPinLaw", "above", "(C)Z"⟩ : MethodName)) hoc (mvT hZc (tw hw 49 rfl)) (mvT hZc (tw hw 50 rfl)) (mvT hZc (tw hw 51 rfl)) (mvT hZc (tw hw 52 rfl)) (by decide) (backOf (W := 0) (rm_ab l Z a0 hw [] (cc3) T175.heap n0 (Nat.le_trans (Nat.le_trans (Nat.le_trans (Nat.le_trans (Nat.le_trans (Nat.le_trans (Nat.le_trans Z0 E152.1) E156.1) (Keep.of_wr W160).1) (Keep.of_wr W162).1) (Keep.of_wr W164).1) (Keep.of_wr W166).1) K175.1) ) hZc (tw hw 52 rfl) (tw hw 51 rfl) (by decide) (by decide)) (g := (mkF m 272 #[.val (.int p0), .val (.int p1), .val (.int p2), .val (.int p3), .val (.int p4), .val (.int nn), .val (.int cc0), .val (.int cc1), .val (.int cc2), .val (.int cc3), .val (.ref b152), .unset] [(.int cc3)])) rfl (by rw [hml]; rfl) (argsL := [(.int cc3)]) (rest := []) (lenOf pd__C_Z rfl) rfl (by show 2 * 0 + _ ≤ _; exact Nat.le_of_eq rfl) (hb hby at_272) (fun _ _ => ⟨rfl, e183, (by decide : 4 + 0 ≤ _), (by decide : 20 + 0 ≤ _)⟩)
                    dsimp only [Pt.U, Pt.locs, Pt.cells, Pt.slots] at X184 l184 y184 z184 st184 hQ184
                    subst l184 y184 z184
                    rcases hQ184 with ⟨rfl, N184, e184, y184_0⟩ | ⟨rfl, N184, e184, y184_0⟩
                    · have M184 := Fr.app M183 N184
                      refine Gl.st st184 ?_
                      show Gl p.tables e below _ (T184.setTop (mkF m 275 #[.val (.int p0), .val (.int p1), .val (.int p2), .val (.int p3), .val (.int p4), .val (.int nn), .val (.int cc0), .val (.int cc1), .val (.int cc2), .val (.int cc3), .val (.ref b152), .unset] [(.int 1)]))
                      refine Gl.st (fun _ kq => XS.ifNo X184.here hx rfl (hb hby at_275) rfl ((if0 _ _).trans (feq ((by decide) : ¬ ((1 : Int32) = (0 : Int32)))).1) kq) ?_
                      show Gl p.tables e below _ (T184.setTop (mkF m 278 #[.val (.int p0), .val (.int p1), .val (.int p2), .val (.int p3), .val (.int p4), .val (.int nn), .val (.int cc0), .val (.int cc1), .val (.int cc2), .val (.int cc3), .val (.ref b152), .unset] []))
                      refine Gl.st (fun _ kq => XS.iconst X184.here hx rfl (hb hby at_278) kq) ?_
                      refine Gl.st (fun _ kq => XS.goto X184.here hx rfl (pc0 := 279) (pc' := 283) rfl (hb hby at_279) (by decide) (by decide) kq) ?_
                      refine Gl.st (fun _ kq => XS.istore X184.here hx rfl (hb hby at_283) rfl (l' := #[.val (.int p0), .val (.int p1), .val (.int p2), .val (.int p3), .val (.int p4), .val (.int nn), .val (.int cc0), .val (.int cc1), .val (.int cc2), .val (.int cc3), .val (.ref b152), .val (.int 1)]) rfl kq) ?_
                      show Gl p.tables e below _ (T184.setTop (mkF m 285 #[.val (.int p0), .val (.int p1), .val (.int p2), .val (.int p3), .val (.int p4), .val (.int nn), .val (.int cc0), .val (.int cc1), .val (.int cc2), .val (.int cc3), .val (.ref b152), .val (.int 1)] []))
                      exact Jk4u _ _ _ _ hSc hZc hoc (Nat.le_trans (Nat.le_trans (Nat.le_trans (Nat.le_trans (Nat.le_trans (Nat.le_trans (Nat.le_trans hkc E152.1) E156.1) (Keep.of_wr W160).1) (Keep.of_wr W162).1) (Keep.of_wr W164).1) (Keep.of_wr W166).1) K175.1) C177 (X184.more (by decide) (by decide)) e184 M184  ((1 : Int32)) (Eq.symm ((if_pos (own_37 y181_0)).trans ((if_pos (own_37 y182_0)).trans ((if_pos (own_37 y183_0)).trans ((if_pos (own_37 y184_0)).trans rfl)))))
                    · have M184 := Fr.app M183 N184
                      refine Gl.st st184 ?_
                      show Gl p.tables e below _ (T184.setTop (mkF m 275 #[.val (.int p0), .val (.int p1), .val (.int p2), .val (.int p3), .val (.int p4), .val (.int nn), .val (.int cc0), .val (.int cc1), .val (.int cc2), .val (.int cc3), .val (.ref b152), .unset] [(.int 0)]))
                      refine Gl.st (fun _ kq => XS.ifYes X184.here hx rfl (pc0 := 275) (pc' := 282) rfl (hb hby at_275) rfl ((if0 _ _).trans (teq ((by decide) : (0 : Int32) = (0 : Int32))).1) (by decide) (by decide) kq) ?_
                      show Gl p.tables e below _ (T184.setTop (mkF m 282 #[.val (.int p0), .val (.int p1), .val (.int p2), .val (.int p3), .val (.int p4), .val (.int nn), .val (.int cc0), .val (.int cc1), .val (.int cc2), .val (.int cc3), .val (.ref b152), .unset] []))
                      refine Gl.st (fun _ kq => XS.iconst X184.here hx rfl (hb hby at_282) kq) ?_
                      refine Gl.st (fun _ kq => XS.istore X184.here hx rfl (hb hby at_283) rfl (l' := #[.val (.int p0), .val (.int p1), .val (.int p2), .val (.int p3), .val (.int p4), .val (.int nn), .val (.int cc0), .val (.int cc1), .val (.int cc2), .val (.int cc3), .val (.ref b152), .val (.int 0)]) rfl kq) ?_
                      show Gl p.tables e below _ (T184.setTop (mkF m 285 #[.val (.int p0), .val (.int p1), .val (.int p2), .val (.int p3), .val (.int p4), .val (.int nn), .val (.int cc0), .val (.int cc1), .val (.int cc2), .val (.int cc3), .val (.ref b152), .val (.int 0)] []))
                      exact Jk4u _ _ _ _ hSc hZc hoc (Nat.le_trans (Nat.le_trans (Nat.le_trans (Nat.le_trans (Nat.le_trans (Nat.le_trans (Nat.le_trans hkc E152.1) E156.1) (Keep.of_wr W160).1) (Keep.of_wr W162).1) (Keep.of_wr W164).1) (Keep.of_wr W166).1) K175.1) C177 (X184.more (by decide) (by decide)) e184 M184  ((0 : Int32)) (Eq.symm ((if_pos (own_37 y181_0)).trans ((if_pos (own_37 y182_0)).trans ((if_pos (own_37 y183_0)).trans ((if_neg (own_38 y184_0)).trans rfl)))))
                  · have M183 := Fr.app M182 N183
                    refine Gl.st st183 ?_
                    show Gl p.tables e below _ (T183.setTop (mkF m 267 #[.val (.int p0), .val (.int p1), .val (.int p2), .val (.int p3), .val (.int p4), .val (.int nn), .val (.int cc0), .val (.int cc1), .val (.int cc2), .val (.int cc3), .val (.ref b152), .unset] [(.int 0)]))
                    refine Gl.st (fun _ kq => XS.ifYes X183.here hx rfl (pc0 := 267) (pc' := 282) rfl (hb hby at_267) rfl ((if0 _ _).trans (teq ((by decide) : (0 : Int32) = (0 : Int32))).1) (by decide) (by decide) kq) ?_
                    show Gl p.tables e below _ (T183.setTop (mkF m 282 #[.val (.int p0), .val (.int p1), .val (.int p2), .val (.int p3), .val (.int p4), .val (.int nn), .val (.int cc0), .val (.int cc1), .val (.int cc2), .val (.int cc3), .val (.ref b152), .unset] []))
                    refine Gl.st (fun _ kq => XS.iconst X183.here hx rfl (hb hby at_282) kq) ?_
                    refine Gl.st (fun _ kq => XS.istore X183.here hx rfl (hb hby at_283) rfl (l' := #[.val (.int p0), .val (.int p1), .val (.int p2), .val (.int p3), .val (.int p4), .val (.int nn), .val (.int cc0), .val (.int cc1), .val (.int cc2), .val (.int cc3), .val (.ref b152), .val (.int 0)]) rfl kq) ?_
                    show Gl p.tables e below _ (T183.setTop (mkF m 285 #[.val (.int p0), .val (.int p1), .val (.int p2), .val (.int p3), .val (.int p4), .val (.int nn), .val (.int cc0), .val (.int cc1), .val (.int cc2), .val (.int cc3), .val (.ref b152), .val (.int 0)] []))
                    exact Jk4u _ _ _ _ hSc hZc hoc (Nat.le_trans (Nat.le_trans (Nat.le_trans (Nat.le_trans (Nat.le_trans (Nat.le_trans (Nat.le_trans hkc E152.1) E156.1) (Keep.of_wr W160).1) (Keep.of_wr W162).1) (Keep.of_wr W164).1) (Keep.of_wr W166).1) K175.1) C177 (X183.more (by decide) (by decide)) e183 M183  ((0 : Int32)) (Eq.symm ((if_pos (own_37 y181_0)).trans ((if_pos (own_37 y182_0)).trans ((if_neg (own_38 y183_0)).trans rfl))))
                · have M182 := Fr.app M181 N182
                  refine Gl.st st182 ?_
                  show Gl p.tables e below _ (T182.setTop (mkF m 259 #[.val (.int p0), .val (.int p1), .val (.int p2), .val (.int p3), .val (.int p4), .val (.int nn), .val (.int cc0), .val (.int cc1), .val (.int cc2), .val (.int cc3), .val (.ref b152), .unset] [(.int 0)]))
                  refine Gl.st (fun _ kq => XS.ifYes X182.here hx rfl (pc0 := 259) (pc' := 282) rfl (hb hby at_259) rfl ((if0 _ _).trans (teq ((by decide) : (0 : Int32) = (0 : Int32))).1) (by decide) (by decide) kq) ?_
                  show Gl p.tables e below _ (T182.setTop (mkF m 282 #[.val (.int p0), .val (.int p1), .val (.int p2), .val (.int p3), .val (.int p4), .val (.int nn), .val (.int cc0), .val (.int cc1), .val (.int cc2), .val (.int cc3), .val (.ref b152), .unset] []))
                  refine Gl.st (fun _ kq => XS.iconst X182.here hx rfl (hb hby at_282) kq) ?_
                  refine Gl.st (fun _ kq => XS.istore X182.here hx rfl (hb hby at_283) rfl (l' := #[.val (.int p0), .val (.int p1), .val (.int p2), .val (.int p3), .val (.int p4), .val (.int nn), .val (.int cc0), .val (.int cc1), .val (.int cc2), .val (.int cc3), .val (.ref b152), .val (.int 0)]) rfl kq) ?_
                  show Gl p.tables e below _ (T182.setTop (mkF m 285 #[.val (.int p0), .val (.int p1), .val (.int p2), .val (.int p3), .val (.int p4), .val (.int nn), .val (.int cc0), .val (.int cc1), .val (.int cc2), .val (.int cc3), .val (.ref b152), .val (.int 0)] []))
                  exact Jk4u _ _ _ _ hSc hZc hoc (Nat.le_trans (Nat.le_trans (Nat.le_trans (Nat.le_trans (Nat.le_trans (Nat.le_trans (Nat.le_trans hkc E152.1) E156.1) (Keep.of_wr W160).1) (Keep.of_wr W162).1) (Keep.of_wr W164).1) (Keep.of_wr W166).1) K175.1) C177 (X182.more (by decide) (by decide)) e182 M182  ((0 : Int32)) (Eq.symm ((if_pos (own_37 y181_0)).trans ((if_neg (own_38 y182_0)).trans rfl)))
              · have M181 := Fr.app M175 N181
                refine Gl.st st181 ?_
                show Gl p.tables e below _ (T181.setTop (mkF m 251 #[.val (.int p0), .val (.int p1), .val (.int p2), .val (.int p3), .val (.int p4), .val (.int nn), .val (.int cc0), .val (.int cc1), .val (.int cc2), .val (.int cc3), .val (.ref b152), .unset] [(.int 0)]))
                refine Gl.st (fun _ kq => XS.ifYes X181.here hx rfl (pc0 := 251) (pc' := 282) rfl (hb hby at_251) rfl ((if0 _ _).trans (teq ((by decide) : (0 : Int32) = (0 : Int32))).1) (by decide) (by decide) kq) ?_
                show Gl p.tables e below _ (T181.setTop (mkF m 282 #[.val (.int p0), .val (.int p1), .val (.int p2), .val (.int p3), .val (.int p4), .val (.int nn), .val (.int cc0), .val (.int cc1), .val (.int cc2), .val (.int cc3), .val (.ref b152), .unset] []))
                refine Gl.st (fun _ kq => XS.iconst X181.here hx rfl (hb hby at_282) kq) ?_
                refine Gl.st (fun _ kq => XS.istore X181.here hx rfl (hb hby at_283) rfl (l' := #[.val (.int p0), .val (.int p1), .val (.int p2), .val (.int p3), .val (.int p4), .val (.int nn), .val (.int cc0), .val (.int cc1), .val (.int cc2), .val (.int cc3), .val (.ref b152), .val (.int 0)]) rfl kq) ?_
                show Gl p.tables e below _ (T181.setTop (mkF m 285 #[.val (.int p0), .val (.int p1), .val (.int p2), .val (.int p3), .val (.int p4), .val (.int nn), .val (.int cc0), .val (.int cc1), .val (.int cc2), .val (.int cc3), .val (.ref b152), .val (.int 0)] []))
                exact Jk4u _ _ _ _ hSc hZc hoc (Nat.le_trans (Nat.le_trans (Nat.le_trans (Nat.le_trans (Nat.le_trans (Nat.le_trans (Nat.le_trans hkc E152.1) E156.1) (Keep.of_wr W160).1) (Keep.of_wr W162).1) (Keep.of_wr W164).1) (Keep.of_wr W166).1) K175.1) C177 (X181.more (by decide) (by decide)) e181 M181  ((0 : Int32)) (Eq.symm ((if_neg (own_38 y181_0)).trans rfl))
            · have hs0 : ¬ ((255 : Int32) < cc0) := fun q => hU (Or.inl q)
              have hs1 : ¬ ((255 : Int32) < cc1) := fun q => hU (Or.inr (Or.inl q))
              have hs2 : ¬ ((255 : Int32) < cc2) := fun q => hU (Or.inr (Or.inr (Or.inl q)))
              have hs3 : ¬ ((255 : Int32) < cc3) := fun q => hU (Or.inr (Or.inr (Or.inr q)))
              have f185 : Exa Z h166 b152 "java/lang/String" := (((((A152.ext E156).wr W160).wr W162).wr W164).wr W166)
              have ne186 : b152 ≠ b156 := Nat.ne_of_lt (Nat.lt_of_lt_of_le A152.lt (Nat.le_of_eq g156.symm))
              have f187 : Fld Z h166 b152 "java/lang/String" "value" "[B" .null := (((((F152_18.ext E156).other W160 (Or.inl ne186)).other W162 (Or.inl ne186)).other W164 (Or.inl ne186)).other W166 (Or.inl ne186))
              have f188 : Fld Z h166 b152 "java/lang/String" "coder" "B" (.int 0) := (((((F152_19.ext E156).other W160 (Or.inl ne186)).other W162 (Or.inl ne186)).other W164 (Or.inl ne186)).other W166 (Or.inl ne186))
              have f189 : Old Z n0 h166 := ((((((pf0.ext E152).ext E156).wr W160 g157).wr W162 g157).wr W164 g157).wr W166 g157)
              have hp190 : ∀ c ∈ ([cc0, cc1, cc2, cc3] : List Int32), ¬ c < 0 ∧ ¬ (255 : Int32) < c := (alcS (own_c8 yc_0 hs0) (alcS (own_c8 yc_1 hs1) (alcS (own_c8 yc_2 hs2) (alcS (own_c8 yc_3 hs3) alc0))))
              have Sf192 : Safe Z consts_1 vmc h166 b152 := (Safe.wr W166 (Safe.arv hZc.alike V164 (by decide)) C165.1 (Safe.wr W164 (Safe.arv hZc.alike V162 (by decide)) C163.1 (Safe.wr W162 (Safe.arv hZc.alike V160 (by decide)) C161.1 (Safe.wr W160 (Safe.arv hZc.alike V156 (by decide)) C159.1 (Safe.ext E156 C155.1 (Safe.ext E152 Cc.1 (Safe.new (EL := consts_1) (vm := vmc) (Nat.le_of_eq g152.symm))))))))
              obtain ⟨_, _, ⟨T191, L191, k191, n191⟩, -, X191, ⟨Lc191, hQ191, l191, y191, z191⟩, st191⟩ := X166.specialBack hx (y := (⟨"java/lang/String", "<init>", "([C)V"⟩ : MethodName)) rfl hoc (mvT hZc (tw hw 6 rfl)) (mvT hZc (tw hw 7 rfl)) (mvT hZc (tw hw 8 rfl)) (by decide) (StrChars.Road.backV (W := 1) hZc (wdNew hw) (kI := 4) (tw hw 3 rfl) (cs := ([cc0, cc1, cc2, cc3] : List Int32)) (bs := (([cc0, cc1, cc2, cc3] : List Int32).map (fun c => c.toInt8.toInt32))) (n := 4) g153 (Nat.le_trans (Nat.le_trans (Nat.le_trans (Nat.le_trans (Nat.le_trans (Nat.le_trans Z0 E152.1) E156.1) (Keep.of_wr W160).1) (Keep.of_wr W162).1) (Keep.of_wr W164).1) (Keep.of_wr W166).1) f185 f187 f188 V166 (O2.ext f189.2) P5 rfl rfl (by decide) (by decide) hp190 rfl (by decide) (by decide)) (g := (mkF m 241 #[.val (.int p0), .val (.int p1), .val (.int p2), .val (.int p3), .val (.int p4), .val (.int nn), .val (.int cc0), .val (.int cc1), .val (.int cc2), .val (.int cc3), .unset, .unset] [(.ref b156), (.ref b152), (.ref b152)])) rfl (by rw [hml]; rfl) (Steps.refl _) (a := b152) (argsL := [(.ref b156)]) (rest := [(.ref b152)]) (lenOf pd___C_V rfl) rfl (by show 2 * 0 + _ ≤ _; exact Nat.le_of_eq rfl) (hb hby at_241) (fun _ _ => ⟨rfl, e166, (by decide : 2 + 1 ≤ _), (by decide : 8 + 4 ≤ _)⟩)
              dsimp only [Pt.U, Pt.locs, Pt.cells, Pt.slots] at X191 l191 y191 z191 st191 hQ191
              subst l191 y191 z191
              obtain ⟨rfl, N191, K191, q191_0, q191_1, t190, k190, y191_0, y191_1, y191_2, q191_2, q191_3⟩ := hQ191
              have C193 : CHr Z consts_1 s.vm h0 vmc T191.heap := C167.trans (CHr.keep K191 (sfS Sf192 sf0) C167.1)
              have M191 := Fr.app N166 N191
              have g194 : n0 ≤ t190 := Nat.le_trans (Nat.le_trans (Nat.le_trans (Nat.le_trans (Nat.le_trans (Nat.le_trans (Nat.le_trans Z0 E152.1) E156.1) (Keep.of_wr W160).1) (Keep.of_wr W162).1) (Keep.of_wr W164).1) (Keep.of_wr W166).1) y191_1
              have s195 : h0.size ≤ t190 := Nat.le_trans (Nat.le_trans (Nat.le_trans (Nat.le_trans (Nat.le_trans (Nat.le_trans (Nat.le_trans (Nat.le_refl _) E152.1) E156.1) (Keep.of_wr W160).1) (Keep.of_wr W162).1) (Keep.of_wr W164).1) (Keep.of_wr W166).1) y191_1
              refine Gl.to st191 ?_
              show Gl p.tables e below _ (T191.setTop (mkF m 244 #[.val (.int p0), .val (.int p1), .val (.int p2), .val (.int p3), .val (.int p4), .val (.int nn), .val (.int cc0), .val (.int cc1), .val (.int cc2), .val (.int cc3), .unset, .unset] [(.ref b152)]))
              show Gl p.tables e below _ (T191.setTop (mkF m 244 #[.val (.int p0), .val (.int p1), .val (.int p2), .val (.int p3), .val (.int p4), .val (.int nn), .val (.int cc0), .val (.int cc1), .val (.int cc2), .val (.int cc3), .unset, .unset] [(.ref b152)]))
              refine Gl.st (fun _ kq => XS.astore X191.here hx rfl (hb hby at_244) rfl rfl (l' := #[.val (.int p0), .val (.int p1), .val (.int p2), .val (.int p3), .val (.int p4), .val (.int nn), .val (.int cc0), .val (.int cc1), .val (.int cc2), .val (.int cc3), .val (.ref b152), .unset]) rfl kq) ?_
              show Gl p.tables e below _ (T191.setTop (mkF m 246 #[.val (.int p0), .val (.int p1), .val (.int p2), .val (.int p3), .val (.int p4), .val (.int nn), .val (.int cc0), .val (.int cc1), .val (.int cc2), .val (.int cc3), .val (.ref b152), .unset] []))
              have Jk4l : ∀ (Tk4l : State) (Lk4l : List Loc) (vmk4l : Vm) (kk4l : Nat) (hSk4l : s.Since vmk4l kk4l) (hZk4l : Z.Warmed39 vmk4l) (hok4l : vmk4l.findClass "com/example/neighbor_keys/neighborkeys/model/CompositeKeepsOrderPinLaw" = some m.cls) (hkk4l : kk4l ≤ T191.heap.size) (Ck4l : CHr Z consts_1 s.vm h0 vmk4l T191.heap) (Xk4l : Stand p l e room_1 (s.setVm vmk4l) m #[(.int p0), (.int p1), (.int p2), (.int p3), (.int p4)] below meth c Tk4l Lk4l 3 12) (ek4l : Tk4l.heap = T191.heap) (Nk4l : Fr n0 Lk4l) (ex : Int32) (yk4l_0 : ex = own_ko ([cc0, cc1, cc2, cc3] : List Int32)), Gl p.tables e below (EndH s Z consts_1 (Q_law Z p0 p1 p2 p3 p4 Y1 Y3 h0 n0) room_1.cells room_1.slots) (Tk4l.setTop (mkF m 285 #[.val (.int p0), .val (.int p1), .val (.int p2), .val (.int p3), .val (.int p4), .val (.int nn), .val (.int cc0), .val (.int cc1), .val (.int cc2), .val (.int cc3), .val (.ref b152), .val (.int ex)] [])) := by
                intro Tk4l Lk4l vmk4l kk4l hSk4l hZk4l hok4l hkk4l Ck4l Xk4l ek4l Nk4l ex yk4l_0
                show Gl p.tables e below _ (Tk4l.setTop (mkF m 285 #[.val (.int p0), .val (.int p1), .val (.int p2), .val (.int p3), .val (.int p4), .val (.int nn), .val (.int cc0), .val (.int cc1), .val (.int cc2), .val (.int cc3), .val (.ref b152), .val (.int ex)] []))
                refine Gl.st (fun _ kq => XS.aload Xk4l.here hx rfl (hb hby at_285) rfl rfl kq) ?_
                show Gl p.tables e below _ (Tk4l.setTop (mkF m 287 #[.val (.int p0), .val (.int p1), .val (.int p2), .val (.int p3), .val (.int p4), .val (.int nn), .val (.int cc0), .val (.int cc1), .val (.int cc2), .val (.int cc3), .val (.ref b152), .val (.int ex)] [(.ref b152)]))
                have f196 : Old Z n0 T191.heap := (f189.keep K191 (allS g153 all0))
                obtain ⟨_, _, ⟨T198, L198, k198, n198⟩, -, X198, ⟨Lc198, hQ198, l198, y198, z198⟩, st198⟩ := Jvm.LawKit.callS Xk4l hx (y := (⟨"com/example/neighbor_keys/neighborkeys/model/Composite", "keepsOrder", "(Ljava/lang/String;)Z"⟩ : MethodName)) hok4l (mvT hZk4l (tw hw 24 rfl)) (mvT hZk4l (tw hw 25 rfl)) (mvT hZk4l (tw hw 26 rfl)) (mvT hZk4l (tw hw 27 rfl)) (by decide) (backOf (W := 0) (rm_kl l Z a0 hw [] (b152) (t190) (k190) (([cc0, cc1, cc2, cc3] : List Int32)) (Y1) (Y3) T191.heap n0 (Nat.le_trans (Nat.le_trans (Nat.le_trans (Nat.le_trans (Nat.le_trans (Nat.le_trans (Nat.le_trans Z0 E152.1) E156.1) (Keep.of_wr W160).1) (Keep.of_wr W162).1) (Keep.of_wr W164).1) (Keep.of_wr W166).1) K191.1) q191_0 q191_1 q191_2 q191_3 f196 (Nat.le_of_ble_eq_true rfl) (alcS yc_0 (alcS yc_1 (alcS yc_2 (alcS yc_3 alc0)))) (alcS hs0 (alcS hs1 (alcS hs2 (alcS hs3 alc0)))) O2 P5 O4 rG3) hZk4l (tw hw 27 rfl) (tw hw 26 rfl) (by decide) (by decide)) (g := (mkF m 287 #[.val (.int p0), .val (.int p1), .val (.int p2), .val (.int p3), .val (.int p4), .val (.int nn), .val (.int cc0), .val (.int cc1), .val (.int cc2), .val (.int cc3), .val (.ref b152), .val (.int ex)] [(.ref b152)])) rfl (by rw [hml]; rfl) (argsL := [(.ref b152)]) (rest := []) (lenOf pd__Ljava_lang_String__Z rfl) rfl (by show 2 * 0 + _ ≤ _; exact Nat.le_of_eq rfl) (hb hby at_287) (fun _ _ => ⟨rfl, ek4l, (by decide : 3 + 0 ≤ _), (by decide : 12 + 0 ≤ _)⟩)
                dsimp only [Pt.U, Pt.locs, Pt.cells, Pt.slots] at X198 l198 y198 z198 st198 hQ198
                subst l198 y198 z198
                obtain ⟨v197, rfl, N198, e198, y198_0⟩ := hQ198
                have M198 := Fr.app Nk4l N198
                refine Gl.st st198 ?_
                show Gl p.tables e below _ (T198.setTop (mkF m 290 #[.val (.int p0), .val (.int p1), .val (.int p2), .val (.int p3), .val (.int p4), .val (.int nn), .val (.int cc0), .val (.int cc1), .val (.int cc2), .val (.int cc3), .val (.ref b152), .val (.int ex)] [(.int v197)]))
                show Gl p.tables e below _ (T198.setTop (mkF m 290 #[.val (.int p0), .val (.int p1), .val (.int p2), .val (.int p3), .val (.int p4), .val (.int nn), .val (.int cc0), .val (.int cc1), .val (.int cc2), .val (.int cc3), .val (.ref b152), .val (.int ex)] [(.int v197)]))
                refine Gl.st (fun _ kq => XS.iload X198.here hx rfl (hb hby at_290) rfl kq) ?_
                show Gl p.tables e below _ (T198.setTop (mkF m 292 #[.val (.int p0), .val (.int p1), .val (.int p2), .val (.int p3), .val (.int p4), .val (.int nn), .val (.int cc0), .val (.int cc1), .val (.int cc2), .val (.int cc3), .val (.ref b152), .val (.int ex)] [(.int ex), (.int v197)]))
                refine Gl.st (fun _ kq => XS.icmpNo X198.here hx rfl (hb hby at_292) rfl (teq ((y198_0.trans yk4l_0.symm) : v197 = ex)).2 kq) ?_
                show Gl p.tables e below _ (T198.setTop (mkF m 295 #[.val (.int p0), .val (.int p1), .val (.int p2), .val (.int p3), .val (.int p4), .val (.int nn), .val (.int cc0), .val (.int cc1), .val (.int cc2), .val (.int cc3), .val (.ref b152), .val (.int ex)] []))
                refine Gl.st (fun _ kq => XS.iconst X198.here hx rfl (hb hby at_295) kq) ?_
                refine Gl.st (fun _ kq => XS.goto X198.here hx rfl (pc0 := 296) (pc' := 300) rfl (hb hby at_296) (by decide) (by decide) kq) ?_
                exact Gl.retNH X198 hx hSk4l (Nat.le_trans hkk4l (Nat.le_of_eq (congrArg Array.size e198).symm)) (by rw [hh, e198]; exact Ck4l.trans (CHv.at X198 hZk4l (elW hw) Ck4l.1)) (t := .boolean) Bd.returns (by simp) (hb hby at_300) hlk (by decide) (by decide) (by rw [e198]; exact ⟨rfl, M198⟩)
              refine Gl.st (fun _ kq => XS.iload X191.here hx rfl (hb hby at_246) rfl kq) ?_
              show Gl p.tables e below _ (T191.setTop (mkF m 248 #[.val (.int p0), .val (.int p1), .val (.int p2), .val (.int p3), .val (.int p4), .val (.int nn), .val (.int cc0), .val (.int cc1), .val (.int cc2), .val (.int cc3), .val (.ref b152), .unset] [(.int cc0)]))
              obtain ⟨_, _, ⟨T199, L199, k199, n199⟩, -, X199, ⟨Lc199, hQ199, l199, y199, z199⟩, st199⟩ := Jvm.LawKit.callS X191 hx (y := (⟨"com/example/neighbor_keys/neighborkeys/model/CompositeKeepsOrderPinLaw", "above", "(C)Z"⟩ : MethodName)) hoc (mvT hZc (tw hw 49 rfl)) (mvT hZc (tw hw 50 rfl)) (mvT hZc (tw hw 51 rfl)) (mvT hZc (tw hw 52 rfl)) (by decide) (backOf (W := 0) (rm_ab l Z a0 hw [] (cc0) T191.heap n0 (Nat.le_trans (Nat.le_trans (Nat.le_trans (Nat.le_trans (Nat.le_trans (Nat.le_trans (Nat.le_trans Z0 E152.1) E156.1) (Keep.of_wr W160).1) (Keep.of_wr W162).1) (Keep.of_wr W164).1) (Keep.of_wr W166).1) K191.1) ) hZc (tw hw 52 rfl) (tw hw 51 rfl) (by decide) (by decide)) (g := (mkF m 248 #[.val (.int p0), .val (.int p1), .val (.int p2), .val (.int p3), .val (.int p4), .val (.int nn), .val (.int cc0), .val (.int cc1), .val (.int cc2), .val (.int cc3), .val (.ref b152), .unset] [(.int cc0)])) rfl (by rw [hml]; rfl) (argsL := [(.int cc0)]) (rest := []) (lenOf pd__C_Z rfl) rfl (by show 2 * 0 + _ ≤ _; exact Nat.le_of_eq rfl) (hb hby at_248) (fun _ _ => ⟨rfl, rfl, (by decide : 3 + 0 ≤ _), (by decide : 12 + 0 ≤ _)⟩)
              dsimp only [Pt.U, Pt.locs, Pt.cells, Pt.slots] at X199 l199 y199 z199 st199 hQ199
              subst l199 y199 z199
              rcases hQ199 with ⟨rfl, N199, e199, y199_0⟩ | ⟨rfl, N199, e199, y199_0⟩
              · have M199 := Fr.app M191 N199
                refine Gl.st st199 ?_
                show Gl p.tables e below _ (T199.setTop (mkF m 251 #[.val (.int p0), .val (.int p1), .val (.int p2), .val (.int p3), .val (.int p4), .val (.int nn), .val (.int cc0), .val (.int cc1), .val (.int cc2), .val (.int cc3), .val (.ref b152), .unset] [(.int 1)]))
                refine Gl.st (fun _ kq => XS.ifNo X199.here hx rfl (hb hby at_251) rfl ((if0 _ _).trans (feq ((by decide) : ¬ ((1 : Int32) = (0 : Int32)))).1) kq) ?_
                show Gl p.tables e below _ (T199.setTop (mkF m 254 #[.val (.int p0), .val (.int p1), .val (.int p2), .val (.int p3), .val (.int p4), .val (.int nn), .val (.int cc0), .val (.int cc1), .val (.int cc2), .val (.int cc3), .val (.ref b152), .unset] []))
                refine Gl.st (fun _ kq => XS.iload X199.here hx rfl (hb hby at_254) rfl kq) ?_
                show Gl p.tables e below _ (T199.setTop (mkF m 256 #[.val (.int p0), .val (.int p1), .val (.int p2), .val (.int p3), .val (.int p4), .val (.int nn), .val (.int cc0), .val (.int cc1), .val (.int cc2), .val (.int cc3), .val (.ref b152), .unset] [(.int cc1)]))
                obtain ⟨_, _, ⟨T200, L200, k200, n200⟩, -, X200, ⟨Lc200, hQ200, l200, y200, z200⟩, st200⟩ := Jvm.LawKit.callS X199 hx (y := (⟨"com/example/neighbor_keys/neighborkeys/model/CompositeKeepsOrderPinLaw", "above", "(C)Z"⟩ : MethodName)) hoc (mvT hZc (tw hw 49 rfl)) (mvT hZc (tw hw 50 rfl)) (mvT hZc (tw hw 51 rfl)) (mvT hZc (tw hw 52 rfl)) (by decide) (backOf (W := 0) (rm_ab l Z a0 hw [] (cc1) T191.heap n0 (Nat.le_trans (Nat.le_trans (Nat.le_trans (Nat.le_trans (Nat.le_trans (Nat.le_trans (Nat.le_trans Z0 E152.1) E156.1) (Keep.of_wr W160).1) (Keep.of_wr W162).1) (Keep.of_wr W164).1) (Keep.of_wr W166).1) K191.1) ) hZc (tw hw 52 rfl) (tw hw 51 rfl) (by decide) (by decide)) (g := (mkF m 256 #[.val (.int p0), .val (.int p1), .val (.int p2), .val (.int p3), .val (.int p4), .val (.int nn), .val (.int cc0), .val (.int cc1), .val (.int cc2), .val (.int cc3), .val (.ref b152), .unset] [(.int cc1)])) rfl (by rw [hml]; rfl) (argsL := [(.int cc1)]) (rest := []) (lenOf pd__C_Z rfl) rfl (by show 2 * 0 + _ ≤ _; exact Nat.le_of_eq rfl) (hb hby at_256) (fun _ _ => ⟨rfl, e199, (by decide : 3 + 0 ≤ _), (by decide : 12 + 0 ≤ _)⟩)
                dsimp only [Pt.U, Pt.locs, Pt.cells, Pt.slots] at X200 l200 y200 z200 st200 hQ200
                subst l200 y200 z200
                rcases hQ200 with ⟨rfl, N200, e200, y200_0⟩ | ⟨rfl, N200, e200, y200_0⟩
                · have M200 := Fr.app M199 N200
                  refine Gl.st st200 ?_
                  show Gl p.tables e below _ (T200.setTop (mkF m 259 #[.val (.int p0), .val (.int p1), .val (.int p2), .val (.int p3), .val (.int p4), .val (.int nn), .val (.int cc0), .val (.int cc1), .val (.int cc2), .val (.int cc3), .val (.ref b152), .unset] [(.int 1)]))
                  refine Gl.st (fun _ kq => XS.ifNo X200.here hx rfl (hb hby at_259) rfl ((if0 _ _).trans (feq ((by decide) : ¬ ((1 : Int32) = (0 : Int32)))).1) kq) ?_
                  show Gl p.tables e below _ (T200.setTop (mkF m 262 #[.val (.int p0), .val (.int p1), .val (.int p2), .val (.int p3), .val (.int p4), .val (.int nn), .val (.int cc0), .val (.int cc1), .val (.int cc2), .val (.int cc3), .val (.ref b152), .unset] []))
                  refine Gl.st (fun _ kq => XS.iload X200.here hx rfl (hb hby at_262) rfl kq) ?_
                  show Gl p.tables e below _ (T200.setTop (mkF m 264 #[.val (.int p0), .val (.int p1), .val (.int p2), .val (.int p3), .val (.int p4), .val (.int nn), .val (.int cc0), .val (.int cc1), .val (.int cc2), .val (.int cc3), .val (.ref b152), .unset] [(.int cc2)]))
                  obtain ⟨_, _, ⟨T201, L201, k201, n201⟩, -, X201, ⟨Lc201, hQ201, l201, y201, z201⟩, st201⟩ := Jvm.LawKit.callS X200 hx (y := (⟨"com/example/neighbor_keys/neighborkeys/model/CompositeKeepsOrderPinLaw", "above", "(C)Z"⟩ : MethodName)) hoc (mvT hZc (tw hw 49 rfl)) (mvT hZc (tw hw 50 rfl)) (mvT hZc (tw hw 51 rfl)) (mvT hZc (tw hw 52 rfl)) (by decide) (backOf (W := 0) (rm_ab l Z a0 hw [] (cc2) T191.heap n0 (Nat.le_trans (Nat.le_trans (Nat.le_trans (Nat.le_trans (Nat.le_trans (Nat.le_trans (Nat.le_trans Z0 E152.1) E156.1) (Keep.of_wr W160).1) (Keep.of_wr W162).1) (Keep.of_wr W164).1) (Keep.of_wr W166).1) K191.1) ) hZc (tw hw 52 rfl) (tw hw 51 rfl) (by decide) (by decide)) (g := (mkF m 264 #[.val (.int p0), .val (.int p1), .val (.int p2), .val (.int p3), .val (.int p4), .val (.int nn), .val (.int cc0), .val (.int cc1), .val (.int cc2), .val (.int cc3), .val (.ref b152), .unset] [(.int cc2)])) rfl (by rw [hml]; rfl) (argsL := [(.int cc2)]) (rest := []) (lenOf pd__C_Z rfl) rfl (by show 2 * 0 + _ ≤ _; exact Nat.le_of_eq rfl) (hb hby at_264) (fun _ _ => ⟨rfl, e200, (by decide : 3 + 0 ≤ _), (by decide : 12 + 0 ≤ _)⟩)
                  dsimp only [Pt.U, Pt.locs, Pt.cells, Pt.slots] at X201 l201 y201 z201 st201 hQ201
                  subst l201 y201 z201
                  rcases hQ201 with ⟨rfl, N201, e201, y201_0⟩ | ⟨rfl, N201, e201, y201_0⟩
                  · have M201 := Fr.app M200 N201
                    refine Gl.st st201 ?_
                    show Gl p.tables e below _ (T201.setTop (mkF m 267 #[.val (.int p0), .val (.int p1), .val (.int p2), .val (.int p3), .val (.int p4), .val (.int nn), .val (.int cc0), .val (.int cc1), .val (.int cc2), .val (.int cc3), .val (.ref b152), .unset] [(.int 1)]))
                    refine Gl.st (fun _ kq => XS.ifNo X201.here hx rfl (hb hby at_267) rfl ((if0 _ _).trans (feq ((by decide) : ¬ ((1 : Int32) = (0 : Int32)))).1) kq) ?_
                    show Gl p.tables e below _ (T201.setTop (mkF m 270 #[.val (.int p0), .val (.int p1), .val (.int p2), .val (.int p3), .val (.int p4), .val (.int nn), .val (.int cc0), .val (.int cc1), .val (.int cc2), .val (.int cc3), .val (.ref b152), .unset] []))
                    refine Gl.st (fun _ kq => XS.iload X201.here hx rfl (hb hby at_270) rfl kq) ?_
                    show Gl p.tables e below _ (T201.setTop (mkF m 272 #[.val (.int p0), .val (.int p1), .val (.int p2), .val (.int p3), .val (.int p4), .val (.int nn), .val (.int cc0), .val (.int cc1), .val (.int cc2), .val (.int cc3), .val (.ref b152), .unset] [(.int cc3)]))
                    obtain ⟨_, _, ⟨T202, L202, k202, n202⟩, -, X202, ⟨Lc202, hQ202, l202, y202, z202⟩, st202⟩ := Jvm.LawKit.callS X201 hx (y := (⟨"com/example/neighbor_keys/neighborkeys/model/CompositeKeepsOrderPinLaw", "above", "(C)Z"⟩ : MethodName)) hoc (mvT hZc (tw hw 49 rfl)) (mvT hZc (tw hw 50 rfl)) (mvT hZc (tw hw 51 rfl)) (mvT hZc (tw hw 52 rfl)) (by decide) (backOf (W := 0) (rm_ab l Z a0 hw [] (cc3) T191.heap n0 (Nat.le_trans (Nat.le_trans (Nat.le_trans (Nat.le_trans (Nat.le_trans (Nat.le_trans (Nat.le_trans Z0 E152.1) E156.1) (Keep.of_wr W160).1) (Keep.of_wr W162).1) (Keep.of_wr W164).1) (Keep.of_wr W166).1) K191.1) ) hZc (tw hw 52 rfl) (tw hw 51 rfl) (by decide) (by decide)) (g := (mkF m 272 #[.val (.int p0), .val (.int p1), .val (.int p2), .val (.int p3), .val (.int p4), .val (.int nn), .val (.int cc0), .val (.int cc1), .val (.int cc2), .val (.int cc3), .val (.ref b152), .unset] [(.int cc3)])) rfl (by rw [hml]; rfl) (argsL := [(.int cc3)]) (rest := []) (lenOf pd__C_Z rfl) rfl (by show 2 * 0 + _ ≤ _; exact Nat.le_of_eq rfl) (hb hby at_272) (fun _ _ => ⟨rfl, e201, (by decide : 3 + 0 ≤ _), (by decide : 12 + 0 ≤ _)⟩)
                    dsimp only [Pt.U, Pt.locs, Pt.cells, Pt.slots] at X202 l202 y202 z202 st202 hQ202
                    subst l202 y202 z202
                    rcases hQ202 with ⟨rfl, N202, e202, y202_0⟩ | ⟨rfl, N202, e202, y202_0⟩
                    · have M202 := Fr.app M201 N202
                      refine Gl.st st202 ?_
                      show Gl p.tables e below _ (T202.setTop (mkF m 275 #[.val (.int p0), .val (.int p1), .val (.int p2), .val (.int p3), .val (.int p4), .val (.int nn), .val (.int cc0), .val (.int cc1), .val (.int cc2), .val (.int cc3), .val (.ref b152), .unset] [(.int 1)]))
                      refine Gl.st (fun _ kq => XS.ifNo X202.here hx rfl (hb hby at_275) rfl ((if0 _ _).trans (feq ((by decide) : ¬ ((1 : Int32) = (0 : Int32)))).1) kq) ?_
                      show Gl p.tables e below _ (T202.setTop (mkF m 278 #[.val (.int p0), .val (.int p1), .val (.int p2), .val (.int p3), .val (.int p4), .val (.int nn), .val (.int cc0), .val (.int cc1), .val (.int cc2), .val (.int cc3), .val (.ref b152), .unset] []))
                      refine Gl.st (fun _ kq => XS.iconst X202.here hx rfl (hb hby at_278) kq) ?_
                      refine Gl.st (fun _ kq => XS.goto X202.here hx rfl (pc0 := 279) (pc' := 283) rfl (hb hby at_279) (by decide) (by decide) kq) ?_
                      refine Gl.st (fun _ kq => XS.istore X202.here hx rfl (hb hby at_283) rfl (l' := #[.val (.int p0), .val (.int p1), .val (.int p2), .val (.int p3), .val (.int p4), .val (.int nn), .val (.int cc0), .val (.int cc1), .val (.int cc2), .val (.int cc3), .val (.ref b152), .val (.int 1)]) rfl kq) ?_
                      show Gl p.tables e below _ (T202.setTop (mkF m 285 #[.val (.int p0), .val (.int p1), .val (.int p2), .val (.int p3), .val (.int p4), .val (.int nn), .val (.int cc0), .val (.int cc1), .val (.int cc2), .val (.int cc3), .val (.ref b152), .val (.int 1)] []))
                      exact Jk4l _ _ _ _ hSc hZc hoc (Nat.le_trans (Nat.le_trans (Nat.le_trans (Nat.le_trans (Nat.le_trans (Nat.le_trans (Nat.le_trans hkc E152.1) E156.1) (Keep.of_wr W160).1) (Keep.of_wr W162).1) (Keep.of_wr W164).1) (Keep.of_wr W166).1) K191.1) C193 (X202.more (by decide) (by decide)) e202 M202  ((1 : Int32)) (Eq.symm ((if_pos (own_37 y199_0)).trans ((if_pos (own_37 y200_0)).trans ((if_pos (own_37 y201_0)).trans ((if_pos (own_37 y202_0)).trans rfl)))))
                    · have M202 := Fr.app M201 N202
                      refine Gl.st st202 ?_
                      show Gl p.tables e below _ (T202.setTop (mkF m 275 #[.val (.int p0), .val (.int p1), .val (.int p2), .val (.int p3), .val (.int p4), .val (.int nn), .val (.int cc0), .val (.int cc1), .val (.int cc2), .val (.int cc3), .val (.ref b152), .unset] [(.int 0)]))
                      refine Gl.st (fun _ kq => XS.ifYes X202.here hx rfl (pc0 := 275) (pc' := 282) rfl (hb hby at_275) rfl ((if0 _ _).trans (teq ((by decide) : (0 : Int32) = (0 : Int32))).1) (by decide) (by decide) kq) ?_
                      show Gl p.tables e below _ (T202.setTop (mkF m 282 #[.val (.int p0), .val (.int p1), .val (.int p2), .val (.int p3), .val (.int p4), .val (.int nn), .val (.int cc0), .val (.int cc1), .val (.int cc2), .val (.int cc3), .val (.ref b152), .unset] []))
                      refine Gl.st (fun _ kq => XS.iconst X202.here hx rfl (hb hby at_282) kq) ?_
                      refine Gl.st (fun _ kq => XS.istore X202.here hx rfl (hb hby at_283) rfl (l' := #[.val (.int p0), .val (.int p1), .val (.int p2), .val (.int p3), .val (.int p4), .val (.int nn), .val (.int cc0), .val (.int cc1), .val (.int cc2), .val (.int cc3), .val (.ref b152), .val (.int 0)]) rfl kq) ?_
                      show Gl p.tables e below _ (T202.setTop (mkF m 285 #[.val (.int p0), .val (.int p1), .val (.int p2), .val (.int p3), .val (.int p4), .val (.int nn), .val (.int cc0), .val (.int cc1), .val (.int cc2), .val (.int cc3), .val (.ref b152), .val (.int 0)] []))
                      exact Jk4l _ _ _ _ hSc hZc hoc (Nat.le_trans (Nat.le_trans (Nat.le_trans (Nat.le_trans (Nat.le_trans (Nat.le_trans (Nat.le_trans hkc E152.1) E156.1) (Keep.of_wr W160).1) (Keep.of_wr W162).1) (Keep.of_wr W164).1) (Keep.of_wr W166).1) K191.1) C193 (X202.more (by decide) (by decide)) e202 M202  ((0 : Int32)) (Eq.symm ((if_pos (own_37 y199_0)).trans ((if_pos (own_37 y200_0)).trans ((if_pos (own_37 y201_0)).trans ((if_neg (own_38 y202_0)).trans rfl)))))
                  · have M201 := Fr.app M200 N201
                    refine Gl.st st201 ?_
                    show Gl p.tables e below _ (T201.setTop (mkF m 267 #[.val (.int p0), .val (.int p1), .val (.int p2), .val (.int p3), .val (.int p4), .val (.int nn), .val (.int cc0), .val (.int cc1), .val (.int cc2), .val (.int cc3), .val (.ref b152), .unset] [(.int 0)]))
                    refine Gl.st (fun _ kq => XS.ifYes X201.here hx rfl (pc0 := 267) (pc' := 282) rfl (hb hby at_267) rfl ((if0 _ _).trans (teq ((by decide) : (0 : Int32) = (0 : Int32))).1) (by decide) (by decide) kq) ?_
                    show Gl p.tables e below _ (T201.setTop (mkF m 282 #[.val (.int p0), .val (.int p1), .val (.int p2), .val (.int p3), .val (.int p4), .val (.int nn), .val (.int cc0), .val (.int cc1), .val (.int cc2), .val (.int cc3), .val (.ref b152), .unset] []))
                    refine Gl.st (fun _ kq => XS.iconst X201.here hx rfl (hb hby at_282) kq) ?_
                    refine Gl.st (fun _ kq => XS.istore X201.here hx rfl (hb hby at_283) rfl (l' := #[.val (.int p0), .val (.int p1), .val (.int p2), .val (.int p3), .val (.int p4), .val (.int nn), .val (.int cc0), .val (.int cc1), .val (.int cc2), .val (.int cc3), .val (.ref b152), .val (.int 0)]) rfl kq) ?_
                    show Gl p.tables e below _ (T201.setTop (mkF m 285 #[.val (.int p0), .val (.int p1), .val (.int p2), .val (.int p3), .val (.int p4), .val (.int nn), .val (.int cc0), .val (.int cc1), .val (.int cc2), .val (.int cc3), .val (.ref b152), .val (.int 0)] []))
                    exact Jk4l _ _ _ _ hSc hZc hoc (Nat.le_trans (Nat.le_trans (Nat.le_trans (Nat.le_trans (Nat.le_trans (Nat.le_trans (Nat.le_trans hkc E152.1) E156.1) (Keep.of_wr W160).1) (Keep.of_wr W162).1) (Keep.of_wr W164).1) (Keep.of_wr W166).1) K191.1) C193 (X201.more (by decide) (by decide)) e201 M201  ((0 : Int32)) (Eq.symm ((if_pos (own_37 y199_0)).trans ((if_pos (own_37 y200_0)).trans ((if_neg (own_38 y201_0)).trans rfl))))
                · have M200 := Fr.app M199 N200
                  refine Gl.st st200 ?_
                  show Gl p.tables e below _ (T200.setTop (mkF m 259 #[.val (.int p0), .val (.int p1), .val (.int p2), .val (.int p3), .val (.int p4), .val (.int nn), .val (.int cc0), .val (.int cc1), .val (.int cc2), .val (.int cc3), .val (.ref b152), .unset] [(.int 0)]))
                  refine Gl.st (fun _ kq => XS.ifYes X200.here hx rfl (pc0 := 259) (pc' := 282) rfl (hb hby at_259) rfl ((if0 _ _).trans (teq ((by decide) : (0 : Int32) = (0 : Int32))).1) (by decide) (by decide) kq) ?_
                  show Gl p.tables e below _ (T200.setTop (mkF m 282 #[.val (.int p0), .val (.int p1), .val (.int p2), .val (.int p3), .val (.int p4), .val (.int nn), .val (.int cc0), .val (.int cc1), .val (.int cc2), .val (.int cc3), .val (.ref b152), .unset] []))
                  refine Gl.st (fun _ kq => XS.iconst X200.here hx rfl (hb hby at_282) kq) ?_
                  refine Gl.st (fun _ kq => XS.istore X200.here hx rfl (hb hby at_283) rfl (l' := #[.val (.int p0), .val (.int p1), .val (.int p2), .val (.int p3), .val (.int p4), .val (.int nn), .val (.int cc0), .val (.int cc1), .val (.int cc2), .val (.int cc3), .val (.ref b152), .val (.int 0)]) rfl kq) ?_
                  show Gl p.tables e below _ (T200.setTop (mkF m 285 #[.val (.int p0), .val (.int p1), .val (.int p2), .val (.int p3), .val (.int p4), .val (.int nn), .val (.int cc0), .val (.int cc1), .val (.int cc2), .val (.int cc3), .val (.ref b152), .val (.int 0)] []))
                  exact Jk4l _ _ _ _ hSc hZc hoc (Nat.le_trans (Nat.le_trans (Nat.le_trans (Nat.le_trans (Nat.le_trans (Nat.le_trans (Nat.le_trans hkc E152.1) E156.1) (Keep.of_wr W160).1) (Keep.of_wr W162).1) (Keep.of_wr W164).1) (Keep.of_wr W166).1) K191.1) C193 (X200.more (by decide) (by decide)) e200 M200  ((0 : Int32)) (Eq.symm ((if_pos (own_37 y199_0)).trans ((if_neg (own_38 y200_0)).trans rfl)))
              · have M199 := Fr.app M191 N199
                refine Gl.st st199 ?_
                show Gl p.tables e below _ (T199.setTop (mkF m 251 #[.val (.int p0), .val (.int p1), .val (.int p2), .val (.int p3), .val (.int p4), .val (.int nn), .val (.int cc0), .val (.int cc1), .val (.int cc2), .val (.int cc3), .val (.ref b152), .unset] [(.int 0)]))
                refine Gl.st (fun _ kq => XS.ifYes X199.here hx rfl (pc0 := 251) (pc' := 282) rfl (hb hby at_251) rfl ((if0 _ _).trans (teq ((by decide) : (0 : Int32) = (0 : Int32))).1) (by decide) (by decide) kq) ?_
                show Gl p.tables e below _ (T199.setTop (mkF m 282 #[.val (.int p0), .val (.int p1), .val (.int p2), .val (.int p3), .val (.int p4), .val (.int nn), .val (.int cc0), .val (.int cc1), .val (.int cc2), .val (.int cc3), .val (.ref b152), .unset] []))
                refine Gl.st (fun _ kq => XS.iconst X199.here hx rfl (hb hby at_282) kq) ?_
                refine Gl.st (fun _ kq => XS.istore X199.here hx rfl (hb hby at_283) rfl (l' := #[.val (.int p0), .val (.int p1), .val (.int p2), .val (.int p3), .val (.int p4), .val (.int nn), .val (.int cc0), .val (.int cc1), .val (.int cc2), .val (.int cc3), .val (.ref b152), .val (.int 0)]) rfl kq) ?_
                show Gl p.tables e below _ (T199.setTop (mkF m 285 #[.val (.int p0), .val (.int p1), .val (.int p2), .val (.int p3), .val (.int p4), .val (.int nn), .val (.int cc0), .val (.int cc1), .val (.int cc2), .val (.int cc3), .val (.ref b152), .val (.int 0)] []))
                exact Jk4l _ _ _ _ hSc hZc hoc (Nat.le_trans (Nat.le_trans (Nat.le_trans (Nat.le_trans (Nat.le_trans (Nat.le_trans (Nat.le_trans hkc E152.1) E156.1) (Keep.of_wr W160).1) (Keep.of_wr W162).1) (Keep.of_wr W164).1) (Keep.of_wr W166).1) K191.1) C193 (X199.more (by decide) (by decide)) e199 M199  ((0 : Int32)) (Eq.symm ((if_neg (own_38 y199_0)).trans rfl))
  exact Jc _ _ _ _ hS0 hZ hown (Nat.le_of_eq (congrArg Array.size e0)) C0 (X0.more (by decide) (by decide)) e0 N0  (((p0 &&& (2147483647 : Int32)) % (5 : Int32))) (((p1 &&& (65535 : Int32)).toUInt32.toUInt16.toUInt32.toInt32)) (((p2 &&& (65535 : Int32)).toUInt32.toUInt16.toUInt32.toInt32)) (((p3 &&& (65535 : Int32)).toUInt32.toUInt16.toUInt32.toInt32)) (((p4 &&& (65535 : Int32)).toUInt32.toUInt16.toUInt32.toInt32)) (own_i2c _) (own_i2c _) (own_i2c _) (own_i2c _)
set_option maxRecDepth 65536 in
set_option maxHeartbeats 40000000 in
theorem comes_1 {Post : Tables → Env → Array Value → State → Outcome → State → Prop} (hpost : ∀ tb e args s v u, (limb_1_1.after args s (.returned v) u = true ∧ limb_1_2.after args s (.returned v) u = true ∧ True) → Jvm.ReturnedEndW s (.returned v) u (Jvm.fieldLocs frame_1_writes args s ++ Jvm.arrayLocs frame_1_arrays args s ++ Jvm.staticLocs frame_1_statics s) 24 1152 → Post tb e args s (.returned v) u) :
    ArmFor flags0 classFile x code maxLocals ret World_1 tables_1 room_1 Calls_1 rest_1 Pre_1 Post := by
  intro l hfl _ _ p e ha hc hk s m args below hf hA hF happ hP
  obtain ⟨hcalls, hrest, hpre⟩ := hP
  obtain ⟨-, -, -, hnamed, -, -, -, hat⟩ := (Spec.applies_iff hf).mp happ
  obtain ⟨hg, hn⟩ := and_e (Cond.before_iff.mp (show (Jvm.Cond.and given_1 narrow_1).before args s = true from hpre))
  obtain ⟨hcnt, g0⟩ := and_e hg
  obtain ⟨u0, g1⟩ := and_e g0
  obtain ⟨u1, g2⟩ := and_e g1
  obtain ⟨u2, g3⟩ := and_e g2
  obtain ⟨u3, g4⟩ := and_e g3
  have u4 := g4
  obtain ⟨w0, w1, w2, w3, w4, rfl⟩ : ∃ w0 w1 w2 w3 w4 : Value, args = #[w0, w1, w2, w3, w4] := by
    have hs : args.size = 5 := by simpa [Cond.value, given_1] using hcnt
    obtain ⟨L⟩ := args
    match L, hs with
    | [w0, w1, w2, w3, w4], _ => exact ⟨w0, w1, w2, w3, w4, rfl⟩
  have hw := fun d (hd : d ∈ tables_1) => atoms_spec (ws := Jvm.Cond.code x code maxLocals ret :: tables_1) hat d (List.mem_cons_of_mem _ hd)
  have hfit : Fit s := fun {y c} hc i hi => by
    obtain ⟨ha, rfl⟩ := Array.getElem?_eq_some_iff.mp hc
    have q := List.all_eq_true.mp ((Array.all_eq_true_iff_forall_mem.mp hF) _ (Array.getElem_mem ha)) i (List.mem_range.mpr hi)
    simpa [Array.getElem?_eq_getElem hi] using q
  obtain ⟨hsets, hown0⟩ := atoms_of _ (rest_1_c_eq ▸ (show rest_1_c.before _ s = true from hrest))
  have hr0 := Cond.before_iff.mp hown0
  obtain ⟨i0, ei0⟩ := is_v u0
  obtain rfl : w0 = (.int i0) := Option.some.inj ei0
  obtain ⟨i1, ei1⟩ := is_v u1
  obtain rfl : w1 = (.int i1) := Option.some.inj ei1
  obtain ⟨i2, ei2⟩ := is_v u2
  obtain rfl : w2 = (.int i2) := Option.some.inj ei2
  obtain ⟨i3, ei3⟩ := is_v u3
  obtain rfl : w3 = (.int i3) := Option.some.inj ei3
  obtain ⟨i4, ei4⟩ := is_v u4
  obtain rfl : w4 = (.int i4) := Option.some.inj ei4
  obtain ⟨iG, eG⟩ := is_v (Cond.before_iff.mp (hsets _ (List.mem_of_getElem? (i := 1) rfl)))
  have SG : Sta s s.heap "java/lang/String" "COMPACT_STRINGS" "Z" (.int iG) := Sta.start eG (Or.inl (hsets _ (List.mem_of_getElem? (i := 0) rfl)))
  have cG : ¬ (iG = (0 : Int32)) := gotF (Cond.eq_ints eG (Term.int_eval (0))) (not_v (Cond.before_iff.mp (hsets _ (List.mem_of_getElem? (i := 2) rfl))))
  obtain ⟨vF, eF, rF⟩ := isR_v (Cond.before_iff.mp (hsets _ (List.mem_of_getElem? (i := 8) rfl)))
  have SF : Sta s s.heap "jdk/internal/util/Preconditions" "SIOOBE_FORMATTER" "Ljava/util/function/BiFunction;" vF := Sta.start eF (Or.inl (hsets _ (List.mem_of_getElem? (i := 7) rfl)))
  have eOA := eqv_i (y := 1) rfl (Cond.before_iff.mp (hsets _ (List.mem_of_getElem? (i := 12) rfl)))
  have SOA : Sta s s.heap "java/lang/StringUTF16" "$assertionsDisabled" "Z" (.int 1) := Sta.start eOA (Or.inl (hsets _ (List.mem_of_getElem? (i := 11) rfl)))
  have eOH := eqv_i (y := 0) rfl (Cond.before_iff.mp (hsets _ (List.mem_of_getElem? (i := 15) rfl)))
  have SOH : Sta s s.heap "java/lang/StringUTF16" "HI_BYTE_SHIFT" "I" (.int 0) := Sta.start eOH (Or.inl (hsets _ (List.mem_of_getElem? (i := 14) rfl)))
  have eOL := eqv_i (y := 8) rfl (Cond.before_iff.mp (hsets _ (List.mem_of_getElem? (i := 18) rfl)))
  have SOL : Sta s s.heap "java/lang/StringUTF16" "LO_BYTE_SHIFT" "I" (.int 8) := Sta.start eOL (Or.inl (hsets _ (List.mem_of_getElem? (i := 17) rfl)))
  have hCH : CHv s consts_1 s.vm s.heap := CHv.start (elW hw) (fun p hp => hcalls.1 p hp) (hsets _ (List.mem_of_getElem? (i := 2) rfl)) (tw hw 17 rfl) (tw hw 3 rfl)
  obtain ⟨n, o, h1, h2, h3, _, L, rfl, ⟨rfl, N⟩, -, hq⟩ := rm_law l s _ hw tables_1 i0 i1 i2 i3 i4 iG vF s.heap s.heap.size (Nat.le_refl _) (Old.start s) SOA SOH SOL SG cG SF rF p e ha hc hk s m _ below hf ((Spec.applies_iff_loose hf).mp happ).1 ⟨rfl, State.Warmed39.refl s, rfl, hCH⟩ trivial
  refine ⟨n, _, h1, h2, h3, hpost _ _ _ _ _ _ ⟨Cond.after_iff.mpr rfl, Cond.after_iff.mpr (eq_i res_at (Term.int_eval (1)) rfl), trivial⟩ ⟨hq.1, hq.2.1, hq.2.2.1, (hq.2.2.2.sift fun y hy => Or.inr (N y hy)).mono (by decide) (by decide)⟩⟩
theorem main_1_1 : Claimed_1_1 := comes_1 fun _ _ _ _ _ _ h hF => ⟨h.1, hF⟩
theorem main_1_2 : Claimed_1_2 := comes_1 fun _ _ _ _ _ _ h hF => ⟨h.2.1, hF⟩
end Jvm.Pilot.@@N@@
namespace Jvm.Pilot.@@N@@
open Jvm Jvm.ClassFile Sem Op Lib Jvm.Free Jvm.Stand Jvm.Pilot.@@N@@.Jvm.D
/-! MADE BY PROGRAM (witnessworld.py) out of the Statement's table words and the real class files: 21 classes; the members and pool entries that the words name. The judged class is class 1, her method 2. -/
namespace start1
open Jvm.ClassFile
def u (s : String) : CpInfo := .utf8 (stringToUtf16 s)
/-- a pool by its gaps: so many unusable entries, then the entry; so many at the end -/
def gap : Nat → List CpInfo → List CpInfo
  | 0, r => r
  | n + 1, r => .unusable :: gap n r
def poolList (es : List (Nat × CpInfo)) (last : Nat) : List CpInfo := es.foldr (fun e r => gap e.1 (e.2 :: r)) (gap last [])
def pool (es : List (Nat × CpInfo)) (last : Nat) : Array CpInfo := ⟨poolList es last⟩
def fileOf (pool : Array CpInfo) (this : Nat) (attrs : Array Attribute := #[]) (ms : Array MethodInfo := #[]) (fl : Nat := 33) (sup : Nat := 0) (ifs : Array Nat := #[]) (fds : Array FieldInfo := #[]) : ClassFile where
  minorVersion := 0
  majorVersion := 65
  constantPool := pool
  accessFlags := fl
  thisClass := this
  superClass := sup
  interfaces := ifs
  fields := fds
  methods := ms
  attributes := attrs
def plain (name : String) (sup : Option ClassId) : Class where
  name := name
  kind := .ordinary
  loader := none
  accessFlags := 33
  super := sup
  interfaces := #[]
  cf := none
  fields := #[]
  methods := #[]
  instanceTypes := #[]
  staticTypes := #[]
  resolved := #[]
  callSites := []
  init := .initialized
  statics := none
  mirror := none

def pool0 : Array CpInfo := pool [(5, u "<init>"), (0, u "()V"), (1, .class_ 10), (1, u "java/lang/Object")] 113

def k0c0 : Code := { maxStack := 0, maxLocals := 1, code := object_method_1_code, exceptionTable := #[], attributes := #[] }
def k0m0 : Method := { name := "<init>", desc := "()V", sig := { parameters := [], returnType := none }, accessFlags := 1, code := some k0c0 }
/-- java/lang/Object -/
def k0 : Class := { plain "java/lang/Object" none with
  accessFlags := 33
  interfaces := #[]
  cf := some (fileOf pool0 8 #[] #[{ accessFlags := 1, nameIndex := 5, descriptorIndex := 6, attributes := #[] }] 33 0 #[] #[])
  fields := #[]
  methods := #[k0m0]
  instanceTypes := #[]
  staticTypes := #[]
  resolved := Array.replicate 124 none
  statics := none }

def pool1 : Array CpInfo := pool [(2, .class_ 4), (1, u "java/lang/Object"), (0, u "<init>"), (0, u "()V"), (0, .integer 2147483647), (0, .integer 65535), (0, .class_ 10), (0, u "java/lang/String"), (0, .methodref 9 12), (0, .nameAndType 5 13), (0, u "([C)V"), (0, .methodref 15 16), (0, .class_ 17), (0, .nameAndType 18 19), (0, u "com/example/neighbor_keys/neighborkeys/model/CompositeKeepsOrderPinLaw"), (0, u "above"), (0, u "(C)Z"), (0, .methodref 21 22), (0, .class_ 23), (0, .nameAndType 24 25), (0, u "com/example/neighbor_keys/neighborkeys/model/Composite"), (0, u "keepsOrder"), (0, u "(Ljava/lang/String;)Z"), (3, u "law"), (0, u "(IIIII)Z")] 2

def k1m0 : Method := { name := "<init>", desc := "()V", sig := { parameters := [], returnType := none }, accessFlags := 2, code := none }
def k1c1 : Code := { maxStack := 2, maxLocals := 1, code := method_2_code, exceptionTable := #[], attributes := #[] }
def k1m1 : Method := { name := "above", desc := "(C)Z", sig := { parameters := [.char], returnType := some .boolean }, accessFlags := 10, code := some k1c1 }
def k1c2 : Code := { maxStack := 6, maxLocals := 12, code := code, exceptionTable := #[], attributes := #[] }
def k1m2 : Method := { name := "law", desc := "(IIIII)Z", sig := { parameters := [.int, .int, .int, .int, .int], returnType := some .boolean }, accessFlags := 9, code := some k1c2 }
/-- com/example/neighbor_keys/neighborkeys/model/CompositeKeepsOrderPinLaw -/
def k1 : Class := { plain "com/example/neighbor_keys/neighborkeys/model/CompositeKeepsOrderPinLaw" (some 0) with
  accessFlags := 49
  interfaces := #[]
  cf := some (fileOf pool1 15 #[] #[{ accessFlags := 2, nameIndex := 5, descriptorIndex := 6, attributes := #[] }, { accessFlags := 10, nameIndex := 18, descriptorIndex := 19, attributes := #[] }, { accessFlags := 9, nameIndex := 29, descriptorIndex := 30, attributes := #[] }] 49 2 #[] #[])
  fields := #[]
  methods := #[k1m0, k1m1, k1m2]
  instanceTypes := #[]
  staticTypes := #[]
  resolved := Array.replicate 33 none
  statics := none }

def pool2 : Array CpInfo := pool [(1, .class_ 2), (0, u "java/io/Serializable"), (0, .class_ 4), (0, u "java/lang/Object")] 2

/-- java/io/Serializable -/
def k2 : Class := { plain "java/io/Serializable" (some 0) with
  accessFlags := 1537
  interfaces := #[]
  cf := some (fileOf pool2 1 #[] #[] 1537 3 #[] #[])
  fields := #[]
  methods := #[]
  instanceTypes := #[]
  staticTypes := #[]
  resolved := Array.replicate 7 none
  statics := none }

def pool3 : Array CpInfo := pool [(1, .class_ 2), (0, u "java/lang/Comparable"), (0, .class_ 4), (0, u "java/lang/Object")] 7

/-- java/lang/Comparable -/
def k3 : Class := { plain "java/lang/Comparable" (some 0) with
  accessFlags := 1537
  interfaces := #[]
  cf := some (fileOf pool3 1 #[] #[] 1537 3 #[] #[])
  fields := #[]
  methods := #[]
  instanceTypes := #[]
  staticTypes := #[]
  resolved := Array.replicate 12 none
  statics := none }

def pool4 : Array CpInfo := pool [(2, .class_ 4), (1, u "java/lang/CharSequence"), (42, .class_ 48), (0, u "java/lang/CharSequence$1CodePointIterator"), (10, .class_ 60), (0, u "java/lang/CharSequence$1CharIterator"), (5, .class_ 67), (0, u "java/lang/Object")] 63

/-- java/lang/CharSequence -/
def k4 : Class := { plain "java/lang/CharSequence" (some 0) with
  accessFlags := 1537
  interfaces := #[]
  cf := some (fileOf pool4 2 #[.nestMembers #[47, 59]] #[] 1537 66 #[] #[])
  fields := #[]
  methods := #[]
  instanceTypes := #[]
  staticTypes := #[]
  resolved := Array.replicate 131 none
  statics := none }

def pool5 : Array CpInfo := pool [(1, .class_ 2), (0, u "java/lang/constant/Constable"), (0, .class_ 4), (0, u "java/lang/Object")] 6

/-- java/lang/constant/Constable -/
def k5 : Class := { plain "java/lang/constant/Constable" (some 0) with
  accessFlags := 1537
  interfaces := #[]
  cf := some (fileOf pool5 1 #[] #[] 1537 3 #[] #[])
  fields := #[]
  methods := #[]
  instanceTypes := #[]
  staticTypes := #[]
  resolved := Array.replicate 11 none
  statics := none }

def pool6 : Array CpInfo := pool [(1, .class_ 2), (0, u "java/lang/constant/ConstantDesc"), (0, .class_ 4), (0, u "java/lang/Object")] 32

/-- java/lang/constant/ConstantDesc -/
def k6 : Class := { plain "java/lang/constant/ConstantDesc" (some 0) with
  accessFlags := 1537
  interfaces := #[]
  cf := some (fileOf pool6 1 #[] #[] 1537 3 #[] #[])
  fields := #[]
  methods := #[]
  instanceTypes := #[]
  staticTypes := #[]
  resolved := Array.replicate 37 none
  statics := none }

def pool7 : Array CpInfo := pool [(1, .methodref 2 3), (0, .class_ 4), (0, .nameAndType 5 6), (0, u "java/lang/Object"), (0, u "<init>"), (0, u "()V"), (0, .string 8), (0, u ""), (0, .fieldref 10 11), (0, .class_ 12), (0, .nameAndType 13 14), (0, u "java/lang/String"), (0, u "value"), (0, u "[B"), (0, .fieldref 10 16), (0, .nameAndType 17 18), (0, u "coder"), (0, u "B"), (2, u "hash"), (0, u "I"), (2, u "hashIsZero"), (0, u "Z"), (0, .methodref 10 28), (0, .nameAndType 5 29), (0, u "([CIILjava/lang/Void;)V"), (8, .fieldref 10 39), (0, .nameAndType 40 26), (0, u "COMPACT_STRINGS"), (1, .class_ 44), (1, u "java/lang/StringUTF16"), (0, u "compress"), (1, .methodref 42 48), (0, .nameAndType 49 50), (0, u "coderFromArrayLen"), (0, u "([BI)B"), (56, .class_ 109), (1, u "java/lang/StringLatin1"), (32, u "()Z"), (34, .methodref 42 178), (0, .nameAndType 45 179), (0, u "([CII)[B"), (154, u "()I"), (0, .methodref 10 336), (0, .nameAndType 17 337), (0, u "()B"), (25, u "([BI)C"), (27, u "(II)V"), (35, u "(I)C"), (64, .methodref 10 493), (0, .nameAndType 494 142), (0, u "isLatin1"), (0, .methodref 107 496), (0, .nameAndType 497 363), (0, u "charAt"), (0, .methodref 42 496), (2, u "checkIndex"), (5, u "length"), (67, .class_ 576), (0, u "java/lang/CharSequence"), (22, u "CASE_INSENSITIVE_ORDER"), (0, u "Ljava/util/Comparator;"), (409, u "([C)V"), (42, .fieldref 1054 1055), (0, .class_ 1056), (0, .nameAndType 1057 1058), (0, u "jdk/internal/util/Preconditions"), (0, u "SIOOBE_FORMATTER"), (0, u "Ljava/util/function/BiFunction;"), (0, .methodref 1054 1060), (0, .nameAndType 501 1061), (0, u "(IILjava/util/function/BiFunction;)I"), (39, u "serialPersistentFields"), (0, u "[Ljava/io/ObjectStreamField;"), (0, .class_ 1104), (0, u "java/lang/String$CaseInsensitiveComparator"), (1, .class_ 1107), (0, u "java/io/Serializable"), (0, .class_ 1109), (0, u "java/lang/Comparable"), (0, .class_ 1111), (0, u "java/lang/constant/Constable"), (0, .class_ 1113), (0, u "java/lang/constant/ConstantDesc"), (2, u "serialVersionUID"), (0, u "J"), (3, u "REPL"), (0, u "C"), (2, u "LATIN1"), (1, u "UTF16")] 323

def k7m0 : Method := { name := "<init>", desc := "()V", sig := { parameters := [], returnType := none }, accessFlags := 1, code := none }
def k7c1 : Code := { maxStack := 5, maxLocals := 2, code := jdk_42_method_3_code, exceptionTable := #[], attributes := #[] }
def k7m1 : Method := { name := "<init>", desc := "([C)V", sig := { parameters := [(.array .char)], returnType := none }, accessFlags := 1, code := some k7c1 }
def k7c2 : Code := { maxStack := 2, maxLocals := 1, code := jdk_42_method_54_code, exceptionTable := #[], attributes := #[] }
def k7m2 : Method := { name := "length", desc := "()I", sig := { parameters := [], returnType := some .int }, accessFlags := 1, code := some k7c2 }
def k7c3 : Code := { maxStack := 2, maxLocals := 2, code := jdk_42_method_56_code, exceptionTable := #[], attributes := #[] }
def k7m3 : Method := { name := "charAt", desc := "(I)C", sig := { parameters := [.int], returnType := some .char }, accessFlags := 1, code := some k7c3 }
def k7c4 : Code := { maxStack := 4, maxLocals := 6, code := jdk_42_method_149_code, exceptionTable := #[], attributes := #[] }
def k7m4 : Method := { name := "<init>", desc := "([CIILjava/lang/Void;)V", sig := { parameters := [(.array .char), .int, .int, (.object "java/lang/Void")], returnType := none }, accessFlags := 2, code := some k7c4 }
def k7c5 : Code := { maxStack := 1, maxLocals := 1, code := jdk_42_method_152_code, exceptionTable := #[], attributes := #[] }
def k7m5 : Method := { name := "coder", desc := "()B", sig := { parameters := [], returnType := some .byte }, accessFlags := 0, code := some k7c5 }
def k7c6 : Code := { maxStack := 1, maxLocals := 1, code := jdk_42_method_154_code, exceptionTable := #[], attributes := #[] }
def k7m6 : Method := { name := "isLatin1", desc := "()Z", sig := { parameters := [], returnType := some .boolean }, accessFlags := 0, code := some k7c6 }
def k7c7 : Code := { maxStack := 3, maxLocals := 2, code := jdk_42_method_155_code, exceptionTable := #[], attributes := #[] }
def k7m7 : Method := { name := "checkIndex", desc := "(II)V", sig := { parameters := [.int, .int], returnType := none }, accessFlags := 8, code := some k7c7 }
/-- java/lang/String -/
def k7 : Class := { plain "java/lang/String" (some 0) with
  accessFlags := 49
  interfaces := #[2, 3, 4, 5, 6]
  cf := some (fileOf pool7 10 #[.nestMembers #[1103]] #[{ accessFlags := 1, nameIndex := 5, descriptorIndex := 6, attributes := #[] }, { accessFlags := 1, nameIndex := 5, descriptorIndex := 1010, attributes := #[] }, { accessFlags := 1, nameIndex := 507, descriptorIndex := 334, attributes := #[] }, { accessFlags := 1, nameIndex := 497, descriptorIndex := 427, attributes := #[] }, { accessFlags := 2, nameIndex := 5, descriptorIndex := 29, attributes := #[] }, { accessFlags := 0, nameIndex := 17, descriptorIndex := 337, attributes := #[] }, { accessFlags := 0, nameIndex := 494, descriptorIndex := 142, attributes := #[] }, { accessFlags := 8, nameIndex := 501, descriptorIndex := 391, attributes := #[] }] 49 2 #[1106, 1108, 575, 1110, 1112] #[{ accessFlags := 18, nameIndex := 13, descriptorIndex := 14, attributes := #[] }, { accessFlags := 18, nameIndex := 17, descriptorIndex := 18, attributes := #[] }, { accessFlags := 2, nameIndex := 21, descriptorIndex := 22, attributes := #[] }, { accessFlags := 2, nameIndex := 25, descriptorIndex := 26, attributes := #[] }, { accessFlags := 26, nameIndex := 1116, descriptorIndex := 1117, attributes := #[] }, { accessFlags := 24, nameIndex := 40, descriptorIndex := 26, attributes := #[] }, { accessFlags := 26, nameIndex := 1101, descriptorIndex := 1102, attributes := #[] }, { accessFlags := 26, nameIndex := 1121, descriptorIndex := 1122, attributes := #[] }, { accessFlags := 25, nameIndex := 599, descriptorIndex := 600, attributes := #[] }, { accessFlags := 24, nameIndex := 1125, descriptorIndex := 18, attributes := #[] }, { accessFlags := 24, nameIndex := 1127, descriptorIndex := 18, attributes := #[] }])
  fields := #[{ name := "value", type := (.array .byte), accessFlags := 18, slot := 0, constantValue := 0 }, { name := "coder", type := .byte, accessFlags := 18, slot := 1, constantValue := 0 }, { name := "hash", type := .int, accessFlags := 2, slot := 2, constantValue := 0 }, { name := "hashIsZero", type := .boolean, accessFlags := 2, slot := 3, constantValue := 0 }, { name := "serialVersionUID", type := .long, accessFlags := 26, slot := 0, constantValue := 0 }, { name := "COMPACT_STRINGS", type := .boolean, accessFlags := 24, slot := 1, constantValue := 0 }, { name := "serialPersistentFields", type := (.array (.object "java/io/ObjectStreamField")), accessFlags := 26, slot := 2, constantValue := 0 }, { name := "REPL", type := .char, accessFlags := 26, slot := 3, constantValue := 0 }, { name := "CASE_INSENSITIVE_ORDER", type := (.object "java/util/Comparator"), accessFlags := 25, slot := 4, constantValue := 0 }, { name := "LATIN1", type := .byte, accessFlags := 24, slot := 5, constantValue := 0 }, { name := "UTF16", type := .byte, accessFlags := 24, slot := 6, constantValue := 0 }]
  methods := #[k7m0, k7m1, k7m2, k7m3, k7m4, k7m5, k7m6, k7m7]
  instanceTypes := #[(.array .byte), .byte, .int, .boolean]
  staticTypes := #[.long, .boolean, (.array (.object "java/io/ObjectStreamField")), .char, (.object "java/util/Comparator"), .byte, .byte]
  resolved := Array.replicate 1451 none
  statics := some 0 }

def pool8 : Array CpInfo := pool [(23, .class_ 24), (0, u "com/example/neighbor_keys/neighborkeys/model/DerivedValue"), (14, .class_ 40), (0, u "java/lang/Object")] 13

/-- com/example/neighbor_keys/neighborkeys/model/DerivedValue -/
def k8 : Class := { plain "com/example/neighbor_keys/neighborkeys/model/DerivedValue" (some 0) with
  accessFlags := 1537
  interfaces := #[]
  cf := some (fileOf pool8 23 #[] #[] 1537 39 #[] #[])
  fields := #[]
  methods := #[]
  instanceTypes := #[]
  staticTypes := #[]
  resolved := Array.replicate 54 none
  statics := none }

def pool9 : Array CpInfo := pool [(2, .class_ 4), (1, u "java/lang/Object"), (3, .class_ 10), (1, u "com/example/neighbor_keys/neighborkeys/model/Composite"), (0, u "name"), (0, u "Ljava/lang/String;"), (8, u "parts"), (0, u "Ljava/util/List;"), (0, .methodref 24 25), (0, .class_ 26), (0, .nameAndType 27 28), (0, u "java/lang/String"), (0, u "length"), (0, u "()I"), (0, .methodref 24 30), (0, .nameAndType 31 32), (0, u "charAt"), (0, u "(I)C"), (28, u "keepsOrder"), (0, u "(Ljava/lang/String;)Z"), (21, .class_ 85), (0, u "com/example/neighbor_keys/neighborkeys/model/DerivedValue"), (0, u "SEPARATOR"), (0, u "C")] 33

def k9c0 : Code := { maxStack := 2, maxLocals := 3, code := prog_7_method_2_code, exceptionTable := #[], attributes := #[] }
def k9m0 : Method := { name := "keepsOrder", desc := "(Ljava/lang/String;)Z", sig := { parameters := [(.object "java/lang/String")], returnType := some .boolean }, accessFlags := 9, code := some k9c0 }
/-- com/example/neighbor_keys/neighborkeys/model/Composite -/
def k9 : Class := { plain "com/example/neighbor_keys/neighborkeys/model/Composite" (some 0) with
  accessFlags := 49
  interfaces := #[8]
  cf := some (fileOf pool9 8 #[] #[{ accessFlags := 9, nameIndex := 61, descriptorIndex := 62, attributes := #[] }] 49 2 #[84] #[{ accessFlags := 25, nameIndex := 86, descriptorIndex := 87, attributes := #[] }, { accessFlags := 18, nameIndex := 11, descriptorIndex := 12, attributes := #[] }, { accessFlags := 18, nameIndex := 21, descriptorIndex := 22, attributes := #[] }])
  fields := #[{ name := "SEPARATOR", type := .char, accessFlags := 25, slot := 0, constantValue := 0 }, { name := "name", type := (.object "java/lang/String"), accessFlags := 18, slot := 0, constantValue := 0 }, { name := "parts", type := (.object "java/util/List"), accessFlags := 18, slot := 1, constantValue := 0 }]
  methods := #[k9m0]
  instanceTypes := #[(.object "java/lang/String"), (.object "java/util/List")]
  staticTypes := #[.char]
  resolved := Array.replicate 121 none
  statics := none }

def pool10 : Array CpInfo := pool [(3, .class_ 4), (0, u "java/lang/String"), (1, .class_ 8), (1, u "java/lang/Object"), (0, u "<init>"), (0, u "()V"), (0, .methodref 12 13), (0, .class_ 14), (0, .nameAndType 15 16), (0, u "java/lang/StringUTF16"), (0, u "newBytesLength"), (0, u "(I)I"), (3, .integer 1073741823), (23, .fieldref 12 45), (0, .nameAndType 46 47), (0, u "$assertionsDisabled"), (0, u "Z"), (0, .methodref 12 49), (0, .nameAndType 50 51), (0, u "length"), (0, u "([B)I"), (7, .fieldref 12 60), (0, .nameAndType 61 62), (0, u "HI_BYTE_SHIFT"), (0, u "I"), (0, .fieldref 12 64), (0, .nameAndType 65 62), (0, u "LO_BYTE_SHIFT"), (1, .methodref 12 68), (0, .nameAndType 69 70), (0, u "checkIndex"), (0, u "(I[B)V"), (0, .methodref 12 72), (0, .nameAndType 73 74), (0, u "getChar"), (0, u "([BI)C"), (32, .methodref 12 108), (0, .nameAndType 109 110), (0, u "newBytesFor"), (0, u "(I)[B"), (0, .methodref 12 112), (0, .nameAndType 113 114), (0, u "putChar"), (0, u "([BII)V"), (0, .methodref 12 116), (0, .nameAndType 117 118), (0, u "compress"), (0, u "([CI[BII)I"), (0, .methodref 12 120), (0, .nameAndType 121 122), (0, u "toBytes"), (0, u "([CII)[B"), (138, u "coderFromArrayLen"), (0, u "([BI)B"), (106, .class_ 371), (1, u "java/lang/StringUTF16$LinesSpliterator"), (20, u "charAt"), (21, .methodref 3 415), (0, .nameAndType 69 416), (0, u "(II)V"), (13, u "MAX_LENGTH"), (196, .class_ 628), (0, u "java/lang/StringUTF16$CodePointsSpliterator"), (0, .class_ 630), (0, u "java/lang/StringUTF16$CharsSpliterator")] 4

def k10m0 : Method := { name := "<init>", desc := "()V", sig := { parameters := [], returnType := none }, accessFlags := 0, code := none }
def k10c1 : Code := { maxStack := 1, maxLocals := 1, code := jdk_52_method_2_code, exceptionTable := #[], attributes := #[] }
def k10m1 : Method := { name := "newBytesFor", desc := "(I)[B", sig := { parameters := [.int], returnType := some (.array .byte) }, accessFlags := 9, code := some k10c1 }
def k10c2 : Code := { maxStack := 4, maxLocals := 1, code := jdk_52_method_3_code, exceptionTable := #[], attributes := #[] }
def k10m2 : Method := { name := "newBytesLength", desc := "(I)I", sig := { parameters := [.int], returnType := some .int }, accessFlags := 9, code := some k10c2 }
def k10c3 : Code := { maxStack := 4, maxLocals := 3, code := jdk_52_method_4_code, exceptionTable := #[], attributes := #[] }
def k10m3 : Method := { name := "putChar", desc := "([BII)V", sig := { parameters := [(.array .byte), .int, .int], returnType := none }, accessFlags := 8, code := some k10c3 }
def k10c4 : Code := { maxStack := 3, maxLocals := 2, code := jdk_52_method_5_code, exceptionTable := #[], attributes := #[] }
def k10m4 : Method := { name := "getChar", desc := "([BI)C", sig := { parameters := [(.array .byte), .int], returnType := some .char }, accessFlags := 8, code := some k10c4 }
def k10c5 : Code := { maxStack := 2, maxLocals := 1, code := jdk_52_method_6_code, exceptionTable := #[], attributes := #[] }
def k10m5 : Method := { name := "length", desc := "([B)I", sig := { parameters := [(.array .byte)], returnType := some .int }, accessFlags := 9, code := some k10c5 }
def k10c6 : Code := { maxStack := 4, maxLocals := 5, code := jdk_52_method_14_code, exceptionTable := #[], attributes := #[] }
def k10m6 : Method := { name := "toBytes", desc := "([CII)[B", sig := { parameters := [(.array .char), .int, .int], returnType := some (.array .byte) }, accessFlags := 9, code := some k10c6 }
def k10c7 : Code := { maxStack := 2, maxLocals := 2, code := jdk_52_method_15_code, exceptionTable := #[], attributes := #[] }
def k10m7 : Method := { name := "coderFromArrayLen", desc := "([BI)B", sig := { parameters := [(.array .byte), .int], returnType := some .byte }, accessFlags := 8, code := some k10c7 }
def k10c8 : Code := { maxStack := 5, maxLocals := 6, code := jdk_52_method_16_code, exceptionTable := #[], attributes := #[] }
def k10m8 : Method := { name := "compress", desc := "([CII)[B", sig := { parameters := [(.array .char), .int, .int], returnType := some (.array .byte) }, accessFlags := 9, code := some k10c8 }
def k10c9 : Code := { maxStack := 3, maxLocals := 7, code := jdk_52_method_21_code, exceptionTable := #[], attributes := #[] }
def k10m9 : Method := { name := "compress", desc := "([CI[BII)I", sig := { parameters := [(.array .char), .int, (.array .byte), .int, .int], returnType := some .int }, accessFlags := 9, code := some k10c9 }
def k10c10 : Code := { maxStack := 2, maxLocals := 2, code := jdk_52_method_83_code, exceptionTable := #[], attributes := #[] }
def k10m10 : Method := { name := "charAt", desc := "([BI)C", sig := { parameters := [(.array .byte), .int], returnType := some .char }, accessFlags := 9, code := some k10c10 }
def k10c11 : Code := { maxStack := 2, maxLocals := 2, code := jdk_52_method_91_code, exceptionTable := #[], attributes := #[] }
def k10m11 : Method := { name := "checkIndex", desc := "(I[B)V", sig := { parameters := [.int, (.array .byte)], returnType := none }, accessFlags := 9, code := some k10c11 }
/-- java/lang/StringUTF16 -/
def k10 : Class := { plain "java/lang/StringUTF16" (some 0) with
  accessFlags := 48
  interfaces := #[]
  cf := some (fileOf pool10 12 #[.nestMembers #[627, 629, 369]] #[{ accessFlags := 0, nameIndex := 9, descriptorIndex := 10, attributes := #[] }, { accessFlags := 9, nameIndex := 109, descriptorIndex := 110, attributes := #[] }, { accessFlags := 9, nameIndex := 15, descriptorIndex := 16, attributes := #[] }, { accessFlags := 8, nameIndex := 113, descriptorIndex := 114, attributes := #[] }, { accessFlags := 8, nameIndex := 73, descriptorIndex := 74, attributes := #[] }, { accessFlags := 9, nameIndex := 50, descriptorIndex := 51, attributes := #[] }, { accessFlags := 9, nameIndex := 121, descriptorIndex := 122, attributes := #[] }, { accessFlags := 8, nameIndex := 261, descriptorIndex := 262, attributes := #[] }, { accessFlags := 9, nameIndex := 117, descriptorIndex := 122, attributes := #[] }, { accessFlags := 9, nameIndex := 117, descriptorIndex := 118, attributes := #[] }, { accessFlags := 9, nameIndex := 392, descriptorIndex := 74, attributes := #[] }, { accessFlags := 9, nameIndex := 69, descriptorIndex := 70, attributes := #[] }] 48 6 #[] #[{ accessFlags := 26, nameIndex := 61, descriptorIndex := 62, attributes := #[] }, { accessFlags := 26, nameIndex := 65, descriptorIndex := 62, attributes := #[] }, { accessFlags := 24, nameIndex := 430, descriptorIndex := 62, attributes := #[] }, { accessFlags := 4120, nameIndex := 46, descriptorIndex := 47, attributes := #[] }])
  fields := #[{ name := "HI_BYTE_SHIFT", type := .int, accessFlags := 26, slot := 0, constantValue := 0 }, { name := "LO_BYTE_SHIFT", type := .int, accessFlags := 26, slot := 1, constantValue := 0 }, { name := "MAX_LENGTH", type := .int, accessFlags := 24, slot := 2, constantValue := 0 }, { name := "$assertionsDisabled", type := .boolean, accessFlags := 4120, slot := 3, constantValue := 0 }]
  methods := #[k10m0, k10m1, k10m2, k10m3, k10m4, k10m5, k10m6, k10m7, k10m8, k10m9, k10m10, k10m11]
  instanceTypes := #[]
  staticTypes := #[.int, .int, .int, .boolean]
  resolved := Array.replicate 635 none
  statics := some 1 }

def pool11 : Array CpInfo := pool [(1, .class_ 2), (0, u "java/lang/String"), (1, .class_ 6), (1, u "java/lang/Object"), (0, u "<init>"), (0, u "()V"), (0, .methodref 1 10), (0, .nameAndType 11 12), (0, u "checkIndex"), (0, u "(II)V"), (1, .class_ 16), (1, u "java/lang/StringLatin1"), (36, u "([BI)C"), (67, u "$assertionsDisabled"), (0, u "Z"), (98, .class_ 223), (1, u "java/lang/StringLatin1$LinesSpliterator"), (28, u "charAt"), (137, .class_ 391), (0, u "java/lang/StringLatin1$CharsSpliterator")] 3

def k11m0 : Method := { name := "<init>", desc := "()V", sig := { parameters := [], returnType := none }, accessFlags := 0, code := none }
def k11c1 : Code := { maxStack := 2, maxLocals := 2, code := jdk_43_method_2_code, exceptionTable := #[], attributes := #[] }
def k11m1 : Method := { name := "charAt", desc := "([BI)C", sig := { parameters := [(.array .byte), .int], returnType := some .char }, accessFlags := 9, code := some k11c1 }
/-- java/lang/StringLatin1 -/
def k11 : Class := { plain "java/lang/StringLatin1" (some 0) with
  accessFlags := 48
  interfaces := #[]
  cf := some (fileOf pool11 14 #[.nestMembers #[390, 221]] #[{ accessFlags := 0, nameIndex := 7, descriptorIndex := 8, attributes := #[] }, { accessFlags := 9, nameIndex := 252, descriptorIndex := 53, attributes := #[] }] 48 4 #[] #[{ accessFlags := 4120, nameIndex := 121, descriptorIndex := 122, attributes := #[] }])
  fields := #[{ name := "$assertionsDisabled", type := .boolean, accessFlags := 4120, slot := 0, constantValue := 0 }]
  methods := #[k11m0, k11m1]
  instanceTypes := #[]
  staticTypes := #[.boolean]
  resolved := Array.replicate 395 none
  statics := none }

def pool12 : Array CpInfo := pool [(2, .class_ 4), (1, u "java/lang/Object"), (0, u "<init>"), (0, u "()V"), (17, .class_ 26), (1, u "jdk/internal/util/Preconditions"), (6, u "checkIndex"), (21, .class_ 56), (0, u "jdk/internal/util/Preconditions$4"), (57, .class_ 115), (0, u "jdk/internal/util/Preconditions$1"), (7, u "SIOOBE_FORMATTER"), (0, u "Ljava/util/function/BiFunction;"), (0, .class_ 126), (0, u "jdk/internal/util/Preconditions$2"), (3, u "AIOOBE_FORMATTER"), (0, .class_ 132), (0, u "jdk/internal/util/Preconditions$3"), (3, u "IOOBE_FORMATTER"), (41, u "(IILjava/util/function/BiFunction;)I")] 15

def k12m0 : Method := { name := "<init>", desc := "()V", sig := { parameters := [], returnType := none }, accessFlags := 1, code := none }
def k12c1 : Code := { maxStack := 3, maxLocals := 3, code := jdk_41_method_11_code, exceptionTable := #[], attributes := #[] }
def k12m1 : Method := { name := "checkIndex", desc := "(IILjava/util/function/BiFunction;)I", sig := { parameters := [.int, .int, (.object "java/util/function/BiFunction")], returnType := some .int }, accessFlags := 9, code := some k12c1 }
/-- jdk/internal/util/Preconditions -/
def k12 : Class := { plain "jdk/internal/util/Preconditions" (some 0) with
  accessFlags := 33
  interfaces := #[]
  cf := some (fileOf pool12 24 #[.nestMembers #[55, 131, 125, 114]] #[{ accessFlags := 1, nameIndex := 5, descriptorIndex := 6, attributes := #[] }, { accessFlags := 9, nameIndex := 33, descriptorIndex := 178, attributes := #[] }] 33 2 #[] #[{ accessFlags := 25, nameIndex := 123, descriptorIndex := 124, attributes := #[] }, { accessFlags := 25, nameIndex := 130, descriptorIndex := 124, attributes := #[] }, { accessFlags := 25, nameIndex := 136, descriptorIndex := 124, attributes := #[] }])
  fields := #[{ name := "SIOOBE_FORMATTER", type := (.object "java/util/function/BiFunction"), accessFlags := 25, slot := 0, constantValue := 0 }, { name := "AIOOBE_FORMATTER", type := (.object "java/util/function/BiFunction"), accessFlags := 25, slot := 1, constantValue := 0 }, { name := "IOOBE_FORMATTER", type := (.object "java/util/function/BiFunction"), accessFlags := 25, slot := 2, constantValue := 0 }]
  methods := #[k12m0, k12m1]
  instanceTypes := #[]
  staticTypes := #[(.object "java/util/function/BiFunction"), (.object "java/util/function/BiFunction"), (.object "java/util/function/BiFunction")]
  resolved := Array.replicate 194 none
  statics := some 2 }

def pool13 : Array CpInfo := pool [(9, u "<init>"), (6, .class_ 18), (1, u "java/lang/Object"), (0, u "()V"), (1, .class_ 23), (1, u "jdk/internal/util/ArraysSupport"), (0, u "LOG2_ARRAY_LONG_INDEX_SCALE"), (0, u "I"), (2, u "U"), (0, u "Ljdk/internal/misc/Unsafe;"), (8, u "BIG_ENDIAN"), (0, u "Z"), (8, u "LOG2_BYTE_BIT_SIZE"), (4, u "LOG2_ARRAY_INT_INDEX_SCALE"), (54, u "JLA"), (0, u "Ljdk/internal/access/JavaLangAccess;"), (11, u "LOG2_ARRAY_BOOLEAN_INDEX_SCALE"), (9, u "LOG2_ARRAY_BYTE_INDEX_SCALE"), (5, u "LOG2_ARRAY_CHAR_INDEX_SCALE"), (5, u "LOG2_ARRAY_SHORT_INDEX_SCALE"), (18, u "LOG2_ARRAY_FLOAT_INDEX_SCALE"), (24, u "LOG2_ARRAY_DOUBLE_INDEX_SCALE"), (89, u "T_BOOLEAN"), (2, u "T_CHAR"), (1, u "T_FLOAT"), (1, u "T_DOUBLE"), (1, u "T_BYTE"), (1, u "T_SHORT"), (1, u "T_INT"), (1, u "T_LONG"), (1, u "SOFT_MAX_ARRAY_LENGTH")] 83

def k13m0 : Method := { name := "<init>", desc := "()V", sig := { parameters := [], returnType := none }, accessFlags := 2, code := none }
/-- jdk/internal/util/ArraysSupport -/
def k13 : Class := { plain "jdk/internal/util/ArraysSupport" (some 0) with
  accessFlags := 33
  interfaces := #[]
  cf := some (fileOf pool13 21 #[] #[{ accessFlags := 2, nameIndex := 9, descriptorIndex := 19, attributes := #[] }] 33 16 #[] #[{ accessFlags := 24, nameIndex := 28, descriptorIndex := 29, attributes := #[] }, { accessFlags := 26, nameIndex := 38, descriptorIndex := 39, attributes := #[] }, { accessFlags := 25, nameIndex := 121, descriptorIndex := 25, attributes := #[] }, { accessFlags := 25, nameIndex := 131, descriptorIndex := 25, attributes := #[] }, { accessFlags := 25, nameIndex := 137, descriptorIndex := 25, attributes := #[] }, { accessFlags := 25, nameIndex := 143, descriptorIndex := 25, attributes := #[] }, { accessFlags := 25, nameIndex := 53, descriptorIndex := 25, attributes := #[] }, { accessFlags := 25, nameIndex := 24, descriptorIndex := 25, attributes := #[] }, { accessFlags := 25, nameIndex := 162, descriptorIndex := 25, attributes := #[] }, { accessFlags := 25, nameIndex := 187, descriptorIndex := 25, attributes := #[] }, { accessFlags := 26, nameIndex := 48, descriptorIndex := 25, attributes := #[] }, { accessFlags := 25, nameIndex := 277, descriptorIndex := 25, attributes := #[] }, { accessFlags := 25, nameIndex := 280, descriptorIndex := 25, attributes := #[] }, { accessFlags := 25, nameIndex := 282, descriptorIndex := 25, attributes := #[] }, { accessFlags := 25, nameIndex := 284, descriptorIndex := 25, attributes := #[] }, { accessFlags := 25, nameIndex := 286, descriptorIndex := 25, attributes := #[] }, { accessFlags := 25, nameIndex := 288, descriptorIndex := 25, attributes := #[] }, { accessFlags := 25, nameIndex := 290, descriptorIndex := 25, attributes := #[] }, { accessFlags := 25, nameIndex := 292, descriptorIndex := 25, attributes := #[] }, { accessFlags := 26, nameIndex := 108, descriptorIndex := 109, attributes := #[] }, { accessFlags := 25, nameIndex := 294, descriptorIndex := 25, attributes := #[] }])
  fields := #[{ name := "U", type := (.object "jdk/internal/misc/Unsafe"), accessFlags := 24, slot := 0, constantValue := 0 }, { name := "BIG_ENDIAN", type := .boolean, accessFlags := 26, slot := 1, constantValue := 0 }, { name := "LOG2_ARRAY_BOOLEAN_INDEX_SCALE", type := .int, accessFlags := 25, slot := 2, constantValue := 0 }, { name := "LOG2_ARRAY_BYTE_INDEX_SCALE", type := .int, accessFlags := 25, slot := 3, constantValue := 0 }, { name := "LOG2_ARRAY_CHAR_INDEX_SCALE", type := .int, accessFlags := 25, slot := 4, constantValue := 0 }, { name := "LOG2_ARRAY_SHORT_INDEX_SCALE", type := .int, accessFlags := 25, slot := 5, constantValue := 0 }, { name := "LOG2_ARRAY_INT_INDEX_SCALE", type := .int, accessFlags := 25, slot := 6, constantValue := 0 }, { name := "LOG2_ARRAY_LONG_INDEX_SCALE", type := .int, accessFlags := 25, slot := 7, constantValue := 0 }, { name := "LOG2_ARRAY_FLOAT_INDEX_SCALE", type := .int, accessFlags := 25, slot := 8, constantValue := 0 }, { name := "LOG2_ARRAY_DOUBLE_INDEX_SCALE", type := .int, accessFlags := 25, slot := 9, constantValue := 0 }, { name := "LOG2_BYTE_BIT_SIZE", type := .int, accessFlags := 26, slot := 10, constantValue := 0 }, { name := "T_BOOLEAN", type := .int, accessFlags := 25, slot := 11, constantValue := 0 }, { name := "T_CHAR", type := .int, accessFlags := 25, slot := 12, constantValue := 0 }, { name := "T_FLOAT", type := .int, accessFlags := 25, slot := 13, constantValue := 0 }, { name := "T_DOUBLE", type := .int, accessFlags := 25, slot := 14, constantValue := 0 }, { name := "T_BYTE", type := .int, accessFlags := 25, slot := 15, constantValue := 0 }, { name := "T_SHORT", type := .int, accessFlags := 25, slot := 16, constantValue := 0 }, { name := "T_INT", type := .int, accessFlags := 25, slot := 17, constantValue := 0 }, { name := "T_LONG", type := .int, accessFlags := 25, slot := 18, constantValue := 0 }, { name := "JLA", type := (.object "jdk/internal/access/JavaLangAccess"), accessFlags := 26, slot := 19, constantValue := 0 }, { name := "SOFT_MAX_ARRAY_LENGTH", type := .int, accessFlags := 25, slot := 20, constantValue := 0 }]
  methods := #[k13m0]
  instanceTypes := #[]
  staticTypes := #[(.object "jdk/internal/misc/Unsafe"), .boolean, .int, .int, .int, .int, .int, .int, .int, .int, .int, .int, .int, .int, .int, .int, .int, .int, .int, (.object "jdk/internal/access/JavaLangAccess"), .int]
  resolved := Array.replicate 378 none
  statics := none }

def pool14 : Array CpInfo := pool [(1, u "java/lang/Cloneable"), (0, .class_ 1), (0, u "java/lang/Object"), (0, .class_ 3)] 3

/-- java/lang/Cloneable -/
def k14 : Class := { plain "java/lang/Cloneable" (some 0) with
  accessFlags := 1537
  interfaces := #[]
  cf := some (fileOf pool14 2 #[] #[] 1537 4 #[] #[])
  fields := #[]
  methods := #[]
  instanceTypes := #[]
  staticTypes := #[]
  resolved := Array.replicate 8 none
  statics := none }

/-- the primitive byte -/
def k15 : Class := { plain "byte" none with kind := .primitive 'B', accessFlags := 0x411 }
/-- [B -/
def k16 : Class := { plain "[B" (some 0) with kind := .array 15 .byte, interfaces := #[14, 2], accessFlags := 1041 }

/-- the primitive char -/
def k17 : Class := { plain "char" none with kind := .primitive 'C', accessFlags := 0x411 }
/-- [C -/
def k18 : Class := { plain "[C" (some 0) with kind := .array 17 .char, interfaces := #[14, 2], accessFlags := 1041 }

/-- the primitive int -/
def k19 : Class := { plain "int" none with kind := .primitive 'I', accessFlags := 0x411 }
/-- [I -/
def k20 : Class := { plain "[I" (some 0) with kind := .array 19 .int, interfaces := #[14, 2], accessFlags := 1041 }

def heap : Heap := #[{ cls := 7, slots := #[.long 0, .int 1, .null, .int 0, .null, .int 0, .int 0], vm := .statics 7 },
  { cls := 10, slots := #[.int 0, .int 8, .int 0, .int 1], vm := .statics 10 },
  { cls := 12, slots := #[.null, .null, .null], vm := .statics 12 }]
def classes : Array Class := #[k0, k1, k2, k3, k4, k5, k6, k7, k8, k9, k10, k11, k12, k13, k14, k15, k16, k17, k18, k19, k20]
def interned : List (Array UInt16 × Addr) := []
def slotsUsed : Nat := 14
def theMethod : MethodId := ⟨1, 2⟩
def args0 : Array Value := #[.int 5, .int 7, .int 9, .int 40, .int 3]
def aboutOver (below : List Frame) : State where
  vm := { classes := classes, interned := interned.toArray }
  heap := heap
  slotsUsed := slotsUsed
  threads := #[{ frames := .invoking theMethod args0 :: below }]
def below0 : List Frame := [.native { method := ⟨0, 0⟩, args := #[] }]
def about1 : State := aboutOver below0
def p0 : Program := .bare "" "" ""
def e0 : Env := launch0.env 0 0 0
theorem w_frames : about1.frames = Frame.invoking theMethod args0 :: below0 := rfl
set_option maxRecDepth 65536 in
theorem w_args : argsFit about1.vm theMethod args0 = true := by decide +kernel
set_option maxRecDepth 65536 in
theorem w_heap : heapFits about1 = true := by decide +kernel
set_option maxRecDepth 65536 in
theorem w_runnable : about1.curStatus? = some .runnable := by decide +kernel
set_option maxRecDepth 65536 in
theorem w_alone : about1.alone = true := by decide +kernel
set_option maxRecDepth 65536 in
theorem w_named : about1.methodNamed? x = some theMethod := by decide +kernel
set_option maxRecDepth 65536 in
theorem w_hears : about1.hears theMethod below0 = true := by decide +kernel
set_option maxRecDepth 65536 in
theorem w_ripe : about1.ripe theMethod args0 below0 = true := by decide +kernel
theorem w_running : about1.status = .running := rfl
set_option maxRecDepth 65536 in
theorem w_room : about1.hasRoom e0.platform room_1 = true :=
  launch0.hasRoom_least _ room_1 (by decide +kernel) (by decide +kernel) (by decide +kernel) (by decide +kernel) (by decide +kernel) (by decide +kernel)
theorem allAtoms_all (ts : List Jvm.Cond) (a : Array Jvm.Value) (st : Jvm.State) : (allAtoms ts).before a st = ts.all (fun c => c.before a st) := by
  induction ts with
  | nil => rfl
  | cons c t ih =>
    show (Jvm.Cond.and c (allAtoms t)).before a st = _
    rw [Jvm.Cond.before_and, ih, List.all_cons]
def words1 : List Jvm.Cond := Jvm.Cond.code x code maxLocals ret :: tables_1
/-- a 'code' word, met by the world's own term for the bytes: nothing is compared byte by byte -/
theorem code_word {y : MethodName} {bytes : ByteArray} {mx : Nat} {rt : Option FieldType} {a : Array Value} {s : State} {m : MethodId} {meth : Method} {c : Code} (h1 : s.methodNamed? y = some m) (h2 : s.vm.method? m = some meth) (h3 : meth.code = some c) (h4 : c.code = bytes)
    (h5 : (c.maxLocals == mx && c.exceptionTable.isEmpty && decide (c.maxStack ≤ mostOperands) && decide (meth.sig.returnType = rt) && !meth.locks && decide (parseMethodDescriptor y.desc = some meth.sig)) = true) : (Jvm.Cond.code y bytes mx rt).before a s = true := by
  simp only [Bool.and_eq_true, beq_iff_eq, Bool.not_eq_true', decide_eq_true_eq] at h5
  obtain ⟨⟨⟨⟨⟨g1, g2⟩, g3⟩, g4⟩, g5⟩, g6⟩ := h5
  simp [Cond.before, Cond.holds, Cond.value, h1, h2, h3, h4, g1, g2, g3, g4, g5, g6]
def isCode : Jvm.Cond → Bool
  | .code _ _ _ _ => true
  | _ => false
theorem all_split {L : List Jvm.Cond} {P : Jvm.Cond → Bool} (h1 : L.all (fun c => isCode c || P c) = true) (h2 : ∀ c ∈ L.filter isCode, P c = true) : L.all P = true := by
  refine List.all_eq_true.mpr fun c hc => ?_
  have h := List.all_eq_true.mp h1 c hc
  rcases Bool.eq_false_or_eq_true (isCode c) with hi | hi
  · exact h2 c (List.mem_filter.mpr ⟨hc, hi⟩)
  · simpa [hi] using h
set_option maxRecDepth 65536 in
theorem w_c0 : (Jvm.Cond.code x code maxLocals ret).before args0 about1 = true := code_word (m := ⟨1, 2⟩) (meth := k1m2) (c := k1c2) (by decide +kernel) rfl rfl rfl (by decide +kernel)
set_option maxRecDepth 65536 in
theorem w_c1 : (Jvm.Cond.code ({ cls := "java/lang/String", name := "<init>", desc := "([C)V" } : Jvm.MethodName) jdk_42_method_3_code (2 : Nat) (Option.none : Option Jvm.ClassFile.FieldType)).before args0 about1 = true := code_word (m := ⟨7, 1⟩) (meth := k7m1) (c := k7c1) (by decide +kernel) rfl rfl rfl (by decide +kernel)
set_option maxRecDepth 65536 in
theorem w_c2 : (Jvm.Cond.code ({ cls := "java/lang/String", name := "<init>", desc := "([CIILjava/lang/Void;)V" } : Jvm.MethodName) jdk_42_method_149_code (6 : Nat) (Option.none : Option Jvm.ClassFile.FieldType)).before args0 about1 = true := code_word (m := ⟨7, 4⟩) (meth := k7m4) (c := k7c4) (by decide +kernel) rfl rfl rfl (by decide +kernel)
set_option maxRecDepth 65536 in
theorem w_c3 : (Jvm.Cond.code ({ cls := "java/lang/Object", name := "<init>", desc := "()V" } : Jvm.MethodName) object_method_1_code (1 : Nat) (Option.none : Option Jvm.ClassFile.FieldType)).before args0 about1 = true := code_word (m := ⟨0, 0⟩) (meth := k0m0) (c := k0c0) (by decide +kernel) rfl rfl rfl (by decide +kernel)
set_option maxRecDepth 65536 in
theorem w_c4 : (Jvm.Cond.code ({ cls := "com/example/neighbor_keys/neighborkeys/model/Composite", name := "keepsOrder", desc := "(Ljava/lang/String;)Z" } : Jvm.MethodName) prog_7_method_2_code (3 : Nat) (Option.some Jvm.ClassFile.FieldType.boolean)).before args0 about1 = true := code_word (m := ⟨9, 0⟩) (meth := k9m0) (c := k9c0) (by decide +kernel) rfl rfl rfl (by decide +kernel)
set_option maxRecDepth 65536 in
theorem w_c5 : (Jvm.Cond.code ({ cls := "java/lang/String", name := "length", desc := "()I" } : Jvm.MethodName) jdk_42_method_54_code (1 : Nat) (Option.some Jvm.ClassFile.FieldType.int)).before args0 about1 = true := code_word (m := ⟨7, 2⟩) (meth := k7m2) (c := k7c2) (by decide +kernel) rfl rfl rfl (by decide +kernel)
set_option maxRecDepth 65536 in
theorem w_c6 : (Jvm.Cond.code ({ cls := "java/lang/String", name := "coder", desc := "()B" } : Jvm.MethodName) jdk_42_method_152_code (1 : Nat) (Option.some Jvm.ClassFile.FieldType.byte)).before args0 about1 = true := code_word (m := ⟨7, 5⟩) (meth := k7m5) (c := k7c5) (by decide +kernel) rfl rfl rfl (by decide +kernel)
set_option maxRecDepth 65536 in
theorem w_c7 : (Jvm.Cond.code ({ cls := "java/lang/StringUTF16", name := "compress", desc := "([CII)[B" } : Jvm.MethodName) jdk_52_method_16_code (6 : Nat) (Option.some (Jvm.ClassFile.FieldType.array Jvm.ClassFile.FieldType.byte))).before args0 about1 = true := code_word (m := ⟨10, 8⟩) (meth := k10m8) (c := k10c8) (by decide +kernel) rfl rfl rfl (by decide +kernel)
set_option maxRecDepth 65536 in
theorem w_c8 : (Jvm.Cond.code ({ cls := "java/lang/StringUTF16", name := "compress", desc := "([CI[BII)I" } : Jvm.MethodName) jdk_52_method_21_code (7 : Nat) (Option.some Jvm.ClassFile.FieldType.int)).before args0 about1 = true := code_word (m := ⟨10, 9⟩) (meth := k10m9) (c := k10c9) (by decide +kernel) rfl rfl rfl (by decide +kernel)
set_option maxRecDepth 65536 in
theorem w_c9 : (Jvm.Cond.code ({ cls := "java/lang/StringUTF16", name := "coderFromArrayLen", desc := "([BI)B" } : Jvm.MethodName) jdk_52_method_15_code (2 : Nat) (Option.some Jvm.ClassFile.FieldType.byte)).before args0 about1 = true := code_word (m := ⟨10, 7⟩) (meth := k10m7) (c := k10c7) (by decide +kernel) rfl rfl rfl (by decide +kernel)
set_option maxRecDepth 65536 in
theorem w_c10 : (Jvm.Cond.code ({ cls := "com/example/neighbor_keys/neighborkeys/model/CompositeKeepsOrderPinLaw", name := "above", desc := "(C)Z" } : Jvm.MethodName) method_2_code (1 : Nat) (Option.some Jvm.ClassFile.FieldType.boolean)).before args0 about1 = true := code_word (m := ⟨1, 1⟩) (meth := k1m1) (c := k1c1) (by decide +kernel) rfl rfl rfl (by decide +kernel)
set_option maxRecDepth 65536 in
theorem w_c11 : (Jvm.Cond.code ({ cls := "java/lang/String", name := "charAt", desc := "(I)C" } : Jvm.MethodName) jdk_42_method_56_code (2 : Nat) (Option.some Jvm.ClassFile.FieldType.char)).before args0 about1 = true := code_word (m := ⟨7, 3⟩) (meth := k7m3) (c := k7c3) (by decide +kernel) rfl rfl rfl (by decide +kernel)
set_option maxRecDepth 65536 in
theorem w_c12 : (Jvm.Cond.code ({ cls := "java/lang/String", name := "isLatin1", desc := "()Z" } : Jvm.MethodName) jdk_42_method_154_code (1 : Nat) (Option.some Jvm.ClassFile.FieldType.boolean)).before args0 about1 = true := code_word (m := ⟨7, 6⟩) (meth := k7m6) (c := k7c6) (by decide +kernel) rfl rfl rfl (by decide +kernel)
set_option maxRecDepth 65536 in
theorem w_c13 : (Jvm.Cond.code ({ cls := "java/lang/StringLatin1", name := "charAt", desc := "([BI)C" } : Jvm.MethodName) jdk_43_method_2_code (2 : Nat) (Option.some Jvm.ClassFile.FieldType.char)).before args0 about1 = true := code_word (m := ⟨11, 1⟩) (meth := k11m1) (c := k11c1) (by decide +kernel) rfl rfl rfl (by decide +kernel)
set_option maxRecDepth 65536 in
theorem w_c14 : (Jvm.Cond.code ({ cls := "java/lang/String", name := "checkIndex", desc := "(II)V" } : Jvm.MethodName) jdk_42_method_155_code (2 : Nat) (Option.none : Option Jvm.ClassFile.FieldType)).before args0 about1 = true := code_word (m := ⟨7, 7⟩) (meth := k7m7) (c := k7c7) (by decide +kernel) rfl rfl rfl (by decide +kernel)
set_option maxRecDepth 65536 in
theorem w_c15 : (Jvm.Cond.code ({ cls := "jdk/internal/util/Preconditions", name := "checkIndex", desc := "(IILjava/util/function/BiFunction;)I" } : Jvm.MethodName) jdk_41_method_11_code (3 : Nat) (Option.some Jvm.ClassFile.FieldType.int)).before args0 about1 = true := code_word (m := ⟨12, 1⟩) (meth := k12m1) (c := k12c1) (by decide +kernel) rfl rfl rfl (by decide +kernel)
set_option maxRecDepth 65536 in
theorem w_c16 : (Jvm.Cond.code ({ cls := "java/lang/StringUTF16", name := "toBytes", desc := "([CII)[B" } : Jvm.MethodName) jdk_52_method_14_code (5 : Nat) (Option.some (Jvm.ClassFile.FieldType.array Jvm.ClassFile.FieldType.byte))).before args0 about1 = true := code_word (m := ⟨10, 6⟩) (meth := k10m6) (c := k10c6) (by decide +kernel) rfl rfl rfl (by decide +kernel)
set_option maxRecDepth 65536 in
theorem w_c17 : (Jvm.Cond.code ({ cls := "java/lang/StringUTF16", name := "newBytesFor", desc := "(I)[B" } : Jvm.MethodName) jdk_52_method_2_code (1 : Nat) (Option.some (Jvm.ClassFile.FieldType.array Jvm.ClassFile.FieldType.byte))).before args0 about1 = true := code_word (m := ⟨10, 1⟩) (meth := k10m1) (c := k10c1) (by decide +kernel) rfl rfl rfl (by decide +kernel)
set_option maxRecDepth 65536 in
theorem w_c18 : (Jvm.Cond.code ({ cls := "java/lang/StringUTF16", name := "newBytesLength", desc := "(I)I" } : Jvm.MethodName) jdk_52_method_3_code (1 : Nat) (Option.some Jvm.ClassFile.FieldType.int)).before args0 about1 = true := code_word (m := ⟨10, 2⟩) (meth := k10m2) (c := k10c2) (by decide +kernel) rfl rfl rfl (by decide +kernel)
set_option maxRecDepth 65536 in
theorem w_c19 : (Jvm.Cond.code ({ cls := "java/lang/StringUTF16", name := "putChar", desc := "([BII)V" } : Jvm.MethodName) jdk_52_method_4_code (3 : Nat) (Option.none : Option Jvm.ClassFile.FieldType)).before args0 about1 = true := code_word (m := ⟨10, 3⟩) (meth := k10m3) (c := k10c3) (by decide +kernel) rfl rfl rfl (by decide +kernel)
set_option maxRecDepth 65536 in
theorem w_c20 : (Jvm.Cond.code ({ cls := "java/lang/StringUTF16", name := "getChar", desc := "([BI)C" } : Jvm.MethodName) jdk_52_method_5_code (2 : Nat) (Option.some Jvm.ClassFile.FieldType.char)).before args0 about1 = true := code_word (m := ⟨10, 4⟩) (meth := k10m4) (c := k10c4) (by decide +kernel) rfl rfl rfl (by decide +kernel)
set_option maxRecDepth 65536 in
theorem w_c21 : (Jvm.Cond.code ({ cls := "java/lang/StringUTF16", name := "charAt", desc := "([BI)C" } : Jvm.MethodName) jdk_52_method_83_code (2 : Nat) (Option.some Jvm.ClassFile.FieldType.char)).before args0 about1 = true := code_word (m := ⟨10, 10⟩) (meth := k10m10) (c := k10c10) (by decide +kernel) rfl rfl rfl (by decide +kernel)
set_option maxRecDepth 65536 in
theorem w_c22 : (Jvm.Cond.code ({ cls := "java/lang/StringUTF16", name := "checkIndex", desc := "(I[B)V" } : Jvm.MethodName) jdk_52_method_91_code (2 : Nat) (Option.none : Option Jvm.ClassFile.FieldType)).before args0 about1 = true := code_word (m := ⟨10, 11⟩) (meth := k10m11) (c := k10c11) (by decide +kernel) rfl rfl rfl (by decide +kernel)
set_option maxRecDepth 65536 in
theorem w_c23 : (Jvm.Cond.code ({ cls := "java/lang/StringUTF16", name := "length", desc := "([B)I" } : Jvm.MethodName) jdk_52_method_6_code (1 : Nat) (Option.some Jvm.ClassFile.FieldType.int)).before args0 about1 = true := code_word (m := ⟨10, 5⟩) (meth := k10m5) (c := k10c5) (by decide +kernel) rfl rfl rfl (by decide +kernel)
def codes1 : List Jvm.Cond := [Jvm.Cond.code x code maxLocals ret, Jvm.Cond.code ({ cls := "java/lang/String", name := "<init>", desc := "([C)V" } : Jvm.MethodName) jdk_42_method_3_code (2 : Nat) (Option.none : Option Jvm.ClassFile.FieldType), Jvm.Cond.code ({ cls := "java/lang/String", name := "<init>", desc := "([CIILjava/lang/Void;)V" } : Jvm.MethodName) jdk_42_method_149_code (6 : Nat) (Option.none : Option Jvm.ClassFile.FieldType), Jvm.Cond.code ({ cls := "java/lang/Object", name := "<init>", desc := "()V" } : Jvm.MethodName) object_method_1_code (1 : Nat) (Option.none : Option Jvm.ClassFile.FieldType), Jvm.Cond.code ({ cls := "com/example/neighbor_keys/neighborkeys/model/Composite", name := "keepsOrder", desc := "(Ljava/lang/String;)Z" } : Jvm.MethodName) prog_7_method_2_code (3 : Nat) (Option.some Jvm.ClassFile.FieldType.boolean), Jvm.Cond.code ({ cls := "java/lang/String", name := "length", desc := "()I" } : Jvm.MethodName) jdk_42_method_54_code (1 : Nat) (Option.some Jvm.ClassFile.FieldType.int), Jvm.Cond.code ({ cls := "java/lang/String", name := "coder", desc := "()B" } : Jvm.MethodName) jdk_42_method_152_code (1 : Nat) (Option.some Jvm.ClassFile.FieldType.byte), Jvm.Cond.code ({ cls := "java/lang/StringUTF16", name := "compress", desc := "([CII)[B" } : Jvm.MethodName) jdk_52_method_16_code (6 : Nat) (Option.some (Jvm.ClassFile.FieldType.array Jvm.ClassFile.FieldType.byte)), Jvm.Cond.code ({ cls := "java/lang/StringUTF16", name := "compress", desc := "([CI[BII)I" } : Jvm.MethodName) jdk_52_method_21_code (7 : Nat) (Option.some Jvm.ClassFile.FieldType.int), Jvm.Cond.code ({ cls := "java/lang/StringUTF16", name := "coderFromArrayLen", desc := "([BI)B" } : Jvm.MethodName) jdk_52_method_15_code (2 : Nat) (Option.some Jvm.ClassFile.FieldType.byte), Jvm.Cond.code ({ cls := "com/example/neighbor_keys/neighborkeys/model/CompositeKeepsOrderPinLaw", name := "above", desc := "(C)Z" } : Jvm.MethodName) method_2_code (1 : Nat) (Option.some Jvm.ClassFile.FieldType.boolean), Jvm.Cond.code ({ cls := "java/lang/String", name := "charAt", desc := "(I)C" } : Jvm.MethodName) jdk_42_method_56_code (2 : Nat) (Option.some Jvm.ClassFile.FieldType.char), Jvm.Cond.code ({ cls := "java/lang/String", name := "isLatin1", desc := "()Z" } : Jvm.MethodName) jdk_42_method_154_code (1 : Nat) (Option.some Jvm.ClassFile.FieldType.boolean), Jvm.Cond.code ({ cls := "java/lang/StringLatin1", name := "charAt", desc := "([BI)C" } : Jvm.MethodName) jdk_43_method_2_code (2 : Nat) (Option.some Jvm.ClassFile.FieldType.char), Jvm.Cond.code ({ cls := "java/lang/String", name := "checkIndex", desc := "(II)V" } : Jvm.MethodName) jdk_42_method_155_code (2 : Nat) (Option.none : Option Jvm.ClassFile.FieldType), Jvm.Cond.code ({ cls := "jdk/internal/util/Preconditions", name := "checkIndex", desc := "(IILjava/util/function/BiFunction;)I" } : Jvm.MethodName) jdk_41_method_11_code (3 : Nat) (Option.some Jvm.ClassFile.FieldType.int), Jvm.Cond.code ({ cls := "java/lang/StringUTF16", name := "toBytes", desc := "([CII)[B" } : Jvm.MethodName) jdk_52_method_14_code (5 : Nat) (Option.some (Jvm.ClassFile.FieldType.array Jvm.ClassFile.FieldType.byte)), Jvm.Cond.code ({ cls := "java/lang/StringUTF16", name := "newBytesFor", desc := "(I)[B" } : Jvm.MethodName) jdk_52_method_2_code (1 : Nat) (Option.some (Jvm.ClassFile.FieldType.array Jvm.ClassFile.FieldType.byte)), Jvm.Cond.code ({ cls := "java/lang/StringUTF16", name := "newBytesLength", desc := "(I)I" } : Jvm.MethodName) jdk_52_method_3_code (1 : Nat) (Option.some Jvm.ClassFile.FieldType.int), Jvm.Cond.code ({ cls := "java/lang/StringUTF16", name := "putChar", desc := "([BII)V" } : Jvm.MethodName) jdk_52_method_4_code (3 : Nat) (Option.none : Option Jvm.ClassFile.FieldType), Jvm.Cond.code ({ cls := "java/lang/StringUTF16", name := "getChar", desc := "([BI)C" } : Jvm.MethodName) jdk_52_method_5_code (2 : Nat) (Option.some Jvm.ClassFile.FieldType.char), Jvm.Cond.code ({ cls := "java/lang/StringUTF16", name := "charAt", desc := "([BI)C" } : Jvm.MethodName) jdk_52_method_83_code (2 : Nat) (Option.some Jvm.ClassFile.FieldType.char), Jvm.Cond.code ({ cls := "java/lang/StringUTF16", name := "checkIndex", desc := "(I[B)V" } : Jvm.MethodName) jdk_52_method_91_code (2 : Nat) (Option.none : Option Jvm.ClassFile.FieldType), Jvm.Cond.code ({ cls := "java/lang/StringUTF16", name := "length", desc := "([B)I" } : Jvm.MethodName) jdk_52_method_6_code (1 : Nat) (Option.some Jvm.ClassFile.FieldType.int)]
set_option maxRecDepth 65536 in
theorem codes_eq : words1.filter isCode = codes1 := rfl
theorem w_codes : ∀ c ∈ words1.filter isCode, c.before args0 about1 = true := by
  rw [codes_eq]
  intro c hc
  simp only [codes1, List.mem_cons, List.not_mem_nil, or_false] at hc
  rcases hc with rfl | rfl | rfl | rfl | rfl | rfl | rfl | rfl | rfl | rfl | rfl | rfl | rfl | rfl | rfl | rfl | rfl | rfl | rfl | rfl | rfl | rfl | rfl | rfl
  · exact w_c0
  · exact w_c1
  · exact w_c2
  · exact w_c3
  · exact w_c4
  · exact w_c5
  · exact w_c6
  · exact w_c7
  · exact w_c8
  · exact w_c9
  · exact w_c10
  · exact w_c11
  · exact w_c12
  · exact w_c13
  · exact w_c14
  · exact w_c15
  · exact w_c16
  · exact w_c17
  · exact w_c18
  · exact w_c19
  · exact w_c20
  · exact w_c21
  · exact w_c22
  · exact w_c23
set_option maxRecDepth 65536 in
theorem w_t1 : (words1.take 24).all (fun c => isCode c || c.before args0 about1) = true := by decide +kernel
set_option maxRecDepth 65536 in
theorem w_t2 : ((words1.drop 24).take 24).all (fun c => isCode c || c.before args0 about1) = true := by decide +kernel
set_option maxRecDepth 65536 in
theorem w_t3 : (((words1.drop 24).drop 24).take 24).all (fun c => isCode c || c.before args0 about1) = true := by decide +kernel
set_option maxRecDepth 65536 in
theorem w_t4 : ((((words1.drop 24).drop 24).drop 24).take 24).all (fun c => isCode c || c.before args0 about1) = true := by decide +kernel
set_option maxRecDepth 65536 in
theorem w_t5 : ((((words1.drop 24).drop 24).drop 24).drop 24).all (fun c => isCode c || c.before args0 about1) = true := by decide +kernel
theorem w_tables : (allAtoms (Jvm.Cond.code x code maxLocals ret :: tables_1)).before args0 about1 = true := by
  rw [allAtoms_all]
  show words1.all (fun c => c.before args0 about1) = true
  refine all_split ?_ w_codes
  rw [← List.take_append_drop 24 words1, List.all_append, w_t1, ← List.take_append_drop 24 (words1.drop 24), List.all_append, w_t2, ← List.take_append_drop 24 ((words1.drop 24).drop 24), List.all_append, w_t3, ← List.take_append_drop 24 (((words1.drop 24).drop 24).drop 24), List.all_append, w_t4, w_t5]
  rfl
set_option maxRecDepth 65536 in
theorem w_rest : rest_1_c.before args0 about1 = true := by decide +kernel
set_option maxRecDepth 65536 in
theorem w_case : (Jvm.Cond.and given_1 narrow_1).before args0 about1 = true := by decide +kernel
set_option maxRecDepth 65536 in
theorem w_consts : constsHeld consts_1 about1 := Jvm.Lit.constsHeldB_iff.mp (by decide +kernel)
theorem w_applies : (headSpec (Jvm.Cond.code x code maxLocals ret :: tables_1) room_1).applies x e0.platform about1 = true :=
  (Spec.applies_iff w_frames).mpr ⟨w_running, w_runnable, w_alone, w_named, w_hears, w_ripe, w_room, w_tables⟩
theorem atStart : AtStart classFile x code maxLocals ret World_1 tables_1 room_1 Calls_1 rest_1 Pre_1 launch0 p0 e0 about1 theMethod args0 below0 :=
  ⟨lists_1, trivial, launch0.admits_env _ _ _, launch0.least_env, fairChoices_fair.cas, fairChoices_fair.clock, w_frames, w_args, w_heap, w_applies, ⟨w_consts, trivial⟩, w_rest, w_case⟩
end start1
theorem witness_1 : WitnessClaimed_1 := ⟨start1.p0, start1.e0, start1.about1, start1.theMethod, start1.args0, start1.below0, start1.atStart⟩
end Jvm.Pilot.@@N@@
