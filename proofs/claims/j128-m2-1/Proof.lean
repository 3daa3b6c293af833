import JvmDerived
import JvmDerived.Pilot.@@N@@Statement
import JvmDerived.Pilot.@@N@@Code
set_option linter.unusedVariables false
set_option linter.unusedSimpArgs false
namespace Jvm.RoadKit
open Sem ClassFile Op Lib Jvm.Stand Jvm.Free Jvm.LawKit
section OwnKit
/-- the run from S comes to an end that P allows -/
def Gl (tb : Tables) (e : Env) (below : List Frame) (P : Outcome → State → Prop) (S : State) : Prop := ∃ s₂ o, Steps tb e below S s₂ ∧ s₂.status = .running ∧ Ended s₂ below o ∧ P o s₂
variable {tb : Tables} {p : Program} {l : Launch} {e : Env} {R : Room} {s : State} {m : MethodId} {args : Array Value} {below : List Frame} {meth : Method} {c : Code} {T : State} {locs : List Loc} {cells slots : Nat} {P : Outcome → State → Prop} {S S' : State}
theorem Gl.st (h : ∀ t, Steps tb e below S' t → Steps tb e below S t) (k : Gl tb e below P S') : Gl tb e below P S := by
  obtain ⟨s₂, o, h1, h2⟩ := k; exact ⟨s₂, o, h _ h1, h2⟩
theorem Gl.to (h : Steps tb e below S S') (k : Gl tb e below P S') : Gl tb e below P S := Gl.st (fun _ q => h.trans q) k
theorem Gl.cast {g g' : JFrame} (q : g = g') (k : Gl tb e below P (T.setTop g')) : Gl tb e below P (T.setTop g) := q ▸ k
abbrev EndN (s : State) (Q : Option Value → Heap → List Loc → Prop) (kc ks : Nat) : Outcome → State → Prop := fun o s₂ => ∃ v L, o = .returned v ∧ Q v s₂.heap L ∧ FrameEnd s o s₂ L kc ks
abbrev EndW (s : State) (Q : Option Value → Heap → List Loc → Prop) (kc ks : Nat) : Outcome → State → Prop := fun o s₂ => ∃ v L, o = .returned v ∧ Q v s₂.heap L ∧ ReturnedEndW s o s₂ L kc ks
variable {Q : Option Value → Heap → List Loc → Prop} {kc ks : Nat}
theorem Gl.fin (X : Stand p l e R s m args below meth c T locs cells slots) {v : Option Value} (hv : meth.sig.returnType = none → v = none) (hlk : meth.locks = false) (hc : cells ≤ kc) (hs : slots ≤ ks) (hQ : Q v T.heap locs)
    (k : ∀ fs, (∀ (f : JFrame) (acts : List Action), f.method = m → f.locked = none → f.entered = [] → (doReturn e (T.setTop f) acts v).1 = T.setFrames fs) → Steps p.tables e below S (T.setFrames fs)) : Gl p.tables e below (EndN s Q kc ks) S := by
  obtain ⟨fs, hr, hrun, hended, hW, hsame⟩ := X.leave hv hlk
  exact ⟨_, _, k fs hr, hrun, hended, v, locs, rfl, hQ, ⟨_, rfl⟩, hW, hsame.mono hc hs⟩
theorem Gl.finW {vm₁ : Vm} {n : Nat} (X : Stand p l e R (s.setVm vm₁) m args below meth c T locs cells slots) (hS : s.Since vm₁ n) (hn : n ≤ T.heap.size) {v : Option Value} (hv : meth.sig.returnType = none → v = none) (hlk : meth.locks = false) (hc : cells ≤ kc) (hs : slots ≤ ks) (hQ : Q v T.heap locs)
    (k : ∀ fs, (∀ (f : JFrame) (acts : List Action), f.method = m → f.locked = none → f.entered = [] → (doReturn e (T.setTop f) acts v).1 = T.setFrames fs) → Steps p.tables e below S (T.setFrames fs)) : Gl p.tables e below (EndW s Q kc ks) S := by
  obtain ⟨fs, hr, hrun, hended, h1, h2, h3, hsame⟩ := X.leaveW hS hn hv hlk
  exact ⟨_, _, k fs hr, hrun, hended, v, locs, rfl, hQ, h1, h2, h3, hsame.mono hc hs⟩
variable {pc : Nat} {Ls : Array Slot} {rest : List Value}
theorem nov {meth : Method} {t : FieldType} {v : Option Value} (h : meth.sig.returnType = some t) : meth.sig.returnType = none → v = none := fun q => by rw [h] at q; cases q
theorem narR {t : FieldType} {w : Value} (hw : w.isRef = true) (ht : t.isReference = true) : narrow t w = w := by
  rcases ref_cases hw with rfl | ⟨a, rfl⟩ <;> cases t <;> first | rfl | (simp [FieldType.isReference] at ht)
theorem fitR {t : FieldType} {w : Value} (hw : w.isRef = true) (ht : t.isReference = true) : fits t w = true := by
  rcases ref_cases hw with rfl | ⟨a, rfl⟩ <;> cases t <;> first | rfl | (simp [FieldType.isReference] at ht)
theorem refc {w : Value} (hw : w.isRef = true) : w.category = 1 := by
  rcases ref_cases hw with rfl | ⟨a, rfl⟩ <;> rfl
theorem lt_ne32 {u w : Int32} (h : u < w) : ¬ u = w := fun q => by rw [q] at h; exact Int32.lt_irrefl h
theorem lt_ne32' {u w : Int32} (h : w < u) : ¬ u = w := fun q => lt_ne32 h q.symm
theorem tri32 {u w : Int32} (h1 : ¬ u < w) (h2 : ¬ w < u) : u = w := by
  rw [Int32.lt_iff_toInt_lt] at h1 h2
  exact Int32.toInt_inj.mp (by omega)
theorem alc0 {P : Int32 → Prop} : ∀ x ∈ ([] : List Int32), P x := fun _ q => nomatch q
theorem alcS {P : Int32 → Prop} {y : Int32} {L : List Int32} (q : P y) (r : ∀ x ∈ L, P x) : ∀ x ∈ y :: L, P x := fun x z => (List.mem_cons.mp z).elim (fun u => u ▸ q) (r x)
theorem up255 (cs : List Int32) (h : ∀ c ∈ cs, ¬ c < 0 ∧ ¬ (255 : Int32) < c) : ∀ c ∈ cs, ¬ c < 0 ∧ ¬ (65535 : Int32) < c := fun c hc => ⟨(h c hc).1, fun q => (h c hc).2 (by rw [Int32.lt_iff_toInt_lt] at q ⊢; have e1 : (65535 : Int32).toInt = 65535 := rfl; have e2 : (255 : Int32).toInt = 255 := rfl; omega)⟩
theorem Gl.retN (X : Stand p l e R s m args below meth c T locs cells slots) (hx : p.tables.exec = Jvm.exec) {z : Int32} {t : FieldType} (hret : meth.sig.returnType = some t) (ht : t = .boolean ∨ t = .byte ∨ t = .char ∨ t = .short) (hd : decode c.code pc = .ok (.ireturn, 1)) (hlk : meth.locks = false) (hc : cells ≤ kc) (hs : slots ≤ ks) (hQ : Q (some (.int (nar t z))) T.heap locs) : Gl p.tables e below (EndN s Q kc ks) (T.setTop (mkF m pc Ls (.int z :: rest))) :=
  Gl.fin X (nov hret) hlk hc hs hQ fun _ hr => Jvm.RoadKit.retN X hx hret ht hd hr
theorem retIo (X : Stand p l e R s m args below meth c T locs cells slots) (hx : p.tables.exec = Jvm.exec) {z : Int32} (hret : meth.sig.returnType = some .int) (hd : decode c.code pc = .ok (.ireturn, 1)) {fs : List Frame}
    (hl : ∀ (f : JFrame) (acts : List Action), f.method = m → f.locked = none → f.entered = [] → (doReturn e (T.setTop f) acts (some (.int z))).1 = T.setFrames fs) : Steps p.tables e below (T.setTop (mkF m pc Ls (.int z :: rest))) (T.setFrames fs) :=
  retOut X hx hret rfl (Or.inl ⟨rfl, Or.inl rfl, _, rfl⟩) hd hl
theorem Gl.retI (X : Stand p l e R s m args below meth c T locs cells slots) (hx : p.tables.exec = Jvm.exec) {z : Int32} (hret : meth.sig.returnType = some .int) (hd : decode c.code pc = .ok (.ireturn, 1)) (hlk : meth.locks = false) (hc : cells ≤ kc) (hs : slots ≤ ks) (hQ : Q (some (.int z)) T.heap locs) : Gl p.tables e below (EndN s Q kc ks) (T.setTop (mkF m pc Ls (.int z :: rest))) :=
  Gl.fin X (nov hret) hlk hc hs hQ fun _ hr => retIo X hx hret hd hr
theorem Gl.retJ (X : Stand p l e R s m args below meth c T locs cells slots) (hx : p.tables.exec = Jvm.exec) {z : Int64} (hret : meth.sig.returnType = some .long) (hd : decode c.code pc = .ok (.lreturn, 1)) (hlk : meth.locks = false) (hc : cells ≤ kc) (hs : slots ≤ ks) (hQ : Q (some (.long z)) T.heap locs) : Gl p.tables e below (EndN s Q kc ks) (T.setTop (mkF m pc Ls (.long z :: rest))) :=
  Gl.fin X (nov hret) hlk hc hs hQ fun _ hr => retOut X hx hret rfl (Or.inr (Or.inl ⟨rfl, rfl, _, rfl⟩)) hd hr
theorem Gl.retA (X : Stand p l e R s m args below meth c T locs cells slots) (hx : p.tables.exec = Jvm.exec) {w : Value} {t : FieldType} (hret : meth.sig.returnType = some t) (ht : t.isReference = true) (hw : w.isRef = true) (hd : decode c.code pc = .ok (.areturn, 1)) (hlk : meth.locks = false) (hc : cells ≤ kc) (hs : slots ≤ ks) (hQ : Q (some w) T.heap locs) : Gl p.tables e below (EndN s Q kc ks) (T.setTop (mkF m pc Ls (w :: rest))) :=
  Gl.fin X (nov hret) hlk hc hs hQ fun _ hr => retOut X hx hret (narR hw ht) (Or.inr (Or.inr (Or.inr (Or.inr ⟨rfl, ht, hw⟩)))) hd hr
theorem Gl.ret0 (X : Stand p l e R s m args below meth c T locs cells slots) (hx : p.tables.exec = Jvm.exec) (hret : meth.sig.returnType = none) (hd : decode c.code pc = .ok (.return_, 1)) (hlk : meth.locks = false) (hc : cells ≤ kc) (hs : slots ≤ ks) (hQ : Q none T.heap locs) : Gl p.tables e below (EndN s Q kc ks) (T.setTop (mkF m pc Ls [])) :=
  Gl.fin X (fun _ => rfl) hlk hc hs hQ fun _ hr => X.returnOut hx hret hd hr
variable {vm₁ : Vm} {n : Nat}
theorem Gl.retNW (X : Stand p l e R (s.setVm vm₁) m args below meth c T locs cells slots) (hx : p.tables.exec = Jvm.exec) (hS : s.Since vm₁ n) (hn : n ≤ T.heap.size) {z : Int32} {t : FieldType} (hret : meth.sig.returnType = some t) (ht : t = .boolean ∨ t = .byte ∨ t = .char ∨ t = .short) (hd : decode c.code pc = .ok (.ireturn, 1)) (hlk : meth.locks = false) (hc : cells ≤ kc) (hs : slots ≤ ks) (hQ : Q (some (.int (nar t z))) T.heap locs) : Gl p.tables e below (EndW s Q kc ks) (T.setTop (mkF m pc Ls (.int z :: rest))) :=
  Gl.finW X hS hn (nov hret) hlk hc hs hQ fun _ hr => Jvm.RoadKit.retN X hx hret ht hd hr
theorem Gl.retIW (X : Stand p l e R (s.setVm vm₁) m args below meth c T locs cells slots) (hx : p.tables.exec = Jvm.exec) (hS : s.Since vm₁ n) (hn : n ≤ T.heap.size) {z : Int32} (hret : meth.sig.returnType = some .int) (hd : decode c.code pc = .ok (.ireturn, 1)) (hlk : meth.locks = false) (hc : cells ≤ kc) (hs : slots ≤ ks) (hQ : Q (some (.int z)) T.heap locs) : Gl p.tables e below (EndW s Q kc ks) (T.setTop (mkF m pc Ls (.int z :: rest))) :=
  Gl.finW X hS hn (nov hret) hlk hc hs hQ fun _ hr => retIo X hx hret hd hr
theorem Gl.retAW (X : Stand p l e R (s.setVm vm₁) m args below meth c T locs cells slots) (hx : p.tables.exec = Jvm.exec) (hS : s.Since vm₁ n) (hn : n ≤ T.heap.size) {w : Value} {t : FieldType} (hret : meth.sig.returnType = some t) (ht : t.isReference = true) (hw : w.isRef = true) (hd : decode c.code pc = .ok (.areturn, 1)) (hlk : meth.locks = false) (hc : cells ≤ kc) (hs : slots ≤ ks) (hQ : Q (some w) T.heap locs) : Gl p.tables e below (EndW s Q kc ks) (T.setTop (mkF m pc Ls (w :: rest))) :=
  Gl.finW X hS hn (nov hret) hlk hc hs hQ fun _ hr => retOut X hx hret (narR hw ht) (Or.inr (Or.inr (Or.inr (Or.inr ⟨rfl, ht, hw⟩)))) hd hr
theorem Gl.ret0W (X : Stand p l e R (s.setVm vm₁) m args below meth c T locs cells slots) (hx : p.tables.exec = Jvm.exec) (hS : s.Since vm₁ n) (hn : n ≤ T.heap.size) (hret : meth.sig.returnType = none) (hd : decode c.code pc = .ok (.return_, 1)) (hlk : meth.locks = false) (hc : cells ≤ kc) (hs : slots ≤ ks) (hQ : Q none T.heap locs) : Gl p.tables e below (EndW s Q kc ks) (T.setTop (mkF m pc Ls [])) :=
  Gl.finW X hS hn (fun _ => rfl) hlk hc hs hQ fun _ hr => X.returnOut hx hret hd hr
abbrev EndH (s : State) (Z : State) (EL : List (String × Nat)) (Q : Option Value → Heap → List Loc → Prop) (kc ks : Nat) : Outcome → State → Prop := fun o s₂ => ∃ v L, o = .returned v ∧ Q v s₂.heap L ∧ CHr Z EL s.vm s.heap s₂.vm s₂.heap ∧ ReturnedEndW s o s₂ L kc ks
variable {Z : State} {EL : List (String × Nat)}
theorem Gl.finH (X : Stand p l e R (s.setVm vm₁) m args below meth c T locs cells slots) (hS : s.Since vm₁ n) (hn : n ≤ T.heap.size) (hC : CHr Z EL s.vm s.heap T.vm T.heap) {v : Option Value} (hv : meth.sig.returnType = none → v = none) (hlk : meth.locks = false) (hc : cells ≤ kc) (hs : slots ≤ ks) (hQ : Q v T.heap locs)
    (k : ∀ fs, (∀ (f : JFrame) (acts : List Action), f.method = m → f.locked = none → f.entered = [] → (doReturn e (T.setTop f) acts v).1 = T.setFrames fs) → Steps p.tables e below S (T.setFrames fs)) : Gl p.tables e below (EndH s Z EL Q kc ks) S := by
  obtain ⟨fs, hr, hrun, hended, h1, h2, h3, hsame⟩ := X.leaveW hS hn hv hlk
  exact ⟨_, _, k fs hr, hrun, hended, v, locs, rfl, hQ, hC, h1, h2, h3, hsame.mono hc hs⟩
theorem Gl.retNH (X : Stand p l e R (s.setVm vm₁) m args below meth c T locs cells slots) (hx : p.tables.exec = Jvm.exec) (hS : s.Since vm₁ n) (hn : n ≤ T.heap.size) (hC : CHr Z EL s.vm s.heap T.vm T.heap) {z : Int32} {t : FieldType} (hret : meth.sig.returnType = some t) (ht : t = .boolean ∨ t = .byte ∨ t = .char ∨ t = .short) (hd : decode c.code pc = .ok (.ireturn, 1)) (hlk : meth.locks = false) (hc : cells ≤ kc) (hs : slots ≤ ks) (hQ : Q (some (.int (nar t z))) T.heap locs) : Gl p.tables e below (EndH s Z EL Q kc ks) (T.setTop (mkF m pc Ls (.int z :: rest))) :=
  Gl.finH X hS hn hC (nov hret) hlk hc hs hQ fun _ hr => Jvm.RoadKit.retN X hx hret ht hd hr
theorem Gl.retIH (X : Stand p l e R (s.setVm vm₁) m args below meth c T locs cells slots) (hx : p.tables.exec = Jvm.exec) (hS : s.Since vm₁ n) (hn : n ≤ T.heap.size) (hC : CHr Z EL s.vm s.heap T.vm T.heap) {z : Int32} (hret : meth.sig.returnType = some .int) (hd : decode c.code pc = .ok (.ireturn, 1)) (hlk : meth.locks = false) (hc : cells ≤ kc) (hs : slots ≤ ks) (hQ : Q (some (.int z)) T.heap locs) : Gl p.tables e below (EndH s Z EL Q kc ks) (T.setTop (mkF m pc Ls (.int z :: rest))) :=
  Gl.finH X hS hn hC (nov hret) hlk hc hs hQ fun _ hr => retIo X hx hret hd hr
theorem Gl.retAH (X : Stand p l e R (s.setVm vm₁) m args below meth c T locs cells slots) (hx : p.tables.exec = Jvm.exec) (hS : s.Since vm₁ n) (hn : n ≤ T.heap.size) (hC : CHr Z EL s.vm s.heap T.vm T.heap) {w : Value} {t : FieldType} (hret : meth.sig.returnType = some t) (ht : t.isReference = true) (hw : w.isRef = true) (hd : decode c.code pc = .ok (.areturn, 1)) (hlk : meth.locks = false) (hc : cells ≤ kc) (hs : slots ≤ ks) (hQ : Q (some w) T.heap locs) : Gl p.tables e below (EndH s Z EL Q kc ks) (T.setTop (mkF m pc Ls (w :: rest))) :=
  Gl.finH X hS hn hC (nov hret) hlk hc hs hQ fun _ hr => retOut X hx hret (narR hw ht) (Or.inr (Or.inr (Or.inr (Or.inr ⟨rfl, ht, hw⟩)))) hd hr
theorem Gl.ret0H (X : Stand p l e R (s.setVm vm₁) m args below meth c T locs cells slots) (hx : p.tables.exec = Jvm.exec) (hS : s.Since vm₁ n) (hn : n ≤ T.heap.size) (hC : CHr Z EL s.vm s.heap T.vm T.heap) (hret : meth.sig.returnType = none) (hd : decode c.code pc = .ok (.return_, 1)) (hlk : meth.locks = false) (hc : cells ≤ kc) (hs : slots ≤ ks) (hQ : Q none T.heap locs) : Gl p.tables e below (EndH s Z EL Q kc ks) (T.setTop (mkF m pc Ls [])) :=
  Gl.finH X hS hn hC (fun _ => rfl) hlk hc hs hQ fun _ hr => X.returnOut hx hret hd hr
theorem safe_nul {vm : Vm} {h : Heap} {x : Addr} (hal : Z.vm.Alike vm) (E : Exa Z h x "java/lang/String") (V : Fld Z h x "java/lang/String" "value" "[B" .null) : Safe Z EL vm h x := fun B => by
  obtain ⟨p, hp, u, a, hb, q, hqa, hS, hy⟩ := B
  obtain ⟨cS, ⟨⟨s1, s2, s3, ⟨cv, kv, iv, s4, s4'⟩, ⟨cc, kc, ic, s5, s5'⟩, s6, s7, s8, s9, s10, s11, s12, s13, s14, s15, s16⟩, hfS, hcS⟩, ⟨kS, k1, k2, k3⟩, hB, hbyt⟩ := hS
  rcases hy with rfl | rfl
  · obtain ⟨cell, cf, k, i, f, f1, f2, f3, f4, f5, f6, f7⟩ := V
    have e1 : cell = q.sC := Option.some.inj (f1.symm.trans s1)
    obtain ⟨kv', z4⟩ := ff_back (U := Wst Z vm h) hal s4
    cases f2.symm.trans z4
    rw [e1, s8] at f7
    cases f7
  · obtain ⟨cell, k, e1, e2, e3, e4, e5⟩ := E
    have e6 : cell = q.SA := Option.some.inj (e1.symm.trans s10)
    subst e6
    have hB' : Z.vm.findClass "[B" = some q.SA.cls := by rw [← hal.findClass]; exact hB
    obtain ⟨k1', a1, a2⟩ := Vm.findClass_spec e2
    obtain ⟨k2', b1, b2⟩ := Vm.findClass_spec hB'
    cases a1.symm.trans b1
    exact absurd (a2.symm.trans b2) (by decide)
/-- an object of a class whose superclass is the root is no instance of another class -/
theorem not_root {a0 : Array Value} {C O K : String} {n : Nat} (w : (Cond.superclass C O).before a0 Z = true) (wr : (Cond.noSuperclass O).before a0 Z = true) (wi : (Cond.instantiable K n).before a0 Z = true) (h1 : C ≠ K) (h2 : O ≠ K) : ∃ c t, Z.vm.findClass C = some c ∧ Z.vm.findClass K = some t ∧ Z.vm.assignable c t = false := by
  obtain ⟨t, kt, g1, g2, g3, g4, -⟩ := Cond.instantiable_spec wi
  obtain ⟨c, h0⟩ := found_sup w
  obtain ⟨p, k, kp, s1, s2, s3, s4, s5, s6, s7⟩ := Cond.superclass_spec h0 w
  obtain ⟨o, ko, o1, o2, o3, o4, o5⟩ := Cond.noSuperclass_spec wr
  have ne1 := ids_ne h0 g1 h1
  have ne2 := ids_ne o1 g1 h2
  have hi : kt.isInterface = false := by
    cases q : kt.isInterface with
    | false => rfl
    | true => rw [q] at g4; simp at g4
  have n0 : NS Z O K := ⟨o, t, o1, g1, fun fuel => by
    cases fuel with
    | zero => rfl
    | succ f => simp [Vm.isSubclassAux, ne2, o2, o3]⟩
  obtain ⟨c', t', a1, a2, n3⟩ := NS.step w n0 h1
  cases h0.symm.trans a1
  cases g1.symm.trans a2
  refine ⟨c, t, h0, g1, ?_⟩
  show Z.vm.assignableAux (255 + 1) c t = false
  simp [Vm.assignableAux, ne1, s2, g2, s5, g3, hi, Vm.isSubclass, n3]
end OwnKit
end Jvm.RoadKit
namespace Jvm.RoadKit
open Sem ClassFile Op Lib Jvm.Stand Jvm.Free Jvm.LawKit
theorem n32_int {i : Nat} (h : i < 2147483648) : (Int32.ofNat i).toInt = i := Int32.toInt_ofNat_small h
theorem n32_lt {i j : Nat} (hi : i < 2147483648) (hj : j < 2147483648) : (Int32.ofNat i < Int32.ofNat j) ↔ i < j := by
  rw [Int32.lt_iff_toInt_lt, n32_int hi, n32_int hj]; omega
theorem n32_plt {i j : Nat} (h : i < j) (hj : j < 2147483648) : Int32.ofNat i < Int32.ofNat j := (n32_lt (by omega) hj).mpr h
theorem n32_nlt {i j : Nat} (h : ¬ i < j) (hi : i < 2147483648) (hj : j < 2147483648) : ¬ (Int32.ofNat i < Int32.ofNat j) := fun q => h ((n32_lt hi hj).mp q)
theorem n32_nn {i : Nat} (hi : i < 2147483648) : ¬ (Int32.ofNat i < (0 : Int32)) := by
  rw [Int32.lt_iff_toInt_lt, n32_int hi]
  have e : (0 : Int32).toInt = 0 := rfl
  omega
theorem n32_eq {i j : Nat} (hi : i < 2147483648) (hj : j < 2147483648) : (Int32.ofNat i = Int32.ofNat j) ↔ i = j :=
  ⟨fun q => by have := congrArg Int32.toInt q; rw [n32_int hi, n32_int hj] at this; omega, fun q => q ▸ rfl⟩
theorem n32_eq0 {i : Nat} (hi : i < 2147483648) : (Int32.ofNat i = (0 : Int32)) ↔ i = 0 := n32_eq (j := 0) hi (by omega)
theorem n32_add (i j : Nat) : Int32.ofNat i + Int32.ofNat j = Int32.ofNat (i + j) := (Int32.ofNat_add i j).symm
theorem n32_inc (i : Nat) : Int32.ofNat i + (1 : Int32) = Int32.ofNat (i + 1) := n32_add i 1
theorem n32_sub {i j : Nat} (h : j ≤ i) : Int32.ofNat i - Int32.ofNat j = Int32.ofNat (i - j) := by
  have e : Int32.ofNat i = Int32.ofNat (i - j) + Int32.ofNat j := by rw [n32_add]; congr 1; omega
  rw [e, Int32.add_sub_cancel]
theorem n32_cl {i : Nat} (h : i < 2147483648) : (Int32.ofNat i).toNatClampNeg = i := by
  simp only [Int32.toNatClampNeg, n32_int h]; omega
/-- the low byte, and back -/
theorem lo_back {c : Int32} (h0 : ¬ c < 0) (h1 : ¬ (255 : Int32) < c) : c.toInt8.toInt32 &&& 255 = c := by
  rw [Int32.lt_iff_toInt_lt] at h0 h1
  have e0 : (0 : Int32).toInt = 0 := rfl
  have e1 : (255 : Int32).toInt = 255 := rfl
  obtain ⟨j, rfl⟩ : ∃ j : Fin 256, c = Int32.ofNat j.val := ⟨⟨c.toInt.toNat, by omega⟩, Int32.toInt_inj.mp (by rw [n32_int (by show c.toInt.toNat < _; omega)]; show c.toInt = ((c.toInt.toNat : Nat) : Int); omega)⟩
  exact (by decide +kernel : ∀ j : Fin 256, (Int32.ofNat j.val).toInt8.toInt32 &&& 255 = Int32.ofNat j.val) j
theorem lo_inj {c d : Int32} (h0 : ¬ c < 0) (h1 : ¬ (255 : Int32) < c) (k0 : ¬ d < 0) (k1 : ¬ (255 : Int32) < d) (e : c.toInt8.toInt32 = d.toInt8.toInt32) : c = d := by
  rw [← lo_back h0 h1, ← lo_back k0 k1, e]
theorem lo_get {cs : List Int32} {i : Nat} (hi : i < cs.length) : (((cs.map (fun c => c.toInt8.toInt32)).map Value.int).getD i (.int 0)) = .int ((cs.getD i 0).toInt8.toInt32) := by
  simp [List.getD_eq_getElem?_getD, hi]
theorem mem_get {P : Int32 → Prop} {cs : List Int32} (h : ∀ c ∈ cs, P c) {i : Nat} (hi : i < cs.length) : P (cs.getD i 0) := by
  have e : cs.getD i 0 = cs[i] := by simp [List.getD_eq_getElem?_getD, hi]
  rw [e]; exact h _ (List.getElem_mem hi)
def Rng (cs : List Int32) : Prop := ∀ c ∈ cs, ¬ c < 0 ∧ ¬ (255 : Int32) < c
theorem Rng.sub {cs : List Int32} (h : Rng cs) (x d : Nat) : Rng ((cs.drop x).take d) := fun c hc => h c (List.mem_of_mem_drop (List.mem_of_mem_take hc))
/-- the first place from i on -/
def First (q : Int32) (cs : List Int32) (i r : Nat) : Prop := i ≤ r ∧ r < cs.length ∧ cs.getD r 0 = q ∧ ∀ k, i ≤ k → k < r → ¬ cs.getD k 0 = q
def Nowhere (q : Int32) (cs : List Int32) (i : Nat) : Prop := ∀ k, i ≤ k → k < cs.length → ¬ cs.getD k 0 = q
theorem own_copied {cs : List Int32} {x d : Nat} (h : x + d ≤ cs.length) : ∀ i, ((((cs.drop x).take d).map (fun c => c.toInt8.toInt32)).map Value.int).getD i (.int 0) = ((([] ++ List.replicate d (Value.int (0 : Int32))).take 0) ++ ((List.range d).map fun i => (((cs.map (fun c => c.toInt8.toInt32)).map Value.int).getD (x + i) (.int 0))) ++ (([] ++ List.replicate d (Value.int (0 : Int32))).drop (0 + d))).getD i (.int 0) := by
  intro i
  by_cases hi : i < d
  · have hl : x + i < cs.length := by omega
    simp [List.getD_eq_getElem?_getD, hi, hl, List.getElem?_append, List.getElem?_take, List.getElem?_drop]
  · simp [List.getD_eq_getElem?_getD, hi, List.getElem?_append, List.getElem?_take, List.getElem?_drop]
end Jvm.RoadKit
namespace Jvm.RoadKit
open Sem ClassFile Op Lib Jvm.Stand Jvm.Free Jvm.LawKit
theorem first_here {q : Int32} {cs : List Int32} : First q (q :: cs) 0 0 := ⟨Nat.le_refl _, by simp, rfl, fun k _ h => absurd h (by omega)⟩
theorem first_cons {q c : Int32} {cs : List Int32} {r : Nat} (h : ¬ c = q) (F : First q cs 0 r) : First q (c :: cs) 0 (r + 1) := by
  obtain ⟨-, h2, h3, h4⟩ := F
  refine ⟨by omega, by simp; omega, h3, fun k _ hk => ?_⟩
  cases k with
  | zero => exact h
  | succ k => exact h4 k (by omega) (by omega)
theorem nowhere_nil {q : Int32} : Nowhere q [] 0 := fun k _ h => absurd h (by simp)
theorem nowhere_cons {q c : Int32} {cs : List Int32} (h : ¬ c = q) (F : Nowhere q cs 0) : Nowhere q (c :: cs) 0 := fun k _ hk => by
  cases k with
  | zero => exact h
  | succ k => exact F k (by omega) (by simpa using hk)
theorem first_no {q : Int32} {cs : List Int32} {i r : Nat} (F : First q cs i r) (N : Nowhere q cs i) : False := N r F.1 F.2.1 F.2.2.1
theorem first_uniq {q : Int32} {cs : List Int32} {i r r' : Nat} (F : First q cs i r) (G : First q cs i r') : r = r' := by
  rcases Nat.lt_trichotomy r r' with h | h | h
  · exact absurd F.2.2.1 (G.2.2.2 r F.1 h)
  · exact h
  · exact absurd G.2.2.1 (F.2.2.2 r' G.1 h)
theorem ds_len {cs ds : List Int32} {x : Nat} (h : ds = (cs.drop x).take (cs.length - x)) : ds.length = cs.length - x := by rw [h]; simp
theorem ds_get {cs ds : List Int32} {x d : Nat} (h : ds = (cs.drop x).take d) {j : Nat} (hj : j < ds.length) : ds.getD j 0 = cs.getD (x + j) 0 := by
  subst h
  have hj' : j < d ∧ x + j < cs.length := by simp at hj; omega
  simp [List.getD_eq_getElem?_getD, List.getElem?_take, List.getElem?_drop, hj'.1]
end Jvm.RoadKit
namespace Jvm.RoadKit
open Sem ClassFile Op Lib Jvm.Stand Jvm.Free Jvm.LawKit
theorem ex_first {q : Int32} {cs : List Int32} : ∀ (d i : Nat), (i + d < cs.length) → cs.getD (i + d) 0 = q → ∃ r, First q cs i r ∧ r ≤ i + d
  | 0, i, h, e => ⟨i, ⟨Nat.le_refl _, h, e, fun k h1 h2 => absurd h2 (by omega)⟩, Nat.le_refl _⟩
  | d + 1, i, h, e => by
    by_cases c : cs.getD i 0 = q
    · exact ⟨i, ⟨Nat.le_refl _, by omega, c, fun k h1 h2 => absurd h2 (by omega)⟩, by omega⟩
    · obtain ⟨r, F, hr⟩ := ex_first (q := q) (cs := cs) d (i + 1) (by omega) (by rw [show i + 1 + d = i + (d + 1) by omega]; exact e)
      exact ⟨r, ⟨by have := F.1; omega, F.2.1, F.2.2.1, fun k h1 h2 => by
        by_cases z : k = i
        · rw [z]; exact c
        · exact F.2.2.2 k (by omega) h2⟩, by omega⟩
def Chr (ch : Int32) : Prop := ¬ ch < 0 ∧ ¬ (255 : Int32) < ch
/-- no place from i to k - 1 holds q -/
def Upto (q : Int32) (cs : List Int32) (i k : Nat) : Prop := ∀ j, i ≤ j → j < k → ¬ cs.getD j 0 = q
theorem upto_0 {q : Int32} {cs : List Int32} {i : Nat} : Upto q cs i 0 := fun j _ h => absurd h (by omega)
theorem upto_lt {q : Int32} {cs : List Int32} {i k : Nat} (U : Upto q cs i k) (h : k < i) : Upto q cs i (k + 1) := fun j h1 h2 => absurd h2 (by omega)
theorem upto_ne {q : Int32} {cs : List Int32} {i k : Nat} (U : Upto q cs i k) (h : ¬ cs.getD k 0 = q) : Upto q cs i (k + 1) := fun j h1 h2 => by
  by_cases z : j = k
  · rw [z]; exact h
  · exact U j h1 (by omega)
end Jvm.RoadKit
/- laws to paste: Road.backV, Road.lenW, Road.eqW, Road.codOf (cut by pick.py; bodies as the Statement names them) -/
namespace Jvm.Pilot.@@N@@
namespace StrChars
open Jvm Sem ClassFile Op Lib Jvm.Stand Jvm.Free.XT Jvm.Free.ALB Jvm.Free.JM Jvm.Free
open Jvm.Lib.Cold (StaticIs)
/-- a char array whose places are chars -/
def Ch (a : Addr) (A : Cell) (U : State) : Prop := Arr .char a A U ∧ Typed .char A
theorem Ch.mv {a : Addr} {A : Cell} {U U' : State} (h : Ch a A U) (hal : U.vm.Alike U'.vm) (hh : U'.heap = U.heap) : Ch a A U' := ⟨h.1.mv hal hh, h.2⟩
theorem Ch.keep {a : Addr} {A : Cell} {U U' : State} (h : Ch a A U) (hal : U.vm.Alike U'.vm) (hk : U'.heap[a]? = some A) : Ch a A U' := ⟨h.1.keep hal hk, h.2⟩
/-- what place i of a char[]'s cell holds -/
def cv (A : Cell) (i : Nat) : Int32 := match A.slots[i]? with | some (.int x) => x | _ => 0
theorem Ch.get {a : Addr} {A : Cell} {U : State} (h : Ch a A U) {i : Nat} (hi : i < A.slots.size) : A.slots[i]? = some (.int (cv A i)) := by
  have e := Array.getElem?_eq_getElem hi
  have f := h.2 i _ e
  unfold cv; rw [e]
  generalize A.slots[i] = v at f
  cases v <;> simp [fits] at f ⊢
/-- the byte that i2b leaves of a char -/
def lo8 (x : Int32) : Int32 := x.toInt8.toInt32
theorem fits_lo8 (y : Int32) : fits .byte (.int (lo8 y)) = true := by
  have h1 := y.toInt8.le_toInt
  have h2 := y.toInt8.toInt_lt
  simp only [lo8, fits, Bool.and_eq_true, decide_eq_true_eq, Int32.le_iff_toInt_le, Int8.toInt_toInt32, show (-128 : Int32).toInt = -128 from by decide, show (127 : Int32).toInt = 127 from by decide]
  omega
/-- A' is A but that each place j of lo .. hi - 1 holds f j -/
def Laid (A A' : Cell) (lo hi : Nat) (f : Nat → Value) : Prop := A'.cls = A.cls ∧ A'.vm = A.vm ∧ A'.slots.size = A.slots.size ∧ ∀ i, A'.slots[i]? = if lo ≤ i ∧ i < hi then some (f i) else A.slots[i]?
theorem Laid.zero (A : Cell) (lo : Nat) (f : Nat → Value) : Laid A A lo (lo + 0) f := ⟨rfl, rfl, rfl, fun i => by rw [if_neg (by omega)]⟩
theorem Laid.step {A Ak : Cell} {lo k : Nat} {f : Nat → Value} {v : Value} (h : Laid A Ak lo k f) (hlo : lo ≤ k) (hk : k < Ak.slots.size) (hv : v = f k) : Laid A (Ak.setSlot k v) lo (k + 1) f := by
  refine ⟨h.1, h.2.1, by simpa [Cell.setSlot] using h.2.2.1, fun i => ?_⟩
  by_cases e : k = i
  · subst e; rw [Cell.slots_setSlot_self v hk, if_pos (by omega), hv]
  · rw [Cell.slots_setSlot_ne v e, h.2.2.2 i]
    by_cases q : lo ≤ i ∧ i < k
    · rw [if_pos q, if_pos (by omega)]
    · rw [if_neg q, if_neg (by omega)]
def U16 : String := "java/lang/StringUTF16"
namespace Cmp5
def yN : MethodName := ⟨"java/lang/StringUTF16", "compress", "([CI[BII)I"⟩
abbrev yB : ByteArray := jdk_52_method_21_code
theorem d0 : decode yB 0 = .ok (.iconst 0, 1) := by decide +kernel
theorem d1 : decode yB 1 = .ok (.istore 5, 2) := by decide +kernel
theorem d3 : decode yB 3 = .ok (.iload 5, 2) := by decide +kernel
theorem d5 : decode yB 5 = .ok (.iload 4, 2) := by decide +kernel
theorem d7 : decode yB 7 = .ok (.if_icmp (.ge) 37, 3) := by decide +kernel
theorem d10 : decode yB 10 = .ok (.aload_n 0, 1) := by decide +kernel
theorem d11 : decode yB 11 = .ok (.iload_n 1, 1) := by decide +kernel
theorem d12 : decode yB 12 = .ok (.caload, 1) := by decide +kernel
theorem d13 : decode yB 13 = .ok (.istore 6, 2) := by decide +kernel
theorem d15 : decode yB 15 = .ok (.iload 6, 2) := by decide +kernel
theorem d17 : decode yB 17 = .ok (.sipush 255, 3) := by decide +kernel
theorem d20 : decode yB 20 = .ok (.if_icmp (.le) 6, 3) := by decide +kernel
theorem d26 : decode yB 26 = .ok (.aload_n 2, 1) := by decide +kernel
theorem d27 : decode yB 27 = .ok (.iload_n 3, 1) := by decide +kernel
theorem d28 : decode yB 28 = .ok (.iload 6, 2) := by decide +kernel
theorem d30 : decode yB 30 = .ok (.i2b, 1) := by decide +kernel
theorem d31 : decode yB 31 = .ok (.bastore, 1) := by decide +kernel
theorem d32 : decode yB 32 = .ok (.iinc 1 1, 3) := by decide +kernel
theorem d35 : decode yB 35 = .ok (.iinc 3 1, 3) := by decide +kernel
theorem d38 : decode yB 38 = .ok (.iinc 5 1, 3) := by decide +kernel
theorem d41 : decode yB 41 = .ok (.goto (-38), 3) := by decide +kernel
theorem d44 : decode yB 44 = .ok (.iload 4, 2) := by decide +kernel
theorem d46 : decode yB 46 = .ok (.ireturn, 1) := by decide +kernel
def site : List Cond := []
def tab : Cond := tabOf yN yB 7 (some .int) site
def P (b : Addr) (A : Cell) (d : Addr) (B : Cell) (o q len : Nat) (args : Array Value) (s : State) : Prop := args = #[.ref b, .int (Int32.ofNat o), .ref d, .int (Int32.ofNat q), .int (Int32.ofNat len)] ∧ Ch b A s ∧ Arr .byte d B s ∧ b ≠ d ∧ o + len ≤ A.slots.size ∧ q + len ≤ B.slots.size ∧ ∀ i, i < len → ¬ 255 < cv A (o + i)
def E (b : Addr) (A : Cell) (d : Addr) (B : Cell) (o q len : Nat) (r : Option Value) (s u : State) : Prop := r = some (.int (Int32.ofNat len)) ∧ ∃ B', Put d B' s u ∧ Laid B B' q (q + len) (fun j => Value.int (lo8 (cv A (o + (j - q)))))
/-- no char of the range above 255: len; the places written hold each char's low byte -/
theorem law (l : Launch) (b : Addr) (A : Cell) (d : Addr) (B : Cell) (o q len : Nat) : Law l yN 5 5 0 0 yB 7 (some .int) site (P b A d B o q len) (E b A d B o q len) (copyLocs d q len) 0 0 := by
  refine Law.of_walk (plainFor_of_name (by decide +kernel)) (by decide +kernel) (by decide +kernel) (by decide) (fun _ _ h => by rw [h.1]; rfl) (fun _ U U' hal hh h => ⟨h.1, h.2.1.mv hal hh, h.2.2.1.mv hal hh, h.2.2.2⟩) (fun r U U' V V' h1 hal h2 h => ⟨h.1, h.2.elim fun B' q => ⟨B', q.1.mv h1 h2, q.2⟩⟩) ?_
  intro p e s m args below meth c s₁ X0 hexec hbytes hml hret hlk hnm hown hh0 W hP
  obtain ⟨rfl, hA, hB, hne, l1, l2, hp⟩ := hP
  have c1 : Steps p.tables e below (s₁.setTop (entryFrame m #[.ref b, .int (Int32.ofNat o), .ref d, .int (Int32.ofNat q), .int (Int32.ofNat len)] 7)) (s₁.setTop (mkF m 0 #[.val (.ref b), .val (.int (Int32.ofNat o)), .val (.ref d), .val (.int (Int32.ofNat q)), .val (.int (Int32.ofNat len)), .unset, .unset] [])) := entry rfl
  have hA0 := hA.1.mv X0.warmed.alike hh0
  have hB0 := hB.mv X0.warmed.alike hh0
  have a31 := hA.1.2.2.2
  have c2 : Steps p.tables e below (s₁.setTop (entryFrame m #[.ref b, .int (Int32.ofNat o), .ref d, .int (Int32.ofNat q), .int (Int32.ofNat len)] 7)) (s₁.setTop (mkF m 3 #[.val (.ref b), .val (.int (Int32.ofNat o)), .val (.ref d), .val (.int (Int32.ofNat q)), .val (.int (Int32.ofNat len)), .val (.int 0), .unset] [])) := c1.trans (by
    refine iconstV X0.here hexec rfl 0 (hb hbytes d0) (by decide) ?_
    refine XS.istore X0.here hexec rfl (hb hbytes d1) rfl rfl ?_
    exact Steps.refl _)
  have loop : ∀ (r i : Nat), i + r = len → ∀ (z : Slot), (z = .unset ∨ ∃ w, z = .val w ∧ w.category = 1) → ∀ (Tl : State) (Bk : Cell), Stand p l e { frames := 0, locals := 0, cells := 0, slots := 0 } s m #[.ref b, .int (Int32.ofNat o), .ref d, .int (Int32.ofNat q), .int (Int32.ofNat len)] below meth c Tl ([] ++ copyLocs d q i) 0 0 → Put d Bk s₁ Tl → Laid B Bk q (q + i) (fun j => Value.int (lo8 (cv A (o + (j - q))))) →
      Steps p.tables e below (s₁.setTop (entryFrame m #[.ref b, .int (Int32.ofNat o), .ref d, .int (Int32.ofNat q), .int (Int32.ofNat len)] 7)) (Tl.setTop (mkF m 3 #[.val (.ref b), .val (.int (Int32.ofNat (o + i))), .val (.ref d), .val (.int (Int32.ofNat (q + i))), .val (.int (Int32.ofNat len)), .val (.int (Int32.ofNat i)), z] [])) → ∃ (T' : State) (B' : Cell) (z' : Slot), Stand p l e { frames := 0, locals := 0, cells := 0, slots := 0 } s m #[.ref b, .int (Int32.ofNat o), .ref d, .int (Int32.ofNat q), .int (Int32.ofNat len)] below meth c T' ([] ++ copyLocs d q len) 0 0 ∧ Put d B' s₁ T' ∧ Laid B B' q (q + len) (fun j => Value.int (lo8 (cv A (o + (j - q))))) ∧
      Steps p.tables e below (s₁.setTop (entryFrame m #[.ref b, .int (Int32.ofNat o), .ref d, .int (Int32.ofNat q), .int (Int32.ofNat len)] 7)) (T'.setTop (mkF m 3 #[.val (.ref b), .val (.int (Int32.ofNat (o + len))), .val (.ref d), .val (.int (Int32.ofNat (q + len))), .val (.int (Int32.ofNat len)), .val (.int (Int32.ofNat len)), z'] [])) := by
    intro r
    induction r with
    | zero =>
      intro i hi z hz Tl Bk Xl pl fl cl
      have hil : i = len := by omega
      rw [hil] at Xl fl cl
      exact ⟨Tl, Bk, z, Xl, pl, fl, cl⟩
    | succ r ih =>
      intro i hi z hz Tl Bk Xl pl fl cl
      have all := X0.warmed.alike.symm.trans Xl.warmed.alike
      have hAl := hA0.keep all (pl.other hne hA0.1)
      have hBk := hB0.like all pl.1 fl.1 fl.2.1 fl.2.2.1
      have hlt : q + i < Bk.slots.size := by rw [fl.2.2.1]; omega
      have c3 : Steps p.tables e below (s₁.setTop (entryFrame m #[.ref b, .int (Int32.ofNat o), .ref d, .int (Int32.ofNat q), .int (Int32.ofNat len)] 7)) (Tl.setTop (mkF m 12 #[.val (.ref b), .val (.int (Int32.ofNat (o + i))), .val (.ref d), .val (.int (Int32.ofNat (q + i))), .val (.int (Int32.ofNat len)), .val (.int (Int32.ofNat i)), z] [.int (Int32.ofNat (o + i)), .ref b])) := cl.trans (by
        refine XS.iload Xl.here hexec rfl (hb hbytes d3) rfl ?_
        refine XS.iload Xl.here hexec rfl (hb hbytes d5) rfl ?_
        refine XS.icmpNo Xl.here hexec rfl (hb hbytes d7) rfl (ii_ge_f (lt32 (by omega) (by omega))) ?_
        refine XS.aloadN Xl.here hexec rfl (hb hbytes d10) rfl rfl ?_
        refine XS.iloadN Xl.here hexec rfl (hb hbytes d11) rfl ?_
        exact Steps.refl _)
      have c4 : Steps p.tables e below (s₁.setTop (entryFrame m #[.ref b, .int (Int32.ofNat o), .ref d, .int (Int32.ofNat q), .int (Int32.ofNat len)] 7)) (Tl.setTop (mkF m 13 #[.val (.ref b), .val (.int (Int32.ofNat (o + i))), .val (.ref d), .val (.int (Int32.ofNat (q + i))), .val (.int (Int32.ofNat len)), .val (.int (Int32.ofNat i)), z] [.int (cv A (o + i))])) := c3.trans (by
        refine Xl.aget hexec hAl rfl (hA.get (i := o + i) (by omega)) rfl rfl (hb hbytes d12) ?_
        exact Steps.refl _)
      have c5 : Steps p.tables e below (s₁.setTop (entryFrame m #[.ref b, .int (Int32.ofNat o), .ref d, .int (Int32.ofNat q), .int (Int32.ofNat len)] 7)) (Tl.setTop (mkF m 15 #[.val (.ref b), .val (.int (Int32.ofNat (o + i))), .val (.ref d), .val (.int (Int32.ofNat (q + i))), .val (.int (Int32.ofNat len)), .val (.int (Int32.ofNat i)), .val (.int (cv A (o + i)))] [])) := c4.trans (by
        refine XS.istoreS Xl.here hexec rfl (hb hbytes d13) rfl rfl hz ?_
        exact Steps.refl _)
      have c6 : Steps p.tables e below (s₁.setTop (entryFrame m #[.ref b, .int (Int32.ofNat o), .ref d, .int (Int32.ofNat q), .int (Int32.ofNat len)] 7)) (Tl.setTop (mkF m 31 #[.val (.ref b), .val (.int (Int32.ofNat (o + i))), .val (.ref d), .val (.int (Int32.ofNat (q + i))), .val (.int (Int32.ofNat len)), .val (.int (Int32.ofNat i)), .val (.int (cv A (o + i)))] [.int (lo8 (cv A (o + i))), .int (Int32.ofNat (q + i)), .ref d])) := c5.trans (by
        refine XS.iload Xl.here hexec rfl (hb hbytes d15) rfl ?_
        refine sipushV Xl.here hexec rfl 255 (hb hbytes d17) (by decide) ?_
        refine XS.icmpYes Xl.here hexec rfl (pc0 := 20) rfl (hb hbytes d20) rfl (ii_le_t (hp i (by omega))) (by decide) rfl ?_
        refine XS.aloadN Xl.here hexec rfl (hb hbytes d26) rfl rfl ?_
        refine XS.iloadN Xl.here hexec rfl (hb hbytes d27) rfl ?_
        refine XS.iload Xl.here hexec rfl (hb hbytes d28) rfl ?_
        refine i2b Xl.here hexec rfl (hb hbytes d30) rfl ?_
        exact Steps.refl _)
      obtain ⟨T7, X7, p7, st7⟩ := Xl.aput hexec hBk rfl hlt rfl (fits_lo8 (cv A (o + i))) (g := (mkF m 31 #[.val (.ref b), .val (.int (Int32.ofNat (o + i))), .val (.ref d), .val (.int (Int32.ofNat (q + i))), .val (.int (Int32.ofNat len)), .val (.int (Int32.ofNat i)), .val (.int (cv A (o + i)))] [.int (lo8 (cv A (o + i))), .int (Int32.ofNat (q + i)), .ref d])) rfl (rest := []) rfl (hb hbytes d31)
      have c8 : Steps p.tables e below (s₁.setTop (entryFrame m #[.ref b, .int (Int32.ofNat o), .ref d, .int (Int32.ofNat q), .int (Int32.ofNat len)] 7)) (T7.setTop (mkF m 32 #[.val (.ref b), .val (.int (Int32.ofNat (o + i))), .val (.ref d), .val (.int (Int32.ofNat (q + i))), .val (.int (Int32.ofNat len)), .val (.int (Int32.ofNat i)), .val (.int (cv A (o + i)))] [])) := c6.trans (st7 _ (Steps.refl _))
      have c9 : Steps p.tables e below (s₁.setTop (entryFrame m #[.ref b, .int (Int32.ofNat o), .ref d, .int (Int32.ofNat q), .int (Int32.ofNat len)] 7)) (T7.setTop (mkF m 3 #[.val (.ref b), .val (.int (Int32.ofNat (o + i) + 1)), .val (.ref d), .val (.int (Int32.ofNat (q + i) + 1)), .val (.int (Int32.ofNat len)), .val (.int (Int32.ofNat i + 1)), .val (.int (cv A (o + i)))] [])) := c8.trans (by
        refine iincV X7.here hexec rfl 1 (hb hbytes d32) (by decide) rfl rfl ?_
        refine iincV X7.here hexec rfl 1 (hb hbytes d35) (by decide) rfl rfl ?_
        refine iincV X7.here hexec rfl 1 (hb hbytes d38) (by decide) rfl rfl ?_
        refine XS.goto X7.here hexec rfl (pc0 := 41) rfl (hb hbytes d41) (by decide) rfl ?_
        exact Steps.refl _)
      have c10 : Steps p.tables e below (s₁.setTop (entryFrame m #[.ref b, .int (Int32.ofNat o), .ref d, .int (Int32.ofNat q), .int (Int32.ofNat len)] 7)) (T7.setTop (mkF m 3 #[.val (.ref b), .val (.int (Int32.ofNat (o + (i + 1)))), .val (.ref d), .val (.int (Int32.ofNat (q + (i + 1)))), .val (.int (Int32.ofNat len)), .val (.int (Int32.ofNat (i + 1))), .val (.int (cv A (o + i)))] [])) := by
        have := c9
        rw [succ32, succ32, succ32] at this
        exact this
      exact ih (i + 1) (by omega) _ (Or.inr ⟨_, rfl, rfl⟩) T7 _ (by rw [copyLocs_step, ← List.append_assoc]; exact X7) (pl.trans p7) (fl.step (by omega) hlt (by simp)) c10
  obtain ⟨T9, B9, z9, X9, p9, f9, g9⟩ := loop len 0 (by omega) .unset (Or.inl rfl) s₁ B (by simpa [copyLocs] using X0) ⟨hB0.1, fun _ _ => rfl, rfl⟩ (Laid.zero _ _ _) c2
  have c11 : Steps p.tables e below (s₁.setTop (entryFrame m #[.ref b, .int (Int32.ofNat o), .ref d, .int (Int32.ofNat q), .int (Int32.ofNat len)] 7)) (T9.setTop (mkF m 46 #[.val (.ref b), .val (.int (Int32.ofNat (o + len))), .val (.ref d), .val (.int (Int32.ofNat (q + len))), .val (.int (Int32.ofNat len)), .val (.int (Int32.ofNat len)), z9] [.int (Int32.ofNat len)])) := g9.trans (by
    refine XS.iload X9.here hexec rfl (hb hbytes d3) rfl ?_
    refine XS.iload X9.here hexec rfl (hb hbytes d5) rfl ?_
    refine XS.icmpYes X9.here hexec rfl (pc0 := 7) rfl (hb hbytes d7) rfl (ii_ge_t (nlt32 (by omega) (Nat.le_refl _))) (by decide) rfl ?_
    refine XS.iload X9.here hexec rfl (hb hbytes d44) rfl ?_
    exact Steps.refl _)
  exact ⟨T9, some (.int (Int32.ofNat len)), _, _, _, X9, by simp, rfl, rfl, (fun h => by cases h), ⟨rfl, B9, p9.from hh0, f9⟩, fun fs hl => c11.trans (X9.ireturnOut hexec hret rfl (Or.inl rfl) (hb hbytes d46) hl)⟩
end Cmp5
namespace Cmp3
def yN : MethodName := ⟨"java/lang/StringUTF16", "compress", "([CII)[B"⟩
abbrev yB : ByteArray := jdk_52_method_16_code
theorem d0 : decode yB 0 = .ok (.iload_n 2, 1) := by decide +kernel
theorem d1 : decode yB 1 = .ok (.newarray .byte, 2) := by decide +kernel
theorem d3 : decode yB 3 = .ok (.astore_n 3, 1) := by decide +kernel
theorem d4 : decode yB 4 = .ok (.aload_n 0, 1) := by decide +kernel
theorem d5 : decode yB 5 = .ok (.iload_n 1, 1) := by decide +kernel
theorem d6 : decode yB 6 = .ok (.aload_n 3, 1) := by decide +kernel
theorem d7 : decode yB 7 = .ok (.iconst 0, 1) := by decide +kernel
theorem d8 : decode yB 8 = .ok (.iload_n 2, 1) := by decide +kernel
theorem d9 : decode yB 9 = .ok (.invokestatic 115, 3) := by decide +kernel
theorem d12 : decode yB 12 = .ok (.istore 4, 2) := by decide +kernel
theorem d14 : decode yB 14 = .ok (.iload 4, 2) := by decide +kernel
theorem d16 : decode yB 16 = .ok (.iload_n 2, 1) := by decide +kernel
theorem d17 : decode yB 17 = .ok (.if_icmp (.eq) 40, 3) := by decide +kernel
theorem d57 : decode yB 57 = .ok (.aload_n 3, 1) := by decide +kernel
theorem d58 : decode yB 58 = .ok (.areturn, 1) := by decide +kernel
def site : List Cond := [.arrayClass .byte, Cmp5.tab] ++ staticW U16 115 Cmp5.yN
def tab : Cond := tabOf yN yB 6 (some (.array .byte)) site
def P (b : Addr) (A : Cell) (o len : Nat) (args : Array Value) (s : State) : Prop := args = #[.ref b, .int (Int32.ofNat o), .int (Int32.ofNat len)] ∧ Ch b A s ∧ o + len ≤ A.slots.size ∧ len ≤ 536870912 ∧ ∀ i, i < len → ¬ 255 < cv A (o + i)
def E (b : Addr) (A : Cell) (o len : Nat) (r : Option Value) (s u : State) : Prop := NewArr .byte "[B" len (fun j => .int (lo8 (cv A (o + j)))) r s u ∧ u.heap.size = s.heap.size + 1
/-- no char of the range above 255: a new byte[] of their low bytes -/
theorem law (l : Launch) (b : Addr) (A : Cell) (o len : Nat) : Law l yN 3 3 1 18 yB 6 (some (.array .byte)) site (P b A o len) (E b A o len) [] 1 len := by
  refine Law.of_walk (plainFor_of_name (by decide +kernel)) (by decide +kernel) (by decide +kernel) (by decide) (fun _ _ h => by rw [h.1]; rfl) (fun _ U U' hal hh h => ⟨h.1, h.2.1.mv hal hh, h.2.2⟩) (fun r U U' V V' h1 hal h2 h => ⟨NewArr.mv r U U' V V' h1 hal h2 h.1, by rw [h1, h2]; exact h.2⟩) ?_
  intro p e s m args below meth c s₁ X0 hexec hbytes hml hret hlk hnm hown hh0 W hP
  obtain ⟨rfl, hA, l1, l2, hp⟩ := hP
  have a31 := hA.1.2.2.2
  have c1 : Steps p.tables e below (s₁.setTop (entryFrame m #[.ref b, .int (Int32.ofNat o), .int (Int32.ofNat len)] 6)) (s₁.setTop (mkF m 0 #[.val (.ref b), .val (.int (Int32.ofNat o)), .val (.int (Int32.ofNat len)), .unset, .unset, .unset] [])) := entry rfl
  have c2 : Steps p.tables e below (s₁.setTop (entryFrame m #[.ref b, .int (Int32.ofNat o), .int (Int32.ofNat len)] 6)) (s₁.setTop (mkF m 1 #[.val (.ref b), .val (.int (Int32.ofNat o)), .val (.int (Int32.ofNat len)), .unset, .unset, .unset] [.int (Int32.ofNat len)])) := c1.trans (by
    refine XS.iloadN X0.here hexec rfl (hb hbytes d0) rfl ?_
    exact Steps.refl _)
  obtain ⟨T3, B3, X3, ba3, bs3, bv3, bh3, bf3, st3⟩ := X0.anew hexec (atype := .byte) (wk W (.arrayClass .byte)) rfl (by show len * 1 ≤ _; omega) (by omega) (g := (mkF m 1 #[.val (.ref b), .val (.int (Int32.ofNat o)), .val (.int (Int32.ofNat len)), .unset, .unset, .unset] [.int (Int32.ofNat len)])) rfl (hb hbytes d1) (rest := []) rfl (Nat.le_refl _) (by show 0 + len ≤ len; omega)
  rw [hh0] at ba3 st3
  have kp3 : XT.Kept s T3 := (XT.Kept.of_eq hh0).push bh3
  have hA3 := hA.keep X3.warmed.alike (kp3 _ _ hA.1.1)
  have hne : b ≠ s.heap.size := hA.1.ne
  have c4 : Steps p.tables e below (s₁.setTop (entryFrame m #[.ref b, .int (Int32.ofNat o), .int (Int32.ofNat len)] 6)) (T3.setTop (mkF m 3 #[.val (.ref b), .val (.int (Int32.ofNat o)), .val (.int (Int32.ofNat len)), .unset, .unset, .unset] [.ref s.heap.size])) := c2.trans (st3 _ (Steps.refl _))
  have c5 : Steps p.tables e below (s₁.setTop (entryFrame m #[.ref b, .int (Int32.ofNat o), .int (Int32.ofNat len)] 6)) (T3.setTop (mkF m 9 #[.val (.ref b), .val (.int (Int32.ofNat o)), .val (.int (Int32.ofNat len)), .val (.ref s.heap.size), .unset, .unset] [.int (Int32.ofNat len), .int 0, .ref s.heap.size, .int (Int32.ofNat o), .ref b])) := c4.trans (by
    refine XS.astoreN X3.here hexec rfl (hb hbytes d3) rfl rfl rfl ?_
    refine XS.aloadN X3.here hexec rfl (hb hbytes d4) rfl rfl ?_
    refine XS.iloadN X3.here hexec rfl (hb hbytes d5) rfl ?_
    refine XS.aloadN X3.here hexec rfl (hb hbytes d6) rfl rfl ?_
    refine iconstV X3.here hexec rfl 0 (hb hbytes d7) (by decide) ?_
    refine XS.iloadN X3.here hexec rfl (hb hbytes d8) rfl ?_
    exact Steps.refl _)
  obtain ⟨v6, T6, X6, E6, g6⟩ := X3.callS hexec (Cmp5.law l b A s.heap.size B3 o 0 len) hown (wks W (staticW U16 115 Cmp5.yN)) (wk W Cmp5.tab) (W := 0) (Nat.le_of_ble_eq_true rfl) (Nat.le_of_ble_eq_true rfl) (Nat.le_refl _) (by show 0 + len + 0 ≤ len; omega) (g := (mkF m 9 #[.val (.ref b), .val (.int (Int32.ofNat o)), .val (.int (Int32.ofNat len)), .val (.ref s.heap.size), .unset, .unset] [.int (Int32.ofNat len), .int (Int32.ofNat 0), .ref s.heap.size, .int (Int32.ofNat o), .ref b])) rfl (by rw [hml]; rfl) c5 (argsL := [.ref b, .int (Int32.ofNat o), .ref s.heap.size, .int (Int32.ofNat 0), .int (Int32.ofNat len)]) (rest := []) rfl rfl (by show 2 * 0 + 0 ≤ _; decide) (hb hbytes d9) (⟨rfl, hA3, ba3, hne, l1, by rw [bs3]; simp, hp⟩)
  obtain ⟨rfl, B6, p6, f6⟩ := E6
  have c7 : Steps p.tables e below (s₁.setTop (entryFrame m #[.ref b, .int (Int32.ofNat o), .int (Int32.ofNat len)] 6)) (T6.setTop (mkF m 12 #[.val (.ref b), .val (.int (Int32.ofNat o)), .val (.int (Int32.ofNat len)), .val (.ref s.heap.size), .unset, .unset] [.int (Int32.ofNat len)])) := g6
  have c8 : Steps p.tables e below (s₁.setTop (entryFrame m #[.ref b, .int (Int32.ofNat o), .int (Int32.ofNat len)] 6)) (T6.setTop (mkF m 58 #[.val (.ref b), .val (.int (Int32.ofNat o)), .val (.int (Int32.ofNat len)), .val (.ref s.heap.size), .val (.int (Int32.ofNat len)), .unset] [.ref s.heap.size])) := c7.trans (by
    refine XS.istore X6.here hexec rfl (hb hbytes d12) rfl rfl ?_
    refine XS.iload X6.here hexec rfl (hb hbytes d14) rfl ?_
    refine XS.iloadN X6.here hexec rfl (hb hbytes d16) rfl ?_
    refine XS.icmpYes X6.here hexec rfl (pc0 := 17) rfl (hb hbytes d17) rfl (ii_eq_t rfl) (by decide) rfl ?_
    refine XS.aloadN X6.here hexec rfl (hb hbytes d57) rfl rfl ?_
    exact Steps.refl _)
  have X8 := X6.wide (L' := []) (cells' := 1) (slots' := len) (fun x hx hlt => by
    simp only [List.nil_append, copyLocs, List.mem_map, List.mem_range] at hx
    obtain ⟨i, -, rfl⟩ := hx
    exact absurd hlt (Nat.lt_irrefl _)) (Nat.le_refl _) (by omega)
  exact ⟨T6, some (.ref s.heap.size), _, _, _, X8, rfl, rfl, rfl, (fun h => by cases h), ⟨⟨rfl, B6, ba3.like (X3.warmed.alike.symm.trans X6.warmed.alike) p6.1 f6.1 f6.2.1 f6.2.2.1, f6.2.1.trans bv3, by rw [X6.warmed.alike.findClass, f6.1]; exact bf3, by rw [f6.2.2.1, bs3]; simp, fun j hj => by rw [f6.2.2.2 j, if_pos (by omega)]; rfl, kp3.put p6 (Nat.le_refl _)⟩, by rw [p6.2.2, bh3, hh0]; simp⟩, fun fs hl => c8.trans (X8.areturnOut hexec rfl hret rfl (hb hbytes d58) hl)⟩
end Cmp3
namespace CodL
def yN : MethodName := ⟨"java/lang/StringUTF16", "coderFromArrayLen", "([BI)B"⟩
abbrev yB : ByteArray := jdk_52_method_15_code
theorem d0 : decode yB 0 = .ok (.iload_n 1, 1) := by decide +kernel
theorem d1 : decode yB 1 = .ok (.aload_n 0, 1) := by decide +kernel
theorem d2 : decode yB 2 = .ok (.arraylength, 1) := by decide +kernel
theorem d3 : decode yB 3 = .ok (.isub, 1) := by decide +kernel
theorem d4 : decode yB 4 = .ok (.bipush 31, 2) := by decide +kernel
theorem d6 : decode yB 6 = .ok (.iushr, 1) := by decide +kernel
theorem d7 : decode yB 7 = .ok (.i2b, 1) := by decide +kernel
theorem d8 : decode yB 8 = .ok (.ireturn, 1) := by decide +kernel
def site : List Cond := []
def tab : Cond := tabOf yN yB 2 (some .byte) site
def P (d : Addr) (B : Cell) (args : Array Value) (s : State) : Prop := args = #[.ref d, .int (Int32.ofNat B.slots.size)] ∧ Arr .byte d B s
def E (r : Option Value) (s u : State) : Prop := XT.PureE (some (.int 0)) r s u
/-- an array as long as the number of chars: LATIN1 -/
theorem law (l : Launch) (d : Addr) (B : Cell) : Law l yN 2 2 0 0 yB 2 (some .byte) site (P d B) E [] 0 0 := by
  refine Law.of_walk (plainFor_of_name (by decide +kernel)) (by decide +kernel) (by decide +kernel) (by decide) (fun _ _ h => by rw [h.1]; rfl) (fun _ U U' hal hh h => ⟨h.1, h.2.mv hal hh⟩) (fun r U U' V V' h1 hal h2 h => XT.PureE.mv r U U' V V' h1 hal h2 h) ?_
  intro p e s m args below meth c s₁ X0 hexec hbytes hml hret hlk hnm hown hh0 W hP
  obtain ⟨rfl, hB⟩ := hP
  have hB0 := hB.mv X0.warmed.alike hh0
  have c1 : Steps p.tables e below (s₁.setTop (entryFrame m #[.ref d, .int (Int32.ofNat B.slots.size)] 2)) (s₁.setTop (mkF m 0 #[.val (.ref d), .val (.int (Int32.ofNat B.slots.size))] [])) := entry rfl
  have c2 : Steps p.tables e below (s₁.setTop (entryFrame m #[.ref d, .int (Int32.ofNat B.slots.size)] 2)) (s₁.setTop (mkF m 2 #[.val (.ref d), .val (.int (Int32.ofNat B.slots.size))] [.ref d, .int (Int32.ofNat B.slots.size)])) := c1.trans (by
    refine XS.iloadN X0.here hexec rfl (hb hbytes d0) rfl ?_
    refine XS.aloadN X0.here hexec rfl (hb hbytes d1) rfl rfl ?_
    exact Steps.refl _)
  have c3 : Steps p.tables e below (s₁.setTop (entryFrame m #[.ref d, .int (Int32.ofNat B.slots.size)] 2)) (s₁.setTop (mkF m 8 #[.val (.ref d), .val (.int (Int32.ofNat B.slots.size))] [.int (lo8 (ushr (Int32.ofNat B.slots.size - Int32.ofNat B.slots.size) 31))])) := c2.trans (by
    refine X0.alen hexec hB0 rfl rfl (hb hbytes d2) ?_
    refine XS.isub X0.here hexec rfl (hb hbytes d3) rfl ?_
    refine bipushV X0.here hexec rfl 31 (hb hbytes d4) (by decide) ?_
    refine iushr X0.here hexec rfl (hb hbytes d6) rfl ?_
    refine i2b X0.here hexec rfl (hb hbytes d7) rfl ?_
    exact Steps.refl _)
  have e0 : lo8 (ushr (Int32.ofNat B.slots.size - Int32.ofNat B.slots.size) 31) = 0 := by rw [Int32.sub_self]; decide
  rw [e0] at c3
  exact ⟨s₁, some (.int 0), _, _, _, X0, rfl, rfl, rfl, (fun h => by cases h), ⟨rfl, hh0⟩, fun fs hl => c3.trans (X0.ireturnOut hexec hret rfl (Or.inr (Or.inr (Or.inl rfl))) (hb hbytes d8) hl)⟩
end CodL
/-- the String at a is Latin-1 over a new byte[] (the heap's one new cell): the low bytes of the len chars of A from o on; every cell but a is kept -/
def Got (a : Addr) (D : Cell) (fV fC : Field) (A : Cell) (o len : Nat) (r : Option Value) (s u : State) : Prop := r = none ∧ ∃ D' V : Cell, Blank "java/lang/String" a D' u ∧ Same D D' [fV.slot, fC.slot] ∧ D'.slots[fV.slot]? = some (.ref s.heap.size) ∧ D'.slots[fC.slot]? = some (.int 0) ∧ Arr .byte s.heap.size V u ∧ V.vm = .none ∧ u.vm.findClass "[B" = some V.cls ∧ V.slots.size = len ∧ (∀ j, j < len → V.slots[j]? = some (.int (lo8 (cv A (o + j))))) ∧ (∀ (y : Addr) (c : Cell), y ≠ a → s.heap[y]? = some c → u.heap[y]? = some c) ∧ u.heap.size = s.heap.size + 1
theorem Got.mv {a : Addr} {D A : Cell} {fV fC : Field} {o len : Nat} : ∀ r (U U' V V' : State), U'.heap = U.heap → V.vm.Alike V'.vm → V'.heap = V.heap → Got a D fV fC A o len r U V → Got a D fV fC A o len r U' V' :=
  fun r U U' V V' h1 hal h2 ⟨e0, D', X, a1, a2, a3, a4, a5, a6, a7, a8, a9, a10, a11⟩ => ⟨e0, D', X, a1.mv hal h2, a2, by rw [h1]; exact a3, a4, by rw [h1]; exact a5.mv hal h2, a6, by rw [hal.findClass]; exact a7, a8, a9, by rw [h1, h2]; exact a10, by rw [h1, h2]; exact a11⟩
namespace New4
def yN : MethodName := ⟨"java/lang/String", "<init>", "([CIILjava/lang/Void;)V"⟩
abbrev yB : ByteArray := jdk_42_method_149_code
theorem d0 : decode yB 0 = .ok (.aload_n 0, 1) := by decide +kernel
theorem d1 : decode yB 1 = .ok (.invokespecial 1, 3) := by decide +kernel
theorem d4 : decode yB 4 = .ok (.iload_n 3, 1) := by decide +kernel
theorem d5 : decode yB 5 = .ok (.ifCond (.ne) 22, 3) := by decide +kernel
theorem d27 : decode yB 27 = .ok (.getstatic 38, 3) := by decide +kernel
theorem d30 : decode yB 30 = .ok (.ifCond (.eq) 28, 3) := by decide +kernel
theorem d33 : decode yB 33 = .ok (.aload_n 1, 1) := by decide +kernel
theorem d34 : decode yB 34 = .ok (.iload_n 2, 1) := by decide +kernel
theorem d35 : decode yB 35 = .ok (.iload_n 3, 1) := by decide +kernel
theorem d36 : decode yB 36 = .ok (.invokestatic 177, 3) := by decide +kernel
theorem d39 : decode yB 39 = .ok (.astore 5, 2) := by decide +kernel
theorem d41 : decode yB 41 = .ok (.aload_n 0, 1) := by decide +kernel
theorem d42 : decode yB 42 = .ok (.aload 5, 2) := by decide +kernel
theorem d44 : decode yB 44 = .ok (.iload_n 3, 1) := by decide +kernel
theorem d45 : decode yB 45 = .ok (.invokestatic 47, 3) := by decide +kernel
theorem d48 : decode yB 48 = .ok (.putfield 15, 3) := by decide +kernel
theorem d51 : decode yB 51 = .ok (.aload_n 0, 1) := by decide +kernel
theorem d52 : decode yB 52 = .ok (.aload 5, 2) := by decide +kernel
theorem d54 : decode yB 54 = .ok (.putfield 9, 3) := by decide +kernel
theorem d57 : decode yB 57 = .ok (.return_, 1) := by decide +kernel
def site : List Cond := [.fieldLink "java/lang/String" 38 "java/lang/String" "COMPACT_STRINGS" "Z", Cmp3.tab, CodL.tab, .laysFinal "java/lang/String" "java/lang/String" "value" "[B", .fieldLink "java/lang/String" 9 "java/lang/String" "value" "[B", .laysFinal "java/lang/String" "java/lang/String" "coder" "B", .fieldLink "java/lang/String" 15 "java/lang/String" "coder" "B"] ++ objW "java/lang/String" 1 ++ staticW "java/lang/String" 177 Cmp3.yN ++ staticW "java/lang/String" 47 CodL.yN
def tab : Cond := tabOf yN yB 6 none site
def P (a : Addr) (D : Cell) (fV fC : Field) (b : Addr) (A : Cell) (z : Int32) (o len : Nat) (args : Array Value) (s : State) : Prop := args = #[.ref a, .ref b, .int (Int32.ofNat o), .int (Int32.ofNat len), .null] ∧ Blank "java/lang/String" a D s ∧ Found "java/lang/String" "value" "[B" fV s ∧ Found "java/lang/String" "coder" "B" fC s ∧ Ch b A s ∧ StaticIs s "java/lang/String" "COMPACT_STRINGS" "Z" (.int z) ∧ ¬ z = 0 ∧ 0 < len ∧ o + len ≤ A.slots.size ∧ len ≤ 536870912 ∧ ∀ i, i < len → ¬ 255 < cv A (o + i)
def E (a : Addr) (D : Cell) (fV fC : Field) (A : Cell) (o len : Nat) (r : Option Value) (s u : State) : Prop := Got a D fV fC A o len r s u
/-- len > 0, no char of the range above 255: a Latin-1 String of their low bytes -/
theorem law (l : Launch) (a : Addr) (D : Cell) (fV fC : Field) (b : Addr) (A : Cell) (z : Int32) (o len : Nat) : Law l yN 5 4 2 35 yB 6 none site (P a D fV fC b A z o len) (E a D fV fC A o len) [⟨a, fC.slot⟩, ⟨a, fV.slot⟩] 1 len := by
  refine Law.of_walk (plainFor_of_name (by decide +kernel)) (by decide +kernel) (by decide +kernel) (by decide) (fun _ _ h => by rw [h.1]; rfl) (fun _ U U' hal hh h => ⟨h.1, h.2.1.mv hal hh, h.2.2.1.al hal, h.2.2.2.1.al hal, h.2.2.2.2.1.mv hal hh, h.2.2.2.2.2.1.there hal hh, h.2.2.2.2.2.2⟩) (fun r U U' V V' h1 hal h2 h => Got.mv r U U' V V' h1 hal h2 h) ?_
  intro p e s m args below meth c s₁ X0 hexec hbytes hml hret hlk hnm hown hh0 W hP
  obtain ⟨rfl, hB, f1, f2, hA, s1, hz, l0, l1, l2, hp⟩ := hP
  have a31 := hA.1.2.2.2
  have c1 : Steps p.tables e below (s₁.setTop (entryFrame m #[.ref a, .ref b, .int (Int32.ofNat o), .int (Int32.ofNat len), .null] 6)) (s₁.setTop (mkF m 0 #[.val (.ref a), .val (.ref b), .val (.int (Int32.ofNat o)), .val (.int (Int32.ofNat len)), .val .null, .unset] [])) := entry rfl
  have c2 : Steps p.tables e below (s₁.setTop (entryFrame m #[.ref a, .ref b, .int (Int32.ofNat o), .int (Int32.ofNat len), .null] 6)) (s₁.setTop (mkF m 1 #[.val (.ref a), .val (.ref b), .val (.int (Int32.ofNat o)), .val (.int (Int32.ofNat len)), .val .null, .unset] [.ref a])) := c1.trans (by
    refine XS.aloadN X0.here hexec rfl (hb hbytes d0) rfl rfl ?_
    exact Steps.refl _)
  obtain ⟨T3, X3, q3, st3⟩ := X0.oinit hexec hown (wks W (objW "java/lang/String" 1)) (g := (mkF m 1 #[.val (.ref a), .val (.ref b), .val (.int (Int32.ofNat o)), .val (.int (Int32.ofNat len)), .val .null, .unset] [.ref a])) rfl (by rw [hml]; rfl) (rest := []) rfl (hb hbytes d1) (W := 0) (by show 2 * 0 + 0 ≤ _; decide) (Nat.le_of_ble_eq_true rfl) (Nat.le_of_ble_eq_true rfl)
  have hh3 := q3.trans hh0
  have c4 : Steps p.tables e below (s₁.setTop (entryFrame m #[.ref a, .ref b, .int (Int32.ofNat o), .int (Int32.ofNat len), .null] 6)) (T3.setTop (mkF m 27 #[.val (.ref a), .val (.ref b), .val (.int (Int32.ofNat o)), .val (.int (Int32.ofNat len)), .val .null, .unset] [])) := (c2.trans (st3 _ (Steps.refl _))).trans (by
    refine XS.iloadN X3.here hexec rfl (hb hbytes d4) rfl ?_
    refine XS.ifYes X3.here hexec rfl (pc0 := 5) rfl (hb hbytes d5) rfl (i0_ne_t (nz32 (by omega) l0)) (by decide) rfl ?_
    exact Steps.refl _)
  obtain ⟨T5, X5, q5, st5⟩ := X3.sget hexec hown (wk W (.fieldLink "java/lang/String" 38 "java/lang/String" "COMPACT_STRINGS" "Z")) s1 (fun _ _ h => by rw [hh3]; exact h) (g := (mkF m 27 #[.val (.ref a), .val (.ref b), .val (.int (Int32.ofNat o)), .val (.int (Int32.ofNat len)), .val .null, .unset] [])) rfl (hb hbytes d27)
  have hh5 := q5.trans hh3
  have c6 : Steps p.tables e below (s₁.setTop (entryFrame m #[.ref a, .ref b, .int (Int32.ofNat o), .int (Int32.ofNat len), .null] 6)) (T5.setTop (mkF m 30 #[.val (.ref a), .val (.ref b), .val (.int (Int32.ofNat o)), .val (.int (Int32.ofNat len)), .val .null, .unset] [.int z])) := c4.trans (st5 _ (Steps.refl _))
  have c7 : Steps p.tables e below (s₁.setTop (entryFrame m #[.ref a, .ref b, .int (Int32.ofNat o), .int (Int32.ofNat len), .null] 6)) (T5.setTop (mkF m 36 #[.val (.ref a), .val (.ref b), .val (.int (Int32.ofNat o)), .val (.int (Int32.ofNat len)), .val .null, .unset] [.int (Int32.ofNat len), .int (Int32.ofNat o), .ref b])) := c6.trans (by
    refine XS.ifNo X5.here hexec rfl (hb hbytes d30) rfl (i0_eq_f hz) ?_
    refine XS.aloadN X5.here hexec rfl (hb hbytes d33) rfl rfl ?_
    refine XS.iloadN X5.here hexec rfl (hb hbytes d34) rfl ?_
    refine XS.iloadN X5.here hexec rfl (hb hbytes d35) rfl ?_
    exact Steps.refl _)
  obtain ⟨v8, T8, X8, E8, g8⟩ := X5.callS hexec (Cmp3.law l b A o len) hown (wks W (staticW "java/lang/String" 177 Cmp3.yN)) (wk W Cmp3.tab) (W := 0) (Nat.le_of_ble_eq_true rfl) (Nat.le_of_ble_eq_true rfl) (Nat.le_refl _) (by show 0 + len ≤ len; omega) (g := (mkF m 36 #[.val (.ref a), .val (.ref b), .val (.int (Int32.ofNat o)), .val (.int (Int32.ofNat len)), .val .null, .unset] [.int (Int32.ofNat len), .int (Int32.ofNat o), .ref b])) rfl (by rw [hml]; rfl) c7 (argsL := [.ref b, .int (Int32.ofNat o), .int (Int32.ofNat len)]) (rest := []) rfl rfl (by show 2 * 0 + 0 ≤ _; decide) (hb hbytes d36) (⟨rfl, hA.mv X5.warmed.alike hh5, l1, l2, hp⟩)
  obtain ⟨e8, z8⟩ := E8
  obtain ⟨rfl, N, n1, n2, n3, n4, n5, n6⟩ := NewArr.mv _ T5 s _ _ hh5.symm (Vm.Alike.refl _) rfl e8
  rw [hh5] at z8
  have hB1 := hB.keep X8.warmed.alike (n6 _ _ hB.1)
  have hne : s.heap.size ≠ a := (Nat.ne_of_lt (Array.getElem?_eq_some_iff.mp hB.1).1).symm
  have c9 : Steps p.tables e below (s₁.setTop (entryFrame m #[.ref a, .ref b, .int (Int32.ofNat o), .int (Int32.ofNat len), .null] 6)) (T8.setTop (mkF m 39 #[.val (.ref a), .val (.ref b), .val (.int (Int32.ofNat o)), .val (.int (Int32.ofNat len)), .val .null, .unset] [.ref s.heap.size])) := g8
  have c10 : Steps p.tables e below (s₁.setTop (entryFrame m #[.ref a, .ref b, .int (Int32.ofNat o), .int (Int32.ofNat len), .null] 6)) (T8.setTop (mkF m 45 #[.val (.ref a), .val (.ref b), .val (.int (Int32.ofNat o)), .val (.int (Int32.ofNat len)), .val .null, .val (.ref s.heap.size)] [.int (Int32.ofNat N.slots.size), .ref s.heap.size, .ref a])) := by
    have hc : Steps p.tables e below (s₁.setTop (entryFrame m #[.ref a, .ref b, .int (Int32.ofNat o), .int (Int32.ofNat len), .null] 6)) (T8.setTop (mkF m 45 #[.val (.ref a), .val (.ref b), .val (.int (Int32.ofNat o)), .val (.int (Int32.ofNat len)), .val .null, .val (.ref s.heap.size)] [.int (Int32.ofNat len), .ref s.heap.size, .ref a])) := c9.trans (by
      refine XS.astore X8.here hexec rfl (hb hbytes d39) rfl rfl rfl ?_
      refine XS.aloadN X8.here hexec rfl (hb hbytes d41) rfl rfl ?_
      refine XS.aload X8.here hexec rfl (hb hbytes d42) rfl rfl ?_
      refine XS.iloadN X8.here hexec rfl (hb hbytes d44) rfl ?_
      exact Steps.refl _)
    rw [n4]; exact hc
  obtain ⟨v11, T11, X11, E11, g11⟩ := X8.callS hexec (CodL.law l s.heap.size N) hown (wks W (staticW "java/lang/String" 47 CodL.yN)) (wk W CodL.tab) (W := 1) (Nat.le_of_ble_eq_true rfl) (Nat.le_of_ble_eq_true rfl) (Nat.le_refl _) (by show 0 + len + 0 ≤ len; omega) (g := (mkF m 45 #[.val (.ref a), .val (.ref b), .val (.int (Int32.ofNat o)), .val (.int (Int32.ofNat len)), .val .null, .val (.ref s.heap.size)] [.int (Int32.ofNat N.slots.size), .ref s.heap.size, .ref a])) rfl (by rw [hml]; rfl) c10 (argsL := [.ref s.heap.size, .int (Int32.ofNat N.slots.size)]) (rest := [.ref a]) rfl rfl (by show 2 * 0 + (1 + 0) ≤ _; decide) (hb hbytes d45) (⟨rfl, n1⟩)
  obtain ⟨rfl, q11⟩ := E11
  have hB11 := hB1.mv (X8.warmed.alike.symm.trans X11.warmed.alike) q11
  have c12 : Steps p.tables e below (s₁.setTop (entryFrame m #[.ref a, .ref b, .int (Int32.ofNat o), .int (Int32.ofNat len), .null] 6)) (T11.setTop (mkF m 48 #[.val (.ref a), .val (.ref b), .val (.int (Int32.ofNat o)), .val (.int (Int32.ofNat len)), .val .null, .val (.ref s.heap.size)] [.int 0, .ref a])) := g11
  obtain ⟨T13, X13, p13, bl13, sl13, st13⟩ := X11.finit hexec hown (wk W (.fieldLink "java/lang/String" 15 "java/lang/String" "coder" "B")) (Or.inr ⟨_, (wk W (.laysFinal "java/lang/String" "java/lang/String" "coder" "B"))⟩) (Or.inl ⟨rfl, hnm⟩) f2 (Or.inl rfl) hB11 (t := .byte) (by decide +kernel) rfl (g := (mkF m 48 #[.val (.ref a), .val (.ref b), .val (.int (Int32.ofNat o)), .val (.int (Int32.ofNat len)), .val .null, .val (.ref s.heap.size)] [.int 0, .ref a])) rfl (rest := []) rfl (hb hbytes d48)
  have c14 : Steps p.tables e below (s₁.setTop (entryFrame m #[.ref a, .ref b, .int (Int32.ofNat o), .int (Int32.ofNat len), .null] 6)) (T13.setTop (mkF m 54 #[.val (.ref a), .val (.ref b), .val (.int (Int32.ofNat o)), .val (.int (Int32.ofNat len)), .val .null, .val (.ref s.heap.size)] [.ref s.heap.size, .ref a])) := (c12.trans (st13 _ (Steps.refl _))).trans (by
    refine XS.aloadN X13.here hexec rfl (hb hbytes d51) rfl rfl ?_
    refine XS.aload X13.here hexec rfl (hb hbytes d52) rfl rfl ?_
    exact Steps.refl _)
  obtain ⟨T15, X15, p15, bl15, sl15, st15⟩ := X13.finit hexec hown (wk W (.fieldLink "java/lang/String" 9 "java/lang/String" "value" "[B")) (Or.inr ⟨_, (wk W (.laysFinal "java/lang/String" "java/lang/String" "value" "[B"))⟩) (Or.inl ⟨rfl, hnm⟩) f1 (Or.inl rfl) bl13 (t := (.array .byte)) (by decide +kernel) rfl (g := (mkF m 54 #[.val (.ref a), .val (.ref b), .val (.int (Int32.ofNat o)), .val (.int (Int32.ofNat len)), .val .null, .val (.ref s.heap.size)] [.ref s.heap.size, .ref a])) rfl (rest := []) rfl (hb hbytes d54)
  have c16 : Steps p.tables e below (s₁.setTop (entryFrame m #[.ref a, .ref b, .int (Int32.ofNat o), .int (Int32.ofNat len), .null] 6)) (T15.setTop (mkF m 57 #[.val (.ref a), .val (.ref b), .val (.int (Int32.ofNat o)), .val (.int (Int32.ofNat len)), .val .null, .val (.ref s.heap.size)] [])) := c14.trans (st15 _ (Steps.refl _))
  have ap := apart (Or.inr ⟨_, (wk W (.laysFinal "java/lang/String" "java/lang/String" "value" "[B"))⟩) (Or.inr ⟨_, (wk W (.laysFinal "java/lang/String" "java/lang/String" "coder" "B"))⟩) f1 f2 (t₁ := .array .byte) (t₂ := .byte) (by decide +kernel) (by decide +kernel) (by decide)
  have al := X8.warmed.alike.symm.trans X15.warmed.alike
  have n7 : T11.heap[s.heap.size]? = some N := by rw [q11]; exact n1.1
  exact ⟨T15, none, _, _, _, X15, by simp, rfl, by omega, (fun _ => rfl), ⟨rfl, _, N, bl15, ((Same.refl D _).set _ (by simp)).set _ (by simp), sl15, (Cell.slots_setSlot_ne _ ap).trans sl13, n1.keep al (p15.other hne (p13.other hne n7)), n2, by rw [al.findClass]; exact n3, n4, n5, fun y c h1 h2 => p15.other h1 (p13.other h1 (by rw [q11]; exact n6 y c h2)), by rw [p15.2.2, p13.2.2, q11]; exact z8⟩, fun fs hl => c16.trans (X15.returnOut hexec hret (hb hbytes d57) hl)⟩
end New4
namespace New1
def yN : MethodName := ⟨"java/lang/String", "<init>", "([C)V"⟩
abbrev yB : ByteArray := jdk_42_method_3_code
theorem d0 : decode yB 0 = .ok (.aload_n 0, 1) := by decide +kernel
theorem d1 : decode yB 1 = .ok (.aload_n 1, 1) := by decide +kernel
theorem d2 : decode yB 2 = .ok (.iconst 0, 1) := by decide +kernel
theorem d3 : decode yB 3 = .ok (.aload_n 1, 1) := by decide +kernel
theorem d4 : decode yB 4 = .ok (.arraylength, 1) := by decide +kernel
theorem d5 : decode yB 5 = .ok (.aconst_null, 1) := by decide +kernel
theorem d6 : decode yB 6 = .ok (.invokespecial 27, 3) := by decide +kernel
theorem d9 : decode yB 9 = .ok (.return_, 1) := by decide +kernel
def site : List Cond := [New4.tab] ++ initW "java/lang/String" 27 New4.yN
def tab : Cond := tabOf yN yB 2 none site
def P (a : Addr) (D : Cell) (fV fC : Field) (b : Addr) (A : Cell) (z : Int32) (args : Array Value) (s : State) : Prop := args = #[.ref a, .ref b] ∧ Blank "java/lang/String" a D s ∧ Found "java/lang/String" "value" "[B" fV s ∧ Found "java/lang/String" "coder" "B" fC s ∧ Ch b A s ∧ StaticIs s "java/lang/String" "COMPACT_STRINGS" "Z" (.int z) ∧ ¬ z = 0 ∧ 0 < A.slots.size ∧ A.slots.size ≤ 536870912 ∧ ∀ i, i < A.slots.size → ¬ 255 < cv A i
def E (a : Addr) (D : Cell) (fV fC : Field) (A : Cell) (r : Option Value) (s u : State) : Prop := Got a D fV fC A 0 A.slots.size r s u
/-- new String(chars), not empty, no char above 255: a Latin-1 String of their low bytes -/
theorem law (l : Launch) (a : Addr) (D : Cell) (fV fC : Field) (b : Addr) (A : Cell) (z : Int32) : Law l yN 2 1 3 52 yB 2 none site (P a D fV fC b A z) (E a D fV fC A) [⟨a, fC.slot⟩, ⟨a, fV.slot⟩] 1 A.slots.size := by
  refine Law.of_walk (plainFor_of_name (by decide +kernel)) (by decide +kernel) (by decide +kernel) (by decide) (fun _ _ h => by rw [h.1]; rfl) (fun _ U U' hal hh h => ⟨h.1, h.2.1.mv hal hh, h.2.2.1.al hal, h.2.2.2.1.al hal, h.2.2.2.2.1.mv hal hh, h.2.2.2.2.2.1.there hal hh, h.2.2.2.2.2.2⟩) (fun r U U' V V' h1 hal h2 h => Got.mv r U U' V V' h1 hal h2 h) ?_
  intro p e s m args below meth c s₁ X0 hexec hbytes hml hret hlk hnm hown hh0 W hP
  obtain ⟨rfl, hB, f1, f2, hA, s1, hz, l0, l2, hp⟩ := hP
  have c1 : Steps p.tables e below (s₁.setTop (entryFrame m #[.ref a, .ref b] 2)) (s₁.setTop (mkF m 0 #[.val (.ref a), .val (.ref b)] [])) := entry rfl
  have c2 : Steps p.tables e below (s₁.setTop (entryFrame m #[.ref a, .ref b] 2)) (s₁.setTop (mkF m 6 #[.val (.ref a), .val (.ref b)] [.null, .int (Int32.ofNat A.slots.size), .int 0, .ref b, .ref a])) := c1.trans (by
    refine XS.aloadN X0.here hexec rfl (hb hbytes d0) rfl rfl ?_
    refine XS.aloadN X0.here hexec rfl (hb hbytes d1) rfl rfl ?_
    refine iconstV X0.here hexec rfl 0 (hb hbytes d2) (by decide) ?_
    refine XS.aloadN X0.here hexec rfl (hb hbytes d3) rfl rfl ?_
    refine X0.alen hexec (hA.1.mv X0.warmed.alike hh0) rfl rfl (hb hbytes d4) ?_
    refine XS.aconstNull X0.here hexec rfl (hb hbytes d5) ?_
    exact Steps.refl _)
  obtain ⟨v3, T3, X3, E3, g3⟩ := X0.callN hexec (New4.law l a D fV fC b A z 0 A.slots.size) rfl hown (wks W (initW "java/lang/String" 27 New4.yN)) (W New4.tab (by simp only [site, List.mem_cons, List.mem_append, true_or, or_true])) (W := 0) (Nat.le_of_ble_eq_true rfl) (Nat.le_of_ble_eq_true rfl) (Nat.le_refl _) (by show 0 + A.slots.size ≤ A.slots.size; omega) (g := (mkF m 6 #[.val (.ref a), .val (.ref b)] [.null, .int (Int32.ofNat A.slots.size), .int (Int32.ofNat 0), .ref b, .ref a])) rfl (by rw [hml]; rfl) c2 (argsL := [.ref b, .int (Int32.ofNat 0), .int (Int32.ofNat A.slots.size), .null]) (rest := []) rfl rfl (by show 2 * 0 + 0 ≤ _; decide) (hb hbytes d6) (⟨rfl, hB.mv X0.warmed.alike hh0, f1.al X0.warmed.alike, f2.al X0.warmed.alike, hA.mv X0.warmed.alike hh0, s1.there X0.warmed.alike hh0, hz, l0, by omega, l2, fun i hi => by rw [Nat.zero_add]; exact hp i hi⟩)
  have e0 := Got.mv _ s₁ s _ _ hh0.symm (Vm.Alike.refl _) rfl E3
  obtain rfl := e0.1
  have c4 : Steps p.tables e below (s₁.setTop (entryFrame m #[.ref a, .ref b] 2)) (T3.setTop (mkF m 9 #[.val (.ref a), .val (.ref b)] [])) := g3
  exact ⟨T3, none, _, _, _, X3, by simp, rfl, by omega, (fun _ => rfl), e0, fun fs hl => c4.trans (X3.returnOut hexec hret (hb hbytes d9) hl)⟩
theorem pays {l : Launch} {R : Room} {p : Program} {e : Env} {below : List Frame} {s : State} {sargs : Array Value} {len W : Nat} (a : Addr) (D : Cell) (fV fC : Field) (b : Addr) (A : Cell) (z : Int32) (htab : tab.before sargs s = true) (hfr : 4 ≤ R.frames) (hlo : W + 65 ≤ R.locals) :
    Back l R p e below s sargs yN len W (fun A₁ a₁ => A₁.cells + 1 ≤ R.cells ∧ A₁.slots + A.slots.size ≤ R.slots ∧ P a D fV fC b A z a₁ A₁.U) (fun A₁ _ v₁ B₁ => E a D fV fC A v₁ A₁.U B₁.U ∧ B₁.locs = A₁.locs ++ [⟨a, fC.slot⟩, ⟨a, fV.slot⟩] ∧ B₁.cells = A₁.cells + 1 ∧ B₁.slots = A₁.slots + A.slots.size) :=
  (law l a D fV fC b A z).pays htab hfr (by omega)
end New1
/-- the byte, read back as charAt reads it, is the char -/
theorem lo8_mask {x : Int32} (h0 : ¬ x < 0) (h1 : ¬ 255 < x) : lo8 x &&& 255 = x := by
  have t : ∀ k : Fin 256, lo8 (Int32.ofNat k.val) &&& 255 = Int32.ofNat k.val := by decide +kernel
  rw [Int32.lt_iff_toInt_lt] at h0 h1
  have e0 : (0 : Int32).toInt = 0 := rfl
  have e1 : (255 : Int32).toInt = 255 := rfl
  obtain ⟨k, hk⟩ : ∃ k : Nat, x.toInt = k := ⟨x.toInt.toNat, by omega⟩
  have hx : x = Int32.ofNat k := Int32.toInt_inj.mp (by rw [hk, Int32.toInt_ofNat_small (by omega)])
  rw [hx]
  exact t ⟨k, by omega⟩
end StrChars
namespace StrChars.Road
open Jvm Sem ClassFile Op Lib Jvm.Stand Jvm.Free Jvm.Free.XT
open Jvm.Lib.Cold (StaticIs)
abbrev ST : String := "java/lang/String"
/-- every table word that New1's law asks, flat -/
abbrev words : List Jvm.Cond := [.code New1.yN New1.yB 2 none, .initialized ST, .methodLink ST 27 New4.yN, .instanceMethod New4.yN,
  .code New4.yN New4.yB 6 none, .fieldLink ST 38 ST "COMPACT_STRINGS" "Z", .laysFinal ST ST "value" "[B", .fieldLink ST 9 ST "value" "[B", .laysFinal ST ST "coder" "B", .fieldLink ST 15 ST "coder" "B",
  .methodLink ST 1 Lib.objectInit, .instanceMethod Lib.objectInit, .code Lib.objectInit ⟨#[0xb1]⟩ 1 none, .methodLink ST 177 Cmp3.yN, .static Cmp3.yN, .methodLink ST 47 CodL.yN, .static CodL.yN,
  .code Cmp3.yN Cmp3.yB 6 (some (.array .byte)), .initialized U16, .arrayClass .byte, .methodLink U16 115 Cmp5.yN, .static Cmp5.yN, .code Cmp5.yN Cmp5.yB 7 (some .int), .code CodL.yN CodL.yB 2 (some .byte)]
theorem tab_of {a : Array Value} {s : State} (h : ∀ w ∈ words, w.before a s = true) : New1.tab.before a s = true := by
  have h5 : Cmp5.tab.before a s = true := unparts (wk h (.code Cmp5.yN Cmp5.yB 7 (some .int))) (wks h (.initialized Cmp5.yN.cls :: Cmp5.site))
  have hc : CodL.tab.before a s = true := unparts (wk h (.code CodL.yN CodL.yB 2 (some .byte))) (wks h (.initialized CodL.yN.cls :: CodL.site))
  have q5 : ∀ w ∈ Cmp5.tab :: words, w.before a s = true := fun w hw => (List.mem_cons.mp hw).elim (fun e => e ▸ h5) (h w)
  have h3 : Cmp3.tab.before a s = true := unparts (wk q5 (.code Cmp3.yN Cmp3.yB 6 (some (.array .byte)))) (wks q5 (.initialized Cmp3.yN.cls :: Cmp3.site))
  have q3 : ∀ w ∈ Cmp3.tab :: CodL.tab :: words, w.before a s = true := fun w hw => (List.mem_cons.mp hw).elim (fun e => e ▸ h3) fun hw => (List.mem_cons.mp hw).elim (fun e => e ▸ hc) (h w)
  have h4 : New4.tab.before a s = true := unparts (wk q3 (.code New4.yN New4.yB 6 none)) (wks q3 (.initialized New4.yN.cls :: New4.site))
  have q4 : ∀ w ∈ New4.tab :: words, w.before a s = true := fun w hw => (List.mem_cons.mp hw).elim (fun e => e ▸ h4) (h w)
  exact unparts (wk q4 (.code New1.yN New1.yB 2 none)) (wks q4 (.initialized New1.yN.cls :: New1.site))
/-- the words ride from the start Z to the walk's own state -/
theorem moved {Z s : State} {a0 args : Array Value} (hZ : Z.Warmed39 s.vm) (hw : ∀ d ∈ words, d.before a0 Z = true) : ∀ d ∈ words, d.before args s = true := fun d hd => by
  have q := hw d hd
  have t : ∀ d ∈ words, d = .arrayClass .byte ∨ (d.onTables && d.keepsFace) = true := by decide +kernel
  rcases t d hd with rfl | t
  · exact RoadKit.mvA hZ q
  · exact RoadKit.mv hZ q t
/-- WHAT COMES BACK, over the tables of the start Z: h the heap at the call, h' behind it -/
def Q (Z : State) (x : Addr) (A : Cell) (h : Heap) (v : Option Value) (h' : Heap) (L : List Loc) : Prop := v = none ∧ (∀ y ∈ L, y.base = x) ∧ RoadKit.Keep h h' [x] ∧ h'.size = h.size + 1 ∧ RoadKit.Exa Z h' x ST ∧ RoadKit.Fld Z h' x ST "value" "[B" (.ref h.size) ∧ RoadKit.Fld Z h' x ST "coder" "B" (.int 0) ∧
  (∃ V : Cell, RoadKit.Arr Z h' h.size V .byte ∧ V.vm = .none ∧ Z.vm.findClass "[B" = some V.cls ∧ V.slots.size = A.slots.size ∧ ∀ j, j < A.slots.size → V.slots[j]? = some (.int (lo8 (cv A j)))) ∧
  ∀ (O n d : String) (w : Value), RoadKit.Fld Z h x O n d w → RoadKit.slotOf Z O n d ≠ RoadKit.slotOf Z ST "value" "[B" → RoadKit.slotOf Z O n d ≠ RoadKit.slotOf Z ST "coder" "B" → RoadKit.Fld Z h' x O n d w
/-- **new String(chars) AT A CALL, IN THE ROAD'S FORM**: for specialBack behind newO: x the fresh String, b the char[] with the cell A -/
theorem back {p : Program} {l : Launch} {e : Env} {R : Room} {s : State} {args : Array Value} {below : List Frame} {len W : Nat} {Z : State} {a0 : Array Value} {h : Heap} (hZ : Z.Warmed39 s.vm) (hw : ∀ d ∈ words, d.before a0 Z = true) {kI : Nat} (wi : (Jvm.Cond.instantiable ST kI).before a0 Z = true)
    {x b : Addr} {A : Cell} {z : Int32} {v0 c0 : Value} (E : RoadKit.Exa Z h x ST) (V : RoadKit.Fld Z h x ST "value" "[B" v0) (C : RoadKit.Fld Z h x ST "coder" "B" c0) (K : RoadKit.Arr Z h b A .char) (hty : Typed .char A) (S : RoadKit.Sta Z h ST "COMPACT_STRINGS" "Z" (.int z)) (hz : ¬ z = 0)
    (l0 : 0 < A.slots.size) (l2 : A.slots.size ≤ 536870912) (hp : ∀ i, i < A.slots.size → ¬ 255 < cv A i) (hfr : 4 ≤ R.frames) (hlo : W + 65 ≤ R.locals) :
    Back l R p e below s args New1.yN len W (fun P a => a = #[.ref x, .ref b] ∧ P.U.heap = h ∧ P.cells + 1 ≤ R.cells ∧ P.slots + A.slots.size ≤ R.slots)
      (fun P _ v B => ∃ L, Q Z x A h v B.U.heap L ∧ B.locs = P.locs ++ L ∧ B.cells = P.cells + 1 ∧ B.slots = P.slots + A.slots.size) := by
  intro m meth c P g ig mk a X hg hsize hdg hW hn hp'
  obtain ⟨rfl, rfl, r1, r2⟩ := hp'
  have al : Z.vm.Alike P.U.vm := hZ.alike.trans X.warmed.alike
  obtain ⟨D, cfV, kV, iV, fV, hD, gV, stV, knV, obV, asV, slV⟩ := id V
  obtain ⟨D', cfC, kC, iC, fC, hD', gC, stC, -, -, asC, slC⟩ := id C
  cases hD.symm.trans hD'
  obtain ⟨D2, kD, e1, e2, e3, e4, e5⟩ := id E
  cases hD.symm.trans e1
  obtain ⟨c2, k2, i1, i2, i3, -⟩ := Cond.instantiable_spec wi
  cases e2.symm.trans i1
  cases e3.symm.trans i2
  obtain ⟨kU, u1, u2⟩ := al.2.2 _ _ e3
  have hB : Blank ST x D P.U := ⟨hD, ⟨knV, fun q hq => by rw [hq] at obV; cases obV⟩, by rw [al.findClass]; exact e2, kU, u1, by rw [u2]; exact i3, by rw [u2]; exact e5 i3⟩
  have F1 : Found ST "value" "[B" fV P.U := ⟨SBG.found_only al ⟨cfV, kV, iV, gV⟩, stV⟩
  have F2 : Found ST "coder" "B" fC P.U := ⟨SBG.found_only al ⟨cfC, kC, iC, gC⟩, stC⟩
  have hA : Ch b A P.U := ⟨⟨K.1, State.isArrayOf_alike al K.2.1, K.2.2, by omega⟩, hty⟩
  have hS : StaticIs P.U ST "COMPACT_STRINGS" "Z" (.int z) := by
    obtain ⟨cfS, iS, kS, fS, st, cS, t1, t2, t3, t4, t5, t6, t7⟩ := S
    exact StaticIs.there (s := { Z with heap := P.U.heap }) ⟨cfS, iS, kS, fS, st, cS, t1, t2, t3, t4, t5, (fun q => by rw [q] at t6; cases t6), t7⟩ al rfl
  obtain ⟨v, B, X', ⟨⟨hv, E', V', q1, q2, q3, q4, q5, q6, q7, q8, q9, q10, q11⟩, hl, hc, hs⟩, st⟩ := New1.pays x D fV fC b A z (tab_of (moved hZ hw)) hfr hlo m meth c P g ig mk _ X hg hsize hdg hW hn ⟨r1, r2, rfl, hB, F1, F2, hA, hS, hz, l0, l2, hp⟩
  have al' : Z.vm.Alike B.U.vm := hZ.alike.trans X'.warmed.alike
  have hsz : E'.slots.size = D.slots.size := by
    obtain ⟨-, -, -, kB, w1, w2, w3⟩ := q1
    obtain ⟨kB', y1, y2⟩ := al'.2.2 _ _ e3
    rw [q2.2.1] at w1
    cases w1.symm.trans y1
    rw [w3, e5 i3, y2]
  refine ⟨v, B, X', ⟨_, ⟨hv, ?_, ⟨by omega, fun y cy hy hn' => q10 y cy (by simpa using hn') hy, fun y cy hy => ?_⟩, q11, ⟨E', _, q1.1, by rw [q2.2.1]; exact e2, by rw [q2.2.1]; exact e3, by rw [q2.1]; exact obV, fun _ => by rw [hsz]; exact e5 i3⟩,
    ⟨E', cfV, kV, iV, fV, q1.1, gV, stV, by rw [q2.1]; exact knV, by rw [q2.1]; exact obV, by rw [q2.2.1]; exact asV, q3⟩, ⟨E', cfC, kC, iC, fC, q1.1, gC, stC, by rw [q2.1]; exact knV, by rw [q2.1]; exact obV, by rw [q2.2.1]; exact asC, q4⟩,
    ⟨V', ⟨q5.1, State.isArrayOf_alike al'.symm q5.2.1, q5.2.2.1⟩, q6, by rw [← al'.findClass]; exact q7, q8, fun j hj => by have := q9 j hj; rwa [Nat.zero_add] at this⟩, fun O n d w F n1 n2 => ?_⟩, hl, hc, hs⟩, st⟩
  · intro y hy
    simp only [List.mem_cons, List.not_mem_nil, or_false] at hy
    rcases hy with rfl | rfl <;> rfl
  · by_cases q : y = x
    · subst q
      cases hD.symm.trans hy
      exact ⟨E', q1.1, q2.2.1, q2.1, hsz⟩
    · exact ⟨cy, q10 y cy q hy, rfl, rfl, rfl⟩
  · obtain ⟨D3, cf, k, i, f, g1, g2, g3, g4, g5, g6, g7⟩ := F
    cases hD.symm.trans g1
    simp only [RoadKit.slotOf, g2, gV, gC, Option.map_some, Option.getD_some] at n1 n2
    exact ⟨E', cf, k, i, f, q1.1, g2, g3, by rw [q2.1]; exact g4, by rw [q2.1]; exact g5, by rw [q2.2.1]; exact g6, by rw [q2.2.2 f.slot (by simp [n1, n2])]; exact g7⟩
end StrChars.Road
namespace StrChars.Road
open Jvm Sem ClassFile Op Lib Jvm.Stand Jvm.Free Jvm.Free.XT
/-- WHAT COMES BACK, the byte[] as a list of values -/
def QA (Z : State) (x : Addr) (zn : Int32) (cs : List Int32) (h : Heap) (v : Option Value) (h' : Heap) (L : List Loc) : Prop := v = none ∧ (∀ y ∈ L, y.base = x) ∧ RoadKit.Keep h h' [x] ∧ h'.size = h.size + 1 ∧ RoadKit.Exa Z h' x ST ∧ RoadKit.Fld Z h' x ST "value" "[B" (.ref h.size) ∧ RoadKit.Fld Z h' x ST "coder" "B" (.int 0) ∧
  (∃ kb, Z.vm.findClass "[B" = some kb ∧ RoadKit.Arv Z h' h.size kb .byte zn (cs.map fun c => .int (lo8 c)) (.int 0)) ∧
  ∀ (O n d : String) (w : Value), RoadKit.Fld Z h x O n d w → RoadKit.slotOf Z O n d ≠ RoadKit.slotOf Z ST "value" "[B" → RoadKit.slotOf Z O n d ≠ RoadKit.slotOf Z ST "coder" "B" → RoadKit.Fld Z h' x O n d w
/-- **new String(chars) AT A CALL, THE ARRAYS AS LISTS**: the char[] at b holds cs, not empty, no char above 255 -/
theorem backArv {p : Program} {l : Launch} {e : Env} {R : Room} {s : State} {args : Array Value} {below : List Frame} {len W : Nat} {Z : State} {a0 : Array Value} {h : Heap} (hZ : Z.Warmed39 s.vm) (hw : ∀ d ∈ words, d.before a0 Z = true) {kI : Nat} (wi : (Jvm.Cond.instantiable ST kI).before a0 Z = true)
    {x b : Addr} {k : ClassId} {zn z : Int32} {cs : List Int32} {dv v0 c0 : Value} (E : RoadKit.Exa Z h x ST) (V : RoadKit.Fld Z h x ST "value" "[B" v0) (C : RoadKit.Fld Z h x ST "coder" "B" c0) (K : RoadKit.Arv Z h b k .char zn (cs.map Value.int) dv) (S : RoadKit.Sta Z h ST "COMPACT_STRINGS" "Z" (.int z)) (hz : ¬ z = 0)
    (hlen : zn.toNatClampNeg = cs.length) (h0 : 0 < cs.length) (hbig : cs.length ≤ 536870912) (hall : ∀ c ∈ cs, ¬ 255 < c) (hfr : 4 ≤ R.frames) (hlo : W + 65 ≤ R.locals) :
    Back l R p e below s args New1.yN len W (fun P a => a = #[.ref x, .ref b] ∧ P.U.heap = h ∧ P.cells + 1 ≤ R.cells ∧ P.slots + cs.length ≤ R.slots)
      (fun P _ v B => ∃ L, QA Z x zn cs h v B.U.heap L ∧ B.locs = P.locs ++ L ∧ B.cells = P.cells + 1 ∧ B.slots = P.slots + cs.length) := by
  obtain ⟨A, K1, K2, K3, K4, K5, K6⟩ := K
  have e : A.slots.size = cs.length := K3.trans hlen
  have hat : ∀ (i : Nat) (hi : i < cs.length), A.slots[i]? = some (.int cs[i]) := fun i hi => by rw [K5 i (by omega)]; simp [List.getD_eq_getElem?_getD, hi]
  have hcv : ∀ (i : Nat) (hi : i < cs.length), cv A i = cs[i] := fun i hi => by unfold cv; rw [hat i hi]
  have hty : Typed .char A := fun i v hv => by
    have hi : i < A.slots.size := (Array.getElem?_eq_some_iff.mp hv).1
    have q := K5 i hi
    rw [hv] at q
    rw [Option.some.inj q]
    exact K6 i hi
  refine Back.mono (back hZ hw wi E V C K1 hty S hz (by omega) (by omega) (fun i hi => by rw [hcv i (by omega)]; exact hall _ (List.getElem_mem _)) hfr hlo) (fun P a hp => ⟨hp.1, hp.2.1, hp.2.2.1, by rw [e]; exact hp.2.2.2⟩) (fun P a v B hp hq => ?_)
  obtain ⟨L, ⟨q1, q2, q3, q4, q5, q6, q7, ⟨V', v1, v2, v3, v4, v5⟩, q9⟩, hl, hc, hs⟩ := hq
  refine ⟨L, ⟨q1, q2, q3, q4, q5, q6, q7, ⟨V'.cls, v3, V', v1, rfl, by rw [v4, e, hlen], K4, fun i hi => ?_, fun i hi => ?_⟩, q9⟩, hl, hc, by rw [hs, e]⟩
  · have hi' : i < cs.length := by omega
    rw [v5 i (by omega), hcv i hi']; simp [List.getD_eq_getElem?_getD, hi']
  · have hi' : i < cs.length := by omega
    simp only [List.getD_eq_getElem?_getD, List.getElem?_map, List.getElem?_eq_getElem hi', Option.map_some, Option.getD_some]
    exact fits_lo8 _
end StrChars.Road
namespace StrChars.Road
open Jvm Sem ClassFile Op Lib Jvm.Stand Jvm.Free Jvm.Free.XT
/-- WHAT COMES BACK, in the writer's own shape -/
def QV (Z : State) (x : Addr) (N : Int32) (bs : List Int32) (h : Heap) (n0 : Nat) (v : Option Value) (h' : Heap) (L : List Loc) : Prop := v = none ∧ RoadKit.Fr n0 L ∧ RoadKit.Keep h h' [x] ∧ RoadKit.Exa Z h' x ST ∧ RoadKit.Fld Z h' x ST "coder" "B" (.int 0) ∧
  ∃ (t : Addr) (kb : ClassId), n0 ≤ t ∧ h.size ≤ t ∧ ¬ t = x ∧ RoadKit.Fld Z h' x ST "value" "[B" (.ref t) ∧ RoadKit.Arv Z h' t kb .byte N (bs.map Value.int) (.int 0)
/-- **new String(chars) AT A CALL, FOR THE WRITER**: a char[] of n known ints, each 0 to 255 -/
theorem backV {p : Program} {l : Launch} {e : Env} {R : Room} {s : State} {args : Array Value} {below : List Frame} {len W : Nat} {Z : State} {a0 : Array Value} {h : Heap} (hZ : Z.Warmed39 s.vm) (hw : ∀ d ∈ words, d.before a0 Z = true) {kI : Nat} (wi : (Jvm.Cond.instantiable ST kI).before a0 Z = true)
    {x b : Addr} {kC : ClassId} {cs bs : List Int32} {d v0 c0 : Value} {z N : Int32} {n n0 : Nat} (hx0 : n0 ≤ x) (hh0 : n0 ≤ h.size) (E : RoadKit.Exa Z h x ST) (V : RoadKit.Fld Z h x ST "value" "[B" v0) (C : RoadKit.Fld Z h x ST "coder" "B" c0) (K : RoadKit.Arv Z h b kC .char N (cs.map Value.int) d) (S : RoadKit.Sta Z h ST "COMPACT_STRINGS" "Z" (.int z)) (hz : ¬ z = 0)
    (hn : cs.length = n) (hN : N = Int32.ofNat n) (l0 : 0 < n) (l2 : n ≤ 4000) (hp : ∀ c ∈ cs, ¬ c < 0 ∧ ¬ (255 : Int32) < c) (hb : bs = cs.map (fun c => c.toInt8.toInt32)) (hfr : 4 ≤ R.frames) (hlo : W + 65 ≤ R.locals) :
    Back l R p e below s args (⟨"java/lang/String", "<init>", "([C)V"⟩ : MethodName) len W (fun P a => a = #[.ref x, .ref b] ∧ P.U.heap = h ∧ P.cells + 1 ≤ R.cells ∧ P.slots + n ≤ R.slots)
      (fun P _ v B => ∃ L, QV Z x N bs h n0 v B.U.heap L ∧ B.locs = P.locs ++ L ∧ B.cells = P.cells + 1 ∧ B.slots = P.slots + n) := by
  subst hn hN hb
  refine Back.mono (backArv hZ hw wi E V C K S hz (n32 (by omega)) l0 (by omega) (fun c hc => (hp c hc).2) hfr hlo) (fun P a hp => hp) (fun P a v B hp hq => ?_)
  obtain ⟨L, ⟨q1, q2, q3, q4, q5, q6, q7, ⟨kb, v1, v2⟩, q9⟩, hl, hc, hs⟩ := hq
  exact ⟨L, ⟨q1, fun y hy => by rw [q2 y hy]; exact hx0, q3, q5, q7, h.size, kb, hh0, Nat.le_refl _, Nat.ne_of_gt E.lt, q6, by rw [List.map_map]; exact v2⟩, hl, hc, hs⟩
end StrChars.Road
namespace StrChars
open Jvm Sem ClassFile Op Lib Jvm.Stand Jvm.Free.XT Jvm.Free.ALB Jvm.Free.JM Jvm.Free
open Jvm.Lib.Cold (StaticIs)
def hi8 (x : Int32) : Int32 := lo8 (x >>> ((8 : Int32) &&& 31))
/-- what StringUTF16.getChar makes of two bytes -/
def pairCh (u v : Int32) : Int32 := (((u &&& 255) <<< ((0 : Int32) &&& 31)) ||| ((v &&& 255) <<< ((8 : Int32) &&& 31))).toUInt32.toUInt16.toUInt32.toInt32
theorem shr0 (c : Int32) : c >>> ((0 : Int32) &&& 31) = c := by
  have e : ((0 : Int32) &&& 31) = 0 := by decide
  rw [e]
  apply Int32.toBitVec_inj.mp
  rw [Int32.toBitVec_shiftRight]
  have e1 : ((0 : Int32).toBitVec.smod 32) = 0#32 := by decide
  rw [e1, BitVec.sshiftRight_eq']
  exact BitVec.sshiftRight_zero
theorem lo8_and (x : Int32) : (lo8 x &&& 255).toBitVec.toNat = x.toBitVec.toNat % 256 := by
  have h : (lo8 x).toBitVec = (x.toBitVec.signExtend 8).signExtend 32 := by rw [lo8, Int8.toBitVec_toInt32, Int32.toBitVec_toInt8]
  rw [Int32.toBitVec_and, BitVec.toNat_and, h]
  have e : ((x.toBitVec.signExtend 8).signExtend 32).toNat % 256 = x.toBitVec.toNat % 256 := by
    rw [BitVec.toNat_signExtend]
    have hlt := x.toBitVec.isLt
    simp only [BitVec.toNat_setWidth, BitVec.toNat_signExtend]
    split <;> split <;> omega
  rw [← e]
  exact Nat.and_two_pow_sub_one_eq_mod _ 8
theorem pair_says {c : Int32} (h0 : ¬ c < 0) (h1 : ¬ 65535 < c) : pairCh (lo8 c) (hi8 c) = c := by
  rw [Int32.lt_iff_toInt_lt] at h0 h1
  have e0 : (0 : Int32).toInt = 0 := rfl
  have e1 : (65535 : Int32).toInt = 65535 := rfl
  have hc : c.toInt = c.toBitVec.toNat := by
    have := c.toBitVec.isLt
    have e : c.toInt = c.toBitVec.toInt := rfl
    rw [e] at h0 h1
    rw [e]
    rw [BitVec.toInt_eq_toNat_cond] at h0 h1 ⊢
    split at h0 <;> split <;> omega
  have hn : c.toBitVec.toNat < 65536 := by omega
  have a1 := lo8_and c
  have a2 : (hi8 c &&& 255).toBitVec.toNat = c.toBitVec.toNat / 256 := by
    rw [hi8, lo8_and]
    have e : ((8 : Int32) &&& 31) = 8 := by decide
    rw [e, Int32.toBitVec_shiftRight]
    have e2 : ((8 : Int32).toBitVec.smod 32) = 8#32 := by decide
    rw [e2, BitVec.sshiftRight_eq', BitVec.toNat_sshiftRight_of_msb_false (by rw [BitVec.msb_eq_false_iff_two_mul_lt]; omega)]
    show c.toBitVec.toNat >>> 8 % 256 = _
    rw [Nat.shiftRight_eq_div_pow]
    omega
  unfold pairCh
  apply Int32.toBitVec_inj.mp
  apply BitVec.eq_of_toNat_eq
  have f0 : ((0 : Int32) &&& 31) = 0 := by decide
  have f8 : ((8 : Int32) &&& 31) = 8 := by decide
  rw [f0, f8]
  have g : (((lo8 c &&& 255) <<< (0 : Int32)) ||| ((hi8 c &&& 255) <<< (8 : Int32))).toBitVec.toNat = c.toBitVec.toNat := by
    rw [Int32.toBitVec_or, Int32.toBitVec_shiftLeft, Int32.toBitVec_shiftLeft]
    have s0 : ((0 : Int32).toBitVec.smod 32) = 0#32 := by decide
    have s8 : ((8 : Int32).toBitVec.smod 32) = 8#32 := by decide
    rw [s0, s8, BitVec.toNat_or]
    simp only [BitVec.shiftLeft_eq', BitVec.toNat_shiftLeft, a1, a2]
    show (c.toBitVec.toNat % 256) <<< 0 % 2 ^ 32 ||| (c.toBitVec.toNat / 256) <<< 8 % 2 ^ 32 = _
    rw [Nat.shiftLeft_zero, Nat.mod_eq_of_lt (show c.toBitVec.toNat % 256 < 2 ^ 32 by omega), Nat.mod_eq_of_lt (show (c.toBitVec.toNat / 256) <<< 8 < 2 ^ 32 by rw [Nat.shiftLeft_eq]; omega), Nat.or_comm, ← Nat.shiftLeft_add_eq_or_of_lt (by omega), Nat.shiftLeft_eq]
    omega
  show BitVec.toNat (((((lo8 c &&& 255) <<< (0 : Int32)) ||| ((hi8 c &&& 255) <<< (8 : Int32))).toBitVec.setWidth 16).setWidth 32) = _
  rw [BitVec.toNat_setWidth, BitVec.toNat_setWidth, g]
  omega
end StrChars
namespace StrChars
open Jvm Sem ClassFile Op Lib Jvm.Stand Jvm.Free.XT Jvm.Free.ALB Jvm.Free.JM Jvm.Free
open Jvm.Lib.Cold (StaticIs)
theorem shr1 {n : Nat} (h : 2 * n < 2 ^ 31) : Int32.ofNat (2 * n) >>> ((1 : Int32) &&& 31) = Int32.ofNat n := by
  have e : ((1 : Int32) &&& 31) = 1 := by decide
  rw [e]
  apply Int32.toBitVec_inj.mp
  rw [Int32.toBitVec_shiftRight]
  have e1 : ((1 : Int32).toBitVec.smod 32) = 1#32 := by decide
  have hm : (BitVec.ofNat 32 (2 * n)).toNat = 2 * n := by rw [BitVec.toNat_ofNat, Nat.mod_eq_of_lt (by omega)]
  rw [e1, BitVec.sshiftRight_eq']
  apply BitVec.eq_of_toNat_eq
  show ((BitVec.ofNat 32 (2 * n)).sshiftRight 1).toNat = (BitVec.ofNat 32 n).toNat
  rw [BitVec.toNat_sshiftRight_of_msb_false (by rw [BitVec.msb_eq_false_iff_two_mul_lt, hm]; omega), hm, BitVec.toNat_ofNat, Nat.shiftRight_eq_div_pow]
  omega
/-- the array's cell V codes the n chars f 0 .. f (n - 1) by the coder cd, as the JDK does: coder 1 just where some char is above 255 -/
def Cod (cd : Int32) (n : Nat) (f : Nat → Int32) (V : Cell) : Prop := (cd = 0 ∧ V.slots.size = n ∧ ∀ j, j < n → V.slots[j]? = some (.int (lo8 (f j))) ∧ ¬ 255 < f j) ∨ (cd = 1 ∧ V.slots.size = 2 * n ∧ (∀ j, j < n → V.slots[2 * j]? = some (.int (lo8 (f j))) ∧ V.slots[2 * j + 1]? = some (.int (hi8 (f j)))) ∧ ∃ j, j < n ∧ 255 < f j)
theorem Cod.cd {cd : Int32} {n : Nat} {f : Nat → Int32} {V : Cell} (h : Cod cd n f V) : cd = 0 ∨ cd = 1 := h.imp (fun q => q.1) fun q => q.1
theorem Cod.len {cd : Int32} {n : Nat} {f : Nat → Int32} {V : Cell} (h : Cod cd n f V) (hs : V.slots.size < 2 ^ 31) : Int32.ofNat V.slots.size >>> (cd &&& 31) = Int32.ofNat n := by
  rcases h with ⟨rfl, h, -⟩ | ⟨rfl, h, -⟩
  · rw [shr0, h]
  · rw [h, shr1 (by omega)]
/-- **x is a String of the n chars f 0 .. f (n - 1)**, Latin-1 or UTF-16; its array at t has the cell V -/
def Txt (x t : Addr) (V : Cell) (cd : Int32) (n : Nat) (f : Nat → Int32) (U : State) : Prop := Exact "java/lang/String" x U ∧ Has x "java/lang/String" "value" "[B" (.ref t) U ∧ Has x "java/lang/String" "coder" "B" (.int cd) U ∧ XT.Arr .byte t V U ∧ Cod cd n f V ∧ ∀ j, j < n → ¬ f j < 0 ∧ ¬ 65535 < f j
theorem Txt.mv {x t : Addr} {V : Cell} {cd : Int32} {n : Nat} {f : Nat → Int32} {U U' : State} (h : Txt x t V cd n f U) (hal : U.vm.Alike U'.vm) (hh : U'.heap = U.heap) : Txt x t V cd n f U' := ⟨h.1.mv hal hh, h.2.1.mv hal hh, h.2.2.1.mv hal hh, h.2.2.2.1.mv hal hh, h.2.2.2.2⟩
namespace Cdr
def yN : MethodName := ⟨"java/lang/String", "coder", "()B"⟩
abbrev yB : ByteArray := jdk_42_method_152_code
theorem d0 : decode yB 0 = .ok (.getstatic 38, 3) := by decide +kernel
theorem d3 : decode yB 3 = .ok (.ifCond (.eq) 10, 3) := by decide +kernel
theorem d6 : decode yB 6 = .ok (.aload_n 0, 1) := by decide +kernel
theorem d7 : decode yB 7 = .ok (.getfield 15, 3) := by decide +kernel
theorem d10 : decode yB 10 = .ok (.goto 4, 3) := by decide +kernel
theorem d14 : decode yB 14 = .ok (.ireturn, 1) := by decide +kernel
def site : List Cond := [.fieldLink "java/lang/String" 38 "java/lang/String" "COMPACT_STRINGS" "Z", .fieldLink "java/lang/String" 15 "java/lang/String" "coder" "B"]
def tab : Cond := tabOf yN yB 1 (some .byte) site
def P (x : Addr) (cd z : Int32) (args : Array Value) (s : State) : Prop := args = #[.ref x] ∧ Has x "java/lang/String" "coder" "B" (.int cd) s ∧ (cd = 0 ∨ cd = 1) ∧ StaticIs s "java/lang/String" "COMPACT_STRINGS" "Z" (.int z) ∧ ¬ z = 0
def E (cd : Int32) (r : Option Value) (s u : State) : Prop := XT.PureE (some (.int cd)) r s u
theorem law (l : Launch) (x : Addr) (cd z : Int32) : Law l yN 1 0 0 0 yB 1 (some .byte) site (P x cd z) (E cd) [] 0 0 := by
  refine Law.of_walk (plainFor_of_name (by decide +kernel)) (by decide +kernel) (by decide +kernel) (by decide) (fun _ _ h => by rw [h.1]; rfl) (fun _ U U' hal hh h => ⟨h.1, h.2.1.mv hal hh, h.2.2.1, h.2.2.2.1.there hal hh, h.2.2.2.2⟩) (fun r U U' V V' h1 hal h2 h => XT.PureE.mv r U U' V V' h1 hal h2 h) ?_
  intro p e s m args below meth c s₁ X0 hexec hbytes hml hret hlk hnm hown hh0 W hP
  obtain ⟨rfl, hx, hc, s1, hz⟩ := hP
  have c1 : Steps p.tables e below (s₁.setTop (entryFrame m #[.ref x] 1)) (s₁.setTop (mkF m 0 #[.val (.ref x)] [])) := entry rfl
  obtain ⟨T2, X2, q2, st2⟩ := X0.sget hexec hown (wk W (.fieldLink "java/lang/String" 38 "java/lang/String" "COMPACT_STRINGS" "Z")) s1 (fun _ _ h => by rw [hh0]; exact h) (g := (mkF m 0 #[.val (.ref x)] [])) rfl (hb hbytes d0)
  have hh2 := q2.trans hh0
  have c3 : Steps p.tables e below (s₁.setTop (entryFrame m #[.ref x] 1)) (T2.setTop (mkF m 7 #[.val (.ref x)] [.ref x])) := (c1.trans (st2 _ (Steps.refl _))).trans (by
    refine XS.ifNo X2.here hexec rfl (hb hbytes d3) rfl (i0_eq_f hz) ?_
    refine XS.aloadN X2.here hexec rfl (hb hbytes d6) rfl rfl ?_
    exact Steps.refl _)
  obtain ⟨T4, X4, q4, st4⟩ := X2.hget hexec hown (wk W (.fieldLink "java/lang/String" 15 "java/lang/String" "coder" "B")) (hx.mv X2.warmed.alike hh2) (g := (mkF m 7 #[.val (.ref x)] [.ref x])) rfl (rest := []) rfl (hb hbytes d7)
  have c5 : Steps p.tables e below (s₁.setTop (entryFrame m #[.ref x] 1)) (T4.setTop (mkF m 14 #[.val (.ref x)] [.int cd])) := (c3.trans (st4 _ (Steps.refl _))).trans (by
    refine XS.goto X4.here hexec rfl (pc0 := 10) rfl (hb hbytes d10) (by decide) rfl ?_
    exact Steps.refl _)
  exact ⟨T4, some (.int cd), _, _, _, X4, rfl, rfl, rfl, (fun h => by cases h), ⟨rfl, q4.trans hh2⟩, fun fs hl => c5.trans (X4.ireturnOut hexec hret (by rcases hc with rfl | rfl <;> rfl) (Or.inr (Or.inr (Or.inl rfl))) (hb hbytes d14) hl)⟩
end Cdr
namespace Len
def yN : MethodName := ⟨"java/lang/String", "length", "()I"⟩
abbrev yB : ByteArray := jdk_42_method_54_code
theorem d0 : decode yB 0 = .ok (.aload_n 0, 1) := by decide +kernel
theorem d1 : decode yB 1 = .ok (.getfield 9, 3) := by decide +kernel
theorem d4 : decode yB 4 = .ok (.arraylength, 1) := by decide +kernel
theorem d5 : decode yB 5 = .ok (.aload_n 0, 1) := by decide +kernel
theorem d6 : decode yB 6 = .ok (.invokevirtual 335, 3) := by decide +kernel
theorem d9 : decode yB 9 = .ok (.ishr, 1) := by decide +kernel
theorem d10 : decode yB 10 = .ok (.ireturn, 1) := by decide +kernel
def site : List Cond := [.fieldLink "java/lang/String" 9 "java/lang/String" "value" "[B", Cdr.tab] ++ virtW "java/lang/String" 335 "java/lang/String" Cdr.yN Cdr.yN
def tab : Cond := tabOf yN yB 1 (some .int) site
def P (x t : Addr) (V : Cell) (cd : Int32) (n : Nat) (f : Nat → Int32) (z : Int32) (args : Array Value) (s : State) : Prop := args = #[.ref x] ∧ Txt x t V cd n f s ∧ StaticIs s "java/lang/String" "COMPACT_STRINGS" "Z" (.int z) ∧ ¬ z = 0
def E (n : Nat) (r : Option Value) (s u : State) : Prop := XT.PureE (some (.int (Int32.ofNat n))) r s u
/-- length() of a String of n chars, in either coding -/
theorem law (l : Launch) (x t : Addr) (V : Cell) (cd : Int32) (n : Nat) (f : Nat → Int32) (z : Int32) : Law l yN 1 0 1 13 yB 1 (some .int) site (P x t V cd n f z) (E n) [] 0 0 := by
  refine Law.of_walk (plainFor_of_name (by decide +kernel)) (by decide +kernel) (by decide +kernel) (by decide) (fun _ _ h => by rw [h.1]; rfl) (fun _ U U' hal hh h => ⟨h.1, h.2.1.mv hal hh, h.2.2.1.there hal hh, h.2.2.2⟩) (fun r U U' V V' h1 hal h2 h => XT.PureE.mv r U U' V V' h1 hal h2 h) ?_
  intro p e s m args below meth c s₁ X0 hexec hbytes hml hret hlk hnm hown hh0 W hP
  obtain ⟨rfl, hx, s1, hz⟩ := hP
  have v31 := hx.2.2.2.1.2.2.2
  have c1 : Steps p.tables e below (s₁.setTop (entryFrame m #[.ref x] 1)) (s₁.setTop (mkF m 1 #[.val (.ref x)] [.ref x])) := Steps.trans (entry rfl) (by
    show Steps p.tables e below (s₁.setTop (mkF m 0 #[.val (.ref x)] [])) _
    refine XS.aloadN X0.here hexec rfl (hb hbytes d0) rfl rfl ?_
    exact Steps.refl _)
  obtain ⟨T2, X2, q2, st2⟩ := X0.hget hexec hown (wk W (.fieldLink "java/lang/String" 9 "java/lang/String" "value" "[B")) (hx.mv X0.warmed.alike hh0).2.1 (g := (mkF m 1 #[.val (.ref x)] [.ref x])) rfl (rest := []) rfl (hb hbytes d1)
  have hh2 := q2.trans hh0
  have hx2 := hx.mv X2.warmed.alike hh2
  have c3 : Steps p.tables e below (s₁.setTop (entryFrame m #[.ref x] 1)) (T2.setTop (mkF m 6 #[.val (.ref x)] [.ref x, .int (Int32.ofNat V.slots.size)])) := (c1.trans (st2 _ (Steps.refl _))).trans (by
    refine X2.alen hexec hx2.2.2.2.1 rfl rfl (hb hbytes d4) ?_
    refine XS.aloadN X2.here hexec rfl (hb hbytes d5) rfl rfl ?_
    exact Steps.refl _)
  obtain ⟨v4, T4, X4, E4, g4⟩ := X2.callV hexec (Cdr.law l x cd z) hown (wks W (virtW "java/lang/String" 335 "java/lang/String" Cdr.yN Cdr.yN)) rfl (by decide) (wk W Cdr.tab) (W := 1) (Nat.le_of_ble_eq_true rfl) (Nat.le_of_ble_eq_true rfl) (Nat.le_refl _) (Nat.le_refl _) (hx2.1.fc X2.warmed.alike) hx2.1.is (g := (mkF m 6 #[.val (.ref x)] [.ref x, .int (Int32.ofNat V.slots.size)])) rfl (by rw [hml]; rfl) c3 (argsL := []) (rest := [.int (Int32.ofNat V.slots.size)]) rfl rfl (by show 2 * 0 + (1 + 0) ≤ _; decide) (hb hbytes d6) (⟨rfl, hx2.2.2.1, hx.2.2.2.2.1.cd, s1.there X2.warmed.alike hh2, hz⟩)
  obtain ⟨rfl, q4⟩ := E4
  have c5 : Steps p.tables e below (s₁.setTop (entryFrame m #[.ref x] 1)) (T4.setTop (mkF m 10 #[.val (.ref x)] [.int (Int32.ofNat V.slots.size >>> (cd &&& 31))])) := Steps.trans g4 (by
    refine ishr X4.here hexec rfl (hb hbytes d9) rfl ?_
    exact Steps.refl _)
  rw [hx.2.2.2.2.1.len v31] at c5
  exact ⟨T4, some (.int (Int32.ofNat n)), _, _, _, X4, rfl, rfl, rfl, (fun h => by cases h), ⟨rfl, q4.trans hh2⟩, fun fs hl => c5.trans (X4.ireturnOut hexec hret rfl (Or.inl rfl) (hb hbytes d10) hl)⟩
theorem pays {l : Launch} {R : Room} {p : Program} {e : Env} {below : List Frame} {s : State} {sargs : Array Value} {len W : Nat} (x t : Addr) (V : Cell) (cd : Int32) (n : Nat) (f : Nat → Int32) (z : Int32) (htab : tab.before sargs s = true) (hfr : 2 ≤ R.frames) (hlo : W + 25 ≤ R.locals) :
    Back l R p e below s sargs yN len W (fun A₁ a₁ => A₁.cells + 0 ≤ R.cells ∧ A₁.slots + 0 ≤ R.slots ∧ P x t V cd n f z a₁ A₁.U) (fun A₁ _ v₁ B₁ => E n v₁ A₁.U B₁.U ∧ B₁.locs = A₁.locs ++ [] ∧ B₁.cells = A₁.cells + 0 ∧ B₁.slots = A₁.slots + 0) :=
  (law l x t V cd n f z).pays htab hfr (by omega)
end Len
end StrChars
namespace StrChars.Road
open Jvm Sem ClassFile Op Lib Jvm.Stand Jvm.Free Jvm.Free.XT
open Jvm.Lib.Cold (StaticIs)
theorem consq {a : Array Value} {s : State} {c : Jvm.Cond} {L : List Jvm.Cond} (h0 : c.before a s = true) (h : ∀ w ∈ L, w.before a s = true) : ∀ w ∈ c :: L, w.before a s = true := fun w hw => (List.mem_cons.mp hw).elim (fun e => e ▸ h0) (h w)
/-- the words of String.length(), either coding -/
abbrev wordsLen : List Jvm.Cond := [.code Len.yN Len.yB 1 (some .int), .initialized ST, .fieldLink ST 9 ST "value" "[B", .fieldLink ST 38 ST "COMPACT_STRINGS" "Z", .fieldLink ST 15 ST "coder" "B", .code Cdr.yN Cdr.yB 1 (some .byte), .methodLink ST 335 Cdr.yN, .declares Cdr.yN, .selects ST Cdr.yN Cdr.yN, .instanceMethod Cdr.yN]
theorem tabLen_of {a : Array Value} {s : State} (h : ∀ w ∈ wordsLen, w.before a s = true) : Len.tab.before a s = true := by
  have hc : Cdr.tab.before a s = true := unparts (wk h (.code Cdr.yN Cdr.yB 1 (some .byte))) (wks h (.initialized Cdr.yN.cls :: Cdr.site))
  have q := consq hc h
  exact unparts (wk q (.code Len.yN Len.yB 1 (some .int))) (wks q (.initialized Len.yN.cls :: Len.site))
theorem movedLen {Z s : State} {a0 args : Array Value} (hZ : Z.Warmed39 s.vm) (hw : ∀ d ∈ wordsLen, d.before a0 Z = true) : ∀ d ∈ wordsLen, d.before args s = true := fun d hd => by
  have q := hw d hd
  have t : ∀ d ∈ wordsLen, d = .arrayClass .byte ∨ (d.onTables && d.keepsFace) = true := by decide +kernel
  rcases t d hd with rfl | t
  · exact RoadKit.mvA hZ q
  · exact RoadKit.mv hZ q t
/-- the bytes of the chars cs, low before high -/
def wideBytes : List Int32 → List Value
  | [] => []
  | c :: cs => .int (lo8 c) :: .int (hi8 c) :: wideBytes cs
theorem wide_lo (d : Value) : ∀ (cs : List Int32) (j : Nat), j < cs.length → (wideBytes cs).getD (2 * j) d = .int (lo8 (cs.getD j 0))
  | [], j, h => absurd h (Nat.not_lt_zero j)
  | c :: cs, 0, _ => rfl
  | c :: cs, j + 1, h => by
    have q := wide_lo d cs j (by simpa using h)
    rw [show 2 * (j + 1) = 2 * j + 1 + 1 from by omega]
    simpa [wideBytes] using q
theorem wide_hi (d : Value) : ∀ (cs : List Int32) (j : Nat), j < cs.length → (wideBytes cs).getD (2 * j + 1) d = .int (hi8 (cs.getD j 0))
  | [], j, h => absurd h (Nat.not_lt_zero j)
  | c :: cs, 0, _ => rfl
  | c :: cs, j + 1, h => by
    have q := wide_hi d cs j (by simpa using h)
    rw [show 2 * (j + 1) + 1 = 2 * j + 1 + 1 + 1 from by omega]
    simpa [wideBytes] using q
theorem low_at (d : Value) (cs : List Int32) (j : Nat) (h : j < cs.length) : (cs.map fun c => Value.int (lo8 c)).getD j d = .int (lo8 (cs.getD j 0)) := by
  simp [List.getD_eq_getElem?_getD, h]
/-- an array of N2 bytes vs codes the chars cs by the coder cd -/
def CodA (cs : List Int32) (cd N2 : Int32) (vs : List Value) : Prop := (cd = 0 ∧ N2 = Int32.ofNat cs.length ∧ vs = (cs.map fun c => Value.int (lo8 c)) ∧ ∀ c ∈ cs, ¬ 255 < c) ∨ (cd = 1 ∧ N2 = Int32.ofNat (2 * cs.length) ∧ vs = wideBytes cs ∧ ∃ c ∈ cs, 255 < c)
theorem CodA.cod {cs : List Int32} {cd N2 : Int32} {vs : List Value} {V : Cell} (h : CodA cs cd N2 vs) (hn : 2 * cs.length < 2 ^ 31) (hs : V.slots.size = N2.toNatClampNeg) (hv : RoadKit.Has V vs (.int 0)) : Cod cd cs.length (fun j => cs.getD j 0) V := by
  rcases h with ⟨rfl, rfl, rfl, h⟩ | ⟨rfl, rfl, rfl, c, hc, hw⟩
  · rw [n32 (by omega)] at hs
    exact Or.inl ⟨rfl, hs, fun j hj => ⟨by rw [hv j (by omega), low_at _ _ _ hj], by
      have e : cs.getD j 0 = cs[j] := by simp [List.getD_eq_getElem?_getD, hj]
      show ¬ 255 < cs.getD j 0
      rw [e]; exact h _ (List.getElem_mem _)⟩⟩
  · rw [n32 (by omega)] at hs
    obtain ⟨j, hj, rfl⟩ := List.getElem_of_mem hc
    exact Or.inr ⟨rfl, hs, fun j hj => ⟨by rw [hv _ (by omega), wide_lo _ _ _ hj], by rw [hv _ (by omega), wide_hi _ _ _ hj]⟩, j, hj, by
      have e : cs.getD j 0 = cs[j] := by simp [List.getD_eq_getElem?_getD, hj]
      show 255 < cs.getD j 0
      rw [e]; exact hw⟩
/-- an object of exactly java/lang/String, its two fields found: as the laws ask it -/
theorem strObj {Z U : State} {a0 : Array Value} {kI : Nat} (wi : (Jvm.Cond.instantiable ST kI).before a0 Z = true) (al : Z.vm.Alike U.vm) {x : Addr} {v0 c0 : Value} (E : RoadKit.Exa Z U.heap x ST) (V : RoadKit.Fld Z U.heap x ST "value" "[B" v0) (C : RoadKit.Fld Z U.heap x ST "coder" "B" c0) :
    ∃ (D : Cell) (fV fC : Field), Blank ST x D U ∧ Found ST "value" "[B" fV U ∧ Found ST "coder" "B" fC U ∧ D.slots[fV.slot]? = some v0 ∧ D.slots[fC.slot]? = some c0 ∧ RoadKit.slotOf Z ST "value" "[B" = fV.slot ∧ RoadKit.slotOf Z ST "coder" "B" = fC.slot := by
  obtain ⟨D, cfV, kV, iV, fV, hD, gV, stV, knV, obV, asV, slV⟩ := V
  obtain ⟨D', cfC, kC, iC, fC, hD', gC, stC, -, -, asC, slC⟩ := C
  cases hD.symm.trans hD'
  obtain ⟨D2, kD, e1, e2, e3, e4, e5⟩ := E
  cases hD.symm.trans e1
  obtain ⟨c2, k2, i1, i2, i3, -⟩ := Cond.instantiable_spec wi
  cases e2.symm.trans i1
  cases e3.symm.trans i2
  obtain ⟨kU, u1, u2⟩ := al.2.2 _ _ e3
  exact ⟨D, fV, fC, ⟨hD, ⟨knV, fun q hq => by rw [hq] at obV; cases obV⟩, by rw [al.findClass]; exact e2, kU, u1, by rw [u2]; exact i3, by rw [u2]; exact e5 i3⟩, ⟨SBG.found_only al ⟨cfV, kV, iV, gV⟩, stV⟩, ⟨SBG.found_only al ⟨cfC, kC, iC, gC⟩, stC⟩, slV, slC, by simp [RoadKit.slotOf, gV], by simp [RoadKit.slotOf, gC]⟩
theorem sta_is {Z U : State} (al : Z.vm.Alike U.vm) {C n d : String} {v : Value} (S : RoadKit.Sta Z U.heap C n d v) : StaticIs U C n d v := by
  obtain ⟨cfS, iS, kS, fS, st, cS, t1, t2, t3, t4, t5, t6, t7⟩ := S
  exact StaticIs.there (s := { Z with heap := U.heap }) ⟨cfS, iS, kS, fS, st, cS, t1, t2, t3, t4, t5, (fun q => by rw [q] at t6; cases t6), t7⟩ al rfl
/-- **length() OF SUCH A STRING** -/
theorem lenW {p : Program} {l : Launch} {e : Env} {R : Room} {s : State} {args : Array Value} {below : List Frame} {len W : Nat} {Z : State} {a0 : Array Value} {h : Heap} (hZ : Z.Warmed39 s.vm) (hw : ∀ d ∈ wordsLen, d.before a0 Z = true) {kI : Nat} (wi : (Jvm.Cond.instantiable ST kI).before a0 Z = true)
    {x t : Addr} {kb : ClassId} {cs : List Int32} {cd N2 z : Int32} {vs : List Value} (E : RoadKit.Exa Z h x ST) (V : RoadKit.Fld Z h x ST "value" "[B" (.ref t)) (C : RoadKit.Fld Z h x ST "coder" "B" (.int cd)) (K : RoadKit.Arv Z h t kb .byte N2 vs (.int 0)) (hc : CodA cs cd N2 vs) (hb : ∀ c ∈ cs, ¬ c < 0 ∧ ¬ (65535 : Int32) < c)
    (S : RoadKit.Sta Z h ST "COMPACT_STRINGS" "Z" (.int z)) (hz : ¬ z = 0) (l2 : cs.length ≤ 4000) (hfr : 2 ≤ R.frames) (hlo : W + 25 ≤ R.locals) :
    Back l R p e below s args (⟨"java/lang/String", "length", "()I"⟩ : MethodName) len W (fun P a => a = #[.ref x] ∧ P.U.heap = h ∧ P.cells + 0 ≤ R.cells ∧ P.slots + 0 ≤ R.slots)
      (fun P _ v B => ∃ L, (v = some (.int (Int32.ofNat cs.length)) ∧ L = [] ∧ B.U.heap = h) ∧ B.locs = P.locs ++ L ∧ B.cells = P.cells + 0 ∧ B.slots = P.slots + 0) := by
  obtain ⟨A, K1, K2, K3, K4, K5, K6⟩ := K
  have hcod := hc.cod (by omega) K3 K5
  intro m meth c P g ig mk a X hg hsize hdg hW hn hp'
  obtain ⟨rfl, rfl, r1, r2⟩ := hp'
  have al : Z.vm.Alike P.U.vm := hZ.alike.trans X.warmed.alike
  obtain ⟨D, fV, fC, hB, F1, F2, g1, g2, -, -⟩ := strObj wi al E V C
  have hx : Txt x t A cd cs.length (fun j => cs.getD j 0) P.U := ⟨⟨_, hB.2.2.1, D, hB.1, rfl, by cases q : D.vm <;> first | rfl | exact absurd q (hB.2.1.2 _)⟩, Has.of hB F1 g1, Has.of hB F2 g2, ⟨K1.1, State.isArrayOf_alike al K1.2.1, K1.2.2, by rcases hcod with ⟨-, q, -⟩ | ⟨-, q, -⟩ <;> omega⟩, hcod, fun j hj => by
    have e : cs.getD j 0 = cs[j] := by simp [List.getD_eq_getElem?_getD, hj]
    show ¬ cs.getD j 0 < 0 ∧ ¬ 65535 < cs.getD j 0
    rw [e]; exact hb _ (List.getElem_mem _)⟩
  obtain ⟨v, B, X', ⟨⟨hv, hh⟩, hl, hk, hs⟩, st⟩ := Len.pays x t A cd cs.length (fun j => cs.getD j 0) z (tabLen_of (movedLen hZ hw)) hfr hlo m meth c P g ig mk _ X hg hsize hdg hW hn ⟨r1, r2, rfl, hx, sta_is al S, hz⟩
  exact ⟨v, B, X', ⟨[], ⟨hv, rfl, hh⟩, hl, hk, hs⟩, st⟩
end StrChars.Road
namespace StrChars
open Jvm Sem ClassFile Op Lib Jvm.Stand Jvm.Free.XT Jvm.Free.ALB Jvm.Free.JM Jvm.Free
open Jvm.Lib.Cold (StaticIs)
/-- what place i of a byte[]'s cell holds -/
def yv (A : Cell) (i : Nat) : Int32 := match A.slots[i]? with | some (.int x) => x | _ => 0
theorem yv_get {a : Addr} {A : Cell} {U : State} (h : XT.Arr .byte a A U) (ht : Typed .byte A) {i : Nat} (hi : i < A.slots.size) : A.slots[i]? = some (.int (yv A i)) := by
  have e := Array.getElem?_eq_getElem hi
  have f := ht i _ e
  unfold yv; rw [e]
  generalize A.slots[i] = v at f
  cases v <;> simp [fits] at f ⊢
/-- the two arrays are equal, place for place -/
def EqC (A B : Cell) : Prop := A.slots.size = B.slots.size ∧ ∀ i, i < A.slots.size → yv A i = yv B i
/-- a boolean that says whether p -/
def Says01 (q : Prop) (r : Option Value) (s u : State) : Prop := ∃ v : Int32, r = some (.int v) ∧ u.heap = s.heap ∧ ((v = 1 ∧ q) ∨ (v = 0 ∧ ¬ q))
theorem Says01.mv {q : Prop} : ∀ r (U U' V V' : State), U'.heap = U.heap → V.vm.Alike V'.vm → V'.heap = V.heap → Says01 q r U V → Says01 q r U' V' :=
  fun r U U' V V' h1 _ h2 ⟨v, a, b, c⟩ => ⟨v, a, by rw [h1, h2]; exact b, c⟩
namespace LEq
def yN : MethodName := ⟨"java/lang/StringLatin1", "equals", "([B[B)Z"⟩
abbrev yB : ByteArray := jdk_43_method_13_code
theorem d0 : decode yB 0 = .ok (.aload_n 0, 1) := by decide +kernel
theorem d1 : decode yB 1 = .ok (.arraylength, 1) := by decide +kernel
theorem d2 : decode yB 2 = .ok (.aload_n 1, 1) := by decide +kernel
theorem d3 : decode yB 3 = .ok (.arraylength, 1) := by decide +kernel
theorem d4 : decode yB 4 = .ok (.if_icmp (.ne) 30, 3) := by decide +kernel
theorem d7 : decode yB 7 = .ok (.iconst 0, 1) := by decide +kernel
theorem d8 : decode yB 8 = .ok (.istore_n 2, 1) := by decide +kernel
theorem d9 : decode yB 9 = .ok (.iload_n 2, 1) := by decide +kernel
theorem d10 : decode yB 10 = .ok (.aload_n 0, 1) := by decide +kernel
theorem d11 : decode yB 11 = .ok (.arraylength, 1) := by decide +kernel
theorem d12 : decode yB 12 = .ok (.if_icmp (.ge) 20, 3) := by decide +kernel
theorem d15 : decode yB 15 = .ok (.aload_n 0, 1) := by decide +kernel
theorem d16 : decode yB 16 = .ok (.iload_n 2, 1) := by decide +kernel
theorem d17 : decode yB 17 = .ok (.baload, 1) := by decide +kernel
theorem d18 : decode yB 18 = .ok (.aload_n 1, 1) := by decide +kernel
theorem d19 : decode yB 19 = .ok (.iload_n 2, 1) := by decide +kernel
theorem d20 : decode yB 20 = .ok (.baload, 1) := by decide +kernel
theorem d21 : decode yB 21 = .ok (.if_icmp (.eq) 5, 3) := by decide +kernel
theorem d24 : decode yB 24 = .ok (.iconst 0, 1) := by decide +kernel
theorem d25 : decode yB 25 = .ok (.ireturn, 1) := by decide +kernel
theorem d26 : decode yB 26 = .ok (.iinc 2 1, 3) := by decide +kernel
theorem d29 : decode yB 29 = .ok (.goto (-20), 3) := by decide +kernel
theorem d32 : decode yB 32 = .ok (.iconst 1, 1) := by decide +kernel
theorem d33 : decode yB 33 = .ok (.ireturn, 1) := by decide +kernel
theorem d34 : decode yB 34 = .ok (.iconst 0, 1) := by decide +kernel
theorem d35 : decode yB 35 = .ok (.ireturn, 1) := by decide +kernel
def site : List Cond := []
def tab : Cond := tabOf yN yB 3 (some .boolean) site
def P (a : Addr) (A : Cell) (b : Addr) (B : Cell) (args : Array Value) (s : State) : Prop := args = #[.ref a, .ref b] ∧ XT.Arr .byte a A s ∧ Typed .byte A ∧ XT.Arr .byte b B s ∧ Typed .byte B
/-- whether two byte[] are equal, place for place -/
theorem law (l : Launch) (a : Addr) (A : Cell) (b : Addr) (B : Cell) : Law l yN 2 2 0 0 yB 3 (some .boolean) site (P a A b B) (Says01 (EqC A B)) [] 0 0 := by
  refine Law.of_walk (plainFor_of_name (by decide +kernel)) (by decide +kernel) (by decide +kernel) (by decide) (fun _ _ h => by rw [h.1]; rfl) (fun _ U U' hal hh h => ⟨h.1, h.2.1.mv hal hh, h.2.2.1, h.2.2.2.1.mv hal hh, h.2.2.2.2⟩) (fun r U U' V V' h1 hal h2 h => Says01.mv r U U' V V' h1 hal h2 h) ?_
  intro p e s m args below meth c s₁ X0 hexec hbytes hml hret hlk hnm hown hh0 W hP
  obtain ⟨rfl, hA, tA, hB, tB⟩ := hP
  have a31 := hA.2.2.2
  have b31 := hB.2.2.2
  have hA0 := hA.mv X0.warmed.alike hh0
  have hB0 := hB.mv X0.warmed.alike hh0
  have c1 : Steps p.tables e below (s₁.setTop (entryFrame m #[.ref a, .ref b] 3)) (s₁.setTop (mkF m 0 #[.val (.ref a), .val (.ref b), .unset] [])) := entry rfl
  have c2 : Steps p.tables e below (s₁.setTop (entryFrame m #[.ref a, .ref b] 3)) (s₁.setTop (mkF m 4 #[.val (.ref a), .val (.ref b), .unset] [.int (Int32.ofNat B.slots.size), .int (Int32.ofNat A.slots.size)])) := c1.trans (by
    refine XS.aloadN X0.here hexec rfl (hb hbytes d0) rfl rfl ?_
    refine X0.alen hexec hA0 rfl rfl (hb hbytes d1) ?_
    refine XS.aloadN X0.here hexec rfl (hb hbytes d2) rfl rfl ?_
    refine X0.alen hexec hB0 rfl rfl (hb hbytes d3) ?_
    exact Steps.refl _)
  by_cases hs : A.slots.size = B.slots.size
  · have c3 : Steps p.tables e below (s₁.setTop (entryFrame m #[.ref a, .ref b] 3)) (s₁.setTop (mkF m 9 #[.val (.ref a), .val (.ref b), .val (.int 0)] [])) := c2.trans (by
      refine XS.icmpNo X0.here hexec rfl (hb hbytes d4) rfl (ii_ne_f (by rw [hs])) ?_
      refine iconstV X0.here hexec rfl 0 (hb hbytes d7) (by decide) ?_
      refine XS.istoreN X0.here hexec rfl (hb hbytes d8) rfl rfl ?_
      exact Steps.refl _)
    have loop : ∀ (r i : Nat), i + r = A.slots.size → (∀ j, j < i → yv A j = yv B j) → Steps p.tables e below (s₁.setTop (entryFrame m #[.ref a, .ref b] 3)) (s₁.setTop (mkF m 9 #[.val (.ref a), .val (.ref b), .val (.int (Int32.ofNat i))] [])) → ∃ (pc : Nat) (Ls : Array Slot) (v : Int32), (pc = 25 ∨ pc = 33) ∧ ((v = 1 ∧ EqC A B) ∨ (v = 0 ∧ ¬ EqC A B)) ∧ Steps p.tables e below (s₁.setTop (entryFrame m #[.ref a, .ref b] 3)) (s₁.setTop (mkF m pc Ls [.int v])) := by
      intro r
      induction r with
      | zero =>
        intro i hi he cl
        exact ⟨33, _, 1, Or.inr rfl, Or.inl ⟨rfl, hs, fun j hj => he j (by omega)⟩, cl.trans (by
          refine XS.iloadN X0.here hexec rfl (hb hbytes d9) rfl ?_
          refine XS.aloadN X0.here hexec rfl (hb hbytes d10) rfl rfl ?_
          refine X0.alen hexec hA0 rfl rfl (hb hbytes d11) ?_
          refine XS.icmpYes X0.here hexec rfl (pc0 := 12) rfl (hb hbytes d12) rfl (ii_ge_t (nlt32 (by omega) (by omega))) (by decide) rfl ?_
          refine iconstV X0.here hexec rfl 1 (hb hbytes d32) (by decide) ?_
          exact Steps.refl _)⟩
      | succ r ih =>
        intro i hi he cl
        have c4 : Steps p.tables e below (s₁.setTop (entryFrame m #[.ref a, .ref b] 3)) (s₁.setTop (mkF m 21 #[.val (.ref a), .val (.ref b), .val (.int (Int32.ofNat i))] [.int (yv B i), .int (yv A i)])) := cl.trans (by
          refine XS.iloadN X0.here hexec rfl (hb hbytes d9) rfl ?_
          refine XS.aloadN X0.here hexec rfl (hb hbytes d10) rfl rfl ?_
          refine X0.alen hexec hA0 rfl rfl (hb hbytes d11) ?_
          refine XS.icmpNo X0.here hexec rfl (hb hbytes d12) rfl (ii_ge_f (lt32 (by omega) (by omega))) ?_
          refine XS.aloadN X0.here hexec rfl (hb hbytes d15) rfl rfl ?_
          refine XS.iloadN X0.here hexec rfl (hb hbytes d16) rfl ?_
          refine X0.aget hexec hA0 rfl (yv_get hA tA (i := i) (by omega)) rfl rfl (hb hbytes d17) ?_
          refine XS.aloadN X0.here hexec rfl (hb hbytes d18) rfl rfl ?_
          refine XS.iloadN X0.here hexec rfl (hb hbytes d19) rfl ?_
          refine X0.aget hexec hB0 rfl (yv_get hB tB (i := i) (by omega)) rfl rfl (hb hbytes d20) ?_
          exact Steps.refl _)
        by_cases hv : yv A i = yv B i
        · have c5 : Steps p.tables e below (s₁.setTop (entryFrame m #[.ref a, .ref b] 3)) (s₁.setTop (mkF m 9 #[.val (.ref a), .val (.ref b), .val (.int (Int32.ofNat i + 1))] [])) := c4.trans (by
            refine XS.icmpYes X0.here hexec rfl (pc0 := 21) rfl (hb hbytes d21) rfl (ii_eq_t hv) (by decide) rfl ?_
            refine iincV X0.here hexec rfl 1 (hb hbytes d26) (by decide) rfl rfl ?_
            refine XS.goto X0.here hexec rfl (pc0 := 29) rfl (hb hbytes d29) (by decide) rfl ?_
            exact Steps.refl _)
          rw [succ32] at c5
          exact ih (i + 1) (by omega) (fun j hj => by
            by_cases e : j = i
            · rw [e]; exact hv
            · exact he j (by omega)) c5
        · exact ⟨25, _, 0, Or.inl rfl, Or.inr ⟨rfl, fun q => hv (q.2 i (by omega))⟩, c4.trans (by
            refine XS.icmpNo X0.here hexec rfl (hb hbytes d21) rfl (ii_eq_f hv) ?_
            refine iconstV X0.here hexec rfl 0 (hb hbytes d24) (by decide) ?_
            exact Steps.refl _)⟩
    obtain ⟨pc, Ls, v, hpc, hv, cz⟩ := loop A.slots.size 0 (by omega) (fun j hj => absurd hj (Nat.not_lt_zero j)) c3
    have nv : narrow .boolean (.int v) = .int v := by rcases hv with ⟨rfl, -⟩ | ⟨rfl, -⟩ <;> rfl
    rcases hpc with rfl | rfl
    · exact ⟨s₁, some (.int v), _, _, _, X0, rfl, rfl, rfl, (fun h => by cases h), ⟨v, rfl, hh0, hv⟩, fun fs hl => cz.trans (X0.ireturnOut hexec hret nv (Or.inr (Or.inl rfl)) (hb hbytes d25) hl)⟩
    · exact ⟨s₁, some (.int v), _, _, _, X0, rfl, rfl, rfl, (fun h => by cases h), ⟨v, rfl, hh0, hv⟩, fun fs hl => cz.trans (X0.ireturnOut hexec hret nv (Or.inr (Or.inl rfl)) (hb hbytes d33) hl)⟩
  · have c3 : Steps p.tables e below (s₁.setTop (entryFrame m #[.ref a, .ref b] 3)) (s₁.setTop (mkF m 35 #[.val (.ref a), .val (.ref b), .unset] [.int 0])) := c2.trans (by
      refine XS.icmpYes X0.here hexec rfl (pc0 := 4) rfl (hb hbytes d4) rfl (ii_ne_t (ne32 a31 b31 hs)) (by decide) rfl ?_
      refine iconstV X0.here hexec rfl 0 (hb hbytes d34) (by decide) ?_
      exact Steps.refl _)
    exact ⟨s₁, some (.int 0), _, _, _, X0, rfl, rfl, rfl, (fun h => by cases h), ⟨0, rfl, hh0, Or.inr ⟨rfl, fun q => hs q.1⟩⟩, fun fs hl => c3.trans (X0.ireturnOut hexec hret rfl (Or.inr (Or.inl rfl)) (hb hbytes d35) hl)⟩
end LEq
theorem Cod.ty {cd : Int32} {n : Nat} {f : Nat → Int32} {V : Cell} (h : Cod cd n f V) : Typed .byte V := fun i v hv => by
  have hi : i < V.slots.size := (Array.getElem?_eq_some_iff.mp hv).1
  rcases h with ⟨-, k1, k2⟩ | ⟨-, k1, k2, -⟩
  · rw [(k2 i (by omega)).1] at hv; cases hv; exact fits_lo8 _
  · rcases Nat.mod_two_eq_zero_or_one i with e | e
    · obtain ⟨j, rfl⟩ : ∃ j, i = 2 * j := ⟨i / 2, by omega⟩
      rw [(k2 j (by omega)).1] at hv; cases hv; exact fits_lo8 _
    · obtain ⟨j, rfl⟩ : ∃ j, i = 2 * j + 1 := ⟨i / 2, by omega⟩
      rw [(k2 j (by omega)).2] at hv; cases hv; exact fits_lo8 _
/-- the same text -/
def SameT (n : Nat) (f : Nat → Int32) (k : Nat) (g : Nat → Int32) : Prop := n = k ∧ ∀ j, j < n → f j = g j
theorem lo8_inj {x y : Int32} (h0 : ¬ x < 0) (h1 : ¬ 255 < x) (k0 : ¬ y < 0) (k1 : ¬ 255 < y) (h : lo8 x = lo8 y) : x = y := by
  rw [← lo8_mask h0 h1, ← lo8_mask k0 k1, h]
/-- arrays coded by one coder are equal just where the texts are -/
theorem Cod.eqv {cd : Int32} {n k : Nat} {f g : Nat → Int32} {V V' : Cell} (h : Cod cd n f V) (h' : Cod cd k g V') (hf : ∀ j, j < n → ¬ f j < 0 ∧ ¬ 65535 < f j) (hg : ∀ j, j < k → ¬ g j < 0 ∧ ¬ 65535 < g j) : EqC V V' ↔ SameT n f k g := by
  have yvv : ∀ {W : Cell} {i : Nat} {x : Int32}, W.slots[i]? = some (.int x) → yv W i = x := fun q => by unfold yv; rw [q]
  rcases h with ⟨rfl, k1, k2⟩ | ⟨rfl, k1, k2, -⟩
  · rcases h' with ⟨-, m1, m2⟩ | ⟨e, -⟩
    · constructor
      · rintro ⟨e1, e2⟩
        refine ⟨by omega, fun j hj => ?_⟩
        have q := e2 j (by omega)
        rw [yvv (k2 j hj).1, yvv (m2 j (by omega)).1] at q
        exact lo8_inj (hf j hj).1 (k2 j hj).2 (hg j (by omega)).1 (m2 j (by omega)).2 q
      · rintro ⟨rfl, e2⟩
        refine ⟨by omega, fun j hj => ?_⟩
        rw [yvv (k2 j (by omega)).1, yvv (m2 j (by omega)).1, e2 j (by omega)]
    · exact absurd e (by decide)
  · rcases h' with ⟨e, -⟩ | ⟨-, m1, m2, -⟩
    · exact absurd e (by decide)
    · constructor
      · rintro ⟨e1, e2⟩
        refine ⟨by omega, fun j hj => ?_⟩
        have q1 := e2 (2 * j) (by omega)
        have q2 := e2 (2 * j + 1) (by omega)
        rw [yvv (k2 j hj).1, yvv (m2 j (by omega)).1] at q1
        rw [yvv (k2 j hj).2, yvv (m2 j (by omega)).2] at q2
        rw [← pair_says (hf j hj).1 (hf j hj).2, ← pair_says (hg j (by omega)).1 (hg j (by omega)).2, q1, q2]
      · rintro ⟨rfl, e2⟩
        refine ⟨by omega, fun i hi => ?_⟩
        rcases Nat.mod_two_eq_zero_or_one i with e | e
        · obtain ⟨j, rfl⟩ : ∃ j, i = 2 * j := ⟨i / 2, by omega⟩
          rw [yvv (k2 j (by omega)).1, yvv (m2 j (by omega)).1, e2 j (by omega)]
        · obtain ⟨j, rfl⟩ : ∃ j, i = 2 * j + 1 := ⟨i / 2, by omega⟩
          rw [yvv (k2 j (by omega)).2, yvv (m2 j (by omega)).2, e2 j (by omega)]
/-- two codings differ: so do the texts -/
theorem Cod.dif {cd cd' : Int32} {n k : Nat} {f g : Nat → Int32} {V V' : Cell} (h : Cod cd n f V) (h' : Cod cd' k g V') (hne : ¬ cd = cd') : ¬ SameT n f k g := by
  rintro ⟨rfl, e⟩
  rcases h with ⟨rfl, -, k2⟩ | ⟨rfl, -, -, j, hj, hw⟩
  · rcases h' with ⟨rfl, -⟩ | ⟨-, -, -, j, hj, hw⟩
    · exact hne rfl
    · exact (k2 j hj).2 (by rw [e j hj]; exact hw)
  · rcases h' with ⟨-, -, m2⟩ | ⟨rfl, -⟩
    · exact (m2 j hj).2 (by rw [← e j hj]; exact hw)
    · exact hne rfl
/-- an object of exactly C is an instance of C -/
theorem cinst {p : Program} {l : Launch} {e : Env} {R : Room} {s : State} {m : MethodId} {args : Array Value} {below : List Frame} {meth : Method} {c : Code} {T : State} {locs : List Loc} {cells slots : Nat} (X : Stand p l e R s m args below meth c T locs cells slots) (hexec : p.tables.exec = Jvm.exec) {own C : String} {index : Nat} (hown : s.vm.findClass own = some m.cls) (hlink : (Cond.classLink own index C).before args s = true) {a : Addr} (hE : Exact C a T)
    {g : JFrame} (hg : g.method = m) {rest : List Value} (hstack : g.stack = .ref a :: rest) (hdg : decode c.code g.pc = .ok (.instanceof index, 3)) :
    ∃ T', Stand p l e R s m args below meth c T' locs cells slots ∧ T'.heap = T.heap ∧ ∀ target, Steps p.tables e below (T'.setTop { g with pc := g.pc + 3, stack := .int 1 :: rest }) target → Steps p.tables e below (T.setTop g) target := by
  obtain ⟨cB, h1, D, h2, h3, h4⟩ := hE
  have h1' : s.vm.findClass C = some cB := by rw [← X.warmed.alike.findClass]; exact h1
  obtain ⟨vm', X', st⟩ := X.instanceofYes hexec hown hlink h2 h4 h1' (by rw [h3]; exact Jvm.Free.SB.assignable_self _ _) hg hstack hdg
  exact ⟨_, X', rfl, st⟩
theorem cself {p : Program} {l : Launch} {e : Env} {R : Room} {s : State} {m : MethodId} {args : Array Value} {below : List Frame} {meth : Method} {c : Code} {T : State} {locs : List Loc} {cells slots : Nat} (X : Stand p l e R s m args below meth c T locs cells slots) (hexec : p.tables.exec = Jvm.exec) {own C : String} {index : Nat} (hown : s.vm.findClass own = some m.cls) (hlink : (Cond.classLink own index C).before args s = true) {a : Addr} (hE : Exact C a T)
    {g : JFrame} (hg : g.method = m) {rest : List Value} (hstack : g.stack = .ref a :: rest) (hdg : decode c.code g.pc = .ok (.checkcast index, 3)) :
    ∃ T', Stand p l e R s m args below meth c T' locs cells slots ∧ T'.heap = T.heap ∧ ∀ target, Steps p.tables e below (T'.setTop { g with pc := g.pc + 3, stack := .ref a :: rest }) target → Steps p.tables e below (T.setTop g) target := by
  obtain ⟨cB, h1, D, h2, h3, h4⟩ := hE
  have h1' : s.vm.findClass C = some cB := by rw [← X.warmed.alike.findClass]; exact h1
  obtain ⟨vm', X', st⟩ := X.checkcastYes hexec hown hlink h2 h4 h1' (by rw [h3]; exact Jvm.Free.SB.assignable_self _ _) hg hstack hdg
  exact ⟨_, X', rfl, fun t h => st t (by rw [← hstack] at h; exact h)⟩
namespace SEq
def yN : MethodName := ⟨"java/lang/String", "equals", "(Ljava/lang/Object;)Z"⟩
abbrev yB : ByteArray := jdk_42_method_66_code
theorem d0 : decode yB 0 = .ok (.aload_n 0, 1) := by decide +kernel
theorem d1 : decode yB 1 = .ok (.aload_n 1, 1) := by decide +kernel
theorem d2 : decode yB 2 = .ok (.if_acmp (.ne) 5, 3) := by decide +kernel
theorem d5 : decode yB 5 = .ok (.iconst 1, 1) := by decide +kernel
theorem d6 : decode yB 6 = .ok (.ireturn, 1) := by decide +kernel
theorem d7 : decode yB 7 = .ok (.aload_n 1, 1) := by decide +kernel
theorem d8 : decode yB 8 = .ok (.instanceof 10, 3) := by decide +kernel
theorem d11 : decode yB 11 = .ok (.ifCond (.eq) 43, 3) := by decide +kernel
theorem d14 : decode yB 14 = .ok (.aload_n 1, 1) := by decide +kernel
theorem d15 : decode yB 15 = .ok (.checkcast 10, 3) := by decide +kernel
theorem d18 : decode yB 18 = .ok (.astore_n 2, 1) := by decide +kernel
theorem d19 : decode yB 19 = .ok (.getstatic 38, 3) := by decide +kernel
theorem d22 : decode yB 22 = .ok (.ifCond (.eq) 14, 3) := by decide +kernel
theorem d25 : decode yB 25 = .ok (.aload_n 0, 1) := by decide +kernel
theorem d26 : decode yB 26 = .ok (.getfield 15, 3) := by decide +kernel
theorem d29 : decode yB 29 = .ok (.aload_n 2, 1) := by decide +kernel
theorem d30 : decode yB 30 = .ok (.getfield 15, 3) := by decide +kernel
theorem d33 : decode yB 33 = .ok (.if_icmp (.ne) 21, 3) := by decide +kernel
theorem d36 : decode yB 36 = .ok (.aload_n 0, 1) := by decide +kernel
theorem d37 : decode yB 37 = .ok (.getfield 9, 3) := by decide +kernel
theorem d40 : decode yB 40 = .ok (.aload_n 2, 1) := by decide +kernel
theorem d41 : decode yB 41 = .ok (.getfield 9, 3) := by decide +kernel
theorem d44 : decode yB 44 = .ok (.invokestatic 541, 3) := by decide +kernel
theorem d47 : decode yB 47 = .ok (.ifCond (.eq) 7, 3) := by decide +kernel
theorem d50 : decode yB 50 = .ok (.iconst 1, 1) := by decide +kernel
theorem d51 : decode yB 51 = .ok (.goto 4, 3) := by decide +kernel
theorem d54 : decode yB 54 = .ok (.iconst 0, 1) := by decide +kernel
theorem d55 : decode yB 55 = .ok (.ireturn, 1) := by decide +kernel
def site : List Cond := [.classLink "java/lang/String" 10 "java/lang/String", .fieldLink "java/lang/String" 38 "java/lang/String" "COMPACT_STRINGS" "Z", .fieldLink "java/lang/String" 15 "java/lang/String" "coder" "B", .fieldLink "java/lang/String" 9 "java/lang/String" "value" "[B", LEq.tab] ++ staticW "java/lang/String" 541 LEq.yN
def tab : Cond := tabOf yN yB 3 (some .boolean) site
def P (x t : Addr) (V : Cell) (cd : Int32) (n : Nat) (f : Nat → Int32) (y t' : Addr) (V' : Cell) (cd' : Int32) (k : Nat) (g : Nat → Int32) (z : Int32) (args : Array Value) (s : State) : Prop := args = #[.ref x, .ref y] ∧ Txt x t V cd n f s ∧ Txt y t' V' cd' k g s ∧ StaticIs s "java/lang/String" "COMPACT_STRINGS" "Z" (.int z) ∧ ¬ z = 0
/-- equals(Object) of two Strings: whether the texts are the same -/
theorem law (l : Launch) (x t : Addr) (V : Cell) (cd : Int32) (n : Nat) (f : Nat → Int32) (y t' : Addr) (V' : Cell) (cd' : Int32) (k : Nat) (g : Nat → Int32) (z : Int32) : Law l yN 2 1 1 14 yB 3 (some .boolean) site (P x t V cd n f y t' V' cd' k g z) (Says01 (SameT n f k g)) [] 0 0 := by
  refine Law.of_walk (plainFor_of_name (by decide +kernel)) (by decide +kernel) (by decide +kernel) (by decide) (fun _ _ h => by rw [h.1]; rfl) (fun _ U U' hal hh h => ⟨h.1, h.2.1.mv hal hh, h.2.2.1.mv hal hh, h.2.2.2.1.there hal hh, h.2.2.2.2⟩) (fun r U U' V V' h1 hal h2 h => Says01.mv r U U' V V' h1 hal h2 h) ?_
  intro p e s m args below meth c s₁ X0 hexec hbytes hml hret hlk hnm hown hh0 W hP
  obtain ⟨rfl, hx, hy, s1, hz⟩ := hP
  have c1 : Steps p.tables e below (s₁.setTop (entryFrame m #[.ref x, .ref y] 3)) (s₁.setTop (mkF m 2 #[.val (.ref x), .val (.ref y), .unset] [.ref y, .ref x])) := Steps.trans (entry rfl) (by
    show Steps p.tables e below (s₁.setTop (mkF m 0 #[.val (.ref x), .val (.ref y), .unset] [])) _
    refine XS.aloadN X0.here hexec rfl (hb hbytes d0) rfl rfl ?_
    refine XS.aloadN X0.here hexec rfl (hb hbytes d1) rfl rfl ?_
    exact Steps.refl _)
  by_cases hxy : x = y
  · have c2 : Steps p.tables e below (s₁.setTop (entryFrame m #[.ref x, .ref y] 3)) (s₁.setTop (mkF m 6 #[.val (.ref x), .val (.ref y), .unset] [.int 1])) := c1.trans (by
      refine acmpNo X0.here hexec rfl (hb hbytes d2) rfl rfl rfl (by simp [acmp, hxy]) ?_
      refine iconstV X0.here hexec rfl 1 (hb hbytes d5) (by decide) ?_
      exact Steps.refl _)
    subst hxy
    have ec : cd = cd' := by
      obtain ⟨D, fd, a1, a2, a3⟩ := hx.2.2.1
      obtain ⟨D', fd', b1, b2, b3⟩ := hy.2.2.1
      cases a1.symm.trans b1
      obtain ⟨q1, q2, q3, q4⟩ := a2.1
      obtain ⟨r1, r2, r3, r4⟩ := b2.1
      cases q4.symm.trans r4
      cases a3.symm.trans b3; rfl
    have et : t = t' := by
      obtain ⟨D, fd, a1, a2, a3⟩ := hx.2.1
      obtain ⟨D', fd', b1, b2, b3⟩ := hy.2.1
      cases a1.symm.trans b1
      obtain ⟨q1, q2, q3, q4⟩ := a2.1
      obtain ⟨r1, r2, r3, r4⟩ := b2.1
      cases q4.symm.trans r4
      cases a3.symm.trans b3; rfl
    subst ec et
    have ev : V = V' := by cases hx.2.2.2.1.1.symm.trans hy.2.2.2.1.1; rfl
    subst ev
    have hs : SameT n f k g := (Cod.eqv hx.2.2.2.2.1 hy.2.2.2.2.1 hx.2.2.2.2.2 hy.2.2.2.2.2).mp ⟨rfl, fun _ _ => rfl⟩
    exact ⟨s₁, some (.int 1), _, _, _, X0, rfl, rfl, rfl, (fun h => by cases h), ⟨1, rfl, hh0, Or.inl ⟨rfl, hs⟩⟩, fun fs hl => c2.trans (X0.ireturnOut hexec hret rfl (Or.inr (Or.inl rfl)) (hb hbytes d6) hl)⟩
  · have c2 : Steps p.tables e below (s₁.setTop (entryFrame m #[.ref x, .ref y] 3)) (s₁.setTop (mkF m 8 #[.val (.ref x), .val (.ref y), .unset] [.ref y])) := c1.trans (by
      refine acmpYes X0.here hexec rfl (pc0 := 2) rfl (hb hbytes d2) rfl rfl rfl (by simp [acmp, hxy]) (by decide) rfl ?_
      refine XS.aloadN X0.here hexec rfl (hb hbytes d7) rfl rfl ?_
      exact Steps.refl _)
    obtain ⟨T3, X3, q3, st3⟩ := cinst X0 hexec hown (wk W (.classLink "java/lang/String" 10 "java/lang/String")) (hy.mv X0.warmed.alike hh0).1 (g := (mkF m 8 #[.val (.ref x), .val (.ref y), .unset] [.ref y])) rfl (rest := []) rfl (hb hbytes d8)
    have hh3 := q3.trans hh0
    have c4 : Steps p.tables e below (s₁.setTop (entryFrame m #[.ref x, .ref y] 3)) (T3.setTop (mkF m 15 #[.val (.ref x), .val (.ref y), .unset] [.ref y])) := (c2.trans (st3 _ (Steps.refl _))).trans (by
      refine XS.ifNo X3.here hexec rfl (hb hbytes d11) rfl (i0_eq_f (by decide)) ?_
      refine XS.aloadN X3.here hexec rfl (hb hbytes d14) rfl rfl ?_
      exact Steps.refl _)
    obtain ⟨T5, X5, q5, st5⟩ := cself X3 hexec hown (wk W (.classLink "java/lang/String" 10 "java/lang/String")) (hy.mv X3.warmed.alike hh3).1 (g := (mkF m 15 #[.val (.ref x), .val (.ref y), .unset] [.ref y])) rfl (rest := []) rfl (hb hbytes d15)
    have hh5 := q5.trans hh3
    have c6 : Steps p.tables e below (s₁.setTop (entryFrame m #[.ref x, .ref y] 3)) (T5.setTop (mkF m 19 #[.val (.ref x), .val (.ref y), .val (.ref y)] [])) := (c4.trans (st5 _ (Steps.refl _))).trans (by
      refine XS.astoreN X5.here hexec rfl (hb hbytes d18) rfl rfl rfl ?_
      exact Steps.refl _)
    obtain ⟨T7, X7, q7, st7⟩ := X5.sget hexec hown (wk W (.fieldLink "java/lang/String" 38 "java/lang/String" "COMPACT_STRINGS" "Z")) s1 (fun _ _ h => by rw [hh5]; exact h) (g := (mkF m 19 #[.val (.ref x), .val (.ref y), .val (.ref y)] [])) rfl (hb hbytes d19)
    have hh7 := q7.trans hh5
    have c8 : Steps p.tables e below (s₁.setTop (entryFrame m #[.ref x, .ref y] 3)) (T7.setTop (mkF m 26 #[.val (.ref x), .val (.ref y), .val (.ref y)] [.ref x])) := (c6.trans (st7 _ (Steps.refl _))).trans (by
      refine XS.ifNo X7.here hexec rfl (hb hbytes d22) rfl (i0_eq_f hz) ?_
      refine XS.aloadN X7.here hexec rfl (hb hbytes d25) rfl rfl ?_
      exact Steps.refl _)
    obtain ⟨T9, X9, q9, st9⟩ := X7.hget hexec hown (wk W (.fieldLink "java/lang/String" 15 "java/lang/String" "coder" "B")) (hx.mv X7.warmed.alike hh7).2.2.1 (g := (mkF m 26 #[.val (.ref x), .val (.ref y), .val (.ref y)] [.ref x])) rfl (rest := []) rfl (hb hbytes d26)
    have hh9 := q9.trans hh7
    have c10 : Steps p.tables e below (s₁.setTop (entryFrame m #[.ref x, .ref y] 3)) (T9.setTop (mkF m 30 #[.val (.ref x), .val (.ref y), .val (.ref y)] [.ref y, .int cd])) := (c8.trans (st9 _ (Steps.refl _))).trans (by
      refine XS.aloadN X9.here hexec rfl (hb hbytes d29) rfl rfl ?_
      exact Steps.refl _)
    obtain ⟨T11, X11, q11, st11⟩ := X9.hget hexec hown (wk W (.fieldLink "java/lang/String" 15 "java/lang/String" "coder" "B")) (hy.mv X9.warmed.alike hh9).2.2.1 (g := (mkF m 30 #[.val (.ref x), .val (.ref y), .val (.ref y)] [.ref y, .int cd])) rfl (rest := [.int cd]) rfl (hb hbytes d30)
    have hh11 := q11.trans hh9
    have c12 : Steps p.tables e below (s₁.setTop (entryFrame m #[.ref x, .ref y] 3)) (T11.setTop (mkF m 33 #[.val (.ref x), .val (.ref y), .val (.ref y)] [.int cd', .int cd])) := c10.trans (st11 _ (Steps.refl _))
    by_cases hcd : cd = cd'
    · subst hcd
      have c13 : Steps p.tables e below (s₁.setTop (entryFrame m #[.ref x, .ref y] 3)) (T11.setTop (mkF m 37 #[.val (.ref x), .val (.ref y), .val (.ref y)] [.ref x])) := c12.trans (by
        refine XS.icmpNo X11.here hexec rfl (hb hbytes d33) rfl (ii_ne_f rfl) ?_
        refine XS.aloadN X11.here hexec rfl (hb hbytes d36) rfl rfl ?_
        exact Steps.refl _)
      obtain ⟨T14, X14, q14, st14⟩ := X11.hget hexec hown (wk W (.fieldLink "java/lang/String" 9 "java/lang/String" "value" "[B")) (hx.mv X11.warmed.alike hh11).2.1 (g := (mkF m 37 #[.val (.ref x), .val (.ref y), .val (.ref y)] [.ref x])) rfl (rest := []) rfl (hb hbytes d37)
      have hh14 := q14.trans hh11
      have c15 : Steps p.tables e below (s₁.setTop (entryFrame m #[.ref x, .ref y] 3)) (T14.setTop (mkF m 41 #[.val (.ref x), .val (.ref y), .val (.ref y)] [.ref y, .ref t])) := (c13.trans (st14 _ (Steps.refl _))).trans (by
        refine XS.aloadN X14.here hexec rfl (hb hbytes d40) rfl rfl ?_
        exact Steps.refl _)
      obtain ⟨T16, X16, q16, st16⟩ := X14.hget hexec hown (wk W (.fieldLink "java/lang/String" 9 "java/lang/String" "value" "[B")) (hy.mv X14.warmed.alike hh14).2.1 (g := (mkF m 41 #[.val (.ref x), .val (.ref y), .val (.ref y)] [.ref y, .ref t])) rfl (rest := [.ref t]) rfl (hb hbytes d41)
      have hh16 := q16.trans hh14
      have c17 : Steps p.tables e below (s₁.setTop (entryFrame m #[.ref x, .ref y] 3)) (T16.setTop (mkF m 44 #[.val (.ref x), .val (.ref y), .val (.ref y)] [.ref t', .ref t])) := c15.trans (st16 _ (Steps.refl _))
      obtain ⟨v18, T18, X18, E18, g18⟩ := X16.callS hexec (LEq.law l t V t' V') hown (wks W (staticW "java/lang/String" 541 LEq.yN)) (wk W LEq.tab) (W := 0) (Nat.le_of_ble_eq_true rfl) (Nat.le_of_ble_eq_true rfl) (Nat.le_refl _) (Nat.le_refl _) (g := (mkF m 44 #[.val (.ref x), .val (.ref y), .val (.ref y)] [.ref t', .ref t])) rfl (by rw [hml]; rfl) c17 (argsL := [.ref t, .ref t']) (rest := []) rfl rfl (by show 2 * 0 + 0 ≤ _; decide) (hb hbytes d44) (⟨rfl, hx.2.2.2.1.mv X16.warmed.alike hh16, hx.2.2.2.2.1.ty, hy.2.2.2.1.mv X16.warmed.alike hh16, hy.2.2.2.2.1.ty⟩)
      obtain ⟨v, rfl, q18, hv⟩ := E18
      have iff := Cod.eqv hx.2.2.2.2.1 hy.2.2.2.2.1 hx.2.2.2.2.2 hy.2.2.2.2.2
      rcases hv with ⟨rfl, he⟩ | ⟨rfl, he⟩
      · have c19 : Steps p.tables e below (s₁.setTop (entryFrame m #[.ref x, .ref y] 3)) (T18.setTop (mkF m 55 #[.val (.ref x), .val (.ref y), .val (.ref y)] [.int 1])) := Steps.trans g18 (by
          refine XS.ifNo X18.here hexec rfl (hb hbytes d47) rfl (i0_eq_f (by decide)) ?_
          refine iconstV X18.here hexec rfl 1 (hb hbytes d50) (by decide) ?_
          refine XS.goto X18.here hexec rfl (pc0 := 51) rfl (hb hbytes d51) (by decide) rfl ?_
          exact Steps.refl _)
        exact ⟨T18, some (.int 1), _, _, _, X18, rfl, rfl, rfl, (fun h => by cases h), ⟨1, rfl, q18.trans hh16, Or.inl ⟨rfl, iff.mp he⟩⟩, fun fs hl => c19.trans (X18.ireturnOut hexec hret rfl (Or.inr (Or.inl rfl)) (hb hbytes d55) hl)⟩
      · have c19 : Steps p.tables e below (s₁.setTop (entryFrame m #[.ref x, .ref y] 3)) (T18.setTop (mkF m 55 #[.val (.ref x), .val (.ref y), .val (.ref y)] [.int 0])) := Steps.trans g18 (by
          refine XS.ifYes X18.here hexec rfl (pc0 := 47) rfl (hb hbytes d47) rfl (i0_eq_t rfl) (by decide) rfl ?_
          refine iconstV X18.here hexec rfl 0 (hb hbytes d54) (by decide) ?_
          exact Steps.refl _)
        exact ⟨T18, some (.int 0), _, _, _, X18, rfl, rfl, rfl, (fun h => by cases h), ⟨0, rfl, q18.trans hh16, Or.inr ⟨rfl, fun q => he (iff.mpr q)⟩⟩, fun fs hl => c19.trans (X18.ireturnOut hexec hret rfl (Or.inr (Or.inl rfl)) (hb hbytes d55) hl)⟩
    · have c13 : Steps p.tables e below (s₁.setTop (entryFrame m #[.ref x, .ref y] 3)) (T11.setTop (mkF m 55 #[.val (.ref x), .val (.ref y), .val (.ref y)] [.int 0])) := c12.trans (by
        refine XS.icmpYes X11.here hexec rfl (pc0 := 33) rfl (hb hbytes d33) rfl (ii_ne_t hcd) (by decide) rfl ?_
        refine iconstV X11.here hexec rfl 0 (hb hbytes d54) (by decide) ?_
        exact Steps.refl _)
      exact ⟨T11, some (.int 0), _, _, _, X11, rfl, rfl, rfl, (fun h => by cases h), ⟨0, rfl, hh11, Or.inr ⟨rfl, Cod.dif hx.2.2.2.2.1 hy.2.2.2.2.1 hcd⟩⟩, fun fs hl => c13.trans (X11.ireturnOut hexec hret rfl (Or.inr (Or.inl rfl)) (hb hbytes d55) hl)⟩
theorem pays {l : Launch} {R : Room} {p : Program} {e : Env} {below : List Frame} {s : State} {sargs : Array Value} {len W : Nat} (x t : Addr) (V : Cell) (cd : Int32) (n : Nat) (f : Nat → Int32) (y t' : Addr) (V' : Cell) (cd' : Int32) (k : Nat) (g : Nat → Int32) (z : Int32) (htab : tab.before sargs s = true) (hfr : 2 ≤ R.frames) (hlo : W + 28 ≤ R.locals) :
    Back l R p e below s sargs yN len W (fun A₁ a₁ => A₁.cells + 0 ≤ R.cells ∧ A₁.slots + 0 ≤ R.slots ∧ P x t V cd n f y t' V' cd' k g z a₁ A₁.U) (fun A₁ _ v₁ B₁ => Says01 (SameT n f k g) v₁ A₁.U B₁.U ∧ B₁.locs = A₁.locs ++ [] ∧ B₁.cells = A₁.cells + 0 ∧ B₁.slots = A₁.slots + 0) :=
  (law l x t V cd n f y t' V' cd' k g z).pays htab hfr (by omega)
end SEq
end StrChars
namespace StrChars.Road
open Jvm Sem ClassFile Op Lib Jvm.Stand Jvm.Free Jvm.Free.XT
open Jvm.Lib.Cold (StaticIs)
/-- the words of String.equals(Object) -/
abbrev wordsEq : List Jvm.Cond := [.code SEq.yN SEq.yB 3 (some .boolean), .initialized ST, .classLink ST 10 ST, .fieldLink ST 38 ST "COMPACT_STRINGS" "Z", .fieldLink ST 15 ST "coder" "B", .fieldLink ST 9 ST "value" "[B", .methodLink ST 541 LEq.yN, .static LEq.yN, .code LEq.yN LEq.yB 3 (some .boolean), .initialized "java/lang/StringLatin1"]
theorem tabEq_of {a : Array Value} {s : State} (h : ∀ w ∈ wordsEq, w.before a s = true) : SEq.tab.before a s = true := by
  have hl : LEq.tab.before a s = true := unparts (wk h (.code LEq.yN LEq.yB 3 (some .boolean))) (wks h (.initialized LEq.yN.cls :: LEq.site))
  have q := consq hl h
  exact unparts (wk q (.code SEq.yN SEq.yB 3 (some .boolean))) (wks q (.initialized SEq.yN.cls :: SEq.site))
theorem movedEq {Z s : State} {a0 args : Array Value} (hZ : Z.Warmed39 s.vm) (hw : ∀ d ∈ wordsEq, d.before a0 Z = true) : ∀ d ∈ wordsEq, d.before args s = true := fun d hd => by
  have t : ∀ d ∈ wordsEq, (d.onTables && d.keepsFace) = true := by decide +kernel
  exact RoadKit.mv hZ (hw d hd) (t d hd)
/-- the road's facts of a String, as the laws ask it -/
theorem txt_of {Z U : State} {a0 : Array Value} {kI : Nat} (wi : (Jvm.Cond.instantiable ST kI).before a0 Z = true) (al : Z.vm.Alike U.vm) {x t : Addr} {kb : ClassId} {cs : List Int32} {cd N2 : Int32} {vs : List Value} (E : RoadKit.Exa Z U.heap x ST) (V : RoadKit.Fld Z U.heap x ST "value" "[B" (.ref t)) (C : RoadKit.Fld Z U.heap x ST "coder" "B" (.int cd)) (K : RoadKit.Arv Z U.heap t kb .byte N2 vs (.int 0)) (hc : CodA cs cd N2 vs) (hb : ∀ c ∈ cs, ¬ c < 0 ∧ ¬ (65535 : Int32) < c) (l2 : cs.length ≤ 4000) :
    ∃ A, Txt x t A cd cs.length (fun j => cs.getD j 0) U := by
  obtain ⟨A, K1, K2, K3, K4, K5, K6⟩ := K
  have hcod := hc.cod (by omega) K3 K5
  obtain ⟨D, fV, fC, hB, F1, F2, g1, g2, -, -⟩ := strObj wi al E V C
  exact ⟨A, ⟨_, hB.2.2.1, D, hB.1, rfl, by cases q : D.vm <;> first | rfl | exact absurd q (hB.2.1.2 _)⟩, Has.of hB F1 g1, Has.of hB F2 g2, ⟨K1.1, State.isArrayOf_alike al K1.2.1, K1.2.2, by rcases hcod with ⟨-, q, -⟩ | ⟨-, q, -⟩ <;> omega⟩, hcod, fun j hj => by
    have e : cs.getD j 0 = cs[j] := by simp [List.getD_eq_getElem?_getD, hj]
    show ¬ cs.getD j 0 < 0 ∧ ¬ 65535 < cs.getD j 0
    rw [e]; exact hb _ (List.getElem_mem _)⟩
theorem same_list (cs ds : List Int32) : SameT cs.length (fun j => cs.getD j 0) ds.length (fun j => ds.getD j 0) ↔ cs = ds := by
  constructor
  · rintro ⟨e, q⟩
    refine List.ext_getElem e fun j h1 h2 => ?_
    have := q j h1
    simpa [List.getD_eq_getElem?_getD, h1, h2] using this
  · rintro rfl
    exact ⟨rfl, fun _ _ => rfl⟩
/-- **equals(Object) OF TWO SUCH STRINGS**: 1 just where the chars are the same -/
theorem eqW {p : Program} {l : Launch} {e : Env} {R : Room} {s : State} {args : Array Value} {below : List Frame} {len W : Nat} {Z : State} {a0 : Array Value} {h : Heap} (hZ : Z.Warmed39 s.vm) (hw : ∀ d ∈ wordsEq, d.before a0 Z = true) {kI : Nat} (wi : (Jvm.Cond.instantiable ST kI).before a0 Z = true)
    {x t : Addr} {kb : ClassId} {cs : List Int32} {cd N2 : Int32} {vs : List Value} (E : RoadKit.Exa Z h x ST) (V : RoadKit.Fld Z h x ST "value" "[B" (.ref t)) (C : RoadKit.Fld Z h x ST "coder" "B" (.int cd)) (K : RoadKit.Arv Z h t kb .byte N2 vs (.int 0)) (hc : CodA cs cd N2 vs) (hb : ∀ c ∈ cs, ¬ c < 0 ∧ ¬ (65535 : Int32) < c) (l2 : cs.length ≤ 4000)
    {y t' : Addr} {kb' : ClassId} {ds : List Int32} {cd' N2' : Int32} {vs' : List Value} (E' : RoadKit.Exa Z h y ST) (V' : RoadKit.Fld Z h y ST "value" "[B" (.ref t')) (C' : RoadKit.Fld Z h y ST "coder" "B" (.int cd')) (K' : RoadKit.Arv Z h t' kb' .byte N2' vs' (.int 0)) (hc' : CodA ds cd' N2' vs') (hb' : ∀ c ∈ ds, ¬ c < 0 ∧ ¬ (65535 : Int32) < c) (l2' : ds.length ≤ 4000)
    {z : Int32} (S : RoadKit.Sta Z h ST "COMPACT_STRINGS" "Z" (.int z)) (hz : ¬ z = 0) (hfr : 2 ≤ R.frames) (hlo : W + 28 ≤ R.locals) :
    Back l R p e below s args (⟨"java/lang/String", "equals", "(Ljava/lang/Object;)Z"⟩ : MethodName) len W (fun P a => a = #[.ref x, .ref y] ∧ P.U.heap = h ∧ P.cells + 0 ≤ R.cells ∧ P.slots + 0 ≤ R.slots)
      (fun P _ v B => ∃ L, (((v = some (.int 1) ∧ cs = ds) ∨ (v = some (.int 0) ∧ ¬ cs = ds)) ∧ L = [] ∧ B.U.heap = h) ∧ B.locs = P.locs ++ L ∧ B.cells = P.cells + 0 ∧ B.slots = P.slots + 0) := by
  intro m meth c P g ig mk a X hg hsize hdg hW hn hp'
  obtain ⟨rfl, rfl, r1, r2⟩ := hp'
  have al : Z.vm.Alike P.U.vm := hZ.alike.trans X.warmed.alike
  obtain ⟨A, hx⟩ := txt_of wi al E V C K hc hb l2
  obtain ⟨A', hy⟩ := txt_of wi al E' V' C' K' hc' hb' l2'
  obtain ⟨v, B, X', ⟨⟨w, hv, hh, hq⟩, hl, hk, hs⟩, st⟩ := SEq.pays x t A cd cs.length (fun j => cs.getD j 0) y t' A' cd' ds.length (fun j => ds.getD j 0) z (tabEq_of (movedEq hZ hw)) hfr hlo m meth c P g ig mk _ X hg hsize hdg hW hn ⟨r1, r2, rfl, hx, hy, sta_is al S, hz⟩
  refine ⟨v, B, X', ⟨[], ⟨?_, rfl, hh⟩, hl, hk, hs⟩, st⟩
  rcases hq with ⟨rfl, q⟩ | ⟨rfl, q⟩
  · exact Or.inl ⟨hv, (same_list cs ds).mp q⟩
  · exact Or.inr ⟨hv, fun e => q ((same_list cs ds).mpr e)⟩
end StrChars.Road
namespace StrChars.Road
open Jvm Sem ClassFile Op Lib Jvm.Stand Jvm.Free Jvm.Free.XT
open Jvm.Lib.Cold (StaticIs)
/-- what backV says of its String, as the contracts of this text ask it: cs's low bytes, coder 0 -/
theorem codOf {cs : List Int32} {n : Nat} (hn : cs.length = n) (hb : ∀ c ∈ cs, ¬ 255 < c) : CodA cs 0 (Int32.ofNat n) ((cs.map lo8).map Value.int) := Or.inl ⟨rfl, by rw [hn], by simp [List.map_map, Function.comp_def], hb⟩
end StrChars.Road
end Jvm.Pilot.@@N@@
namespace Jvm.Pilot.@@N@@
open Jvm Jvm.ClassFile Sem Op Lib Jvm.Free Jvm.Stand Jvm.LawKit Jvm.RoadKit Bundle Jvm.Pilot.@@N@@.Jvm.D
theorem tw {a0 : Array Value} {Z : State} (hw : ∀ d ∈ tables_1, d.before a0 Z = true) (i : Nat) {d : Jvm.Cond} (h : tables_1[i]? = some d) : d.before a0 Z = true := hw d (List.mem_of_getElem? h)
theorem strW {a0 : Array Value} {Z : State} (hw : ∀ d ∈ tables_1, d.before a0 Z = true) : ∀ a ∈ Bundle.stringAtoms, a.before a0 Z = true := fun d hd => hw d ((by decide +kernel : ∀ d ∈ Bundle.stringAtoms, d ∈ tables_1) d hd)
theorem pn_com_example_neighbor_keys_neighborkeys_model_Related : plainName "com/example/neighbor_keys/neighborkeys/model/Related" = true := by first | (simp [plainName, overriddenIn]; done) | decide +kernel
theorem pn_com_example_neighbor_keys_neighborkeys_model_RelatedNameOfPinLaw : plainName "com/example/neighbor_keys/neighborkeys/model/RelatedNameOfPinLaw" = true := by first | (simp [plainName, overriddenIn]; done) | decide +kernel
theorem pn_java_lang_String : plainName "java/lang/String" = true := by first | (simp [plainName, overriddenIn]; done) | decide +kernel
theorem pn_java_lang_StringLatin1 : plainName "java/lang/StringLatin1" = true := by first | (simp [plainName, overriddenIn]; done) | decide +kernel
theorem pn_java_util_Arrays : plainName "java/util/Arrays" = true := by first | (simp [plainName, overriddenIn]; done) | decide +kernel
theorem pn_jdk_internal_util_Preconditions : plainName "jdk/internal/util/Preconditions" = true := by first | (simp [plainName, overriddenIn]; done) | decide +kernel
theorem pd__I_Z : parseMethodDescriptor "(I)Z" = some ⟨[.int], some .boolean⟩ := by decide +kernel
theorem pd__II_I : parseMethodDescriptor "(II)I" = some ⟨[.int, .int], some .int⟩ := by decide +kernel
theorem pd___BIII_I : parseMethodDescriptor "([BIII)I" = some ⟨[(.array .byte), .int, .int, .int], some .int⟩ := by decide +kernel
theorem pd___Z : parseMethodDescriptor "()Z" = some ⟨[], some .boolean⟩ := by decide +kernel
theorem pd___I : parseMethodDescriptor "()I" = some ⟨[], some .int⟩ := by decide +kernel
theorem pd__IIILjava_util_function_BiFunction__I : parseMethodDescriptor "(IIILjava/util/function/BiFunction;)I" = some ⟨[.int, .int, .int, (.object "java/util/function/BiFunction")], some .int⟩ := by decide +kernel
theorem pd__II_V : parseMethodDescriptor "(II)V" = some ⟨[.int, .int], none⟩ := by decide +kernel
theorem pd___BII__B : parseMethodDescriptor "([BII)[B" = some ⟨[(.array .byte), .int, .int], some (.array .byte)⟩ := by decide +kernel
theorem pd___BB_V : parseMethodDescriptor "([BB)V" = some ⟨[(.array .byte), .byte], none⟩ := by decide +kernel
theorem pd__III_V : parseMethodDescriptor "(III)V" = some ⟨[.int, .int, .int], none⟩ := by decide +kernel
theorem pd___BII_Ljava_lang_String_ : parseMethodDescriptor "([BII)Ljava/lang/String;" = some ⟨[(.array .byte), .int, .int], some (.object "java/lang/String")⟩ := by decide +kernel
theorem pd__C_Z : parseMethodDescriptor "(C)Z" = some ⟨[.char], some .boolean⟩ := by decide +kernel
theorem pd__C__B : parseMethodDescriptor "(C)[B" = some ⟨[.char], some (.array .byte)⟩ := by decide +kernel
theorem pd__C_Ljava_lang_String_ : parseMethodDescriptor "(C)Ljava/lang/String;" = some ⟨[.char], some (.object "java/lang/String")⟩ := by decide +kernel
theorem pd___C_V : parseMethodDescriptor "([C)V" = some ⟨[(.array .char)], none⟩ := by decide +kernel
theorem pd__I_I : parseMethodDescriptor "(I)I" = some ⟨[.int], some .int⟩ := by decide +kernel
theorem pd__II_Ljava_lang_String_ : parseMethodDescriptor "(II)Ljava/lang/String;" = some ⟨[.int, .int], some (.object "java/lang/String")⟩ := by decide +kernel
theorem pd__I_C : parseMethodDescriptor "(I)C" = some ⟨[.int], some .char⟩ := by decide +kernel
theorem pd__ICCCC_Ljava_lang_String_ : parseMethodDescriptor "(ICCCC)Ljava/lang/String;" = some ⟨[.int, .char, .char, .char, .char], some (.object "java/lang/String")⟩ := by decide +kernel
theorem pd__Ljava_lang_String__Ljava_lang_String_ : parseMethodDescriptor "(Ljava/lang/String;)Ljava/lang/String;" = some ⟨[(.object "java/lang/String")], some (.object "java/lang/String")⟩ := by decide +kernel
theorem pd__Ljava_lang_Object__Z : parseMethodDescriptor "(Ljava/lang/Object;)Z" = some ⟨[(.object "java/lang/Object")], some .boolean⟩ := by decide +kernel
theorem litc_103 : (∀ c ∈ "".toList, c.toNat < 256) ∧ "".toList.map (fun c => Value.int (Jvm.Lit.byteI c.toNat.toUInt16)) = [] := ⟨by decide, by decide +kernel⟩
theorem litc_8 : (∀ c ∈ "".toList, c.toNat < 256) ∧ "".toList.map (fun c => Value.int (Jvm.Lit.byteI c.toNat.toUInt16)) = [] := ⟨by decide, by decide +kernel⟩
theorem elW {a0 : Array Value} {Z : State} (hw : ∀ d ∈ tables_1, d.before a0 Z = true) : EW Z a0 consts_1 := (EW.cons (tw hw 8 rfl) (by decide) (EW.cons (tw hw 103 rfl) (by decide) EW.nil))
theorem and255_lt (x : Int32) : (x &&& 255).toBitVec.toNat < 256 ∧ (x &&& 255) = Int32.ofNat (x &&& 255).toBitVec.toNat := by
  have h : (x &&& 255).toBitVec.toNat < 256 := by
    simp only [Int32.toBitVec_and, BitVec.toNat_and]
    exact Nat.lt_succ_of_le Nat.and_le_right
  refine ⟨h, ?_⟩
  apply Int32.toBitVec_inj.mp
  show _ = BitVec.ofNat 32 _
  rw [BitVec.ofNat_toNat]; simp
theorem and255_chars (x : Int32) : ¬ nar .char ((x &&& (255 : Int32)).toUInt32.toUInt16.toUInt32.toInt32) < 0 ∧ ¬ (255 : Int32) < nar .char ((x &&& (255 : Int32)).toUInt32.toUInt16.toUInt32.toInt32) := by
  have t : ∀ k : Fin 256, ¬ nar .char ((Int32.ofNat k.val).toUInt32.toUInt16.toUInt32.toInt32) < 0 ∧ ¬ (255 : Int32) < nar .char ((Int32.ofNat k.val).toUInt32.toUInt16.toUInt32.toInt32) := by decide +kernel
  obtain ⟨h, e⟩ := and255_lt x
  rw [e]
  exact t ⟨_, h⟩

theorem sm256 {c : Int32} (h0 : ¬ c < 0) (h1 : ¬ (255 : Int32) < c) : ∃ j : Fin 256, c = Int32.ofNat j.val := by
  rw [Int32.lt_iff_toInt_lt] at h0 h1
  have e0 : (0 : Int32).toInt = 0 := rfl
  have e1 : (255 : Int32).toInt = 255 := rfl
  refine ⟨⟨c.toInt.toNat, by omega⟩, ?_⟩
  apply Int32.toInt_inj.mp
  rw [Int32.toInt_ofNat_small (by show c.toInt.toNat < _; omega)]
  show c.toInt = ((c.toInt.toNat : Nat) : Int)
  omega
theorem nar_id {c : Int32} (h0 : ¬ c < 0) (h1 : ¬ (255 : Int32) < c) : nar .char c = c := by
  obtain ⟨j, rfl⟩ := sm256 h0 h1
  exact (by decide +kernel : ∀ j : Fin 256, nar .char (Int32.ofNat j.val) = Int32.ofNat j.val) j

theorem chr_dot : Chr (46 : Int32) := ⟨by decide, by decide⟩
theorem chr_and (x : Int32) : Chr (nar .char ((x &&& (255 : Int32)).toUInt32.toUInt16.toUInt32.toInt32)) := and255_chars x
def own_tk (n v1 v2 v3 v4 : Int32) : List Int32 := if n = 0 then [] else if n = 1 then [v1] else if n = 2 then [v1, v2] else if n = 3 then [v1, v2, v3] else [v1, v2, v3, v4]
def own_k5 (n : Int32) : Prop := n = 0 ∨ n = 1 ∨ n = 2 ∨ n = 3 ∨ n = 4
theorem k5_rem (x : Int32) : own_k5 ((x &&& (2147483647 : Int32)) % (5 : Int32)) := by
  have h0 : 0 ≤ (x &&& (2147483647 : Int32)).toInt := (c_and x 2147483647 (by decide)).1
  have h1 := (c_irem (x &&& (2147483647 : Int32)) 5 5 rfl).1 h0
  have e0 : (0 : Int32).toInt = 0 := rfl
  have e1 : (1 : Int32).toInt = 1 := rfl
  have e2 : (2 : Int32).toInt = 2 := rfl
  have e3 : (3 : Int32).toInt = 3 := rfl
  have e4 : (4 : Int32).toInt = 4 := rfl
  have h2 : ((x &&& (2147483647 : Int32)) % (5 : Int32)).toInt = 0 ∨ ((x &&& (2147483647 : Int32)) % (5 : Int32)).toInt = 1 ∨ ((x &&& (2147483647 : Int32)) % (5 : Int32)).toInt = 2 ∨ ((x &&& (2147483647 : Int32)) % (5 : Int32)).toInt = 3 ∨ ((x &&& (2147483647 : Int32)) % (5 : Int32)).toInt = 4 := by omega
  rcases h2 with h | h | h | h | h
  · exact Or.inl (Int32.toInt_inj.mp (h.trans e0.symm))
  · exact Or.inr (Or.inl (Int32.toInt_inj.mp (h.trans e1.symm)))
  · exact Or.inr (Or.inr (Or.inl (Int32.toInt_inj.mp (h.trans e2.symm))))
  · exact Or.inr (Or.inr (Or.inr (Or.inl (Int32.toInt_inj.mp (h.trans e3.symm)))))
  · exact Or.inr (Or.inr (Or.inr (Or.inr (Int32.toInt_inj.mp (h.trans e4.symm)))))
theorem own_le {a b n : Int32} (h : ¬ a < n) (hab : a < b) : ¬ b < n := by
  rw [Int32.lt_iff_toInt_lt] at h hab ⊢; omega
section Tk
variable {n v1 v2 v3 v4 : Int32}
theorem tk_nil (h : n = 0) : ([] : List Int32) = own_tk n v1 v2 v3 v4 := by rw [own_tk, if_pos h]
theorem tk_1 (h0 : ¬ (n = 0)) (h : n = 1) : [v1] = own_tk n v1 v2 v3 v4 := by rw [own_tk, if_neg h0, if_pos h]
theorem tk_2 (h0 : ¬ (n = 0)) (h1 : ¬ (n = 1)) (h : n = 2) : [v1, v2] = own_tk n v1 v2 v3 v4 := by rw [own_tk, if_neg h0, if_neg h1, if_pos h]
theorem tk_3 (h0 : ¬ (n = 0)) (h1 : ¬ (n = 1)) (h2 : ¬ (n = 2)) (h : n = 3) : [v1, v2, v3] = own_tk n v1 v2 v3 v4 := by rw [own_tk, if_neg h0, if_neg h1, if_neg h2, if_pos h]
theorem tk_4 (h0 : ¬ (n = 0)) (h1 : ¬ (n = 1)) (h2 : ¬ (n = 2)) (h3 : ¬ (n = 3)) : [v1, v2, v3, v4] = own_tk n v1 v2 v3 v4 := by rw [own_tk, if_neg h0, if_neg h1, if_neg h2, if_neg h3]
theorem tk_len (hk : own_k5 n) : n = Int32.ofNat (own_tk n v1 v2 v3 v4).length := by rcases hk with rfl | rfl | rfl | rfl | rfl <;> rfl
theorem tk_le (n v1 v2 v3 v4 : Int32) : (own_tk n v1 v2 v3 v4).length ≤ 4 := by
  unfold own_tk
  split
  · decide
  · split
    · simp
    · split
      · simp
      · split <;> simp
theorem tk_rng (h1 : Chr v1) (h2 : Chr v2) (h3 : Chr v3) (h4 : Chr v4) : Rng (own_tk n v1 v2 v3 v4) := by
  unfold own_tk
  split
  · exact alc0
  · split
    · exact alcS h1 alc0
    · split
      · exact alcS h1 (alcS h2 alc0)
      · split
        · exact alcS h1 (alcS h2 (alcS h3 alc0))
        · exact alcS h1 (alcS h2 (alcS h3 (alcS h4 alc0)))
theorem tk_get (k : Nat) (hk : k < (own_tk n v1 v2 v3 v4).length) : (own_tk n v1 v2 v3 v4).getD k 0 = ([v1, v2, v3, v4] : List Int32).getD k 0 := by
  unfold own_tk at hk ⊢
  by_cases q0 : n = 0
  · rw [if_pos q0] at hk; simp at hk
  · rw [if_neg q0] at hk ⊢
    by_cases q1 : n = 1
    · rw [if_pos q1] at hk ⊢
      match k, hk with
      | 0, _ => rfl
    · rw [if_neg q1] at hk ⊢
      by_cases q2 : n = 2
      · rw [if_pos q2] at hk ⊢
        match k, hk with
        | 0, _ => rfl
        | 1, _ => rfl
      · rw [if_neg q2] at hk ⊢
        by_cases q3 : n = 3
        · rw [if_pos q3] at hk ⊢
          match k, hk with
          | 0, _ => rfl
          | 1, _ => rfl
          | 2, _ => rfl
        · rw [if_neg q3]
/-- where the law's own search ends -/
def own_dot (dt : Int32) (cs : List Int32) : Prop := (dt = (-1 : Int32) ∧ Nowhere 46 cs 0) ∨ ∃ r : Nat, dt = Int32.ofNat r ∧ First 46 cs 0 r
theorem dot_n0 (hk : own_k5 n) (h : ¬ ((0 : Int32) < n)) : own_dot (-1) (own_tk n v1 v2 v3 v4) := by
  rcases hk with rfl | rfl | rfl | rfl | rfl
  · exact Or.inl ⟨rfl, nowhere_nil⟩
  all_goals exact absurd (by decide) h
theorem dot_n1 (hk : own_k5 n) (h : ¬ ((1 : Int32) < n)) (a1 : ¬ v1 = 46) : own_dot (-1) (own_tk n v1 v2 v3 v4) := by
  rcases hk with rfl | rfl | rfl | rfl | rfl
  · exact Or.inl ⟨rfl, nowhere_nil⟩
  · exact Or.inl ⟨rfl, nowhere_cons a1 nowhere_nil⟩
  all_goals exact absurd (by decide) h
theorem dot_n2 (hk : own_k5 n) (h : ¬ ((2 : Int32) < n)) (a1 : ¬ v1 = 46) (a2 : ¬ v2 = 46) : own_dot (-1) (own_tk n v1 v2 v3 v4) := by
  rcases hk with rfl | rfl | rfl | rfl | rfl
  · exact Or.inl ⟨rfl, nowhere_nil⟩
  · exact Or.inl ⟨rfl, nowhere_cons a1 nowhere_nil⟩
  · exact Or.inl ⟨rfl, nowhere_cons a1 (nowhere_cons a2 nowhere_nil)⟩
  all_goals exact absurd (by decide) h
theorem dot_n3 (hk : own_k5 n) (h : ¬ ((3 : Int32) < n)) (a1 : ¬ v1 = 46) (a2 : ¬ v2 = 46) (a3 : ¬ v3 = 46) : own_dot (-1) (own_tk n v1 v2 v3 v4) := by
  rcases hk with rfl | rfl | rfl | rfl | rfl
  · exact Or.inl ⟨rfl, nowhere_nil⟩
  · exact Or.inl ⟨rfl, nowhere_cons a1 nowhere_nil⟩
  · exact Or.inl ⟨rfl, nowhere_cons a1 (nowhere_cons a2 nowhere_nil)⟩
  · exact Or.inl ⟨rfl, nowhere_cons a1 (nowhere_cons a2 (nowhere_cons a3 nowhere_nil))⟩
  all_goals exact absurd (by decide) h
theorem dot_n4 (hk : own_k5 n) (a1 : ¬ v1 = 46) (a2 : ¬ v2 = 46) (a3 : ¬ v3 = 46) (a4 : ¬ v4 = 46) : own_dot (-1) (own_tk n v1 v2 v3 v4) := by
  rcases hk with rfl | rfl | rfl | rfl | rfl
  · exact Or.inl ⟨rfl, nowhere_nil⟩
  · exact Or.inl ⟨rfl, nowhere_cons a1 nowhere_nil⟩
  · exact Or.inl ⟨rfl, nowhere_cons a1 (nowhere_cons a2 nowhere_nil)⟩
  · exact Or.inl ⟨rfl, nowhere_cons a1 (nowhere_cons a2 (nowhere_cons a3 nowhere_nil))⟩
  · exact Or.inl ⟨rfl, nowhere_cons a1 (nowhere_cons a2 (nowhere_cons a3 (nowhere_cons a4 nowhere_nil)))⟩
theorem dot_0 (hk : own_k5 n) (h : (0 : Int32) < n) (b : v1 = 46) : own_dot 0 (own_tk n v1 v2 v3 v4) := by
  subst b
  rcases hk with rfl | rfl | rfl | rfl | rfl
  · exact absurd h (by decide)
  all_goals exact Or.inr ⟨0, rfl, first_here⟩
theorem dot_1 (hk : own_k5 n) (h : (1 : Int32) < n) (a1 : ¬ v1 = 46) (b : v2 = 46) : own_dot 1 (own_tk n v1 v2 v3 v4) := by
  subst b
  rcases hk with rfl | rfl | rfl | rfl | rfl
  · exact absurd h (by decide)
  · exact absurd h (by decide)
  all_goals exact Or.inr ⟨1, rfl, first_cons a1 first_here⟩
theorem dot_2 (hk : own_k5 n) (h : (2 : Int32) < n) (a1 : ¬ v1 = 46) (a2 : ¬ v2 = 46) (b : v3 = 46) : own_dot 2 (own_tk n v1 v2 v3 v4) := by
  subst b
  rcases hk with rfl | rfl | rfl | rfl | rfl
  · exact absurd h (by decide)
  · exact absurd h (by decide)
  · exact absurd h (by decide)
  all_goals exact Or.inr ⟨2, rfl, first_cons a1 (first_cons a2 first_here)⟩
theorem dot_3 (hk : own_k5 n) (h : (3 : Int32) < n) (a1 : ¬ v1 = 46) (a2 : ¬ v2 = 46) (a3 : ¬ v3 = 46) (b : v4 = 46) : own_dot 3 (own_tk n v1 v2 v3 v4) := by
  subst b
  rcases hk with rfl | rfl | rfl | rfl | rfl
  · exact absurd h (by decide)
  · exact absurd h (by decide)
  · exact absurd h (by decide)
  · exact absurd h (by decide)
  · exact Or.inr ⟨3, rfl, first_cons a1 (first_cons a2 (first_cons a3 first_here))⟩
theorem own_cm {cs ds : List Int32} {x : Nat} (hc : cs = own_tk n v1 v2 v3 v4) (hd : ds = (cs.drop x).take (cs.length - x)) : ∀ j, j < ds.length → ds.getD j 0 = ([v1, v2, v3, v4] : List Int32).getD (x + j) 0 := fun j hj => by
  have hl := ds_len hd
  rw [ds_get hd hj]
  subst hc
  exact tk_get _ (by omega)
theorem ld4 {k : Nat} (hk : k < 4) : ([.int v1, .int v2, .int v3, .int v4] : List Value).getD k (.int 0) = .int (([v1, v2, v3, v4] : List Int32).getD k 0) := by
  match k, hk with
  | 0, _ => rfl
  | 1, _ => rfl
  | 2, _ => rfl
  | 3, _ => rfl
end Tk
theorem tk_take {n v1 v2 v3 v4 : Int32} {cs ds : List Int32} {r : Nat} (hk : own_k5 n) (hc : cs = own_tk n v1 v2 v3 v4) (hr : r < cs.length) (hd : ds = (cs.drop 0).take (r - 0)) : own_tk (Int32.ofNat r) v1 v2 v3 v4 = ds := by
  subst hd
  subst hc
  rcases hk with rfl | rfl | rfl | rfl | rfl
  · exact absurd hr (by simp [own_tk])
  · match r, hr with
    | 0, _ => rfl
  · match r, hr with
    | 0, _ => rfl
    | 1, _ => rfl
  · match r, hr with
    | 0, _ => rfl
    | 1, _ => rfl
    | 2, _ => rfl
  · match r, hr with
    | 0, _ => rfl
    | 1, _ => rfl
    | 2, _ => rfl
    | 3, _ => rfl
theorem nar_b {ch : Int32} (h : Chr ch) : nar .byte (ch.toInt8.toInt32) = ch.toInt8.toInt32 := by
  obtain ⟨j, rfl⟩ := sm256 h.1 h.2
  exact (by decide +kernel : ∀ j : Fin 256, nar .byte ((Int32.ofNat j.val).toInt8.toInt32) = (Int32.ofNat j.val).toInt8.toInt32) j
theorem wdNew {a0 : Array Value} {Z : State} (hw : ∀ d ∈ tables_1, d.before a0 Z = true) : ∀ d ∈ StrChars.Road.words, d.before a0 Z = true := fun d hd => hw d ((by decide +kernel : ∀ d ∈ StrChars.Road.words, d ∈ tables_1) d hd)
theorem wdLen {a0 : Array Value} {Z : State} (hw : ∀ d ∈ tables_1, d.before a0 Z = true) : ∀ d ∈ StrChars.Road.wordsLen, d.before a0 Z = true := fun d hd => hw d ((by decide +kernel : ∀ d ∈ StrChars.Road.wordsLen, d ∈ tables_1) d hd)
theorem wdEq {a0 : Array Value} {Z : State} (hw : ∀ d ∈ tables_1, d.before a0 Z = true) : ∀ d ∈ StrChars.Road.wordsEq, d.before a0 Z = true := fun d hd => hw d ((by decide +kernel : ∀ d ∈ StrChars.Road.wordsEq, d ∈ tables_1) d hd)
theorem d6_0 : decode jdk_42_method_154_code 0 = .ok (.getstatic 38, 3) := by decide +kernel
theorem d6_3 : decode jdk_42_method_154_code 3 = .ok (.ifCond .eq 14, 3) := by decide +kernel
theorem d6_6 : decode jdk_42_method_154_code 6 = .ok (.aload_n 0, 1) := by decide +kernel
theorem d6_7 : decode jdk_42_method_154_code 7 = .ok (.getfield 15, 3) := by decide +kernel
theorem d6_10 : decode jdk_42_method_154_code 10 = .ok (.ifCond .ne 7, 3) := by decide +kernel
theorem d6_13 : decode jdk_42_method_154_code 13 = .ok (.iconst 1, 1) := by decide +kernel
theorem d6_14 : decode jdk_42_method_154_code 14 = .ok (.goto 4, 3) := by decide +kernel
theorem d6_18 : decode jdk_42_method_154_code 18 = .ok (.ireturn, 1) := by decide +kernel
theorem ef_isl (m : MethodId) (b : Addr) : entryFrame m #[(.ref b)] 1 = mkF m 0 #[.val (.ref b)] [] := by first | (simp [entryFrame, mkF, argsToLocals, Value.category]; done) | rfl
def Q_isl (Z : State) (b : Addr) (G1 : Int32) (h0 : Heap) (n0 : Nat) (v : Option Value) (h : Heap) (L : List Loc) : Prop := (v = some (.int 1) ∧ Fr n0 L ∧ h = h0)
set_option maxRecDepth 65536 in
set_option maxHeartbeats 40000000 in
theorem rm_isl (l : Launch) (Z : State) (a0 : Array Value) (hw : ∀ d ∈ tables_1, d.before a0 Z = true) (ws : List Jvm.Cond) (b : Addr) (G1 : Int32) (h0 : Heap) (n0 : Nat) (Z0 : n0 ≤ h0.size) (pf0 : Fld Z h0 b "java/lang/String" "coder" "B" (.int 0)) (pf1 : Old Z n0 h0) (O2 : Sta Z Z.heap "java/lang/String" "COMPACT_STRINGS" "Z" (.int G1)) (P5 : ¬ (G1 = (0 : Int32))) :
    MetFree l (⟨"java/lang/String", "isLatin1", "()Z"⟩ : MethodName) (head1 (Jvm.Cond.code (⟨"java/lang/String", "isLatin1", "()Z"⟩ : MethodName) jdk_42_method_154_code 1 (some .boolean) :: ws) ({ frames := 0, cells := 0, slots := 0, locals := 0 } : Room)) (fun aa U => aa = #[(.ref b)] ∧ Z.Warmed39 U.vm ∧ U.heap = h0) (fun _ _ _ _ _ => True) (fun _ U o U' => ∃ v L, o = .returned v ∧ Q_isl Z b G1 h0 n0 v U'.heap L ∧ FrameEnd U o U' L ({ frames := 0, cells := 0, slots := 0, locals := 0 } : Room).cells ({ frames := 0, cells := 0, slots := 0, locals := 0 } : Room).slots) := by
  refine MetFree.of_bodySF (plainFor_of_name pn_java_lang_String) hisR ?_
  intro p e s m args below meth c s₁ Bd hml0 hP hK
  obtain ⟨rfl, hZ, hh⟩ := hP
  have hx := Bd.exec
  have hby := Bd.bytes
  have hlk : meth.locks = false := BodyLoose.notSynchronized Bd
  have hml : c.maxLocals = 1 := hml0
  have hown : s.vm.findClass "java/lang/String" = some m.cls := findClass_of_methodNamed Bd.named
  have hnm := (name_of_methodNamed Bd.named Bd.method).1
  have X0 : Stand p l e ({ frames := 0, cells := 0, slots := 0, locals := 0 } : Room) s m #[(.ref b)] below meth c s₁ [] 0 0 := Stand.of_body Bd
  have e0 : s₁.heap = h0 := by rw [← hh, Bd.state]; rfl
  have N0 := Fr.nil n0
  show Gl p.tables e below (EndN s (Q_isl Z b G1 h0 n0) ({ frames := 0, cells := 0, slots := 0, locals := 0 } : Room).cells ({ frames := 0, cells := 0, slots := 0, locals := 0 } : Room).slots) _
  refine Gl.cast (ef_isl m b) ?_
  show Gl p.tables e below _ (s₁.setTop (mkF m 0 #[.val (.ref b)] []))
  obtain ⟨T1, X1, e1, st1⟩ := getS2 X0 hx hZ hown (host := "") (Or.inl (tw hw 35 rfl)) Via.refl e0 (O2.ext pf1.2) (g := (mkF m 0 #[.val (.ref b)] [])) rfl (hb hby d6_0)
  refine Gl.st st1 ?_
  show Gl p.tables e below _ (T1.setTop (mkF m 3 #[.val (.ref b)] [(.int G1)]))
  refine Gl.st (fun _ kq => XS.ifNo X1.here hx rfl (hb hby d6_3) rfl ((if0 _ _).trans (feq (P5 : ¬ (G1 = (0 : Int32)))).1) kq) ?_
  show Gl p.tables e below _ (T1.setTop (mkF m 6 #[.val (.ref b)] []))
  refine Gl.st (fun _ kq => XS.aloadN X1.here hx rfl (hb hby d6_6) rfl rfl kq) ?_
  show Gl p.tables e below _ (T1.setTop (mkF m 7 #[.val (.ref b)] [(.ref b)]))
  obtain ⟨T2, X2, e2, st2⟩ := getF X1 hx hZ hown (host := "") (Or.inl (tw hw 36 rfl)) Via.refl e1 pf0 (g := (mkF m 7 #[.val (.ref b)] [(.ref b)])) rfl rfl (hb hby d6_7)
  refine Gl.st st2 ?_
  show Gl p.tables e below _ (T2.setTop (mkF m 10 #[.val (.ref b)] [(.int 0)]))
  refine Gl.st (fun _ kq => XS.ifNo X2.here hx rfl (hb hby d6_10) rfl ((if0 _ _).trans (teq ((by decide) : (0 : Int32) = (0 : Int32))).2) kq) ?_
  show Gl p.tables e below _ (T2.setTop (mkF m 13 #[.val (.ref b)] []))
  refine Gl.st (fun _ kq => XS.iconst X2.here hx rfl (hb hby d6_13) kq) ?_
  show Gl p.tables e below _ (T2.setTop (mkF m 14 #[.val (.ref b)] [(.int 1)]))
  refine Gl.st (fun _ kq => XS.goto X2.here hx rfl (pc0 := 14) (pc' := 18) rfl (hb hby d6_14) (by decide) (by decide) kq) ?_
  show Gl p.tables e below _ (T2.setTop (mkF m 18 #[.val (.ref b)] [(.int 1)]))
  exact Gl.retN X2 hx (t := .boolean) Bd.returns (by simp) (hb hby d6_18) hlk (by decide) (by decide) (by rw [e2]; exact ⟨rfl, N0, rfl⟩)
theorem d10_0 : decode jdk_43_method_4_code 0 = .ok (.iload_n 0, 1) := by decide +kernel
theorem d10_1 : decode jdk_43_method_4_code 1 = .ok (.ifCond .lt 14, 3) := by decide +kernel
theorem d10_4 : decode jdk_43_method_4_code 4 = .ok (.iload_n 0, 1) := by decide +kernel
theorem d10_5 : decode jdk_43_method_4_code 5 = .ok (.sipush 255, 3) := by decide +kernel
theorem d10_8 : decode jdk_43_method_4_code 8 = .ok (.if_icmp .gt 7, 3) := by decide +kernel
theorem d10_11 : decode jdk_43_method_4_code 11 = .ok (.iconst 1, 1) := by decide +kernel
theorem d10_12 : decode jdk_43_method_4_code 12 = .ok (.goto 4, 3) := by decide +kernel
theorem d10_16 : decode jdk_43_method_4_code 16 = .ok (.ireturn, 1) := by decide +kernel
theorem ef_cei (m : MethodId) (q : Int32) : entryFrame m #[(.int q)] 1 = mkF m 0 #[.val (.int q)] [] := by first | (simp [entryFrame, mkF, argsToLocals, Value.category]; done) | rfl
def Q_cei (Z : State) (q : Int32) (h0 : Heap) (n0 : Nat) (v : Option Value) (h : Heap) (L : List Loc) : Prop := (v = some (.int 1) ∧ Fr n0 L ∧ h = h0)
set_option maxRecDepth 65536 in
set_option maxHeartbeats 40000000 in
theorem rm_cei (l : Launch) (Z : State) (a0 : Array Value) (hw : ∀ d ∈ tables_1, d.before a0 Z = true) (ws : List Jvm.Cond) (q : Int32) (h0 : Heap) (n0 : Nat) (Z0 : n0 ≤ h0.size) (hq0 : ¬ (q < (0 : Int32))) (hq1 : ¬ ((255 : Int32) < q)) :
    MetFree l (⟨"java/lang/StringLatin1", "canEncode", "(I)Z"⟩ : MethodName) (head1 (Jvm.Cond.code (⟨"java/lang/StringLatin1", "canEncode", "(I)Z"⟩ : MethodName) jdk_43_method_4_code 1 (some .boolean) :: ws) ({ frames := 0, cells := 0, slots := 0, locals := 0 } : Room)) (fun aa U => aa = #[(.int q)] ∧ Z.Warmed39 U.vm ∧ U.heap = h0) (fun _ _ _ _ _ => True) (fun _ U o U' => ∃ v L, o = .returned v ∧ Q_cei Z q h0 n0 v U'.heap L ∧ FrameEnd U o U' L ({ frames := 0, cells := 0, slots := 0, locals := 0 } : Room).cells ({ frames := 0, cells := 0, slots := 0, locals := 0 } : Room).slots) := by
  refine MetFree.of_bodySF (plainFor_of_name pn_java_lang_StringLatin1) hisR ?_
  intro p e s m args below meth c s₁ Bd hml0 hP hK
  obtain ⟨rfl, hZ, hh⟩ := hP
  have hx := Bd.exec
  have hby := Bd.bytes
  have hlk : meth.locks = false := BodyLoose.notSynchronized Bd
  have hml : c.maxLocals = 1 := hml0
  have hown : s.vm.findClass "java/lang/StringLatin1" = some m.cls := findClass_of_methodNamed Bd.named
  have hnm := (name_of_methodNamed Bd.named Bd.method).1
  have X0 : Stand p l e ({ frames := 0, cells := 0, slots := 0, locals := 0 } : Room) s m #[(.int q)] below meth c s₁ [] 0 0 := Stand.of_body Bd
  have e0 : s₁.heap = h0 := by rw [← hh, Bd.state]; rfl
  have N0 := Fr.nil n0
  show Gl p.tables e below (EndN s (Q_cei Z q h0 n0) ({ frames := 0, cells := 0, slots := 0, locals := 0 } : Room).cells ({ frames := 0, cells := 0, slots := 0, locals := 0 } : Room).slots) _
  refine Gl.cast (ef_cei m q) ?_
  show Gl p.tables e below _ (s₁.setTop (mkF m 0 #[.val (.int q)] []))
  refine Gl.st (fun _ kq => XS.iloadN X0.here hx rfl (hb hby d10_0) rfl kq) ?_
  show Gl p.tables e below _ (s₁.setTop (mkF m 1 #[.val (.int q)] [(.int q)]))
  refine Gl.st (fun _ kq => XS.ifNo X0.here hx rfl (hb hby d10_1) rfl ((if0 _ _).trans (flt (hq0 : ¬ (q < (0 : Int32)))).1) kq) ?_
  show Gl p.tables e below _ (s₁.setTop (mkF m 4 #[.val (.int q)] []))
  refine Gl.st (fun _ kq => XS.iloadN X0.here hx rfl (hb hby d10_4) rfl kq) ?_
  show Gl p.tables e below _ (s₁.setTop (mkF m 5 #[.val (.int q)] [(.int q)]))
  refine Gl.st (fun _ kq => XS.sipush X0.here hx rfl (hb hby d10_5) kq) ?_
  show Gl p.tables e below _ (s₁.setTop (mkF m 8 #[.val (.int q)] [(.int 255), (.int q)]))
  refine Gl.st (fun _ kq => XS.icmpNo X0.here hx rfl (hb hby d10_8) rfl (flt (hq1 : ¬ ((255 : Int32) < q))).2.2.1 kq) ?_
  show Gl p.tables e below _ (s₁.setTop (mkF m 11 #[.val (.int q)] []))
  refine Gl.st (fun _ kq => XS.iconst X0.here hx rfl (hb hby d10_11) kq) ?_
  show Gl p.tables e below _ (s₁.setTop (mkF m 12 #[.val (.int q)] [(.int 1)]))
  refine Gl.st (fun _ kq => XS.goto X0.here hx rfl (pc0 := 12) (pc' := 16) rfl (hb hby d10_12) (by decide) (by decide) kq) ?_
  show Gl p.tables e below _ (s₁.setTop (mkF m 16 #[.val (.int q)] [(.int 1)]))
  exact Gl.retN X0 hx (t := .boolean) Bd.returns (by simp) (hb hby d10_16) hlk (by decide) (by decide) (by rw [e0]; exact ⟨rfl, N0, rfl⟩)
theorem d11_0 : decode jdk_29_method_65_code 0 = .ok (.iload_n 0, 1) := by decide +kernel
theorem d11_1 : decode jdk_29_method_65_code 1 = .ok (.iload_n 1, 1) := by decide +kernel
theorem d11_2 : decode jdk_29_method_65_code 2 = .ok (.if_icmp .lt 7, 3) := by decide +kernel
theorem d11_5 : decode jdk_29_method_65_code 5 = .ok (.iload_n 0, 1) := by decide +kernel
theorem d11_6 : decode jdk_29_method_65_code 6 = .ok (.goto 4, 3) := by decide +kernel
theorem d11_9 : decode jdk_29_method_65_code 9 = .ok (.iload_n 1, 1) := by decide +kernel
theorem d11_10 : decode jdk_29_method_65_code 10 = .ok (.ireturn, 1) := by decide +kernel
theorem ef_mx (m : MethodId) (x : Int32) (y : Int32) : entryFrame m #[(.int x), (.int y)] 2 = mkF m 0 #[.val (.int x), .val (.int y)] [] := by first | (simp [entryFrame, mkF, argsToLocals, Value.category]; done) | rfl
def Q_mx (Z : State) (x : Int32) (y : Int32) (h0 : Heap) (n0 : Nat) (v : Option Value) (h : Heap) (L : List Loc) : Prop := (v = some (.int x) ∧ Fr n0 L ∧ h = h0 ∧ (¬ (x < y))) ∨ (v = some (.int y) ∧ Fr n0 L ∧ h = h0 ∧ (x < y))
set_option maxRecDepth 65536 in
set_option maxHeartbeats 40000000 in
theorem rm_mx (l : Launch) (Z : State) (a0 : Array Value) (hw : ∀ d ∈ tables_1, d.before a0 Z = true) (ws : List Jvm.Cond) (x : Int32) (y : Int32) (h0 : Heap) (n0 : Nat) (Z0 : n0 ≤ h0.size) :
    MetFree l (⟨"java/lang/Math", "max", "(II)I"⟩ : MethodName) (head1 (Jvm.Cond.code (⟨"java/lang/Math", "max", "(II)I"⟩ : MethodName) jdk_29_method_65_code 2 (some .int) :: ws) ({ frames := 0, cells := 0, slots := 0, locals := 0 } : Room)) (fun aa U => aa = #[(.int x), (.int y)] ∧ Z.Warmed39 U.vm ∧ U.heap = h0) (fun _ _ _ _ _ => True) (fun _ U o U' => ∃ v L, o = .returned v ∧ Q_mx Z x y h0 n0 v U'.heap L ∧ FrameEnd U o U' L ({ frames := 0, cells := 0, slots := 0, locals := 0 } : Room).cells ({ frames := 0, cells := 0, slots := 0, locals := 0 } : Room).slots) := by
  refine MetFree.of_bodySF (Jvm.Free.JP.mathPlain rfl (by decide +kernel)) hisR ?_
  intro p e s m args below meth c s₁ Bd hml0 hP hK
  obtain ⟨rfl, hZ, hh⟩ := hP
  have hx := Bd.exec
  have hby := Bd.bytes
  have hlk : meth.locks = false := BodyLoose.notSynchronized Bd
  have hml : c.maxLocals = 2 := hml0
  have hown : s.vm.findClass "java/lang/Math" = some m.cls := findClass_of_methodNamed Bd.named
  have hnm := (name_of_methodNamed Bd.named Bd.method).1
  have X0 : Stand p l e ({ frames := 0, cells := 0, slots := 0, locals := 0 } : Room) s m #[(.int x), (.int y)] below meth c s₁ [] 0 0 := Stand.of_body Bd
  have e0 : s₁.heap = h0 := by rw [← hh, Bd.state]; rfl
  have N0 := Fr.nil n0
  show Gl p.tables e below (EndN s (Q_mx Z x y h0 n0) ({ frames := 0, cells := 0, slots := 0, locals := 0 } : Room).cells ({ frames := 0, cells := 0, slots := 0, locals := 0 } : Room).slots) _
  refine Gl.cast (ef_mx m x y) ?_
  show Gl p.tables e below _ (s₁.setTop (mkF m 0 #[.val (.int x), .val (.int y)] []))
  refine Gl.st (fun _ kq => XS.iloadN X0.here hx rfl (hb hby d11_0) rfl kq) ?_
  show Gl p.tables e below _ (s₁.setTop (mkF m 1 #[.val (.int x), .val (.int y)] [(.int x)]))
  refine Gl.st (fun _ kq => XS.iloadN X0.here hx rfl (hb hby d11_1) rfl kq) ?_
  show Gl p.tables e below _ (s₁.setTop (mkF m 2 #[.val (.int x), .val (.int y)] [(.int y), (.int x)]))
  by_cases hc1 : x < y
  · refine Gl.st (fun _ kq => XS.icmpYes X0.here hx rfl (pc0 := 2) (pc' := 9) rfl (hb hby d11_2) rfl (tlt (hc1 : x < y)).1 (by decide) (by decide) kq) ?_
    show Gl p.tables e below _ (s₁.setTop (mkF m 9 #[.val (.int x), .val (.int y)] []))
    refine Gl.st (fun _ kq => XS.iloadN X0.here hx rfl (hb hby d11_9) rfl kq) ?_
    show Gl p.tables e below _ (s₁.setTop (mkF m 10 #[.val (.int x), .val (.int y)] [(.int y)]))
    exact Gl.retI X0 hx Bd.returns (hb hby d11_10) hlk (by decide) (by decide) (by rw [e0]; exact (Or.inr (⟨rfl, N0, rfl, hc1⟩)))
  · refine Gl.st (fun _ kq => XS.icmpNo X0.here hx rfl (hb hby d11_2) rfl (flt (hc1 : ¬ (x < y))).1 kq) ?_
    show Gl p.tables e below _ (s₁.setTop (mkF m 5 #[.val (.int x), .val (.int y)] []))
    refine Gl.st (fun _ kq => XS.iloadN X0.here hx rfl (hb hby d11_5) rfl kq) ?_
    show Gl p.tables e below _ (s₁.setTop (mkF m 6 #[.val (.int x), .val (.int y)] [(.int x)]))
    refine Gl.st (fun _ kq => XS.goto X0.here hx rfl (pc0 := 6) (pc' := 10) rfl (hb hby d11_6) (by decide) (by decide) kq) ?_
    show Gl p.tables e below _ (s₁.setTop (mkF m 10 #[.val (.int x), .val (.int y)] [(.int x)]))
    exact Gl.retI X0 hx Bd.returns (hb hby d11_10) hlk (by decide) (by decide) (by rw [e0]; exact (Or.inl ⟨rfl, N0, rfl, hc1⟩))
theorem d12_0 : decode jdk_29_method_69_code 0 = .ok (.iload_n 0, 1) := by decide +kernel
theorem d12_1 : decode jdk_29_method_69_code 1 = .ok (.iload_n 1, 1) := by decide +kernel
theorem d12_2 : decode jdk_29_method_69_code 2 = .ok (.if_icmp .gt 7, 3) := by decide +kernel
theorem d12_5 : decode jdk_29_method_69_code 5 = .ok (.iload_n 0, 1) := by decide +kernel
theorem d12_6 : decode jdk_29_method_69_code 6 = .ok (.goto 4, 3) := by decide +kernel
theorem d12_9 : decode jdk_29_method_69_code 9 = .ok (.iload_n 1, 1) := by decide +kernel
theorem d12_10 : decode jdk_29_method_69_code 10 = .ok (.ireturn, 1) := by decide +kernel
theorem ef_mi (m : MethodId) (x : Int32) (y : Int32) : entryFrame m #[(.int x), (.int y)] 2 = mkF m 0 #[.val (.int x), .val (.int y)] [] := by first | (simp [entryFrame, mkF, argsToLocals, Value.category]; done) | rfl
def Q_mi (Z : State) (x : Int32) (y : Int32) (h0 : Heap) (n0 : Nat) (v : Option Value) (h : Heap) (L : List Loc) : Prop := (v = some (.int x) ∧ Fr n0 L ∧ h = h0 ∧ (¬ (y < x))) ∨ (v = some (.int y) ∧ Fr n0 L ∧ h = h0 ∧ (y < x))
set_option maxRecDepth 65536 in
set_option maxHeartbeats 40000000 in
theorem rm_mi (l : Launch) (Z : State) (a0 : Array Value) (hw : ∀ d ∈ tables_1, d.before a0 Z = true) (ws : List Jvm.Cond) (x : Int32) (y : Int32) (h0 : Heap) (n0 : Nat) (Z0 : n0 ≤ h0.size) :
    MetFree l (⟨"java/lang/Math", "min", "(II)I"⟩ : MethodName) (head1 (Jvm.Cond.code (⟨"java/lang/Math", "min", "(II)I"⟩ : MethodName) jdk_29_method_69_code 2 (some .int) :: ws) ({ frames := 0, cells := 0, slots := 0, locals := 0 } : Room)) (fun aa U => aa = #[(.int x), (.int y)] ∧ Z.Warmed39 U.vm ∧ U.heap = h0) (fun _ _ _ _ _ => True) (fun _ U o U' => ∃ v L, o = .returned v ∧ Q_mi Z x y h0 n0 v U'.heap L ∧ FrameEnd U o U' L ({ frames := 0, cells := 0, slots := 0, locals := 0 } : Room).cells ({ frames := 0, cells := 0, slots := 0, locals := 0 } : Room).slots) := by
  refine MetFree.of_bodySF (Jvm.Free.JP.mathPlain rfl (by decide +kernel)) hisR ?_
  intro p e s m args below meth c s₁ Bd hml0 hP hK
  obtain ⟨rfl, hZ, hh⟩ := hP
  have hx := Bd.exec
  have hby := Bd.bytes
  have hlk : meth.locks = false := BodyLoose.notSynchronized Bd
  have hml : c.maxLocals = 2 := hml0
  have hown : s.vm.findClass "java/lang/Math" = some m.cls := findClass_of_methodNamed Bd.named
  have hnm := (name_of_methodNamed Bd.named Bd.method).1
  have X0 : Stand p l e ({ frames := 0, cells := 0, slots := 0, locals := 0 } : Room) s m #[(.int x), (.int y)] below meth c s₁ [] 0 0 := Stand.of_body Bd
  have e0 : s₁.heap = h0 := by rw [← hh, Bd.state]; rfl
  have N0 := Fr.nil n0
  show Gl p.tables e below (EndN s (Q_mi Z x y h0 n0) ({ frames := 0, cells := 0, slots := 0, locals := 0 } : Room).cells ({ frames := 0, cells := 0, slots := 0, locals := 0 } : Room).slots) _
  refine Gl.cast (ef_mi m x y) ?_
  show Gl p.tables e below _ (s₁.setTop (mkF m 0 #[.val (.int x), .val (.int y)] []))
  refine Gl.st (fun _ kq => XS.iloadN X0.here hx rfl (hb hby d12_0) rfl kq) ?_
  show Gl p.tables e below _ (s₁.setTop (mkF m 1 #[.val (.int x), .val (.int y)] [(.int x)]))
  refine Gl.st (fun _ kq => XS.iloadN X0.here hx rfl (hb hby d12_1) rfl kq) ?_
  show Gl p.tables e below _ (s₁.setTop (mkF m 2 #[.val (.int x), .val (.int y)] [(.int y), (.int x)]))
  by_cases hc1 : y < x
  · refine Gl.st (fun _ kq => XS.icmpYes X0.here hx rfl (pc0 := 2) (pc' := 9) rfl (hb hby d12_2) rfl (tlt (hc1 : y < x)).2.2.1 (by decide) (by decide) kq) ?_
    show Gl p.tables e below _ (s₁.setTop (mkF m 9 #[.val (.int x), .val (.int y)] []))
    refine Gl.st (fun _ kq => XS.iloadN X0.here hx rfl (hb hby d12_9) rfl kq) ?_
    show Gl p.tables e below _ (s₁.setTop (mkF m 10 #[.val (.int x), .val (.int y)] [(.int y)]))
    exact Gl.retI X0 hx Bd.returns (hb hby d12_10) hlk (by decide) (by decide) (by rw [e0]; exact (Or.inr (⟨rfl, N0, rfl, hc1⟩)))
  · refine Gl.st (fun _ kq => XS.icmpNo X0.here hx rfl (hb hby d12_2) rfl (flt (hc1 : ¬ (y < x))).2.2.1 kq) ?_
    show Gl p.tables e below _ (s₁.setTop (mkF m 5 #[.val (.int x), .val (.int y)] []))
    refine Gl.st (fun _ kq => XS.iloadN X0.here hx rfl (hb hby d12_5) rfl kq) ?_
    show Gl p.tables e below _ (s₁.setTop (mkF m 6 #[.val (.int x), .val (.int y)] [(.int x)]))
    refine Gl.st (fun _ kq => XS.goto X0.here hx rfl (pc0 := 6) (pc' := 10) rfl (hb hby d12_6) (by decide) (by decide) kq) ?_
    show Gl p.tables e below _ (s₁.setTop (mkF m 10 #[.val (.int x), .val (.int y)] [(.int x)]))
    exact Gl.retI X0 hx Bd.returns (hb hby d12_10) hlk (by decide) (by decide) (by rw [e0]; exact (Or.inl ⟨rfl, N0, rfl, hc1⟩))
theorem d19_0 : decode jdk_43_method_23_code 0 = .ok (.iload_n 1, 1) := by decide +kernel
theorem d19_1 : decode jdk_43_method_23_code 1 = .ok (.i2b, 1) := by decide +kernel
theorem d19_2 : decode jdk_43_method_23_code 2 = .ok (.istore 4, 2) := by decide +kernel
theorem d19_4 : decode jdk_43_method_23_code 4 = .ok (.iload_n 2, 1) := by decide +kernel
theorem d19_5 : decode jdk_43_method_23_code 5 = .ok (.istore 5, 2) := by decide +kernel
theorem d19_7 : decode jdk_43_method_23_code 7 = .ok (.iload 5, 2) := by decide +kernel
theorem d19_9 : decode jdk_43_method_23_code 9 = .ok (.iload_n 3, 1) := by decide +kernel
theorem d19_10 : decode jdk_43_method_23_code 10 = .ok (.if_icmp .ge 21, 3) := by decide +kernel
theorem d19_13 : decode jdk_43_method_23_code 13 = .ok (.aload_n 0, 1) := by decide +kernel
theorem d19_14 : decode jdk_43_method_23_code 14 = .ok (.iload 5, 2) := by decide +kernel
theorem d19_16 : decode jdk_43_method_23_code 16 = .ok (.baload, 1) := by decide +kernel
theorem d19_17 : decode jdk_43_method_23_code 17 = .ok (.iload 4, 2) := by decide +kernel
theorem d19_19 : decode jdk_43_method_23_code 19 = .ok (.if_icmp .ne 6, 3) := by decide +kernel
theorem d19_22 : decode jdk_43_method_23_code 22 = .ok (.iload 5, 2) := by decide +kernel
theorem d19_24 : decode jdk_43_method_23_code 24 = .ok (.ireturn, 1) := by decide +kernel
theorem d19_25 : decode jdk_43_method_23_code 25 = .ok (.iinc 5 1, 3) := by decide +kernel
theorem d19_28 : decode jdk_43_method_23_code 28 = .ok (.goto (-21), 3) := by decide +kernel
theorem d19_31 : decode jdk_43_method_23_code 31 = .ok (.iconst (-1), 1) := by decide +kernel
theorem d19_32 : decode jdk_43_method_23_code 32 = .ok (.ireturn, 1) := by decide +kernel
theorem ef_ioc (m : MethodId) (t : Addr) (cs : List Int32) (q : Int32) (i : Nat) : entryFrame m #[(.ref t), (.int q), (.int (Int32.ofNat i)), (.int (Int32.ofNat cs.length))] 6 = mkF m 0 #[.val (.ref t), .val (.int q), .val (.int (Int32.ofNat i)), .val (.int (Int32.ofNat cs.length)), .unset, .unset] [] := by first | (simp [entryFrame, mkF, argsToLocals, Value.category]; done) | rfl
def Q_ioc (Z : State) (t : Addr) (k : ClassId) (cs : List Int32) (q : Int32) (i : Nat) (h0 : Heap) (n0 : Nat) (v : Option Value) (h : Heap) (L : List Loc) : Prop := (∃ r : Nat, v = some (.int (Int32.ofNat r)) ∧ Fr n0 L ∧ h = h0 ∧ (First q cs i r)) ∨ (v = some (.int (-1)) ∧ Fr n0 L ∧ h = h0 ∧ (Nowhere q cs i))
set_option maxRecDepth 65536 in
set_option maxHeartbeats 40000000 in
theorem rm_ioc (l : Launch) (Z : State) (a0 : Array Value) (hw : ∀ d ∈ tables_1, d.before a0 Z = true) (ws : List Jvm.Cond) (t : Addr) (k : ClassId) (cs : List Int32) (q : Int32) (i : Nat) (h0 : Heap) (n0 : Nat) (Z0 : n0 ≤ h0.size) (pf0 : Arv Z h0 t k .byte (Int32.ofNat cs.length) ((cs.map (fun c => c.toInt8.toInt32)).map Value.int) (.int 0)) (hr : Rng cs) (hl : cs.length ≤ 4) (hq0 : ¬ (q < (0 : Int32))) (hq1 : ¬ ((255 : Int32) < q)) (hi : i ≤ cs.length) :
    MetFree l (⟨"java/lang/StringLatin1", "indexOfChar", "([BIII)I"⟩ : MethodName) (head1 (Jvm.Cond.code (⟨"java/lang/StringLatin1", "indexOfChar", "([BIII)I"⟩ : MethodName) jdk_43_method_23_code 6 (some .int) :: ws) ({ frames := 0, cells := 0, slots := 0, locals := 0 } : Room)) (fun aa U => aa = #[(.ref t), (.int q), (.int (Int32.ofNat i)), (.int (Int32.ofNat cs.length))] ∧ Z.Warmed39 U.vm ∧ U.heap = h0) (fun _ _ _ _ _ => True) (fun _ U o U' => ∃ v L, o = .returned v ∧ Q_ioc Z t k cs q i h0 n0 v U'.heap L ∧ FrameEnd U o U' L ({ frames := 0, cells := 0, slots := 0, locals := 0 } : Room).cells ({ frames := 0, cells := 0, slots := 0, locals := 0 } : Room).slots) := by
  refine MetFree.of_bodySF (plainFor_of_name pn_java_lang_StringLatin1) hisR ?_
  intro p e s m args below meth c s₁ Bd hml0 hP hK
  obtain ⟨rfl, hZ, hh⟩ := hP
  have hx := Bd.exec
  have hby := Bd.bytes
  have hlk : meth.locks = false := BodyLoose.notSynchronized Bd
  have hml : c.maxLocals = 6 := hml0
  have hown : s.vm.findClass "java/lang/StringLatin1" = some m.cls := findClass_of_methodNamed Bd.named
  have hnm := (name_of_methodNamed Bd.named Bd.method).1
  have X0 : Stand p l e ({ frames := 0, cells := 0, slots := 0, locals := 0 } : Room) s m #[(.ref t), (.int q), (.int (Int32.ofNat i)), (.int (Int32.ofNat cs.length))] below meth c s₁ [] 0 0 := Stand.of_body Bd
  have e0 : s₁.heap = h0 := by rw [← hh, Bd.state]; rfl
  have N0 := Fr.nil n0
  show Gl p.tables e below (EndN s (Q_ioc Z t k cs q i h0 n0) ({ frames := 0, cells := 0, slots := 0, locals := 0 } : Room).cells ({ frames := 0, cells := 0, slots := 0, locals := 0 } : Room).slots) _
  refine Gl.cast (ef_ioc m t cs q i) ?_
  show Gl p.tables e below _ (s₁.setTop (mkF m 0 #[.val (.ref t), .val (.int q), .val (.int (Int32.ofNat i)), .val (.int (Int32.ofNat cs.length)), .unset, .unset] []))
  refine Gl.st (fun _ kq => XS.iloadN X0.here hx rfl (hb hby d19_0) rfl kq) ?_
  show Gl p.tables e below _ (s₁.setTop (mkF m 1 #[.val (.ref t), .val (.int q), .val (.int (Int32.ofNat i)), .val (.int (Int32.ofNat cs.length)), .unset, .unset] [(.int q)]))
  refine Gl.st (fun _ kq => XS.i2b X0.here hx rfl (hb hby d19_1) rfl kq) ?_
  show Gl p.tables e below _ (s₁.setTop (mkF m 2 #[.val (.ref t), .val (.int q), .val (.int (Int32.ofNat i)), .val (.int (Int32.ofNat cs.length)), .unset, .unset] [(.int (q.toInt8.toInt32))]))
  refine Gl.st (fun _ kq => XS.istore X0.here hx rfl (hb hby d19_2) rfl (l' := #[.val (.ref t), .val (.int q), .val (.int (Int32.ofNat i)), .val (.int (Int32.ofNat cs.length)), .val (.int (q.toInt8.toInt32)), .unset]) rfl kq) ?_
  show Gl p.tables e below _ (s₁.setTop (mkF m 4 #[.val (.ref t), .val (.int q), .val (.int (Int32.ofNat i)), .val (.int (Int32.ofNat cs.length)), .val (.int (q.toInt8.toInt32)), .unset] []))
  refine Gl.st (fun _ kq => XS.iloadN X0.here hx rfl (hb hby d19_4) rfl kq) ?_
  show Gl p.tables e below _ (s₁.setTop (mkF m 5 #[.val (.ref t), .val (.int q), .val (.int (Int32.ofNat i)), .val (.int (Int32.ofNat cs.length)), .val (.int (q.toInt8.toInt32)), .unset] [(.int (Int32.ofNat i))]))
  refine Gl.st (fun _ kq => XS.istore X0.here hx rfl (hb hby d19_5) rfl (l' := #[.val (.ref t), .val (.int q), .val (.int (Int32.ofNat i)), .val (.int (Int32.ofNat cs.length)), .val (.int (q.toInt8.toInt32)), .val (.int (Int32.ofNat i))]) rfl kq) ?_
  show Gl p.tables e below _ (s₁.setTop (mkF m 7 #[.val (.ref t), .val (.int q), .val (.int (Int32.ofNat i)), .val (.int (Int32.ofNat cs.length)), .val (.int (q.toInt8.toInt32)), .val (.int (Int32.ofNat i))] []))
  have loop : ∀ (d j : Nat) (Ti : State) (Li : List Loc) (Xi : Stand p l e ({ frames := 0, cells := 0, slots := 0, locals := 0 } : Room) s m #[(.ref t), (.int q), (.int (Int32.ofNat i)), (.int (Int32.ofNat cs.length))] below meth c Ti Li 0 0) (ei : Ti.heap = h0) (Ni : Fr n0 Li) (hj : j + d = cs.length) (hij : i ≤ j) (hb4 : ∀ k, i ≤ k → k < j → ¬ cs.getD k 0 = q), Gl p.tables e below (EndN s (Q_ioc Z t k cs q i h0 n0) ({ frames := 0, cells := 0, slots := 0, locals := 0 } : Room).cells ({ frames := 0, cells := 0, slots := 0, locals := 0 } : Room).slots) (Ti.setTop (mkF m 7 #[.val (.ref t), .val (.int q), .val (.int (Int32.ofNat i)), .val (.int (Int32.ofNat cs.length)), .val (.int (q.toInt8.toInt32)), .val (.int (Int32.ofNat j))] [])) := by
    intro d
    induction d with
    | zero =>
      intro j Ti Li Xi ei Ni hj hij hb4
      have hlt := n32_nlt (i := j) (j := cs.length) (by omega) (by omega) (by omega)
      have hno : Nowhere q cs i := fun k h1 h2 => hb4 k h1 (by omega)
      show Gl p.tables e below _ (Ti.setTop (mkF m 7 #[.val (.ref t), .val (.int q), .val (.int (Int32.ofNat i)), .val (.int (Int32.ofNat cs.length)), .val (.int (q.toInt8.toInt32)), .val (.int (Int32.ofNat j))] []))
      refine Gl.st (fun _ kq => XS.iload Xi.here hx rfl (hb hby d19_7) rfl kq) ?_
      show Gl p.tables e below _ (Ti.setTop (mkF m 9 #[.val (.ref t), .val (.int q), .val (.int (Int32.ofNat i)), .val (.int (Int32.ofNat cs.length)), .val (.int (q.toInt8.toInt32)), .val (.int (Int32.ofNat j))] [(.int (Int32.ofNat j))]))
      refine Gl.st (fun _ kq => XS.iloadN Xi.here hx rfl (hb hby d19_9) rfl kq) ?_
      show Gl p.tables e below _ (Ti.setTop (mkF m 10 #[.val (.ref t), .val (.int q), .val (.int (Int32.ofNat i)), .val (.int (Int32.ofNat cs.length)), .val (.int (q.toInt8.toInt32)), .val (.int (Int32.ofNat j))] [(.int (Int32.ofNat cs.length)), (.int (Int32.ofNat j))]))
      refine Gl.st (fun _ kq => XS.icmpYes Xi.here hx rfl (pc0 := 10) (pc' := 31) rfl (hb hby d19_10) rfl (flt (hlt : ¬ ((Int32.ofNat j) < (Int32.ofNat cs.length)))).2.1 (by decide) (by decide) kq) ?_
      show Gl p.tables e below _ (Ti.setTop (mkF m 31 #[.val (.ref t), .val (.int q), .val (.int (Int32.ofNat i)), .val (.int (Int32.ofNat cs.length)), .val (.int (q.toInt8.toInt32)), .val (.int (Int32.ofNat j))] []))
      refine Gl.st (fun _ kq => XS.iconst Xi.here hx rfl (hb hby d19_31) kq) ?_
      show Gl p.tables e below _ (Ti.setTop (mkF m 32 #[.val (.ref t), .val (.int q), .val (.int (Int32.ofNat i)), .val (.int (Int32.ofNat cs.length)), .val (.int (q.toInt8.toInt32)), .val (.int (Int32.ofNat j))] [(.int (-1))]))
      exact Gl.retI Xi hx Bd.returns (hb hby d19_32) hlk (by decide) (by decide) (by rw [ei]; exact (Or.inr (⟨rfl, Ni, rfl, hno⟩)))
    | succ d ih =>
      intro j Ti Li Xi ei Ni hj hij hb4
      have hjl : j < cs.length := by omega
      have hlt := n32_plt (i := j) (j := cs.length) (by omega) (by omega)
      show Gl p.tables e below _ (Ti.setTop (mkF m 7 #[.val (.ref t), .val (.int q), .val (.int (Int32.ofNat i)), .val (.int (Int32.ofNat cs.length)), .val (.int (q.toInt8.toInt32)), .val (.int (Int32.ofNat j))] []))
      refine Gl.st (fun _ kq => XS.iload Xi.here hx rfl (hb hby d19_7) rfl kq) ?_
      show Gl p.tables e below _ (Ti.setTop (mkF m 9 #[.val (.ref t), .val (.int q), .val (.int (Int32.ofNat i)), .val (.int (Int32.ofNat cs.length)), .val (.int (q.toInt8.toInt32)), .val (.int (Int32.ofNat j))] [(.int (Int32.ofNat j))]))
      refine Gl.st (fun _ kq => XS.iloadN Xi.here hx rfl (hb hby d19_9) rfl kq) ?_
      show Gl p.tables e below _ (Ti.setTop (mkF m 10 #[.val (.ref t), .val (.int q), .val (.int (Int32.ofNat i)), .val (.int (Int32.ofNat cs.length)), .val (.int (q.toInt8.toInt32)), .val (.int (Int32.ofNat j))] [(.int (Int32.ofNat cs.length)), (.int (Int32.ofNat j))]))
      refine Gl.st (fun _ kq => XS.icmpNo Xi.here hx rfl (hb hby d19_10) rfl (tlt (hlt : (Int32.ofNat j) < (Int32.ofNat cs.length))).2.1 kq) ?_
      show Gl p.tables e below _ (Ti.setTop (mkF m 13 #[.val (.ref t), .val (.int q), .val (.int (Int32.ofNat i)), .val (.int (Int32.ofNat cs.length)), .val (.int (q.toInt8.toInt32)), .val (.int (Int32.ofNat j))] []))
      refine Gl.st (fun _ kq => XS.aloadN Xi.here hx rfl (hb hby d19_13) rfl rfl kq) ?_
      show Gl p.tables e below _ (Ti.setTop (mkF m 14 #[.val (.ref t), .val (.int q), .val (.int (Int32.ofNat i)), .val (.int (Int32.ofNat cs.length)), .val (.int (q.toInt8.toInt32)), .val (.int (Int32.ofNat j))] [(.ref t)]))
      refine Gl.st (fun _ kq => XS.iload Xi.here hx rfl (hb hby d19_14) rfl kq) ?_
      show Gl p.tables e below _ (Ti.setTop (mkF m 16 #[.val (.ref t), .val (.int q), .val (.int (Int32.ofNat i)), .val (.int (Int32.ofNat cs.length)), .val (.int (q.toInt8.toInt32)), .val (.int (Int32.ofNat j))] [(.int (Int32.ofNat j)), (.ref t)]))
      obtain ⟨c1, a1, q1, S1, M1, H1, G1⟩ := id pf0
      refine Gl.st (fun _ kq => Xi.baloadBytes hx (j := (Int32.ofNat j)) (v := (.int ((cs.getD j 0).toInt8.toInt32))) (by rw [ei]; exact a1.1) (State.isArrayOf_alike hZ.alike a1.2.1) a1.2.2 (inb_of S1 ⟨n32_nn (by omega), n32_plt hjl (by omega)⟩) (Has.at H1 (inb_of S1 ⟨n32_nn (by omega), n32_plt hjl (by omega)⟩) (by rw [n32_cl (by omega)]; exact lo_get hjl)) (g := (mkF m 16 #[.val (.ref t), .val (.int q), .val (.int (Int32.ofNat i)), .val (.int (Int32.ofNat cs.length)), .val (.int (q.toInt8.toInt32)), .val (.int (Int32.ofNat j))] [(.int (Int32.ofNat j)), (.ref t)])) rfl rfl (hb hby d19_16) _ kq) ?_
      show Gl p.tables e below _ (Ti.setTop (mkF m 17 #[.val (.ref t), .val (.int q), .val (.int (Int32.ofNat i)), .val (.int (Int32.ofNat cs.length)), .val (.int (q.toInt8.toInt32)), .val (.int (Int32.ofNat j))] [(.int ((cs.getD j 0).toInt8.toInt32))]))
      refine Gl.st (fun _ kq => XS.iload Xi.here hx rfl (hb hby d19_17) rfl kq) ?_
      show Gl p.tables e below _ (Ti.setTop (mkF m 19 #[.val (.ref t), .val (.int q), .val (.int (Int32.ofNat i)), .val (.int (Int32.ofNat cs.length)), .val (.int (q.toInt8.toInt32)), .val (.int (Int32.ofNat j))] [(.int (q.toInt8.toInt32)), (.int ((cs.getD j 0).toInt8.toInt32))]))
      by_cases hc2 : ((cs.getD j 0).toInt8.toInt32) = (q.toInt8.toInt32)
      · have heq : cs.getD j 0 = q := lo_inj (mem_get hr hjl).1 (mem_get hr hjl).2 hq0 hq1 hc2
        refine Gl.st (fun _ kq => XS.icmpNo Xi.here hx rfl (hb hby d19_19) rfl (teq (hc2 : ((cs.getD j 0).toInt8.toInt32) = (q.toInt8.toInt32))).2 kq) ?_
        show Gl p.tables e below _ (Ti.setTop (mkF m 22 #[.val (.ref t), .val (.int q), .val (.int (Int32.ofNat i)), .val (.int (Int32.ofNat cs.length)), .val (.int (q.toInt8.toInt32)), .val (.int (Int32.ofNat j))] []))
        refine Gl.st (fun _ kq => XS.iload Xi.here hx rfl (hb hby d19_22) rfl kq) ?_
        show Gl p.tables e below _ (Ti.setTop (mkF m 24 #[.val (.ref t), .val (.int q), .val (.int (Int32.ofNat i)), .val (.int (Int32.ofNat cs.length)), .val (.int (q.toInt8.toInt32)), .val (.int (Int32.ofNat j))] [(.int (Int32.ofNat j))]))
        exact Gl.retI Xi hx Bd.returns (hb hby d19_24) hlk (by decide) (by decide) (by rw [ei]; exact (Or.inl ⟨j, rfl, Ni, rfl, ⟨hij, hjl, heq, hb4⟩⟩))
      · have hne : ¬ cs.getD j 0 = q := fun e => hc2 (e ▸ rfl)
        refine Gl.st (fun _ kq => XS.icmpYes Xi.here hx rfl (pc0 := 19) (pc' := 25) rfl (hb hby d19_19) rfl (feq (hc2 : ¬ (((cs.getD j 0).toInt8.toInt32) = (q.toInt8.toInt32)))).2 (by decide) (by decide) kq) ?_
        show Gl p.tables e below _ (Ti.setTop (mkF m 25 #[.val (.ref t), .val (.int q), .val (.int (Int32.ofNat i)), .val (.int (Int32.ofNat cs.length)), .val (.int (q.toInt8.toInt32)), .val (.int (Int32.ofNat j))] []))
        refine Gl.st (fun _ kq => XS.iinc Xi.here hx rfl (hb hby d19_25) rfl (l' := #[.val (.ref t), .val (.int q), .val (.int (Int32.ofNat i)), .val (.int (Int32.ofNat cs.length)), .val (.int (q.toInt8.toInt32)), .val (.int ((Int32.ofNat j) + (1 : Int32)))]) rfl kq) ?_
        show Gl p.tables e below _ (Ti.setTop (mkF m 28 #[.val (.ref t), .val (.int q), .val (.int (Int32.ofNat i)), .val (.int (Int32.ofNat cs.length)), .val (.int (q.toInt8.toInt32)), .val (.int ((Int32.ofNat j) + (1 : Int32)))] []))
        refine Gl.st (fun _ kq => XS.goto Xi.here hx rfl (pc0 := 28) (pc' := 7) rfl (hb hby d19_28) (by decide) (by decide) kq) ?_
        show Gl p.tables e below _ (Ti.setTop (mkF m 7 #[.val (.ref t), .val (.int q), .val (.int (Int32.ofNat i)), .val (.int (Int32.ofNat cs.length)), .val (.int (q.toInt8.toInt32)), .val (.int ((Int32.ofNat j) + (1 : Int32)))] []))
        rw [n32_inc j]
        exact ih (j + 1) _ _ Xi ei Ni (by omega) (by omega) (fun k h1 h2 => by by_cases e : k = j; exact e ▸ hne; exact hb4 k h1 (by omega))
  exact loop (cs.length - i) i _ _ (X0.more (by decide) (by decide)) e0 N0 (by omega) (Nat.le_refl _) (fun k h1 h2 => absurd h2 (by omega))
theorem d9_0 : decode jdk_43_method_22_code 0 = .ok (.iload_n 1, 1) := by decide +kernel
theorem d9_1 : decode jdk_43_method_22_code 1 = .ok (.invokestatic 88, 3) := by decide +kernel
theorem d9_4 : decode jdk_43_method_22_code 4 = .ok (.ifCond .ne 5, 3) := by decide +kernel
theorem d9_9 : decode jdk_43_method_22_code 9 = .ok (.iload_n 2, 1) := by decide +kernel
theorem d9_10 : decode jdk_43_method_22_code 10 = .ok (.iconst 0, 1) := by decide +kernel
theorem d9_11 : decode jdk_43_method_22_code 11 = .ok (.invokestatic 92, 3) := by decide +kernel
theorem d9_14 : decode jdk_43_method_22_code 14 = .ok (.istore_n 2, 1) := by decide +kernel
theorem d9_15 : decode jdk_43_method_22_code 15 = .ok (.iload_n 3, 1) := by decide +kernel
theorem d9_16 : decode jdk_43_method_22_code 16 = .ok (.aload_n 0, 1) := by decide +kernel
theorem d9_17 : decode jdk_43_method_22_code 17 = .ok (.arraylength, 1) := by decide +kernel
theorem d9_18 : decode jdk_43_method_22_code 18 = .ok (.invokestatic 38, 3) := by decide +kernel
theorem d9_21 : decode jdk_43_method_22_code 21 = .ok (.istore_n 3, 1) := by decide +kernel
theorem d9_22 : decode jdk_43_method_22_code 22 = .ok (.iload_n 2, 1) := by decide +kernel
theorem d9_23 : decode jdk_43_method_22_code 23 = .ok (.iload_n 3, 1) := by decide +kernel
theorem d9_24 : decode jdk_43_method_22_code 24 = .ok (.if_icmp .lt 5, 3) := by decide +kernel
theorem d9_27 : decode jdk_43_method_22_code 27 = .ok (.iconst (-1), 1) := by decide +kernel
theorem d9_28 : decode jdk_43_method_22_code 28 = .ok (.ireturn, 1) := by decide +kernel
theorem d9_29 : decode jdk_43_method_22_code 29 = .ok (.aload_n 0, 1) := by decide +kernel
theorem d9_30 : decode jdk_43_method_22_code 30 = .ok (.iload_n 1, 1) := by decide +kernel
theorem d9_31 : decode jdk_43_method_22_code 31 = .ok (.iload_n 2, 1) := by decide +kernel
theorem d9_32 : decode jdk_43_method_22_code 32 = .ok (.iload_n 3, 1) := by decide +kernel
theorem d9_33 : decode jdk_43_method_22_code 33 = .ok (.invokestatic 95, 3) := by decide +kernel
theorem d9_36 : decode jdk_43_method_22_code 36 = .ok (.ireturn, 1) := by decide +kernel
theorem ef_lio (m : MethodId) (t : Addr) (cs : List Int32) (q : Int32) (i : Nat) : entryFrame m #[(.ref t), (.int q), (.int (Int32.ofNat i)), (.int (Int32.ofNat cs.length))] 4 = mkF m 0 #[.val (.ref t), .val (.int q), .val (.int (Int32.ofNat i)), .val (.int (Int32.ofNat cs.length))] [] := by first | (simp [entryFrame, mkF, argsToLocals, Value.category]; done) | rfl
def Q_lio (Z : State) (t : Addr) (k : ClassId) (cs : List Int32) (q : Int32) (i : Nat) (h0 : Heap) (n0 : Nat) (v : Option Value) (h : Heap) (L : List Loc) : Prop := (∃ r : Nat, v = some (.int (Int32.ofNat r)) ∧ Fr n0 L ∧ h = h0 ∧ (First q cs i r)) ∨ (v = some (.int (-1)) ∧ Fr n0 L ∧ h = h0 ∧ (Nowhere q cs i))
set_option maxRecDepth 65536 in
set_option maxHeartbeats 40000000 in
theorem rm_lio (l : Launch) (Z : State) (a0 : Array Value) (hw : ∀ d ∈ tables_1, d.before a0 Z = true) (ws : List Jvm.Cond) (t : Addr) (k : ClassId) (cs : List Int32) (q : Int32) (i : Nat) (h0 : Heap) (n0 : Nat) (Z0 : n0 ≤ h0.size) (pf0 : Arv Z h0 t k .byte (Int32.ofNat cs.length) ((cs.map (fun c => c.toInt8.toInt32)).map Value.int) (.int 0)) (hr : Rng cs) (hl : cs.length ≤ 4) (hq0 : ¬ (q < (0 : Int32))) (hq1 : ¬ ((255 : Int32) < q)) (hi : i ≤ cs.length) :
    MetFree l (⟨"java/lang/StringLatin1", "indexOf", "([BIII)I"⟩ : MethodName) (head1 (Jvm.Cond.code (⟨"java/lang/StringLatin1", "indexOf", "([BIII)I"⟩ : MethodName) jdk_43_method_22_code 4 (some .int) :: ws) ({ frames := 1, cells := 0, slots := 0, locals := 17 } : Room)) (fun aa U => aa = #[(.ref t), (.int q), (.int (Int32.ofNat i)), (.int (Int32.ofNat cs.length))] ∧ Z.Warmed39 U.vm ∧ U.heap = h0) (fun _ _ _ _ _ => True) (fun _ U o U' => ∃ v L, o = .returned v ∧ Q_lio Z t k cs q i h0 n0 v U'.heap L ∧ FrameEnd U o U' L ({ frames := 1, cells := 0, slots := 0, locals := 17 } : Room).cells ({ frames := 1, cells := 0, slots := 0, locals := 17 } : Room).slots) := by
  refine MetFree.of_bodySF (plainFor_of_name pn_java_lang_StringLatin1) hisR ?_
  intro p e s m args below meth c s₁ Bd hml0 hP hK
  obtain ⟨rfl, hZ, hh⟩ := hP
  have hx := Bd.exec
  have hby := Bd.bytes
  have hlk : meth.locks = false := BodyLoose.notSynchronized Bd
  have hml : c.maxLocals = 4 := hml0
  have hown : s.vm.findClass "java/lang/StringLatin1" = some m.cls := findClass_of_methodNamed Bd.named
  have hnm := (name_of_methodNamed Bd.named Bd.method).1
  have X0 : Stand p l e ({ frames := 1, cells := 0, slots := 0, locals := 17 } : Room) s m #[(.ref t), (.int q), (.int (Int32.ofNat i)), (.int (Int32.ofNat cs.length))] below meth c s₁ [] 0 0 := Stand.of_body Bd
  have e0 : s₁.heap = h0 := by rw [← hh, Bd.state]; rfl
  have N0 := Fr.nil n0
  show Gl p.tables e below (EndN s (Q_lio Z t k cs q i h0 n0) ({ frames := 1, cells := 0, slots := 0, locals := 17 } : Room).cells ({ frames := 1, cells := 0, slots := 0, locals := 17 } : Room).slots) _
  refine Gl.cast (ef_lio m t cs q i) ?_
  show Gl p.tables e below _ (s₁.setTop (mkF m 0 #[.val (.ref t), .val (.int q), .val (.int (Int32.ofNat i)), .val (.int (Int32.ofNat cs.length))] []))
  refine Gl.st (fun _ kq => XS.iloadN X0.here hx rfl (hb hby d9_0) rfl kq) ?_
  show Gl p.tables e below _ (s₁.setTop (mkF m 1 #[.val (.ref t), .val (.int q), .val (.int (Int32.ofNat i)), .val (.int (Int32.ofNat cs.length))] [(.int q)]))
  obtain ⟨_, _, ⟨T1, L1, k1, n1⟩, -, X1, ⟨Lc1, hQ1, l1, y1, z1⟩, st1⟩ := Jvm.LawKit.callS X0 hx (y := (⟨"java/lang/StringLatin1", "canEncode", "(I)Z"⟩ : MethodName)) hown (mvT hZ (tw hw 52 rfl)) (mvT hZ (tw hw 53 rfl)) (mvT hZ (tw hw 50 rfl)) (mvT hZ (tw hw 54 rfl)) (by decide) (backOf (W := 0) (rm_cei l Z a0 hw [] (q) h0 n0 Z0 hq0 hq1) hZ (tw hw 54 rfl) (tw hw 50 rfl) (by decide) (by decide)) (g := (mkF m 1 #[.val (.ref t), .val (.int q), .val (.int (Int32.ofNat i)), .val (.int (Int32.ofNat cs.length))] [(.int q)])) rfl (by rw [hml]; rfl) (argsL := [(.int q)]) (rest := []) (lenOf pd__I_Z rfl) rfl (by show 2 * 0 + _ ≤ _; exact Nat.le_of_eq rfl) (hb hby d9_1) (fun _ _ => ⟨rfl, e0, (by decide : 0 + 0 ≤ _), (by decide : 0 + 0 ≤ _)⟩)
  dsimp only [Pt.U, Pt.locs, Pt.cells, Pt.slots] at X1 l1 y1 z1 st1 hQ1
  subst l1 y1 z1
  obtain ⟨rfl, N1, e1⟩ := hQ1
  have M1 := Fr.app N0 N1
  refine Gl.st st1 ?_
  show Gl p.tables e below _ (T1.setTop (mkF m 4 #[.val (.ref t), .val (.int q), .val (.int (Int32.ofNat i)), .val (.int (Int32.ofNat cs.length))] [(.int 1)]))
  show Gl p.tables e below _ (T1.setTop (mkF m 4 #[.val (.ref t), .val (.int q), .val (.int (Int32.ofNat i)), .val (.int (Int32.ofNat cs.length))] [(.int 1)]))
  refine Gl.st (fun _ kq => XS.ifYes X1.here hx rfl (pc0 := 4) (pc' := 9) rfl (hb hby d9_4) rfl ((if0 _ _).trans (feq ((by decide) : ¬ ((1 : Int32) = (0 : Int32)))).2) (by decide) (by decide) kq) ?_
  show Gl p.tables e below _ (T1.setTop (mkF m 9 #[.val (.ref t), .val (.int q), .val (.int (Int32.ofNat i)), .val (.int (Int32.ofNat cs.length))] []))
  refine Gl.st (fun _ kq => XS.iloadN X1.here hx rfl (hb hby d9_9) rfl kq) ?_
  show Gl p.tables e below _ (T1.setTop (mkF m 10 #[.val (.ref t), .val (.int q), .val (.int (Int32.ofNat i)), .val (.int (Int32.ofNat cs.length))] [(.int (Int32.ofNat i))]))
  refine Gl.st (fun _ kq => XS.iconst X1.here hx rfl (hb hby d9_10) kq) ?_
  show Gl p.tables e below _ (T1.setTop (mkF m 11 #[.val (.ref t), .val (.int q), .val (.int (Int32.ofNat i)), .val (.int (Int32.ofNat cs.length))] [(.int 0), (.int (Int32.ofNat i))]))
  obtain ⟨_, _, ⟨T2, L2, k2, n2⟩, -, X2, ⟨Lc2, hQ2, l2, y2, z2⟩, st2⟩ := Jvm.LawKit.callS X1 hx (y := (⟨"java/lang/Math", "max", "(II)I"⟩ : MethodName)) hown (mvT hZ (tw hw 55 rfl)) (mvT hZ (tw hw 56 rfl)) (mvT hZ (tw hw 57 rfl)) (mvT hZ (tw hw 58 rfl)) (by decide) (backOf (W := 0) (rm_mx l Z a0 hw [] ((Int32.ofNat i)) ((0 : Int32)) h0 n0 Z0 ) hZ (tw hw 58 rfl) (tw hw 57 rfl) (by decide) (by decide)) (g := (mkF m 11 #[.val (.ref t), .val (.int q), .val (.int (Int32.ofNat i)), .val (.int (Int32.ofNat cs.length))] [(.int 0), (.int (Int32.ofNat i))])) rfl (by rw [hml]; rfl) (argsL := [(.int (Int32.ofNat i)), (.int 0)]) (rest := []) (lenOf pd__II_I rfl) rfl (by show 2 * 0 + _ ≤ _; exact Nat.le_of_eq rfl) (hb hby d9_11) (fun _ _ => ⟨rfl, e1, (by decide : 0 + 0 ≤ _), (by decide : 0 + 0 ≤ _)⟩)
  dsimp only [Pt.U, Pt.locs, Pt.cells, Pt.slots] at X2 l2 y2 z2 st2 hQ2
  subst l2 y2 z2
  rcases hQ2 with ⟨rfl, N2, e2, y2_0⟩ | ⟨rfl, N2, e2, y2_0⟩
  · have M2 := Fr.app M1 N2
    refine Gl.st st2 ?_
    show Gl p.tables e below _ (T2.setTop (mkF m 14 #[.val (.ref t), .val (.int q), .val (.int (Int32.ofNat i)), .val (.int (Int32.ofNat cs.length))] [(.int (Int32.ofNat i))]))
    refine Gl.st (fun _ kq => XS.istoreN X2.here hx rfl (hb hby d9_14) rfl (l' := #[.val (.ref t), .val (.int q), .val (.int (Int32.ofNat i)), .val (.int (Int32.ofNat cs.length))]) rfl kq) ?_
    show Gl p.tables e below _ (T2.setTop (mkF m 15 #[.val (.ref t), .val (.int q), .val (.int (Int32.ofNat i)), .val (.int (Int32.ofNat cs.length))] []))
    refine Gl.st (fun _ kq => XS.iloadN X2.here hx rfl (hb hby d9_15) rfl kq) ?_
    show Gl p.tables e below _ (T2.setTop (mkF m 16 #[.val (.ref t), .val (.int q), .val (.int (Int32.ofNat i)), .val (.int (Int32.ofNat cs.length))] [(.int (Int32.ofNat cs.length))]))
    refine Gl.st (fun _ kq => XS.aloadN X2.here hx rfl (hb hby d9_16) rfl rfl kq) ?_
    show Gl p.tables e below _ (T2.setTop (mkF m 17 #[.val (.ref t), .val (.int q), .val (.int (Int32.ofNat i)), .val (.int (Int32.ofNat cs.length))] [(.ref t), (.int (Int32.ofNat cs.length))]))
    obtain ⟨c3, a3, q3, S3, M3, H3, G3⟩ := id pf0
    refine Gl.st (fun _ kq => X2.arraylength hx (by rw [e2]; exact a3.1) (State.isArrayOf_alike hZ.alike a3.2.1) (g := (mkF m 17 #[.val (.ref t), .val (.int q), .val (.int (Int32.ofNat i)), .val (.int (Int32.ofNat cs.length))] [(.ref t), (.int (Int32.ofNat cs.length))])) rfl rfl (hb hby d9_17) _ kq) ?_
    rw [len_of S3 M3]
    show Gl p.tables e below _ (T2.setTop (mkF m 18 #[.val (.ref t), .val (.int q), .val (.int (Int32.ofNat i)), .val (.int (Int32.ofNat cs.length))] [(.int (Int32.ofNat cs.length)), (.int (Int32.ofNat cs.length))]))
    obtain ⟨_, _, ⟨T4, L4, k4, n4⟩, -, X4, ⟨Lc4, hQ4, l4, y4, z4⟩, st4⟩ := Jvm.LawKit.callS X2 hx (y := (⟨"java/lang/Math", "min", "(II)I"⟩ : MethodName)) hown (mvT hZ (tw hw 59 rfl)) (mvT hZ (tw hw 60 rfl)) (mvT hZ (tw hw 57 rfl)) (mvT hZ (tw hw 61 rfl)) (by decide) (backOf (W := 0) (rm_mi l Z a0 hw [] ((Int32.ofNat cs.length)) ((Int32.ofNat cs.length)) h0 n0 Z0 ) hZ (tw hw 61 rfl) (tw hw 57 rfl) (by decide) (by decide)) (g := (mkF m 18 #[.val (.ref t), .val (.int q), .val (.int (Int32.ofNat i)), .val (.int (Int32.ofNat cs.length))] [(.int (Int32.ofNat cs.length)), (.int (Int32.ofNat cs.length))])) rfl (by rw [hml]; rfl) (argsL := [(.int (Int32.ofNat cs.length)), (.int (Int32.ofNat cs.length))]) (rest := []) (lenOf pd__II_I rfl) rfl (by show 2 * 0 + _ ≤ _; exact Nat.le_of_eq rfl) (hb hby d9_18) (fun _ _ => ⟨rfl, e2, (by decide : 0 + 0 ≤ _), (by decide : 0 + 0 ≤ _)⟩)
    dsimp only [Pt.U, Pt.locs, Pt.cells, Pt.slots] at X4 l4 y4 z4 st4 hQ4
    subst l4 y4 z4
    rcases hQ4 with ⟨rfl, N4, e4, y4_0⟩ | ⟨rfl, N4, e4, y4_0⟩
    · have M4 := Fr.app M2 N4
      refine Gl.st st4 ?_
      show Gl p.tables e below _ (T4.setTop (mkF m 21 #[.val (.ref t), .val (.int q), .val (.int (Int32.ofNat i)), .val (.int (Int32.ofNat cs.length))] [(.int (Int32.ofNat cs.length))]))
      refine Gl.st (fun _ kq => XS.istoreN X4.here hx rfl (hb hby d9_21) rfl (l' := #[.val (.ref t), .val (.int q), .val (.int (Int32.ofNat i)), .val (.int (Int32.ofNat cs.length))]) rfl kq) ?_
      show Gl p.tables e below _ (T4.setTop (mkF m 22 #[.val (.ref t), .val (.int q), .val (.int (Int32.ofNat i)), .val (.int (Int32.ofNat cs.length))] []))
      refine Gl.st (fun _ kq => XS.iloadN X4.here hx rfl (hb hby d9_22) rfl kq) ?_
      show Gl p.tables e below _ (T4.setTop (mkF m 23 #[.val (.ref t), .val (.int q), .val (.int (Int32.ofNat i)), .val (.int (Int32.ofNat cs.length))] [(.int (Int32.ofNat i))]))
      refine Gl.st (fun _ kq => XS.iloadN X4.here hx rfl (hb hby d9_23) rfl kq) ?_
      show Gl p.tables e below _ (T4.setTop (mkF m 24 #[.val (.ref t), .val (.int q), .val (.int (Int32.ofNat i)), .val (.int (Int32.ofNat cs.length))] [(.int (Int32.ofNat cs.length)), (.int (Int32.ofNat i))]))
      by_cases hc5 : (Int32.ofNat i) < (Int32.ofNat cs.length)
      · refine Gl.st (fun _ kq => XS.icmpYes X4.here hx rfl (pc0 := 24) (pc' := 29) rfl (hb hby d9_24) rfl (tlt (hc5 : (Int32.ofNat i) < (Int32.ofNat cs.length))).1 (by decide) (by decide) kq) ?_
        show Gl p.tables e below _ (T4.setTop (mkF m 29 #[.val (.ref t), .val (.int q), .val (.int (Int32.ofNat i)), .val (.int (Int32.ofNat cs.length))] []))
        refine Gl.st (fun _ kq => XS.aloadN X4.here hx rfl (hb hby d9_29) rfl rfl kq) ?_
        show Gl p.tables e below _ (T4.setTop (mkF m 30 #[.val (.ref t), .val (.int q), .val (.int (Int32.ofNat i)), .val (.int (Int32.ofNat cs.length))] [(.ref t)]))
        refine Gl.st (fun _ kq => XS.iloadN X4.here hx rfl (hb hby d9_30) rfl kq) ?_
        show Gl p.tables e below _ (T4.setTop (mkF m 31 #[.val (.ref t), .val (.int q), .val (.int (Int32.ofNat i)), .val (.int (Int32.ofNat cs.length))] [(.int q), (.ref t)]))
        refine Gl.st (fun _ kq => XS.iloadN X4.here hx rfl (hb hby d9_31) rfl kq) ?_
        show Gl p.tables e below _ (T4.setTop (mkF m 32 #[.val (.ref t), .val (.int q), .val (.int (Int32.ofNat i)), .val (.int (Int32.ofNat cs.length))] [(.int (Int32.ofNat i)), (.int q), (.ref t)]))
        refine Gl.st (fun _ kq => XS.iloadN X4.here hx rfl (hb hby d9_32) rfl kq) ?_
        show Gl p.tables e below _ (T4.setTop (mkF m 33 #[.val (.ref t), .val (.int q), .val (.int (Int32.ofNat i)), .val (.int (Int32.ofNat cs.length))] [(.int (Int32.ofNat cs.length)), (.int (Int32.ofNat i)), (.int q), (.ref t)]))
        obtain ⟨_, _, ⟨T7, L7, k7, n7⟩, -, X7, ⟨Lc7, hQ7, l7, y7, z7⟩, st7⟩ := Jvm.LawKit.callS X4 hx (y := (⟨"java/lang/StringLatin1", "indexOfChar", "([BIII)I"⟩ : MethodName)) hown (mvT hZ (tw hw 84 rfl)) (mvT hZ (tw hw 85 rfl)) (mvT hZ (tw hw 50 rfl)) (mvT hZ (tw hw 86 rfl)) (by decide) (backOf (W := 0) (rm_ioc l Z a0 hw [] (t) (k) (cs) (q) (i) h0 n0 Z0 pf0 hr hl hq0 hq1 hi) hZ (tw hw 86 rfl) (tw hw 50 rfl) (by decide) (by decide)) (g := (mkF m 33 #[.val (.ref t), .val (.int q), .val (.int (Int32.ofNat i)), .val (.int (Int32.ofNat cs.length))] [(.int (Int32.ofNat cs.length)), (.int (Int32.ofNat i)), (.int q), (.ref t)])) rfl (by rw [hml]; rfl) (argsL := [(.ref t), (.int q), (.int (Int32.ofNat i)), (.int (Int32.ofNat cs.length))]) (rest := []) (lenOf pd___BIII_I rfl) rfl (by show 2 * 0 + _ ≤ _; exact Nat.le_of_eq rfl) (hb hby d9_33) (fun _ _ => ⟨rfl, e4, (by decide : 0 + 0 ≤ _), (by decide : 0 + 0 ≤ _)⟩)
        dsimp only [Pt.U, Pt.locs, Pt.cells, Pt.slots] at X7 l7 y7 z7 st7 hQ7
        subst l7 y7 z7
        rcases hQ7 with ⟨v6, rfl, N7, e7, y7_0⟩ | ⟨rfl, N7, e7, y7_0⟩
        · have M7 := Fr.app M4 N7
          refine Gl.st st7 ?_
          show Gl p.tables e below _ (T7.setTop (mkF m 36 #[.val (.ref t), .val (.int q), .val (.int (Int32.ofNat i)), .val (.int (Int32.ofNat cs.length))] [(.int (Int32.ofNat v6))]))
          exact Gl.retI X7 hx Bd.returns (hb hby d9_36) hlk (by decide) (by decide) (by rw [e7]; exact (Or.inl ⟨v6, rfl, M7, rfl, y7_0⟩))
        · have M7 := Fr.app M4 N7
          refine Gl.st st7 ?_
          show Gl p.tables e below _ (T7.setTop (mkF m 36 #[.val (.ref t), .val (.int q), .val (.int (Int32.ofNat i)), .val (.int (Int32.ofNat cs.length))] [(.int (-1))]))
          exact Gl.retI X7 hx Bd.returns (hb hby d9_36) hlk (by decide) (by decide) (by rw [e7]; exact (Or.inr (⟨rfl, M7, rfl, y7_0⟩)))
      · have hno : Nowhere q cs i := fun k h1 h2 => absurd (n32_plt (i := i) (j := cs.length) (by omega) (by omega)) hc5
        refine Gl.st (fun _ kq => XS.icmpNo X4.here hx rfl (hb hby d9_24) rfl (flt (hc5 : ¬ ((Int32.ofNat i) < (Int32.ofNat cs.length)))).1 kq) ?_
        show Gl p.tables e below _ (T4.setTop (mkF m 27 #[.val (.ref t), .val (.int q), .val (.int (Int32.ofNat i)), .val (.int (Int32.ofNat cs.length))] []))
        refine Gl.st (fun _ kq => XS.iconst X4.here hx rfl (hb hby d9_27) kq) ?_
        show Gl p.tables e below _ (T4.setTop (mkF m 28 #[.val (.ref t), .val (.int q), .val (.int (Int32.ofNat i)), .val (.int (Int32.ofNat cs.length))] [(.int (-1))]))
        exact Gl.retI X4 hx Bd.returns (hb hby d9_28) hlk (by decide) (by decide) (by rw [e4]; exact (Or.inr (⟨rfl, M4, rfl, hno⟩)))
    · exact absurd y4_0 Int32.lt_irrefl
  · exact absurd y2_0 (n32_nn (by omega))
theorem d5_0 : decode jdk_42_method_80_code 0 = .ok (.aload_n 0, 1) := by decide +kernel
theorem d5_1 : decode jdk_42_method_80_code 1 = .ok (.invokevirtual 492, 3) := by decide +kernel
theorem d5_4 : decode jdk_42_method_80_code 4 = .ok (.ifCond .eq 19, 3) := by decide +kernel
theorem d5_7 : decode jdk_42_method_80_code 7 = .ok (.aload_n 0, 1) := by decide +kernel
theorem d5_8 : decode jdk_42_method_80_code 8 = .ok (.getfield 9, 3) := by decide +kernel
theorem d5_11 : decode jdk_42_method_80_code 11 = .ok (.iload_n 1, 1) := by decide +kernel
theorem d5_12 : decode jdk_42_method_80_code 12 = .ok (.iload_n 2, 1) := by decide +kernel
theorem d5_13 : decode jdk_42_method_80_code 13 = .ok (.aload_n 0, 1) := by decide +kernel
theorem d5_14 : decode jdk_42_method_80_code 14 = .ok (.invokevirtual 505, 3) := by decide +kernel
theorem d5_17 : decode jdk_42_method_80_code 17 = .ok (.invokestatic 637, 3) := by decide +kernel
theorem d5_20 : decode jdk_42_method_80_code 20 = .ok (.goto 16, 3) := by decide +kernel
theorem d5_36 : decode jdk_42_method_80_code 36 = .ok (.ireturn, 1) := by decide +kernel
theorem ef_sio (m : MethodId) (b : Addr) (q : Int32) (i : Nat) : entryFrame m #[(.ref b), (.int q), (.int (Int32.ofNat i))] 3 = mkF m 0 #[.val (.ref b), .val (.int q), .val (.int (Int32.ofNat i))] [] := by first | (simp [entryFrame, mkF, argsToLocals, Value.category]; done) | rfl
def Q_sio (Z : State) (b : Addr) (t : Addr) (k : ClassId) (cs : List Int32) (q : Int32) (i : Nat) (G1 : Int32) (h0 : Heap) (n0 : Nat) (v : Option Value) (h : Heap) (L : List Loc) : Prop := (∃ r : Nat, v = some (.int (Int32.ofNat r)) ∧ Fr n0 L ∧ h = h0 ∧ (First q cs i r)) ∨ (v = some (.int (-1)) ∧ Fr n0 L ∧ h = h0 ∧ (Nowhere q cs i))
set_option maxRecDepth 65536 in
set_option maxHeartbeats 40000000 in
theorem rm_sio (l : Launch) (Z : State) (a0 : Array Value) (hw : ∀ d ∈ tables_1, d.before a0 Z = true) (ws : List Jvm.Cond) (b : Addr) (t : Addr) (k : ClassId) (cs : List Int32) (q : Int32) (i : Nat) (G1 : Int32) (h0 : Heap) (n0 : Nat) (Z0 : n0 ≤ h0.size) (pf0 : Exa Z h0 b "java/lang/String") (pf1 : Fld Z h0 b "java/lang/String" "coder" "B" (.int 0)) (pf2 : Fld Z h0 b "java/lang/String" "value" "[B" (.ref t)) (pf3 : Arv Z h0 t k .byte (Int32.ofNat cs.length) ((cs.map (fun c => c.toInt8.toInt32)).map Value.int) (.int 0)) (pf4 : Old Z n0 h0) (hr : Rng cs) (hl : cs.length ≤ 4) (hq0 : ¬ (q < (0 : Int32))) (hq1 : ¬ ((255 : Int32) < q)) (hi : i ≤ cs.length) (O2 : Sta Z Z.heap "java/lang/String" "COMPACT_STRINGS" "Z" (.int G1)) (P5 : ¬ (G1 = (0 : Int32))) :
    MetFree l (⟨"java/lang/String", "indexOf", "(II)I"⟩ : MethodName) (head1 (Jvm.Cond.code (⟨"java/lang/String", "indexOf", "(II)I"⟩ : MethodName) jdk_42_method_80_code 3 (some .int) :: ws) ({ frames := 2, cells := 0, slots := 0, locals := 32 } : Room)) (fun aa U => aa = #[(.ref b), (.int q), (.int (Int32.ofNat i))] ∧ Z.Warmed39 U.vm ∧ U.heap = h0) (fun _ _ _ _ _ => True) (fun _ U o U' => ∃ v L, o = .returned v ∧ Q_sio Z b t k cs q i G1 h0 n0 v U'.heap L ∧ FrameEnd U o U' L ({ frames := 2, cells := 0, slots := 0, locals := 32 } : Room).cells ({ frames := 2, cells := 0, slots := 0, locals := 32 } : Room).slots) := by
  refine MetFree.of_bodySF (plainFor_of_name pn_java_lang_String) hisR ?_
  intro p e s m args below meth c s₁ Bd hml0 hP hK
  obtain ⟨rfl, hZ, hh⟩ := hP
  have hx := Bd.exec
  have hby := Bd.bytes
  have hlk : meth.locks = false := BodyLoose.notSynchronized Bd
  have hml : c.maxLocals = 3 := hml0
  have hown : s.vm.findClass "java/lang/String" = some m.cls := findClass_of_methodNamed Bd.named
  have hnm := (name_of_methodNamed Bd.named Bd.method).1
  have X0 : Stand p l e ({ frames := 2, cells := 0, slots := 0, locals := 32 } : Room) s m #[(.ref b), (.int q), (.int (Int32.ofNat i))] below meth c s₁ [] 0 0 := Stand.of_body Bd
  have e0 : s₁.heap = h0 := by rw [← hh, Bd.state]; rfl
  have N0 := Fr.nil n0
  show Gl p.tables e below (EndN s (Q_sio Z b t k cs q i G1 h0 n0) ({ frames := 2, cells := 0, slots := 0, locals := 32 } : Room).cells ({ frames := 2, cells := 0, slots := 0, locals := 32 } : Room).slots) _
  refine Gl.cast (ef_sio m b q i) ?_
  show Gl p.tables e below _ (s₁.setTop (mkF m 0 #[.val (.ref b), .val (.int q), .val (.int (Int32.ofNat i))] []))
  refine Gl.st (fun _ kq => XS.aloadN X0.here hx rfl (hb hby d5_0) rfl rfl kq) ?_
  show Gl p.tables e below _ (s₁.setTop (mkF m 1 #[.val (.ref b), .val (.int q), .val (.int (Int32.ofNat i))] [(.ref b)]))
  obtain ⟨cq1, kq1, q1a, q1b, q1c⟩ := isOf hZ e0 pf0
  obtain ⟨_, _, ⟨T1, L1, k1, n1⟩, -, X1, ⟨Lc1, hQ1, l1, y1, z1⟩, st1⟩ := X0.virtualBack hx (y := (⟨"java/lang/String", "isLatin1", "()Z"⟩ : MethodName)) (z := (⟨"java/lang/String", "isLatin1", "()Z"⟩ : MethodName)) hown (mvT hZ (tw hw 30 rfl)) (mvT hZ (tw hw 31 rfl)) (notFace_of_selects (args := #[]) (mvT hZ (tw hw 33 rfl))) (mvT hZ (tw hw 33 rfl)) (mvT hZ (tw hw 32 rfl)) (by decide) (backOf (W := 0) (rm_isl l Z a0 hw [] (b) (G1) h0 n0 Z0 pf1 pf4 O2 P5) hZ (tw hw 34 rfl) (tw hw 9 rfl) (by decide) (by decide)) q1a q1c (g := (mkF m 1 #[.val (.ref b), .val (.int q), .val (.int (Int32.ofNat i))] [(.ref b)])) rfl (by rw [hml]; rfl) (Steps.refl _) (argsL := []) (rest := []) (lenOf pd___Z rfl) rfl (by show 2 * 0 + _ ≤ _; exact Nat.le_of_eq rfl) (hb hby d5_1) (fun _ _ => ⟨rfl, e0, (by decide : 0 + 0 ≤ _), (by decide : 0 + 0 ≤ _)⟩)
  dsimp only [Pt.U, Pt.locs, Pt.cells, Pt.slots] at X1 l1 y1 z1 st1 hQ1
  subst l1 y1 z1
  obtain ⟨rfl, N1, e1⟩ := hQ1
  have M1 := Fr.app N0 N1
  refine Gl.to st1 ?_
  show Gl p.tables e below _ (T1.setTop (mkF m 4 #[.val (.ref b), .val (.int q), .val (.int (Int32.ofNat i))] [(.int 1)]))
  show Gl p.tables e below _ (T1.setTop (mkF m 4 #[.val (.ref b), .val (.int q), .val (.int (Int32.ofNat i))] [(.int 1)]))
  refine Gl.st (fun _ kq => XS.ifNo X1.here hx rfl (hb hby d5_4) rfl ((if0 _ _).trans (feq ((by decide) : ¬ ((1 : Int32) = (0 : Int32)))).1) kq) ?_
  show Gl p.tables e below _ (T1.setTop (mkF m 7 #[.val (.ref b), .val (.int q), .val (.int (Int32.ofNat i))] []))
  refine Gl.st (fun _ kq => XS.aloadN X1.here hx rfl (hb hby d5_7) rfl rfl kq) ?_
  show Gl p.tables e below _ (T1.setTop (mkF m 8 #[.val (.ref b), .val (.int q), .val (.int (Int32.ofNat i))] [(.ref b)]))
  obtain ⟨T2, X2, e2, st2⟩ := getF X1 hx hZ hown (host := "") (Or.inl (tw hw 37 rfl)) Via.refl e1 pf2 (g := (mkF m 8 #[.val (.ref b), .val (.int q), .val (.int (Int32.ofNat i))] [(.ref b)])) rfl rfl (hb hby d5_8)
  refine Gl.st st2 ?_
  show Gl p.tables e below _ (T2.setTop (mkF m 11 #[.val (.ref b), .val (.int q), .val (.int (Int32.ofNat i))] [(.ref t)]))
  refine Gl.st (fun _ kq => XS.iloadN X2.here hx rfl (hb hby d5_11) rfl kq) ?_
  show Gl p.tables e below _ (T2.setTop (mkF m 12 #[.val (.ref b), .val (.int q), .val (.int (Int32.ofNat i))] [(.int q), (.ref t)]))
  refine Gl.st (fun _ kq => XS.iloadN X2.here hx rfl (hb hby d5_12) rfl kq) ?_
  show Gl p.tables e below _ (T2.setTop (mkF m 13 #[.val (.ref b), .val (.int q), .val (.int (Int32.ofNat i))] [(.int (Int32.ofNat i)), (.int q), (.ref t)]))
  refine Gl.st (fun _ kq => XS.aloadN X2.here hx rfl (hb hby d5_13) rfl rfl kq) ?_
  show Gl p.tables e below _ (T2.setTop (mkF m 14 #[.val (.ref b), .val (.int q), .val (.int (Int32.ofNat i))] [(.ref b), (.int (Int32.ofNat i)), (.int q), (.ref t)]))
  obtain ⟨cq3, kq3, q3a, q3b, q3c⟩ := isOf hZ e2 pf0
  obtain ⟨_, _, ⟨T3, L3, k3, n3⟩, -, X3, ⟨Lc3, hQ3, l3, y3, z3⟩, st3⟩ := X2.virtualBack hx (y := (⟨"java/lang/String", "length", "()I"⟩ : MethodName)) (z := (⟨"java/lang/String", "length", "()I"⟩ : MethodName)) hown (mvT hZ (tw hw 38 rfl)) (mvT hZ (tw hw 39 rfl)) (notFace_of_selects (args := #[]) (mvT hZ (tw hw 41 rfl))) (mvT hZ (tw hw 41 rfl)) (mvT hZ (tw hw 40 rfl)) (by decide) (StrChars.Road.lenW (W := 3) hZ (wdLen hw) (kI := 4) (tw hw 10 rfl) pf0 pf2 pf1 pf3 (StrChars.Road.codOf (cs := cs) rfl (fun x hx => (hr x hx).2)) (up255 _ hr) (O2.ext pf4.2) P5 (Nat.le_trans hl (by decide)) (by decide) (by decide)) q3a q3c (g := (mkF m 14 #[.val (.ref b), .val (.int q), .val (.int (Int32.ofNat i))] [(.ref b), (.int (Int32.ofNat i)), (.int q), (.ref t)])) rfl (by rw [hml]; rfl) (Steps.refl _) (argsL := []) (rest := [(.int (Int32.ofNat i)), (.int q), (.ref t)]) (lenOf pd___I rfl) rfl (by show 2 * 0 + _ ≤ _; exact Nat.le_of_eq rfl) (hb hby d5_14) (fun _ _ => ⟨rfl, e2, (by decide : 0 + 0 ≤ _), (by decide : 0 + 0 ≤ _)⟩)
  dsimp only [Pt.U, Pt.locs, Pt.cells, Pt.slots] at X3 l3 y3 z3 st3 hQ3
  subst l3 y3 z3
  obtain ⟨rfl, rfl, e3⟩ := hQ3
  have N3 : Fr n0 ([] : List Loc) := Fr.nil n0
  have M3 := Fr.app M1 N3
  refine Gl.to st3 ?_
  show Gl p.tables e below _ (T3.setTop (mkF m 17 #[.val (.ref b), .val (.int q), .val (.int (Int32.ofNat i))] [(.int (Int32.ofNat cs.length)), (.int (Int32.ofNat i)), (.int q), (.ref t)]))
  show Gl p.tables e below _ (T3.setTop (mkF m 17 #[.val (.ref b), .val (.int q), .val (.int (Int32.ofNat i))] [(.int (Int32.ofNat cs.length)), (.int (Int32.ofNat i)), (.int q), (.ref t)]))
  obtain ⟨_, _, ⟨T5, L5, k5, n5⟩, -, X5, ⟨Lc5, hQ5, l5, y5, z5⟩, st5⟩ := Jvm.LawKit.callS X3 hx (y := (⟨"java/lang/StringLatin1", "indexOf", "([BIII)I"⟩ : MethodName)) hown (mvT hZ (tw hw 48 rfl)) (mvT hZ (tw hw 49 rfl)) (mvT hZ (tw hw 50 rfl)) (mvT hZ (tw hw 51 rfl)) (by decide) (backOf (W := 0) (rm_lio l Z a0 hw [] (t) (k) (cs) (q) (i) h0 n0 Z0 pf3 hr hl hq0 hq1 hi) hZ (tw hw 51 rfl) (tw hw 50 rfl) (by decide) (by decide)) (g := (mkF m 17 #[.val (.ref b), .val (.int q), .val (.int (Int32.ofNat i))] [(.int (Int32.ofNat cs.length)), (.int (Int32.ofNat i)), (.int q), (.ref t)])) rfl (by rw [hml]; rfl) (argsL := [(.ref t), (.int q), (.int (Int32.ofNat i)), (.int (Int32.ofNat cs.length))]) (rest := []) (lenOf pd___BIII_I rfl) rfl (by show 2 * 0 + _ ≤ _; exact Nat.le_of_eq rfl) (hb hby d5_17) (fun _ _ => ⟨rfl, e3, (by decide : 0 + 0 ≤ _), (by decide : 0 + 0 ≤ _)⟩)
  dsimp only [Pt.U, Pt.locs, Pt.cells, Pt.slots] at X5 l5 y5 z5 st5 hQ5
  subst l5 y5 z5
  rcases hQ5 with ⟨v4, rfl, N5, e5, y5_0⟩ | ⟨rfl, N5, e5, y5_0⟩
  · have M5 := Fr.app M3 N5
    refine Gl.st st5 ?_
    show Gl p.tables e below _ (T5.setTop (mkF m 20 #[.val (.ref b), .val (.int q), .val (.int (Int32.ofNat i))] [(.int (Int32.ofNat v4))]))
    refine Gl.st (fun _ kq => XS.goto X5.here hx rfl (pc0 := 20) (pc' := 36) rfl (hb hby d5_20) (by decide) (by decide) kq) ?_
    show Gl p.tables e below _ (T5.setTop (mkF m 36 #[.val (.ref b), .val (.int q), .val (.int (Int32.ofNat i))] [(.int (Int32.ofNat v4))]))
    exact Gl.retI X5 hx Bd.returns (hb hby d5_36) hlk (by decide) (by decide) (by rw [e5]; exact (Or.inl ⟨v4, rfl, M5, rfl, y5_0⟩))
  · have M5 := Fr.app M3 N5
    refine Gl.st st5 ?_
    show Gl p.tables e below _ (T5.setTop (mkF m 20 #[.val (.ref b), .val (.int q), .val (.int (Int32.ofNat i))] [(.int (-1))]))
    refine Gl.st (fun _ kq => XS.goto X5.here hx rfl (pc0 := 20) (pc' := 36) rfl (hb hby d5_20) (by decide) (by decide) kq) ?_
    show Gl p.tables e below _ (T5.setTop (mkF m 36 #[.val (.ref b), .val (.int q), .val (.int (Int32.ofNat i))] [(.int (-1))]))
    exact Gl.retI X5 hx Bd.returns (hb hby d5_36) hlk (by decide) (by decide) (by rw [e5]; exact (Or.inr (⟨rfl, M5, rfl, y5_0⟩)))
theorem d4_0 : decode jdk_42_method_79_code 0 = .ok (.aload_n 0, 1) := by decide +kernel
theorem d4_1 : decode jdk_42_method_79_code 1 = .ok (.iload_n 1, 1) := by decide +kernel
theorem d4_2 : decode jdk_42_method_79_code 2 = .ok (.iconst 0, 1) := by decide +kernel
theorem d4_3 : decode jdk_42_method_79_code 3 = .ok (.invokevirtual 633, 3) := by decide +kernel
theorem d4_6 : decode jdk_42_method_79_code 6 = .ok (.ireturn, 1) := by decide +kernel
theorem ef_sio1 (m : MethodId) (b : Addr) (q : Int32) : entryFrame m #[(.ref b), (.int q)] 2 = mkF m 0 #[.val (.ref b), .val (.int q)] [] := by first | (simp [entryFrame, mkF, argsToLocals, Value.category]; done) | rfl
def Q_sio1 (Z : State) (b : Addr) (t : Addr) (k : ClassId) (cs : List Int32) (q : Int32) (G1 : Int32) (h0 : Heap) (n0 : Nat) (v : Option Value) (h : Heap) (L : List Loc) : Prop := (∃ r : Nat, v = some (.int (Int32.ofNat r)) ∧ Fr n0 L ∧ h = h0 ∧ (First q cs 0 r)) ∨ (v = some (.int (-1)) ∧ Fr n0 L ∧ h = h0 ∧ (Nowhere q cs 0))
set_option maxRecDepth 65536 in
set_option maxHeartbeats 40000000 in
theorem rm_sio1 (l : Launch) (Z : State) (a0 : Array Value) (hw : ∀ d ∈ tables_1, d.before a0 Z = true) (ws : List Jvm.Cond) (b : Addr) (t : Addr) (k : ClassId) (cs : List Int32) (q : Int32) (G1 : Int32) (h0 : Heap) (n0 : Nat) (Z0 : n0 ≤ h0.size) (pf0 : Exa Z h0 b "java/lang/String") (pf1 : Fld Z h0 b "java/lang/String" "coder" "B" (.int 0)) (pf2 : Fld Z h0 b "java/lang/String" "value" "[B" (.ref t)) (pf3 : Arv Z h0 t k .byte (Int32.ofNat cs.length) ((cs.map (fun c => c.toInt8.toInt32)).map Value.int) (.int 0)) (pf4 : Old Z n0 h0) (hr : Rng cs) (hl : cs.length ≤ 4) (hq0 : ¬ (q < (0 : Int32))) (hq1 : ¬ ((255 : Int32) < q)) (O2 : Sta Z Z.heap "java/lang/String" "COMPACT_STRINGS" "Z" (.int G1)) (P5 : ¬ (G1 = (0 : Int32))) :
    MetFree l (⟨"java/lang/String", "indexOf", "(I)I"⟩ : MethodName) (head1 (Jvm.Cond.code (⟨"java/lang/String", "indexOf", "(I)I"⟩ : MethodName) jdk_42_method_79_code 2 (some .int) :: ws) ({ frames := 3, cells := 0, slots := 0, locals := 46 } : Room)) (fun aa U => aa = #[(.ref b), (.int q)] ∧ Z.Warmed39 U.vm ∧ U.heap = h0) (fun _ _ _ _ _ => True) (fun _ U o U' => ∃ v L, o = .returned v ∧ Q_sio1 Z b t k cs q G1 h0 n0 v U'.heap L ∧ FrameEnd U o U' L ({ frames := 3, cells := 0, slots := 0, locals := 46 } : Room).cells ({ frames := 3, cells := 0, slots := 0, locals := 46 } : Room).slots) := by
  refine MetFree.of_bodySF (plainFor_of_name pn_java_lang_String) hisR ?_
  intro p e s m args below meth c s₁ Bd hml0 hP hK
  obtain ⟨rfl, hZ, hh⟩ := hP
  have hx := Bd.exec
  have hby := Bd.bytes
  have hlk : meth.locks = false := BodyLoose.notSynchronized Bd
  have hml : c.maxLocals = 2 := hml0
  have hown : s.vm.findClass "java/lang/String" = some m.cls := findClass_of_methodNamed Bd.named
  have hnm := (name_of_methodNamed Bd.named Bd.method).1
  have X0 : Stand p l e ({ frames := 3, cells := 0, slots := 0, locals := 46 } : Room) s m #[(.ref b), (.int q)] below meth c s₁ [] 0 0 := Stand.of_body Bd
  have e0 : s₁.heap = h0 := by rw [← hh, Bd.state]; rfl
  have N0 := Fr.nil n0
  show Gl p.tables e below (EndN s (Q_sio1 Z b t k cs q G1 h0 n0) ({ frames := 3, cells := 0, slots := 0, locals := 46 } : Room).cells ({ frames := 3, cells := 0, slots := 0, locals := 46 } : Room).slots) _
  refine Gl.cast (ef_sio1 m b q) ?_
  show Gl p.tables e below _ (s₁.setTop (mkF m 0 #[.val (.ref b), .val (.int q)] []))
  refine Gl.st (fun _ kq => XS.aloadN X0.here hx rfl (hb hby d4_0) rfl rfl kq) ?_
  show Gl p.tables e below _ (s₁.setTop (mkF m 1 #[.val (.ref b), .val (.int q)] [(.ref b)]))
  refine Gl.st (fun _ kq => XS.iloadN X0.here hx rfl (hb hby d4_1) rfl kq) ?_
  show Gl p.tables e below _ (s₁.setTop (mkF m 2 #[.val (.ref b), .val (.int q)] [(.int q), (.ref b)]))
  refine Gl.st (fun _ kq => XS.iconst X0.here hx rfl (hb hby d4_2) kq) ?_
  show Gl p.tables e below _ (s₁.setTop (mkF m 3 #[.val (.ref b), .val (.int q)] [(.int 0), (.int q), (.ref b)]))
  obtain ⟨cq2, kq2, q2a, q2b, q2c⟩ := isOf hZ e0 pf0
  obtain ⟨_, _, ⟨T2, L2, k2, n2⟩, -, X2, ⟨Lc2, hQ2, l2, y2, z2⟩, st2⟩ := X0.virtualBack hx (y := (⟨"java/lang/String", "indexOf", "(II)I"⟩ : MethodName)) (z := (⟨"java/lang/String", "indexOf", "(II)I"⟩ : MethodName)) hown (mvT hZ (tw hw 25 rfl)) (mvT hZ (tw hw 26 rfl)) (notFace_of_selects (args := #[]) (mvT hZ (tw hw 28 rfl))) (mvT hZ (tw hw 28 rfl)) (mvT hZ (tw hw 27 rfl)) (by decide) (backOf (W := 0) (rm_sio l Z a0 hw [] (b) (t) (k) (cs) (q) (0) (G1) h0 n0 Z0 pf0 pf1 pf2 pf3 pf4 hr hl hq0 hq1 (by omega) O2 P5) hZ (tw hw 29 rfl) (tw hw 9 rfl) (by decide) (by decide)) q2a q2c (g := (mkF m 3 #[.val (.ref b), .val (.int q)] [(.int 0), (.int q), (.ref b)])) rfl (by rw [hml]; rfl) (Steps.refl _) (argsL := [(.int q), (.int 0)]) (rest := []) (lenOf pd__II_I rfl) rfl (by show 2 * 0 + _ ≤ _; exact Nat.le_of_eq rfl) (hb hby d4_3) (fun _ _ => ⟨rfl, e0, (by decide : 0 + 0 ≤ _), (by decide : 0 + 0 ≤ _)⟩)
  dsimp only [Pt.U, Pt.locs, Pt.cells, Pt.slots] at X2 l2 y2 z2 st2 hQ2
  subst l2 y2 z2
  rcases hQ2 with ⟨v1, rfl, N2, e2, y2_0⟩ | ⟨rfl, N2, e2, y2_0⟩
  · have M2 := Fr.app N0 N2
    refine Gl.to st2 ?_
    show Gl p.tables e below _ (T2.setTop (mkF m 6 #[.val (.ref b), .val (.int q)] [(.int (Int32.ofNat v1))]))
    exact Gl.retI X2 hx Bd.returns (hb hby d4_6) hlk (by decide) (by decide) (by rw [e2]; exact (Or.inl ⟨v1, rfl, M2, rfl, y2_0⟩))
  · have M2 := Fr.app N0 N2
    refine Gl.to st2 ?_
    show Gl p.tables e below _ (T2.setTop (mkF m 6 #[.val (.ref b), .val (.int q)] [(.int (-1))]))
    exact Gl.retI X2 hx Bd.returns (hb hby d4_6) hlk (by decide) (by decide) (by rw [e2]; exact (Or.inr (⟨rfl, M2, rfl, y2_0⟩)))
theorem d22_0 : decode jdk_41_method_12_code 0 = .ok (.iload_n 0, 1) := by decide +kernel
theorem d22_1 : decode jdk_41_method_12_code 1 = .ok (.ifCond .lt 13, 3) := by decide +kernel
theorem d22_4 : decode jdk_41_method_12_code 4 = .ok (.iload_n 0, 1) := by decide +kernel
theorem d22_5 : decode jdk_41_method_12_code 5 = .ok (.iload_n 1, 1) := by decide +kernel
theorem d22_6 : decode jdk_41_method_12_code 6 = .ok (.if_icmp .gt 8, 3) := by decide +kernel
theorem d22_9 : decode jdk_41_method_12_code 9 = .ok (.iload_n 1, 1) := by decide +kernel
theorem d22_10 : decode jdk_41_method_12_code 10 = .ok (.iload_n 2, 1) := by decide +kernel
theorem d22_11 : decode jdk_41_method_12_code 11 = .ok (.if_icmp .le 11, 3) := by decide +kernel
theorem d22_22 : decode jdk_41_method_12_code 22 = .ok (.iload_n 0, 1) := by decide +kernel
theorem d22_23 : decode jdk_41_method_12_code 23 = .ok (.ireturn, 1) := by decide +kernel
theorem ef_cft (m : MethodId) (x : Nat) (y : Nat) (n : Nat) (fm : Value) (hfm : fm.isRef = true) : entryFrame m #[(.int (Int32.ofNat x)), (.int (Int32.ofNat y)), (.int (Int32.ofNat n)), fm] 4 = mkF m 0 #[.val (.int (Int32.ofNat x)), .val (.int (Int32.ofNat y)), .val (.int (Int32.ofNat n)), .val fm] [] := by simp [entryFrame, mkF, argsToLocals, refc hfm, show ∀ a, (Value.ref a).category = 1 from fun _ => rfl, show ∀ a, (Value.int a).category = 1 from fun _ => rfl]
def Q_cft (Z : State) (x : Nat) (y : Nat) (n : Nat) (fm : Value) (h0 : Heap) (n0 : Nat) (v : Option Value) (h : Heap) (L : List Loc) : Prop := (v = some (.int (Int32.ofNat x)) ∧ Fr n0 L ∧ h = h0)
set_option maxRecDepth 65536 in
set_option maxHeartbeats 40000000 in
theorem rm_cft (l : Launch) (Z : State) (a0 : Array Value) (hw : ∀ d ∈ tables_1, d.before a0 Z = true) (ws : List Jvm.Cond) (x : Nat) (y : Nat) (n : Nat) (fm : Value) (h0 : Heap) (n0 : Nat) (Z0 : n0 ≤ h0.size) (h1 : ¬ ((Int32.ofNat x) < (0 : Int32))) (h2 : ¬ ((Int32.ofNat y) < (Int32.ofNat x))) (h3 : ¬ ((Int32.ofNat n) < (Int32.ofNat y))) (hf : fm.isRef = true) :
    MetFree l (⟨"jdk/internal/util/Preconditions", "checkFromToIndex", "(IIILjava/util/function/BiFunction;)I"⟩ : MethodName) (head1 (Jvm.Cond.code (⟨"jdk/internal/util/Preconditions", "checkFromToIndex", "(IIILjava/util/function/BiFunction;)I"⟩ : MethodName) jdk_41_method_12_code 4 (some .int) :: ws) ({ frames := 0, cells := 0, slots := 0, locals := 0 } : Room)) (fun aa U => aa = #[(.int (Int32.ofNat x)), (.int (Int32.ofNat y)), (.int (Int32.ofNat n)), fm] ∧ Z.Warmed39 U.vm ∧ U.heap = h0) (fun _ _ _ _ _ => True) (fun _ U o U' => ∃ v L, o = .returned v ∧ Q_cft Z x y n fm h0 n0 v U'.heap L ∧ FrameEnd U o U' L ({ frames := 0, cells := 0, slots := 0, locals := 0 } : Room).cells ({ frames := 0, cells := 0, slots := 0, locals := 0 } : Room).slots) := by
  refine MetFree.of_bodySF (plainFor_of_name pn_jdk_internal_util_Preconditions) hisR ?_
  intro p e s m args below meth c s₁ Bd hml0 hP hK
  obtain ⟨rfl, hZ, hh⟩ := hP
  have hx := Bd.exec
  have hby := Bd.bytes
  have hlk : meth.locks = false := BodyLoose.notSynchronized Bd
  have hml : c.maxLocals = 4 := hml0
  have hown : s.vm.findClass "jdk/internal/util/Preconditions" = some m.cls := findClass_of_methodNamed Bd.named
  have hnm := (name_of_methodNamed Bd.named Bd.method).1
  have X0 : Stand p l e ({ frames := 0, cells := 0, slots := 0, locals := 0 } : Room) s m #[(.int (Int32.ofNat x)), (.int (Int32.ofNat y)), (.int (Int32.ofNat n)), fm] below meth c s₁ [] 0 0 := Stand.of_body Bd
  have e0 : s₁.heap = h0 := by rw [← hh, Bd.state]; rfl
  have N0 := Fr.nil n0
  show Gl p.tables e below (EndN s (Q_cft Z x y n fm h0 n0) ({ frames := 0, cells := 0, slots := 0, locals := 0 } : Room).cells ({ frames := 0, cells := 0, slots := 0, locals := 0 } : Room).slots) _
  refine Gl.cast (ef_cft m x y n fm hf) ?_
  show Gl p.tables e below _ (s₁.setTop (mkF m 0 #[.val (.int (Int32.ofNat x)), .val (.int (Int32.ofNat y)), .val (.int (Int32.ofNat n)), .val fm] []))
  refine Gl.st (fun _ kq => XS.iloadN X0.here hx rfl (hb hby d22_0) rfl kq) ?_
  show Gl p.tables e below _ (s₁.setTop (mkF m 1 #[.val (.int (Int32.ofNat x)), .val (.int (Int32.ofNat y)), .val (.int (Int32.ofNat n)), .val fm] [(.int (Int32.ofNat x))]))
  refine Gl.st (fun _ kq => XS.ifNo X0.here hx rfl (hb hby d22_1) rfl ((if0 _ _).trans (flt (h1 : ¬ ((Int32.ofNat x) < (0 : Int32)))).1) kq) ?_
  show Gl p.tables e below _ (s₁.setTop (mkF m 4 #[.val (.int (Int32.ofNat x)), .val (.int (Int32.ofNat y)), .val (.int (Int32.ofNat n)), .val fm] []))
  refine Gl.st (fun _ kq => XS.iloadN X0.here hx rfl (hb hby d22_4) rfl kq) ?_
  show Gl p.tables e below _ (s₁.setTop (mkF m 5 #[.val (.int (Int32.ofNat x)), .val (.int (Int32.ofNat y)), .val (.int (Int32.ofNat n)), .val fm] [(.int (Int32.ofNat x))]))
  refine Gl.st (fun _ kq => XS.iloadN X0.here hx rfl (hb hby d22_5) rfl kq) ?_
  show Gl p.tables e below _ (s₁.setTop (mkF m 6 #[.val (.int (Int32.ofNat x)), .val (.int (Int32.ofNat y)), .val (.int (Int32.ofNat n)), .val fm] [(.int (Int32.ofNat y)), (.int (Int32.ofNat x))]))
  refine Gl.st (fun _ kq => XS.icmpNo X0.here hx rfl (hb hby d22_6) rfl (flt (h2 : ¬ ((Int32.ofNat y) < (Int32.ofNat x)))).2.2.1 kq) ?_
  show Gl p.tables e below _ (s₁.setTop (mkF m 9 #[.val (.int (Int32.ofNat x)), .val (.int (Int32.ofNat y)), .val (.int (Int32.ofNat n)), .val fm] []))
  refine Gl.st (fun _ kq => XS.iloadN X0.here hx rfl (hb hby d22_9) rfl kq) ?_
  show Gl p.tables e below _ (s₁.setTop (mkF m 10 #[.val (.int (Int32.ofNat x)), .val (.int (Int32.ofNat y)), .val (.int (Int32.ofNat n)), .val fm] [(.int (Int32.ofNat y))]))
  refine Gl.st (fun _ kq => XS.iloadN X0.here hx rfl (hb hby d22_10) rfl kq) ?_
  show Gl p.tables e below _ (s₁.setTop (mkF m 11 #[.val (.int (Int32.ofNat x)), .val (.int (Int32.ofNat y)), .val (.int (Int32.ofNat n)), .val fm] [(.int (Int32.ofNat n)), (.int (Int32.ofNat y))]))
  refine Gl.st (fun _ kq => XS.icmpYes X0.here hx rfl (pc0 := 11) (pc' := 22) rfl (hb hby d22_11) rfl (flt (h3 : ¬ ((Int32.ofNat n) < (Int32.ofNat y)))).2.2.2 (by decide) (by decide) kq) ?_
  show Gl p.tables e below _ (s₁.setTop (mkF m 22 #[.val (.int (Int32.ofNat x)), .val (.int (Int32.ofNat y)), .val (.int (Int32.ofNat n)), .val fm] []))
  refine Gl.st (fun _ kq => XS.iloadN X0.here hx rfl (hb hby d22_22) rfl kq) ?_
  show Gl p.tables e below _ (s₁.setTop (mkF m 23 #[.val (.int (Int32.ofNat x)), .val (.int (Int32.ofNat y)), .val (.int (Int32.ofNat n)), .val fm] [(.int (Int32.ofNat x))]))
  exact Gl.retI X0 hx Bd.returns (hb hby d22_23) hlk (by decide) (by decide) (by rw [e0]; exact ⟨rfl, N0, rfl⟩)
theorem d21_0 : decode jdk_42_method_158_code 0 = .ok (.iload_n 0, 1) := by decide +kernel
theorem d21_1 : decode jdk_42_method_158_code 1 = .ok (.iload_n 1, 1) := by decide +kernel
theorem d21_2 : decode jdk_42_method_158_code 2 = .ok (.iload_n 2, 1) := by decide +kernel
theorem d21_3 : decode jdk_42_method_158_code 3 = .ok (.getstatic 1053, 3) := by decide +kernel
theorem d21_6 : decode jdk_42_method_158_code 6 = .ok (.invokestatic 1062, 3) := by decide +kernel
theorem d21_9 : decode jdk_42_method_158_code 9 = .ok (.pop, 1) := by decide +kernel
theorem d21_10 : decode jdk_42_method_158_code 10 = .ok (.return_, 1) := by decide +kernel
theorem ef_cbe (m : MethodId) (x : Nat) (y : Nat) (n : Nat) : entryFrame m #[(.int (Int32.ofNat x)), (.int (Int32.ofNat y)), (.int (Int32.ofNat n))] 3 = mkF m 0 #[.val (.int (Int32.ofNat x)), .val (.int (Int32.ofNat y)), .val (.int (Int32.ofNat n))] [] := by first | (simp [entryFrame, mkF, argsToLocals, Value.category]; done) | rfl
def Q_cbe (Z : State) (x : Nat) (y : Nat) (n : Nat) (G3 : Value) (h0 : Heap) (n0 : Nat) (v : Option Value) (h : Heap) (L : List Loc) : Prop := (v = none ∧ Fr n0 L ∧ h = h0)
set_option maxRecDepth 65536 in
set_option maxHeartbeats 40000000 in
theorem rm_cbe (l : Launch) (Z : State) (a0 : Array Value) (hw : ∀ d ∈ tables_1, d.before a0 Z = true) (ws : List Jvm.Cond) (x : Nat) (y : Nat) (n : Nat) (G3 : Value) (h0 : Heap) (n0 : Nat) (Z0 : n0 ≤ h0.size) (pf0 : Old Z n0 h0) (h1 : ¬ ((Int32.ofNat x) < (0 : Int32))) (h2 : ¬ ((Int32.ofNat y) < (Int32.ofNat x))) (h3 : ¬ ((Int32.ofNat n) < (Int32.ofNat y))) (O4 : Sta Z Z.heap "jdk/internal/util/Preconditions" "SIOOBE_FORMATTER" "Ljava/util/function/BiFunction;" G3) (rG3 : G3.isRef = true) :
    MetFree l (⟨"java/lang/String", "checkBoundsBeginEnd", "(III)V"⟩ : MethodName) (head1 (Jvm.Cond.code (⟨"java/lang/String", "checkBoundsBeginEnd", "(III)V"⟩ : MethodName) jdk_42_method_158_code 3 none :: ws) ({ frames := 1, cells := 0, slots := 0, locals := 15 } : Room)) (fun aa U => aa = #[(.int (Int32.ofNat x)), (.int (Int32.ofNat y)), (.int (Int32.ofNat n))] ∧ Z.Warmed39 U.vm ∧ U.heap = h0) (fun _ _ _ _ _ => True) (fun _ U o U' => ∃ v L, o = .returned v ∧ Q_cbe Z x y n G3 h0 n0 v U'.heap L ∧ FrameEnd U o U' L ({ frames := 1, cells := 0, slots := 0, locals := 15 } : Room).cells ({ frames := 1, cells := 0, slots := 0, locals := 15 } : Room).slots) := by
  refine MetFree.of_bodySF (plainFor_of_name pn_java_lang_String) hisR ?_
  intro p e s m args below meth c s₁ Bd hml0 hP hK
  obtain ⟨rfl, hZ, hh⟩ := hP
  have hx := Bd.exec
  have hby := Bd.bytes
  have hlk : meth.locks = false := BodyLoose.notSynchronized Bd
  have hml : c.maxLocals = 3 := hml0
  have hown : s.vm.findClass "java/lang/String" = some m.cls := findClass_of_methodNamed Bd.named
  have hnm := (name_of_methodNamed Bd.named Bd.method).1
  have X0 : Stand p l e ({ frames := 1, cells := 0, slots := 0, locals := 15 } : Room) s m #[(.int (Int32.ofNat x)), (.int (Int32.ofNat y)), (.int (Int32.ofNat n))] below meth c s₁ [] 0 0 := Stand.of_body Bd
  have e0 : s₁.heap = h0 := by rw [← hh, Bd.state]; rfl
  have N0 := Fr.nil n0
  show Gl p.tables e below (EndN s (Q_cbe Z x y n G3 h0 n0) ({ frames := 1, cells := 0, slots := 0, locals := 15 } : Room).cells ({ frames := 1, cells := 0, slots := 0, locals := 15 } : Room).slots) _
  refine Gl.cast (ef_cbe m x y n) ?_
  show Gl p.tables e below _ (s₁.setTop (mkF m 0 #[.val (.int (Int32.ofNat x)), .val (.int (Int32.ofNat y)), .val (.int (Int32.ofNat n))] []))
  refine Gl.st (fun _ kq => XS.iloadN X0.here hx rfl (hb hby d21_0) rfl kq) ?_
  show Gl p.tables e below _ (s₁.setTop (mkF m 1 #[.val (.int (Int32.ofNat x)), .val (.int (Int32.ofNat y)), .val (.int (Int32.ofNat n))] [(.int (Int32.ofNat x))]))
  refine Gl.st (fun _ kq => XS.iloadN X0.here hx rfl (hb hby d21_1) rfl kq) ?_
  show Gl p.tables e below _ (s₁.setTop (mkF m 2 #[.val (.int (Int32.ofNat x)), .val (.int (Int32.ofNat y)), .val (.int (Int32.ofNat n))] [(.int (Int32.ofNat y)), (.int (Int32.ofNat x))]))
  refine Gl.st (fun _ kq => XS.iloadN X0.here hx rfl (hb hby d21_2) rfl kq) ?_
  show Gl p.tables e below _ (s₁.setTop (mkF m 3 #[.val (.int (Int32.ofNat x)), .val (.int (Int32.ofNat y)), .val (.int (Int32.ofNat n))] [(.int (Int32.ofNat n)), (.int (Int32.ofNat y)), (.int (Int32.ofNat x))]))
  obtain ⟨T1, X1, e1, st1⟩ := getS2 X0 hx hZ hown (host := "") (Or.inl (tw hw 95 rfl)) Via.refl e0 (O4.ext pf0.2) (g := (mkF m 3 #[.val (.int (Int32.ofNat x)), .val (.int (Int32.ofNat y)), .val (.int (Int32.ofNat n))] [(.int (Int32.ofNat n)), (.int (Int32.ofNat y)), (.int (Int32.ofNat x))])) rfl (hb hby d21_3)
  refine Gl.st st1 ?_
  show Gl p.tables e below _ (T1.setTop (mkF m 6 #[.val (.int (Int32.ofNat x)), .val (.int (Int32.ofNat y)), .val (.int (Int32.ofNat n))] [G3, (.int (Int32.ofNat n)), (.int (Int32.ofNat y)), (.int (Int32.ofNat x))]))
  obtain ⟨_, _, ⟨T2, L2, k2, n2⟩, -, X2, ⟨Lc2, hQ2, l2, y2, z2⟩, st2⟩ := Jvm.LawKit.callS X1 hx (y := (⟨"jdk/internal/util/Preconditions", "checkFromToIndex", "(IIILjava/util/function/BiFunction;)I"⟩ : MethodName)) hown (mvT hZ (tw hw 97 rfl)) (mvT hZ (tw hw 98 rfl)) (mvT hZ (tw hw 96 rfl)) (mvT hZ (tw hw 99 rfl)) (by decide) (backOf (W := 0) (rm_cft l Z a0 hw [] (x) (y) (n) (G3) h0 n0 Z0 h1 h2 h3 rG3) hZ (tw hw 99 rfl) (tw hw 96 rfl) (by decide) (by decide)) (g := (mkF m 6 #[.val (.int (Int32.ofNat x)), .val (.int (Int32.ofNat y)), .val (.int (Int32.ofNat n))] [G3, (.int (Int32.ofNat n)), (.int (Int32.ofNat y)), (.int (Int32.ofNat x))])) rfl (by rw [hml]; rfl) (argsL := [(.int (Int32.ofNat x)), (.int (Int32.ofNat y)), (.int (Int32.ofNat n)), G3]) (rest := []) (lenOf pd__IIILjava_util_function_BiFunction__I rfl) rfl (by show 2 * 0 + _ ≤ _; exact Nat.le_of_eq rfl) (hb hby d21_6) (fun _ _ => ⟨rfl, e1, (by decide : 0 + 0 ≤ _), (by decide : 0 + 0 ≤ _)⟩)
  dsimp only [Pt.U, Pt.locs, Pt.cells, Pt.slots] at X2 l2 y2 z2 st2 hQ2
  subst l2 y2 z2
  obtain ⟨rfl, N2, e2⟩ := hQ2
  have M2 := Fr.app N0 N2
  refine Gl.st st2 ?_
  show Gl p.tables e below _ (T2.setTop (mkF m 9 #[.val (.int (Int32.ofNat x)), .val (.int (Int32.ofNat y)), .val (.int (Int32.ofNat n))] [(.int (Int32.ofNat x))]))
  show Gl p.tables e below _ (T2.setTop (mkF m 9 #[.val (.int (Int32.ofNat x)), .val (.int (Int32.ofNat y)), .val (.int (Int32.ofNat n))] [(.int (Int32.ofNat x))]))
  refine Gl.st (fun _ kq => XS.pop X2.here hx rfl (hb hby d21_9) rfl rfl kq) ?_
  show Gl p.tables e below _ (T2.setTop (mkF m 10 #[.val (.int (Int32.ofNat x)), .val (.int (Int32.ofNat y)), .val (.int (Int32.ofNat n))] []))
  exact Gl.ret0 X2 hx Bd.returns (hb hby d21_10) hlk (by decide) (by decide) (by rw [e2]; exact ⟨rfl, M2, rfl⟩)
theorem d31_0 : decode jdk_65_method_131_code 0 = .ok (.iload_n 1, 1) := by decide +kernel
theorem d31_1 : decode jdk_65_method_131_code 1 = .ok (.iload_n 0, 1) := by decide +kernel
theorem d31_2 : decode jdk_65_method_131_code 2 = .ok (.if_icmp .ge 35, 3) := by decide +kernel
theorem d31_37 : decode jdk_65_method_131_code 37 = .ok (.return_, 1) := by decide +kernel
theorem ef_ckl (m : MethodId) (x : Nat) (y : Nat) : entryFrame m #[(.int (Int32.ofNat x)), (.int (Int32.ofNat y))] 2 = mkF m 0 #[.val (.int (Int32.ofNat x)), .val (.int (Int32.ofNat y))] [] := by first | (simp [entryFrame, mkF, argsToLocals, Value.category]; done) | rfl
def Q_ckl (Z : State) (x : Nat) (y : Nat) (h0 : Heap) (n0 : Nat) (v : Option Value) (h : Heap) (L : List Loc) : Prop := (v = none ∧ Fr n0 L ∧ h = h0)
set_option maxRecDepth 65536 in
set_option maxHeartbeats 40000000 in
theorem rm_ckl (l : Launch) (Z : State) (a0 : Array Value) (hw : ∀ d ∈ tables_1, d.before a0 Z = true) (ws : List Jvm.Cond) (x : Nat) (y : Nat) (h0 : Heap) (n0 : Nat) (Z0 : n0 ≤ h0.size) (h1 : ¬ ((Int32.ofNat y) < (Int32.ofNat x))) :
    MetFree l (⟨"java/util/Arrays", "checkLength", "(II)V"⟩ : MethodName) (head1 (Jvm.Cond.code (⟨"java/util/Arrays", "checkLength", "(II)V"⟩ : MethodName) jdk_65_method_131_code 2 none :: ws) ({ frames := 0, cells := 0, slots := 0, locals := 0 } : Room)) (fun aa U => aa = #[(.int (Int32.ofNat x)), (.int (Int32.ofNat y))] ∧ Z.Warmed39 U.vm ∧ U.heap = h0) (fun _ _ _ _ _ => True) (fun _ U o U' => ∃ v L, o = .returned v ∧ Q_ckl Z x y h0 n0 v U'.heap L ∧ FrameEnd U o U' L ({ frames := 0, cells := 0, slots := 0, locals := 0 } : Room).cells ({ frames := 0, cells := 0, slots := 0, locals := 0 } : Room).slots) := by
  refine MetFree.of_bodySF (plainFor_of_name pn_java_util_Arrays) hisR ?_
  intro p e s m args below meth c s₁ Bd hml0 hP hK
  obtain ⟨rfl, hZ, hh⟩ := hP
  have hx := Bd.exec
  have hby := Bd.bytes
  have hlk : meth.locks = false := BodyLoose.notSynchronized Bd
  have hml : c.maxLocals = 2 := hml0
  have hown : s.vm.findClass "java/util/Arrays" = some m.cls := findClass_of_methodNamed Bd.named
  have hnm := (name_of_methodNamed Bd.named Bd.method).1
  have X0 : Stand p l e ({ frames := 0, cells := 0, slots := 0, locals := 0 } : Room) s m #[(.int (Int32.ofNat x)), (.int (Int32.ofNat y))] below meth c s₁ [] 0 0 := Stand.of_body Bd
  have e0 : s₁.heap = h0 := by rw [← hh, Bd.state]; rfl
  have N0 := Fr.nil n0
  show Gl p.tables e below (EndN s (Q_ckl Z x y h0 n0) ({ frames := 0, cells := 0, slots := 0, locals := 0 } : Room).cells ({ frames := 0, cells := 0, slots := 0, locals := 0 } : Room).slots) _
  refine Gl.cast (ef_ckl m x y) ?_
  show Gl p.tables e below _ (s₁.setTop (mkF m 0 #[.val (.int (Int32.ofNat x)), .val (.int (Int32.ofNat y))] []))
  refine Gl.st (fun _ kq => XS.iloadN X0.here hx rfl (hb hby d31_0) rfl kq) ?_
  show Gl p.tables e below _ (s₁.setTop (mkF m 1 #[.val (.int (Int32.ofNat x)), .val (.int (Int32.ofNat y))] [(.int (Int32.ofNat y))]))
  refine Gl.st (fun _ kq => XS.iloadN X0.here hx rfl (hb hby d31_1) rfl kq) ?_
  show Gl p.tables e below _ (s₁.setTop (mkF m 2 #[.val (.int (Int32.ofNat x)), .val (.int (Int32.ofNat y))] [(.int (Int32.ofNat x)), (.int (Int32.ofNat y))]))
  refine Gl.st (fun _ kq => XS.icmpYes X0.here hx rfl (pc0 := 2) (pc' := 37) rfl (hb hby d31_2) rfl (flt (h1 : ¬ ((Int32.ofNat y) < (Int32.ofNat x)))).2.1 (by decide) (by decide) kq) ?_
  show Gl p.tables e below _ (s₁.setTop (mkF m 37 #[.val (.int (Int32.ofNat x)), .val (.int (Int32.ofNat y))] []))
  exact Gl.ret0 X0 hx Bd.returns (hb hby d31_37) hlk (by decide) (by decide) (by rw [e0]; exact ⟨rfl, N0, rfl⟩)
theorem d30_0 : decode jdk_65_method_133_code 0 = .ok (.iload_n 1, 1) := by decide +kernel
theorem d30_1 : decode jdk_65_method_133_code 1 = .ok (.iload_n 2, 1) := by decide +kernel
theorem d30_2 : decode jdk_65_method_133_code 2 = .ok (.invokestatic 343, 3) := by decide +kernel
theorem d30_5 : decode jdk_65_method_133_code 5 = .ok (.iload_n 2, 1) := by decide +kernel
theorem d30_6 : decode jdk_65_method_133_code 6 = .ok (.iload_n 1, 1) := by decide +kernel
theorem d30_7 : decode jdk_65_method_133_code 7 = .ok (.isub, 1) := by decide +kernel
theorem d30_8 : decode jdk_65_method_133_code 8 = .ok (.istore_n 3, 1) := by decide +kernel
theorem d30_9 : decode jdk_65_method_133_code 9 = .ok (.iload_n 3, 1) := by decide +kernel
theorem d30_10 : decode jdk_65_method_133_code 10 = .ok (.newarray .byte, 2) := by decide +kernel
theorem d30_12 : decode jdk_65_method_133_code 12 = .ok (.astore 4, 2) := by decide +kernel
theorem d30_14 : decode jdk_65_method_133_code 14 = .ok (.aload_n 0, 1) := by decide +kernel
theorem d30_15 : decode jdk_65_method_133_code 15 = .ok (.iload_n 1, 1) := by decide +kernel
theorem d30_16 : decode jdk_65_method_133_code 16 = .ok (.aload 4, 2) := by decide +kernel
theorem d30_18 : decode jdk_65_method_133_code 18 = .ok (.iconst 0, 1) := by decide +kernel
theorem d30_19 : decode jdk_65_method_133_code 19 = .ok (.aload_n 0, 1) := by decide +kernel
theorem d30_20 : decode jdk_65_method_133_code 20 = .ok (.arraylength, 1) := by decide +kernel
theorem d30_21 : decode jdk_65_method_133_code 21 = .ok (.iload_n 1, 1) := by decide +kernel
theorem d30_22 : decode jdk_65_method_133_code 22 = .ok (.isub, 1) := by decide +kernel
theorem d30_23 : decode jdk_65_method_133_code 23 = .ok (.iload_n 3, 1) := by decide +kernel
theorem d30_24 : decode jdk_65_method_133_code 24 = .ok (.invokestatic 304, 3) := by decide +kernel
theorem d30_27 : decode jdk_65_method_133_code 27 = .ok (.invokestatic 150, 3) := by decide +kernel
theorem d30_30 : decode jdk_65_method_133_code 30 = .ok (.aload 4, 2) := by decide +kernel
theorem d30_32 : decode jdk_65_method_133_code 32 = .ok (.areturn, 1) := by decide +kernel
theorem ef_crb (m : MethodId) (t : Addr) (x : Nat) (d : Nat) : entryFrame m #[(.ref t), (.int (Int32.ofNat x)), (.int (Int32.ofNat (x + d)))] 5 = mkF m 0 #[.val (.ref t), .val (.int (Int32.ofNat x)), .val (.int (Int32.ofNat (x + d))), .unset, .unset] [] := by first | (simp [entryFrame, mkF, argsToLocals, Value.category]; done) | rfl
def Q_crb (Z : State) (t : Addr) (k : ClassId) (cs : List Int32) (x : Nat) (d : Nat) (h0 : Heap) (n0 : Nat) (v : Option Value) (h : Heap) (L : List Loc) : Prop := (∃ t2 : Addr, ∃ k2 : ClassId, v = some (.ref t2) ∧ Fr n0 L ∧ Keep h0 h [] ∧ Arv Z h t2 k2 .byte (Int32.ofNat d) ((((cs.drop x).take d).map (fun c => c.toInt8.toInt32)).map Value.int) (.int 0) ∧ (h0.size ≤ t2))
set_option maxRecDepth 65536 in
set_option maxHeartbeats 40000000 in
theorem rm_crb (l : Launch) (Z : State) (a0 : Array Value) (hw : ∀ d ∈ tables_1, d.before a0 Z = true) (ws : List Jvm.Cond) (t : Addr) (k : ClassId) (cs : List Int32) (x : Nat) (d : Nat) (h0 : Heap) (n0 : Nat) (Z0 : n0 ≤ h0.size) (pf0 : Arv Z h0 t k .byte (Int32.ofNat cs.length) ((cs.map (fun c => c.toInt8.toInt32)).map Value.int) (.int 0)) (hl : cs.length ≤ 4) (hx1 : x + d ≤ cs.length) :
    MetFree l (⟨"java/util/Arrays", "copyOfRangeByte", "([BII)[B"⟩ : MethodName) (head1 (Jvm.Cond.code (⟨"java/util/Arrays", "copyOfRangeByte", "([BII)[B"⟩ : MethodName) jdk_65_method_133_code 5 (some (.array .byte)) :: ws) ({ frames := 1, cells := 1, slots := 4, locals := 18 } : Room)) (fun aa U => aa = #[(.ref t), (.int (Int32.ofNat x)), (.int (Int32.ofNat (x + d)))] ∧ Z.Warmed39 U.vm ∧ U.heap = h0) (fun _ _ _ _ _ => True) (fun _ U o U' => ∃ v L, o = .returned v ∧ Q_crb Z t k cs x d h0 n0 v U'.heap L ∧ FrameEnd U o U' L ({ frames := 1, cells := 1, slots := 4, locals := 18 } : Room).cells ({ frames := 1, cells := 1, slots := 4, locals := 18 } : Room).slots) := by
  refine MetFree.of_bodySF (plainFor_of_name pn_java_util_Arrays) hisR ?_
  intro p e s m args below meth c s₁ Bd hml0 hP hK
  obtain ⟨rfl, hZ, hh⟩ := hP
  have hx := Bd.exec
  have hby := Bd.bytes
  have hlk : meth.locks = false := BodyLoose.notSynchronized Bd
  have hml : c.maxLocals = 5 := hml0
  have hown : s.vm.findClass "java/util/Arrays" = some m.cls := findClass_of_methodNamed Bd.named
  have hnm := (name_of_methodNamed Bd.named Bd.method).1
  have X0 : Stand p l e ({ frames := 1, cells := 1, slots := 4, locals := 18 } : Room) s m #[(.ref t), (.int (Int32.ofNat x)), (.int (Int32.ofNat (x + d)))] below meth c s₁ [] 0 0 := Stand.of_body Bd
  have e0 : s₁.heap = h0 := by rw [← hh, Bd.state]; rfl
  have N0 := Fr.nil n0
  show Gl p.tables e below (EndN s (Q_crb Z t k cs x d h0 n0) ({ frames := 1, cells := 1, slots := 4, locals := 18 } : Room).cells ({ frames := 1, cells := 1, slots := 4, locals := 18 } : Room).slots) _
  refine Gl.cast (ef_crb m t x d) ?_
  show Gl p.tables e below _ (s₁.setTop (mkF m 0 #[.val (.ref t), .val (.int (Int32.ofNat x)), .val (.int (Int32.ofNat (x + d))), .unset, .unset] []))
  refine Gl.st (fun _ kq => XS.iloadN X0.here hx rfl (hb hby d30_0) rfl kq) ?_
  show Gl p.tables e below _ (s₁.setTop (mkF m 1 #[.val (.ref t), .val (.int (Int32.ofNat x)), .val (.int (Int32.ofNat (x + d))), .unset, .unset] [(.int (Int32.ofNat x))]))
  refine Gl.st (fun _ kq => XS.iloadN X0.here hx rfl (hb hby d30_1) rfl kq) ?_
  show Gl p.tables e below _ (s₁.setTop (mkF m 2 #[.val (.ref t), .val (.int (Int32.ofNat x)), .val (.int (Int32.ofNat (x + d))), .unset, .unset] [(.int (Int32.ofNat (x + d))), (.int (Int32.ofNat x))]))
  obtain ⟨_, _, ⟨T1, L1, k1, n1⟩, -, X1, ⟨Lc1, hQ1, l1, y1, z1⟩, st1⟩ := Jvm.LawKit.callS X0 hx (y := (⟨"java/util/Arrays", "checkLength", "(II)V"⟩ : MethodName)) hown (mvT hZ (tw hw 130 rfl)) (mvT hZ (tw hw 131 rfl)) (mvT hZ (tw hw 125 rfl)) (mvT hZ (tw hw 132 rfl)) (by decide) (backOf (W := 0) (rm_ckl l Z a0 hw [] (x) ((x + d)) h0 n0 Z0 (n32_nlt (i := (x + d)) (j := x) (by omega) (by omega) (by omega))) hZ (tw hw 132 rfl) (tw hw 125 rfl) (by decide) (by decide)) (g := (mkF m 2 #[.val (.ref t), .val (.int (Int32.ofNat x)), .val (.int (Int32.ofNat (x + d))), .unset, .unset] [(.int (Int32.ofNat (x + d))), (.int (Int32.ofNat x))])) rfl (by rw [hml]; rfl) (argsL := [(.int (Int32.ofNat x)), (.int (Int32.ofNat (x + d)))]) (rest := []) (lenOf pd__II_V rfl) rfl (by show 2 * 0 + _ ≤ _; exact Nat.le_of_eq rfl) (hb hby d30_2) (fun _ _ => ⟨rfl, e0, (by decide : 0 + 0 ≤ _), (by decide : 0 + 0 ≤ _)⟩)
  dsimp only [Pt.U, Pt.locs, Pt.cells, Pt.slots] at X1 l1 y1 z1 st1 hQ1
  subst l1 y1 z1
  obtain ⟨rfl, N1, e1⟩ := hQ1
  have M1 := Fr.app N0 N1
  refine Gl.st st1 ?_
  show Gl p.tables e below _ (T1.setTop (mkF m 5 #[.val (.ref t), .val (.int (Int32.ofNat x)), .val (.int (Int32.ofNat (x + d))), .unset, .unset] []))
  show Gl p.tables e below _ (T1.setTop (mkF m 5 #[.val (.ref t), .val (.int (Int32.ofNat x)), .val (.int (Int32.ofNat (x + d))), .unset, .unset] []))
  refine Gl.st (fun _ kq => XS.iloadN X1.here hx rfl (hb hby d30_5) rfl kq) ?_
  show Gl p.tables e below _ (T1.setTop (mkF m 6 #[.val (.ref t), .val (.int (Int32.ofNat x)), .val (.int (Int32.ofNat (x + d))), .unset, .unset] [(.int (Int32.ofNat (x + d)))]))
  refine Gl.st (fun _ kq => XS.iloadN X1.here hx rfl (hb hby d30_6) rfl kq) ?_
  show Gl p.tables e below _ (T1.setTop (mkF m 7 #[.val (.ref t), .val (.int (Int32.ofNat x)), .val (.int (Int32.ofNat (x + d))), .unset, .unset] [(.int (Int32.ofNat x)), (.int (Int32.ofNat (x + d)))]))
  refine Gl.st (fun _ kq => XS.isub X1.here hx rfl (hb hby d30_7) rfl kq) ?_
  show Gl p.tables e below _ (T1.setTop (mkF m 8 #[.val (.ref t), .val (.int (Int32.ofNat x)), .val (.int (Int32.ofNat (x + d))), .unset, .unset] [(.int ((Int32.ofNat (x + d)) - (Int32.ofNat x)))]))
  rw [show Int32.ofNat (x + d) - Int32.ofNat x = Int32.ofNat d from by rw [n32_sub (by omega)]; congr 1; omega]
  show Gl p.tables e below _ (T1.setTop (mkF m 8 #[.val (.ref t), .val (.int (Int32.ofNat x)), .val (.int (Int32.ofNat (x + d))), .unset, .unset] [(.int (Int32.ofNat d))]))
  refine Gl.st (fun _ kq => XS.istoreN X1.here hx rfl (hb hby d30_8) rfl (l' := #[.val (.ref t), .val (.int (Int32.ofNat x)), .val (.int (Int32.ofNat (x + d))), .val (.int (Int32.ofNat d)), .unset]) rfl kq) ?_
  show Gl p.tables e below _ (T1.setTop (mkF m 9 #[.val (.ref t), .val (.int (Int32.ofNat x)), .val (.int (Int32.ofNat (x + d))), .val (.int (Int32.ofNat d)), .unset] []))
  refine Gl.st (fun _ kq => XS.iloadN X1.here hx rfl (hb hby d30_9) rfl kq) ?_
  show Gl p.tables e below _ (T1.setTop (mkF m 10 #[.val (.ref t), .val (.int (Int32.ofNat x)), .val (.int (Int32.ofNat (x + d))), .val (.int (Int32.ofNat d)), .unset] [(.int (Int32.ofNat d))]))
  obtain ⟨T2, h2, k2, X2, e2, E2, A2, st2⟩ := newP X1 hx hZ (tw hw 11 rfl) e1 (g := (mkF m 10 #[.val (.ref t), .val (.int (Int32.ofNat x)), .val (.int (Int32.ofNat (x + d))), .val (.int (Int32.ofNat d)), .unset] [(.int (Int32.ofNat d))])) rfl (hb hby d30_10) rfl (n32_nn (by omega)) (cap := 4) (by rw [n32_cl (by omega)]; omega) (by decide) (by decide) (by decide)
  obtain ⟨b2, g2⟩ : ∃ z, z = h0.size := ⟨_, rfl⟩
  rw [← g2] at A2 st2
  refine Gl.st st2 ?_
  have g3 : n0 ≤ b2 := Nat.le_trans Z0 (Nat.le_of_eq g2.symm)
  have s4 : h0.size ≤ b2 := Nat.le_trans (Nat.le_refl _) (Nat.le_of_eq g2.symm)
  have V2 : Arv Z h2 b2 k2 .byte (Int32.ofNat d) ([] ++ List.replicate d (.int 0)) (.int 0) := (Arv.new A2 (n32_nn (by omega))).pad (pad_rep [] (.int 0) d)
  show Gl p.tables e below _ (T2.setTop (mkF m 12 #[.val (.ref t), .val (.int (Int32.ofNat x)), .val (.int (Int32.ofNat (x + d))), .val (.int (Int32.ofNat d)), .unset] [(.ref b2)]))
  refine Gl.st (fun _ kq => XS.astore X2.here hx rfl (hb hby d30_12) rfl rfl (l' := #[.val (.ref t), .val (.int (Int32.ofNat x)), .val (.int (Int32.ofNat (x + d))), .val (.int (Int32.ofNat d)), .val (.ref b2)]) rfl kq) ?_
  show Gl p.tables e below _ (T2.setTop (mkF m 14 #[.val (.ref t), .val (.int (Int32.ofNat x)), .val (.int (Int32.ofNat (x + d))), .val (.int (Int32.ofNat d)), .val (.ref b2)] []))
  refine Gl.st (fun _ kq => XS.aloadN X2.here hx rfl (hb hby d30_14) rfl rfl kq) ?_
  show Gl p.tables e below _ (T2.setTop (mkF m 15 #[.val (.ref t), .val (.int (Int32.ofNat x)), .val (.int (Int32.ofNat (x + d))), .val (.int (Int32.ofNat d)), .val (.ref b2)] [(.ref t)]))
  refine Gl.st (fun _ kq => XS.iloadN X2.here hx rfl (hb hby d30_15) rfl kq) ?_
  show Gl p.tables e below _ (T2.setTop (mkF m 16 #[.val (.ref t), .val (.int (Int32.ofNat x)), .val (.int (Int32.ofNat (x + d))), .val (.int (Int32.ofNat d)), .val (.ref b2)] [(.int (Int32.ofNat x)), (.ref t)]))
  refine Gl.st (fun _ kq => XS.aload X2.here hx rfl (hb hby d30_16) rfl rfl kq) ?_
  show Gl p.tables e below _ (T2.setTop (mkF m 18 #[.val (.ref t), .val (.int (Int32.ofNat x)), .val (.int (Int32.ofNat (x + d))), .val (.int (Int32.ofNat d)), .val (.ref b2)] [(.ref b2), (.int (Int32.ofNat x)), (.ref t)]))
  refine Gl.st (fun _ kq => XS.iconst X2.here hx rfl (hb hby d30_18) kq) ?_
  show Gl p.tables e below _ (T2.setTop (mkF m 19 #[.val (.ref t), .val (.int (Int32.ofNat x)), .val (.int (Int32.ofNat (x + d))), .val (.int (Int32.ofNat d)), .val (.ref b2)] [(.int 0), (.ref b2), (.int (Int32.ofNat x)), (.ref t)]))
  refine Gl.st (fun _ kq => XS.aloadN X2.here hx rfl (hb hby d30_19) rfl rfl kq) ?_
  show Gl p.tables e below _ (T2.setTop (mkF m 20 #[.val (.ref t), .val (.int (Int32.ofNat x)), .val (.int (Int32.ofNat (x + d))), .val (.int (Int32.ofNat d)), .val (.ref b2)] [(.ref t), (.int 0), (.ref b2), (.int (Int32.ofNat x)), (.ref t)]))
  have f5 : Arv Z h2 t k .byte (Int32.ofNat cs.length) ((cs.map (fun c => c.toInt8.toInt32)).map Value.int) (.int 0) := (pf0.ext E2)
  obtain ⟨c6, a6, q6, S6, M6, H6, G6⟩ := id f5
  refine Gl.st (fun _ kq => X2.arraylength hx (by rw [e2]; exact a6.1) (State.isArrayOf_alike hZ.alike a6.2.1) (g := (mkF m 20 #[.val (.ref t), .val (.int (Int32.ofNat x)), .val (.int (Int32.ofNat (x + d))), .val (.int (Int32.ofNat d)), .val (.ref b2)] [(.ref t), (.int 0), (.ref b2), (.int (Int32.ofNat x)), (.ref t)])) rfl rfl (hb hby d30_20) _ kq) ?_
  rw [len_of S6 M6]
  show Gl p.tables e below _ (T2.setTop (mkF m 21 #[.val (.ref t), .val (.int (Int32.ofNat x)), .val (.int (Int32.ofNat (x + d))), .val (.int (Int32.ofNat d)), .val (.ref b2)] [(.int (Int32.ofNat cs.length)), (.int 0), (.ref b2), (.int (Int32.ofNat x)), (.ref t)]))
  refine Gl.st (fun _ kq => XS.iloadN X2.here hx rfl (hb hby d30_21) rfl kq) ?_
  show Gl p.tables e below _ (T2.setTop (mkF m 22 #[.val (.ref t), .val (.int (Int32.ofNat x)), .val (.int (Int32.ofNat (x + d))), .val (.int (Int32.ofNat d)), .val (.ref b2)] [(.int (Int32.ofNat x)), (.int (Int32.ofNat cs.length)), (.int 0), (.ref b2), (.int (Int32.ofNat x)), (.ref t)]))
  refine Gl.st (fun _ kq => XS.isub X2.here hx rfl (hb hby d30_22) rfl kq) ?_
  show Gl p.tables e below _ (T2.setTop (mkF m 23 #[.val (.ref t), .val (.int (Int32.ofNat x)), .val (.int (Int32.ofNat (x + d))), .val (.int (Int32.ofNat d)), .val (.ref b2)] [(.int ((Int32.ofNat cs.length) - (Int32.ofNat x))), (.int 0), (.ref b2), (.int (Int32.ofNat x)), (.ref t)]))
  rw [n32_sub (i := cs.length) (j := x) (by omega)]
  show Gl p.tables e below _ (T2.setTop (mkF m 23 #[.val (.ref t), .val (.int (Int32.ofNat x)), .val (.int (Int32.ofNat (x + d))), .val (.int (Int32.ofNat d)), .val (.ref b2)] [(.int (Int32.ofNat (cs.length - x))), (.int 0), (.ref b2), (.int (Int32.ofNat x)), (.ref t)]))
  refine Gl.st (fun _ kq => XS.iloadN X2.here hx rfl (hb hby d30_23) rfl kq) ?_
  show Gl p.tables e below _ (T2.setTop (mkF m 24 #[.val (.ref t), .val (.int (Int32.ofNat x)), .val (.int (Int32.ofNat (x + d))), .val (.int (Int32.ofNat d)), .val (.ref b2)] [(.int (Int32.ofNat d)), (.int (Int32.ofNat (cs.length - x))), (.int 0), (.ref b2), (.int (Int32.ofNat x)), (.ref t)]))
  obtain ⟨_, _, ⟨T7, L7, k7, n7⟩, -, X7, ⟨Lc7, hQ7, l7, y7, z7⟩, st7⟩ := Jvm.LawKit.callS X2 hx (y := (⟨"java/lang/Math", "min", "(II)I"⟩ : MethodName)) hown (mvT hZ (tw hw 133 rfl)) (mvT hZ (tw hw 60 rfl)) (mvT hZ (tw hw 57 rfl)) (mvT hZ (tw hw 61 rfl)) (by decide) (backOf (W := 4) (rm_mi l Z a0 hw [] ((Int32.ofNat (cs.length - x))) ((Int32.ofNat d)) h2 n0 (Nat.le_trans Z0 E2.1) ) hZ (tw hw 61 rfl) (tw hw 57 rfl) (by decide) (by decide)) (g := (mkF m 24 #[.val (.ref t), .val (.int (Int32.ofNat x)), .val (.int (Int32.ofNat (x + d))), .val (.int (Int32.ofNat d)), .val (.ref b2)] [(.int (Int32.ofNat d)), (.int (Int32.ofNat (cs.length - x))), (.int 0), (.ref b2), (.int (Int32.ofNat x)), (.ref t)])) rfl (by rw [hml]; rfl) (argsL := [(.int (Int32.ofNat (cs.length - x))), (.int (Int32.ofNat d))]) (rest := [(.int 0), (.ref b2), (.int (Int32.ofNat x)), (.ref t)]) (lenOf pd__II_I rfl) rfl (by show 2 * 0 + _ ≤ _; exact Nat.le_of_eq rfl) (hb hby d30_24) (fun _ _ => ⟨rfl, e2, (by decide : 1 + 0 ≤ _), (by decide : 4 + 0 ≤ _)⟩)
  dsimp only [Pt.U, Pt.locs, Pt.cells, Pt.slots] at X7 l7 y7 z7 st7 hQ7
  subst l7 y7 z7
  rcases hQ7 with ⟨rfl, N7, e7, y7_0⟩ | ⟨rfl, N7, e7, y7_0⟩
  · have M7 := Fr.app M1 N7
    refine Gl.st st7 ?_
    show Gl p.tables e below _ (T7.setTop (mkF m 27 #[.val (.ref t), .val (.int (Int32.ofNat x)), .val (.int (Int32.ofNat (x + d))), .val (.int (Int32.ofNat d)), .val (.ref b2)] [(.int (Int32.ofNat (cs.length - x))), (.int 0), (.ref b2), (.int (Int32.ofNat x)), (.ref t)]))
    have hd : cs.length - x = d := by have q1 := y7_0; by_cases q2 : d < cs.length - x; exact absurd (n32_plt q2 (by omega)) q1; omega
    rw [hd]
    show Gl p.tables e below _ (T7.setTop (mkF m 27 #[.val (.ref t), .val (.int (Int32.ofNat x)), .val (.int (Int32.ofNat (x + d))), .val (.int (Int32.ofNat d)), .val (.ref b2)] [(.int (Int32.ofNat d)), (.int 0), (.ref b2), (.int (Int32.ofNat x)), (.ref t)]))
    obtain ⟨T8, h8, L8, X8, e8, N8, K8, V8, st8⟩ := cpA X7 hx hZ hown (tw hw 134 rfl) (tw hw 137 rfl) (tw hw 135 rfl) (tw hw 136 rfl) e7 f5 V2 (us := (List.range d).map fun i => (((cs.map (fun c => c.toInt8.toInt32)).map Value.int).getD (x + i) (.int 0))) (sp := (Int32.ofNat x)) (dp := (0 : Int32)) (nn := (Int32.ofNat d)) (Or.inl ⟨rfl, rfl⟩) (n32_nn (by omega)) (by decide) (n32_nn (by omega)) (by rw [n32_cl (by omega), n32_cl (by omega), n32_cl (by omega)]; omega) (by rw [n32_cl (i := d) (by omega)]; show 0 + d ≤ d; omega) (by rw [n32_cl (by omega), n32_cl (by omega)]) (by rw [n32_cl (i := d) (by omega)]; show 0 + d ≤ _; simp) M7 g3 (g := (mkF m 27 #[.val (.ref t), .val (.int (Int32.ofNat x)), .val (.int (Int32.ofNat (x + d))), .val (.int (Int32.ofNat d)), .val (.ref b2)] [(.int (Int32.ofNat d)), (.int 0), (.ref b2), (.int (Int32.ofNat x)), (.ref t)])) rfl (by rw [hml]; rfl) rfl (hb hby d30_27) (by decide) (W := 0) (by show 2 * 0 + _ ≤ _; exact Nat.le_of_eq rfl) (by decide)
    refine Gl.st st8 ?_
    rw [n32_cl (i := d) (by omega)] at V8
    have V8 : Arv Z h8 b2 k2 .byte (Int32.ofNat d) ((((cs.drop x).take d).map (fun c => c.toInt8.toInt32)).map Value.int) (.int 0) := V8.pad (by rw [show (0 : Int32).toNatClampNeg = 0 from by decide]; exact own_copied (by omega))
    show Gl p.tables e below _ (T8.setTop (mkF m 30 #[.val (.ref t), .val (.int (Int32.ofNat x)), .val (.int (Int32.ofNat (x + d))), .val (.int (Int32.ofNat d)), .val (.ref b2)] []))
    refine Gl.st (fun _ kq => XS.aload X8.here hx rfl (hb hby d30_30) rfl rfl kq) ?_
    show Gl p.tables e below _ (T8.setTop (mkF m 32 #[.val (.ref t), .val (.int (Int32.ofNat x)), .val (.int (Int32.ofNat (x + d))), .val (.int (Int32.ofNat d)), .val (.ref b2)] [(.ref b2)]))
    have K9 : Keep h0 h8 [] := (((Keep.refl h0 []).ext E2).trans K8 (allS (Or.inr s4) all0))
    exact Gl.retA X8 hx Bd.returns rfl rfl (hb hby d30_32) hlk (by decide) (by decide) (by rw [e8]; exact ⟨b2, k2, rfl, N8, K9, V8, s4⟩)
  · have M7 := Fr.app M1 N7
    refine Gl.st st7 ?_
    show Gl p.tables e below _ (T7.setTop (mkF m 27 #[.val (.ref t), .val (.int (Int32.ofNat x)), .val (.int (Int32.ofNat (x + d))), .val (.int (Int32.ofNat d)), .val (.ref b2)] [(.int (Int32.ofNat d)), (.int 0), (.ref b2), (.int (Int32.ofNat x)), (.ref t)]))
    obtain ⟨T10, h10, L10, X10, e10, N10, K10, V10, st10⟩ := cpA X7 hx hZ hown (tw hw 134 rfl) (tw hw 137 rfl) (tw hw 135 rfl) (tw hw 136 rfl) e7 f5 V2 (us := (List.range d).map fun i => (((cs.map (fun c => c.toInt8.toInt32)).map Value.int).getD (x + i) (.int 0))) (sp := (Int32.ofNat x)) (dp := (0 : Int32)) (nn := (Int32.ofNat d)) (Or.inl ⟨rfl, rfl⟩) (n32_nn (by omega)) (by decide) (n32_nn (by omega)) (by rw [n32_cl (by omega), n32_cl (by omega), n32_cl (by omega)]; omega) (by rw [n32_cl (i := d) (by omega)]; show 0 + d ≤ d; omega) (by rw [n32_cl (by omega), n32_cl (by omega)]) (by rw [n32_cl (i := d) (by omega)]; show 0 + d ≤ _; simp) M7 g3 (g := (mkF m 27 #[.val (.ref t), .val (.int (Int32.ofNat x)), .val (.int (Int32.ofNat (x + d))), .val (.int (Int32.ofNat d)), .val (.ref b2)] [(.int (Int32.ofNat d)), (.int 0), (.ref b2), (.int (Int32.ofNat x)), (.ref t)])) rfl (by rw [hml]; rfl) rfl (hb hby d30_27) (by decide) (W := 0) (by show 2 * 0 + _ ≤ _; exact Nat.le_of_eq rfl) (by decide)
    refine Gl.st st10 ?_
    rw [n32_cl (i := d) (by omega)] at V10
    have V10 : Arv Z h10 b2 k2 .byte (Int32.ofNat d) ((((cs.drop x).take d).map (fun c => c.toInt8.toInt32)).map Value.int) (.int 0) := V10.pad (by rw [show (0 : Int32).toNatClampNeg = 0 from by decide]; exact own_copied (by omega))
    show Gl p.tables e below _ (T10.setTop (mkF m 30 #[.val (.ref t), .val (.int (Int32.ofNat x)), .val (.int (Int32.ofNat (x + d))), .val (.int (Int32.ofNat d)), .val (.ref b2)] []))
    refine Gl.st (fun _ kq => XS.aload X10.here hx rfl (hb hby d30_30) rfl rfl kq) ?_
    show Gl p.tables e below _ (T10.setTop (mkF m 32 #[.val (.ref t), .val (.int (Int32.ofNat x)), .val (.int (Int32.ofNat (x + d))), .val (.int (Int32.ofNat d)), .val (.ref b2)] [(.ref b2)]))
    have K11 : Keep h0 h10 [] := (((Keep.refl h0 []).ext E2).trans K10 (allS (Or.inr s4) all0))
    exact Gl.retA X10 hx Bd.returns rfl rfl (hb hby d30_32) hlk (by decide) (by decide) (by rw [e10]; exact ⟨b2, k2, rfl, N10, K11, V10, s4⟩)
theorem d29_0 : decode jdk_65_method_132_code 0 = .ok (.iload_n 1, 1) := by decide +kernel
theorem d29_1 : decode jdk_65_method_132_code 1 = .ok (.ifCond .ne 9, 3) := by decide +kernel
theorem d29_4 : decode jdk_65_method_132_code 4 = .ok (.iload_n 2, 1) := by decide +kernel
theorem d29_5 : decode jdk_65_method_132_code 5 = .ok (.aload_n 0, 1) := by decide +kernel
theorem d29_6 : decode jdk_65_method_132_code 6 = .ok (.arraylength, 1) := by decide +kernel
theorem d29_7 : decode jdk_65_method_132_code 7 = .ok (.if_icmp .eq 10, 3) := by decide +kernel
theorem d29_10 : decode jdk_65_method_132_code 10 = .ok (.aload_n 0, 1) := by decide +kernel
theorem d29_11 : decode jdk_65_method_132_code 11 = .ok (.iload_n 1, 1) := by decide +kernel
theorem d29_12 : decode jdk_65_method_132_code 12 = .ok (.iload_n 2, 1) := by decide +kernel
theorem d29_13 : decode jdk_65_method_132_code 13 = .ok (.invokestatic 339, 3) := by decide +kernel
theorem d29_16 : decode jdk_65_method_132_code 16 = .ok (.areturn, 1) := by decide +kernel
theorem ef_cor (m : MethodId) (t : Addr) (x : Nat) (d : Nat) : entryFrame m #[(.ref t), (.int (Int32.ofNat x)), (.int (Int32.ofNat (x + d)))] 3 = mkF m 0 #[.val (.ref t), .val (.int (Int32.ofNat x)), .val (.int (Int32.ofNat (x + d)))] [] := by first | (simp [entryFrame, mkF, argsToLocals, Value.category]; done) | rfl
def Q_cor (Z : State) (t : Addr) (k : ClassId) (cs : List Int32) (x : Nat) (d : Nat) (h0 : Heap) (n0 : Nat) (v : Option Value) (h : Heap) (L : List Loc) : Prop := (∃ t2 : Addr, ∃ k2 : ClassId, v = some (.ref t2) ∧ Fr n0 L ∧ Keep h0 h [] ∧ Arv Z h t2 k2 .byte (Int32.ofNat d) ((((cs.drop x).take d).map (fun c => c.toInt8.toInt32)).map Value.int) (.int 0) ∧ (h0.size ≤ t2))
set_option maxRecDepth 65536 in
set_option maxHeartbeats 40000000 in
theorem rm_cor (l : Launch) (Z : State) (a0 : Array Value) (hw : ∀ d ∈ tables_1, d.before a0 Z = true) (ws : List Jvm.Cond) (t : Addr) (k : ClassId) (cs : List Int32) (x : Nat) (d : Nat) (h0 : Heap) (n0 : Nat) (Z0 : n0 ≤ h0.size) (pf0 : Arv Z h0 t k .byte (Int32.ofNat cs.length) ((cs.map (fun c => c.toInt8.toInt32)).map Value.int) (.int 0)) (hl : cs.length ≤ 4) (hx1 : x + d ≤ cs.length) (hnw : ¬ (x = 0 ∧ x + d = cs.length)) :
    MetFree l (⟨"java/util/Arrays", "copyOfRange", "([BII)[B"⟩ : MethodName) (head1 (Jvm.Cond.code (⟨"java/util/Arrays", "copyOfRange", "([BII)[B"⟩ : MethodName) jdk_65_method_132_code 3 (some (.array .byte)) :: ws) ({ frames := 2, cells := 1, slots := 4, locals := 34 } : Room)) (fun aa U => aa = #[(.ref t), (.int (Int32.ofNat x)), (.int (Int32.ofNat (x + d)))] ∧ Z.Warmed39 U.vm ∧ U.heap = h0) (fun _ _ _ _ _ => True) (fun _ U o U' => ∃ v L, o = .returned v ∧ Q_cor Z t k cs x d h0 n0 v U'.heap L ∧ FrameEnd U o U' L ({ frames := 2, cells := 1, slots := 4, locals := 34 } : Room).cells ({ frames := 2, cells := 1, slots := 4, locals := 34 } : Room).slots) := by
  refine MetFree.of_bodySF (plainFor_of_name pn_java_util_Arrays) hisR ?_
  intro p e s m args below meth c s₁ Bd hml0 hP hK
  obtain ⟨rfl, hZ, hh⟩ := hP
  have hx := Bd.exec
  have hby := Bd.bytes
  have hlk : meth.locks = false := BodyLoose.notSynchronized Bd
  have hml : c.maxLocals = 3 := hml0
  have hown : s.vm.findClass "java/util/Arrays" = some m.cls := findClass_of_methodNamed Bd.named
  have hnm := (name_of_methodNamed Bd.named Bd.method).1
  have X0 : Stand p l e ({ frames := 2, cells := 1, slots := 4, locals := 34 } : Room) s m #[(.ref t), (.int (Int32.ofNat x)), (.int (Int32.ofNat (x + d)))] below meth c s₁ [] 0 0 := Stand.of_body Bd
  have e0 : s₁.heap = h0 := by rw [← hh, Bd.state]; rfl
  have N0 := Fr.nil n0
  show Gl p.tables e below (EndN s (Q_cor Z t k cs x d h0 n0) ({ frames := 2, cells := 1, slots := 4, locals := 34 } : Room).cells ({ frames := 2, cells := 1, slots := 4, locals := 34 } : Room).slots) _
  refine Gl.cast (ef_cor m t x d) ?_
  show Gl p.tables e below _ (s₁.setTop (mkF m 0 #[.val (.ref t), .val (.int (Int32.ofNat x)), .val (.int (Int32.ofNat (x + d)))] []))
  refine Gl.st (fun _ kq => XS.iloadN X0.here hx rfl (hb hby d29_0) rfl kq) ?_
  show Gl p.tables e below _ (s₁.setTop (mkF m 1 #[.val (.ref t), .val (.int (Int32.ofNat x)), .val (.int (Int32.ofNat (x + d)))] [(.int (Int32.ofNat x))]))
  by_cases hc1 : (Int32.ofNat x) = (0 : Int32)
  · refine Gl.st (fun _ kq => XS.ifNo X0.here hx rfl (hb hby d29_1) rfl ((if0 _ _).trans (teq (hc1 : (Int32.ofNat x) = (0 : Int32))).2) kq) ?_
    show Gl p.tables e below _ (s₁.setTop (mkF m 4 #[.val (.ref t), .val (.int (Int32.ofNat x)), .val (.int (Int32.ofNat (x + d)))] []))
    refine Gl.st (fun _ kq => XS.iloadN X0.here hx rfl (hb hby d29_4) rfl kq) ?_
    show Gl p.tables e below _ (s₁.setTop (mkF m 5 #[.val (.ref t), .val (.int (Int32.ofNat x)), .val (.int (Int32.ofNat (x + d)))] [(.int (Int32.ofNat (x + d)))]))
    refine Gl.st (fun _ kq => XS.aloadN X0.here hx rfl (hb hby d29_5) rfl rfl kq) ?_
    show Gl p.tables e below _ (s₁.setTop (mkF m 6 #[.val (.ref t), .val (.int (Int32.ofNat x)), .val (.int (Int32.ofNat (x + d)))] [(.ref t), (.int (Int32.ofNat (x + d)))]))
    obtain ⟨c2, a2, q2, S2, M2, H2, G2⟩ := id pf0
    refine Gl.st (fun _ kq => X0.arraylength hx (by rw [e0]; exact a2.1) (State.isArrayOf_alike hZ.alike a2.2.1) (g := (mkF m 6 #[.val (.ref t), .val (.int (Int32.ofNat x)), .val (.int (Int32.ofNat (x + d)))] [(.ref t), (.int (Int32.ofNat (x + d)))])) rfl rfl (hb hby d29_6) _ kq) ?_
    rw [len_of S2 M2]
    show Gl p.tables e below _ (s₁.setTop (mkF m 7 #[.val (.ref t), .val (.int (Int32.ofNat x)), .val (.int (Int32.ofNat (x + d)))] [(.int (Int32.ofNat cs.length)), (.int (Int32.ofNat (x + d)))]))
    refine Gl.st (fun _ kq => XS.icmpNo X0.here hx rfl (hb hby d29_7) rfl (feq ((fun q => hnw ⟨(n32_eq0 (by omega)).mp hc1, (n32_eq (by omega) (by omega)).mp q⟩) : ¬ ((Int32.ofNat (x + d)) = (Int32.ofNat cs.length)))).1 kq) ?_
    show Gl p.tables e below _ (s₁.setTop (mkF m 10 #[.val (.ref t), .val (.int (Int32.ofNat x)), .val (.int (Int32.ofNat (x + d)))] []))
    refine Gl.st (fun _ kq => XS.aloadN X0.here hx rfl (hb hby d29_10) rfl rfl kq) ?_
    show Gl p.tables e below _ (s₁.setTop (mkF m 11 #[.val (.ref t), .val (.int (Int32.ofNat x)), .val (.int (Int32.ofNat (x + d)))] [(.ref t)]))
    refine Gl.st (fun _ kq => XS.iloadN X0.here hx rfl (hb hby d29_11) rfl kq) ?_
    show Gl p.tables e below _ (s₁.setTop (mkF m 12 #[.val (.ref t), .val (.int (Int32.ofNat x)), .val (.int (Int32.ofNat (x + d)))] [(.int (Int32.ofNat x)), (.ref t)]))
    refine Gl.st (fun _ kq => XS.iloadN X0.here hx rfl (hb hby d29_12) rfl kq) ?_
    show Gl p.tables e below _ (s₁.setTop (mkF m 13 #[.val (.ref t), .val (.int (Int32.ofNat x)), .val (.int (Int32.ofNat (x + d)))] [(.int (Int32.ofNat (x + d))), (.int (Int32.ofNat x)), (.ref t)]))
    obtain ⟨_, _, ⟨T5, L5, k5, n5⟩, -, X5, ⟨Lc5, hQ5, l5, y5, z5⟩, st5⟩ := Jvm.LawKit.callS X0 hx (y := (⟨"java/util/Arrays", "copyOfRangeByte", "([BII)[B"⟩ : MethodName)) hown (mvT hZ (tw hw 127 rfl)) (mvT hZ (tw hw 128 rfl)) (mvT hZ (tw hw 125 rfl)) (mvT hZ (tw hw 129 rfl)) (by decide) (backOf (W := 0) (rm_crb l Z a0 hw [] (t) (k) (cs) (x) (d) h0 n0 Z0 pf0 hl hx1) hZ (tw hw 129 rfl) (tw hw 125 rfl) (by decide) (by decide)) (g := (mkF m 13 #[.val (.ref t), .val (.int (Int32.ofNat x)), .val (.int (Int32.ofNat (x + d)))] [(.int (Int32.ofNat (x + d))), (.int (Int32.ofNat x)), (.ref t)])) rfl (by rw [hml]; rfl) (argsL := [(.ref t), (.int (Int32.ofNat x)), (.int (Int32.ofNat (x + d)))]) (rest := []) (lenOf pd___BII__B rfl) rfl (by show 2 * 0 + _ ≤ _; exact Nat.le_of_eq rfl) (hb hby d29_13) (fun _ _ => ⟨rfl, e0, (by decide : 0 + 1 ≤ _), (by decide : 0 + 4 ≤ _)⟩)
    dsimp only [Pt.U, Pt.locs, Pt.cells, Pt.slots] at X5 l5 y5 z5 st5 hQ5
    subst l5 y5 z5
    obtain ⟨v3, v4, rfl, N5, K5, q5_0, y5_0⟩ := hQ5
    have M5 := Fr.app N0 N5
    have g6 : n0 ≤ v3 := Nat.le_trans Z0 y5_0
    have s7 : h0.size ≤ v3 := Nat.le_trans (Nat.le_refl _) y5_0
    refine Gl.st st5 ?_
    show Gl p.tables e below _ (T5.setTop (mkF m 16 #[.val (.ref t), .val (.int (Int32.ofNat x)), .val (.int (Int32.ofNat (x + d)))] [(.ref v3)]))
    show Gl p.tables e below _ (T5.setTop (mkF m 16 #[.val (.ref t), .val (.int (Int32.ofNat x)), .val (.int (Int32.ofNat (x + d)))] [(.ref v3)]))
    have K8 : Keep h0 T5.heap [] := ((Keep.refl h0 []).trans K5 all0)
    exact Gl.retA X5 hx Bd.returns rfl rfl (hb hby d29_16) hlk (by decide) (by decide) ⟨v3, v4, rfl, M5, K8, q5_0, s7⟩
  · refine Gl.st (fun _ kq => XS.ifYes X0.here hx rfl (pc0 := 1) (pc' := 10) rfl (hb hby d29_1) rfl ((if0 _ _).trans (feq (hc1 : ¬ ((Int32.ofNat x) = (0 : Int32)))).2) (by decide) (by decide) kq) ?_
    show Gl p.tables e below _ (s₁.setTop (mkF m 10 #[.val (.ref t), .val (.int (Int32.ofNat x)), .val (.int (Int32.ofNat (x + d)))] []))
    refine Gl.st (fun _ kq => XS.aloadN X0.here hx rfl (hb hby d29_10) rfl rfl kq) ?_
    show Gl p.tables e below _ (s₁.setTop (mkF m 11 #[.val (.ref t), .val (.int (Int32.ofNat x)), .val (.int (Int32.ofNat (x + d)))] [(.ref t)]))
    refine Gl.st (fun _ kq => XS.iloadN X0.here hx rfl (hb hby d29_11) rfl kq) ?_
    show Gl p.tables e below _ (s₁.setTop (mkF m 12 #[.val (.ref t), .val (.int (Int32.ofNat x)), .val (.int (Int32.ofNat (x + d)))] [(.int (Int32.ofNat x)), (.ref t)]))
    refine Gl.st (fun _ kq => XS.iloadN X0.here hx rfl (hb hby d29_12) rfl kq) ?_
    show Gl p.tables e below _ (s₁.setTop (mkF m 13 #[.val (.ref t), .val (.int (Int32.ofNat x)), .val (.int (Int32.ofNat (x + d)))] [(.int (Int32.ofNat (x + d))), (.int (Int32.ofNat x)), (.ref t)]))
    obtain ⟨_, _, ⟨T11, L11, k11, n11⟩, -, X11, ⟨Lc11, hQ11, l11, y11, z11⟩, st11⟩ := Jvm.LawKit.callS X0 hx (y := (⟨"java/util/Arrays", "copyOfRangeByte", "([BII)[B"⟩ : MethodName)) hown (mvT hZ (tw hw 127 rfl)) (mvT hZ (tw hw 128 rfl)) (mvT hZ (tw hw 125 rfl)) (mvT hZ (tw hw 129 rfl)) (by decide) (backOf (W := 0) (rm_crb l Z a0 hw [] (t) (k) (cs) (x) (d) h0 n0 Z0 pf0 hl hx1) hZ (tw hw 129 rfl) (tw hw 125 rfl) (by decide) (by decide)) (g := (mkF m 13 #[.val (.ref t), .val (.int (Int32.ofNat x)), .val (.int (Int32.ofNat (x + d)))] [(.int (Int32.ofNat (x + d))), (.int (Int32.ofNat x)), (.ref t)])) rfl (by rw [hml]; rfl) (argsL := [(.ref t), (.int (Int32.ofNat x)), (.int (Int32.ofNat (x + d)))]) (rest := []) (lenOf pd___BII__B rfl) rfl (by show 2 * 0 + _ ≤ _; exact Nat.le_of_eq rfl) (hb hby d29_13) (fun _ _ => ⟨rfl, e0, (by decide : 0 + 1 ≤ _), (by decide : 0 + 4 ≤ _)⟩)
    dsimp only [Pt.U, Pt.locs, Pt.cells, Pt.slots] at X11 l11 y11 z11 st11 hQ11
    subst l11 y11 z11
    obtain ⟨v9, v10, rfl, N11, K11, q11_0, y11_0⟩ := hQ11
    have M11 := Fr.app N0 N11
    have g12 : n0 ≤ v9 := Nat.le_trans Z0 y11_0
    have s13 : h0.size ≤ v9 := Nat.le_trans (Nat.le_refl _) y11_0
    refine Gl.st st11 ?_
    show Gl p.tables e below _ (T11.setTop (mkF m 16 #[.val (.ref t), .val (.int (Int32.ofNat x)), .val (.int (Int32.ofNat (x + d)))] [(.ref v9)]))
    show Gl p.tables e below _ (T11.setTop (mkF m 16 #[.val (.ref t), .val (.int (Int32.ofNat x)), .val (.int (Int32.ofNat (x + d)))] [(.ref v9)]))
    have K14 : Keep h0 T11.heap [] := ((Keep.refl h0 []).trans K11 all0)
    exact Gl.retA X11 hx Bd.returns rfl rfl (hb hby d29_16) hlk (by decide) (by decide) ⟨v9, v10, rfl, M11, K14, q11_0, s13⟩
theorem d28_0 : decode jdk_42_method_151_code 0 = .ok (.aload_n 0, 1) := by decide +kernel
theorem d28_1 : decode jdk_42_method_151_code 1 = .ok (.invokespecial 1, 3) := by decide +kernel
theorem d28_4 : decode jdk_42_method_151_code 4 = .ok (.aload_n 0, 1) := by decide +kernel
theorem d28_5 : decode jdk_42_method_151_code 5 = .ok (.aload_n 1, 1) := by decide +kernel
theorem d28_6 : decode jdk_42_method_151_code 6 = .ok (.putfield 9, 3) := by decide +kernel
theorem d28_9 : decode jdk_42_method_151_code 9 = .ok (.aload_n 0, 1) := by decide +kernel
theorem d28_10 : decode jdk_42_method_151_code 10 = .ok (.iload_n 2, 1) := by decide +kernel
theorem d28_11 : decode jdk_42_method_151_code 11 = .ok (.putfield 15, 3) := by decide +kernel
theorem d28_14 : decode jdk_42_method_151_code 14 = .ok (.return_, 1) := by decide +kernel
theorem ef_si (m : MethodId) (a : Addr) (t : Addr) : entryFrame m #[(.ref a), (.ref t), (.int 0)] 3 = mkF m 0 #[.val (.ref a), .val (.ref t), .val (.int 0)] [] := by first | (simp [entryFrame, mkF, argsToLocals, Value.category]; done) | rfl
def Q_si (Z : State) (a : Addr) (t : Addr) (o1 : Value) (o2 : Int32) (h0 : Heap) (n0 : Nat) (v : Option Value) (h : Heap) (L : List Loc) : Prop := (v = none ∧ Fr n0 L ∧ Keep h0 h [a] ∧ Exa Z h a "java/lang/String" ∧ Fld Z h a "java/lang/String" "value" "[B" (.ref t) ∧ Fld Z h a "java/lang/String" "coder" "B" (.int 0))
set_option maxRecDepth 65536 in
set_option maxHeartbeats 40000000 in
theorem rm_si (l : Launch) (Z : State) (a0 : Array Value) (hw : ∀ d ∈ tables_1, d.before a0 Z = true) (ws : List Jvm.Cond) (a : Addr) (t : Addr) (o1 : Value) (o2 : Int32) (h0 : Heap) (n0 : Nat) (Z0 : n0 ≤ h0.size) (pf0 : Exa Z h0 a "java/lang/String") (pf1 : Fld Z h0 a "java/lang/String" "value" "[B" o1) (pf2 : Fld Z h0 a "java/lang/String" "coder" "B" (.int o2)) (ga : n0 ≤ a) :
    MetFree l (⟨"java/lang/String", "<init>", "([BB)V"⟩ : MethodName) (head1 (Jvm.Cond.code (⟨"java/lang/String", "<init>", "([BB)V"⟩ : MethodName) jdk_42_method_151_code 3 none :: ws) ({ frames := 1, cells := 0, slots := 0, locals := 12 } : Room)) (fun aa U => aa = #[(.ref a), (.ref t), (.int 0)] ∧ Z.Warmed39 U.vm ∧ U.heap = h0) (fun _ _ _ _ _ => True) (fun _ U o U' => ∃ v L, o = .returned v ∧ Q_si Z a t o1 o2 h0 n0 v U'.heap L ∧ FrameEnd U o U' L ({ frames := 1, cells := 0, slots := 0, locals := 12 } : Room).cells ({ frames := 1, cells := 0, slots := 0, locals := 12 } : Room).slots) := by
  refine MetFree.of_bodySF (plainFor_of_name pn_java_lang_String) hisR ?_
  intro p e s m args below meth c s₁ Bd hml0 hP hK
  obtain ⟨rfl, hZ, hh⟩ := hP
  have hx := Bd.exec
  have hby := Bd.bytes
  have hlk : meth.locks = false := BodyLoose.notSynchronized Bd
  have hml : c.maxLocals = 3 := hml0
  have hown : s.vm.findClass "java/lang/String" = some m.cls := findClass_of_methodNamed Bd.named
  have hnm := (name_of_methodNamed Bd.named Bd.method).1
  have X0 : Stand p l e ({ frames := 1, cells := 0, slots := 0, locals := 12 } : Room) s m #[(.ref a), (.ref t), (.int 0)] below meth c s₁ [] 0 0 := Stand.of_body Bd
  have e0 : s₁.heap = h0 := by rw [← hh, Bd.state]; rfl
  have N0 := Fr.nil n0
  show Gl p.tables e below (EndN s (Q_si Z a t o1 o2 h0 n0) ({ frames := 1, cells := 0, slots := 0, locals := 12 } : Room).cells ({ frames := 1, cells := 0, slots := 0, locals := 12 } : Room).slots) _
  refine Gl.cast (ef_si m a t) ?_
  show Gl p.tables e below _ (s₁.setTop (mkF m 0 #[.val (.ref a), .val (.ref t), .val (.int 0)] []))
  refine Gl.st (fun _ kq => XS.aloadN X0.here hx rfl (hb hby d28_0) rfl rfl kq) ?_
  show Gl p.tables e below _ (s₁.setTop (mkF m 1 #[.val (.ref a), .val (.ref t), .val (.int 0)] [(.ref a)]))
  obtain ⟨T1, X1, e1, st1⟩ := initO X0 hx hZ hown (tw hw 71 rfl) (tw hw 72 rfl) (tw hw 73 rfl) e0 (g := (mkF m 1 #[.val (.ref a), .val (.ref t), .val (.int 0)] [(.ref a)])) rfl (by rw [hml]; rfl) rfl (hb hby d28_1) (by decide) (W := 0) (by show 2 * 0 + _ ≤ _; exact Nat.le_of_eq rfl) (by decide)
  refine Gl.st st1 ?_
  show Gl p.tables e below _ (T1.setTop (mkF m 4 #[.val (.ref a), .val (.ref t), .val (.int 0)] []))
  refine Gl.st (fun _ kq => XS.aloadN X1.here hx rfl (hb hby d28_4) rfl rfl kq) ?_
  show Gl p.tables e below _ (T1.setTop (mkF m 5 #[.val (.ref a), .val (.ref t), .val (.int 0)] [(.ref a)]))
  refine Gl.st (fun _ kq => XS.aloadN X1.here hx rfl (hb hby d28_5) rfl rfl kq) ?_
  show Gl p.tables e below _ (T1.setTop (mkF m 6 #[.val (.ref a), .val (.ref t), .val (.int 0)] [(.ref t), (.ref a)]))
  obtain ⟨T2, h2, X2, e2, W2, st2⟩ := putF X1 hx hZ hown (host := "") (Or.inl (tw hw 37 rfl)) Via.refl e1 pf1 pf0 (Or.inr ⟨(tw hw 12 rfl), rfl, hnm⟩) (tw hw 10 rfl) (ty := (.array .byte)) (by decide) rfl rfl (g := (mkF m 6 #[.val (.ref a), .val (.ref t), .val (.int 0)] [(.ref t), (.ref a)])) rfl rfl (hb hby d28_6)
  refine Gl.st st2 ?_
  have F2 : Fld Z h2 a "java/lang/String" "value" "[B" (.ref t) := Fld.same W2 pf1
  have N2 := Fr.snoc X2 N0 ga
  show Gl p.tables e below _ (T2.setTop (mkF m 9 #[.val (.ref a), .val (.ref t), .val (.int 0)] []))
  refine Gl.st (fun _ kq => XS.aloadN X2.here hx rfl (hb hby d28_9) rfl rfl kq) ?_
  show Gl p.tables e below _ (T2.setTop (mkF m 10 #[.val (.ref a), .val (.ref t), .val (.int 0)] [(.ref a)]))
  refine Gl.st (fun _ kq => XS.iloadN X2.here hx rfl (hb hby d28_10) rfl kq) ?_
  show Gl p.tables e below _ (T2.setTop (mkF m 11 #[.val (.ref a), .val (.ref t), .val (.int 0)] [(.int 0), (.ref a)]))
  have f3 : Fld Z h2 a "java/lang/String" "coder" "B" (.int o2) := (pf2.other W2 (Or.inr (slot_ne (Or.inr (tw hw 13 rfl)) (Or.inr (tw hw 12 rfl)) (by decide) (t := .byte) (t' := (.array .byte)) (by decide) (by decide))))
  have f4 : Exa Z h2 a "java/lang/String" := (pf0.wr W2)
  obtain ⟨T5, h5, X5, e5, W5, st5⟩ := putFN X2 hx hZ hown (tw hw 36 rfl) Via.refl e2 f3 f4 (Or.inr ⟨(tw hw 13 rfl), rfl, hnm⟩) (tw hw 10 rfl) (ty := .byte) (v' := (.int 0)) (by decide) rfl (by decide) (g := (mkF m 11 #[.val (.ref a), .val (.ref t), .val (.int 0)] [(.int 0), (.ref a)])) rfl rfl (hb hby d28_11)
  refine Gl.st st5 ?_
  have F5 : Fld Z h5 a "java/lang/String" "coder" "B" (.int 0) := Fld.same W5 f3
  have N5 := Fr.snoc X5 N2 ga
  show Gl p.tables e below _ (T5.setTop (mkF m 14 #[.val (.ref a), .val (.ref t), .val (.int 0)] []))
  have K6 : Keep h0 h5 [a] := (((Keep.refl h0 [a]).wr W2 (Or.inl (List.mem_of_getElem? (i := 0) rfl))).wr W5 (Or.inl (List.mem_of_getElem? (i := 0) rfl)))
  have f7 : Exa Z h5 a "java/lang/String" := (f4.wr W5)
  have f8 : Fld Z h5 a "java/lang/String" "value" "[B" (.ref t) := (F2.other W5 (Or.inr (slot_ne (Or.inr (tw hw 12 rfl)) (Or.inr (tw hw 13 rfl)) (by decide) (t := (.array .byte)) (t' := .byte) (by decide) (by decide))))
  exact Gl.ret0 X5 hx Bd.returns (hb hby d28_14) hlk (by decide) (by decide) (by rw [e5]; exact ⟨rfl, N5, K6, f7, f8, F5⟩)
theorem d23_0 : decode jdk_43_method_47_code 0 = .ok (.iload_n 2, 1) := by decide +kernel
theorem d23_1 : decode jdk_43_method_47_code 1 = .ok (.ifCond .ne 6, 3) := by decide +kernel
theorem d23_4 : decode jdk_43_method_47_code 4 = .ok (.ldc 151, 2) := by decide +kernel
theorem d23_6 : decode jdk_43_method_47_code 6 = .ok (.areturn, 1) := by decide +kernel
theorem d23_7 : decode jdk_43_method_47_code 7 = .ok (.new 1, 3) := by decide +kernel
theorem d23_10 : decode jdk_43_method_47_code 10 = .ok (.dup, 1) := by decide +kernel
theorem d23_11 : decode jdk_43_method_47_code 11 = .ok (.aload_n 0, 1) := by decide +kernel
theorem d23_12 : decode jdk_43_method_47_code 12 = .ok (.iload_n 1, 1) := by decide +kernel
theorem d23_13 : decode jdk_43_method_47_code 13 = .ok (.iload_n 1, 1) := by decide +kernel
theorem d23_14 : decode jdk_43_method_47_code 14 = .ok (.iload_n 2, 1) := by decide +kernel
theorem d23_15 : decode jdk_43_method_47_code 15 = .ok (.iadd, 1) := by decide +kernel
theorem d23_16 : decode jdk_43_method_47_code 16 = .ok (.invokestatic 232, 3) := by decide +kernel
theorem d23_19 : decode jdk_43_method_47_code 19 = .ok (.iconst 0, 1) := by decide +kernel
theorem d23_20 : decode jdk_43_method_47_code 20 = .ok (.invokespecial 112, 3) := by decide +kernel
theorem d23_23 : decode jdk_43_method_47_code 23 = .ok (.areturn, 1) := by decide +kernel
theorem ef_nst (m : MethodId) (t : Addr) (x : Nat) (d : Nat) : entryFrame m #[(.ref t), (.int (Int32.ofNat x)), (.int (Int32.ofNat d))] 3 = mkF m 0 #[.val (.ref t), .val (.int (Int32.ofNat x)), .val (.int (Int32.ofNat d))] [] := by first | (simp [entryFrame, mkF, argsToLocals, Value.category]; done) | rfl
def Q_nst (Z : State) (t : Addr) (k : ClassId) (cs : List Int32) (x : Nat) (d : Nat) (h0 : Heap) (n0 : Nat) (v : Option Value) (h : Heap) (L : List Loc) : Prop := (∃ r : Addr, ∃ t2 : Addr, ∃ k2 : ClassId, ∃ ds : List Int32, v = some (.ref r) ∧ Fr n0 L ∧ Keep h0 h [] ∧ Exa Z h r "java/lang/String" ∧ Fld Z h r "java/lang/String" "coder" "B" (.int 0) ∧ Fld Z h r "java/lang/String" "value" "[B" (.ref t2) ∧ Arv Z h t2 k2 .byte (Int32.ofNat ds.length) ((ds.map (fun c => c.toInt8.toInt32)).map Value.int) (.int 0) ∧ (ds = (cs.drop x).take d))
set_option maxRecDepth 65536 in
set_option maxHeartbeats 40000000 in
theorem rm_nst (l : Launch) (Z : State) (a0 : Array Value) (hw : ∀ d ∈ tables_1, d.before a0 Z = true) (ws : List Jvm.Cond) (t : Addr) (k : ClassId) (cs : List Int32) (x : Nat) (d : Nat) (h0 : Heap) (n0 : Nat) (Z0 : n0 ≤ h0.size) (pf0 : Arv Z h0 t k .byte (Int32.ofNat cs.length) ((cs.map (fun c => c.toInt8.toInt32)).map Value.int) (.int 0)) (hl : cs.length ≤ 4) (hx1 : x + d ≤ cs.length) (hnw : ¬ (x = 0 ∧ x + d = cs.length)) :
    MetFree l (⟨"java/lang/StringLatin1", "newString", "([BII)Ljava/lang/String;"⟩ : MethodName) (head1 (Jvm.Cond.code (⟨"java/lang/StringLatin1", "newString", "([BII)Ljava/lang/String;"⟩ : MethodName) jdk_43_method_47_code 3 (some (.object "java/lang/String")) :: ws) ({ frames := 3, cells := 2, slots := 8, locals := 50 } : Room)) (fun aa U => aa = #[(.ref t), (.int (Int32.ofNat x)), (.int (Int32.ofNat d))] ∧ Z.Warmed39 U.vm ∧ U.heap = h0 ∧ CHv Z consts_1 U.vm h0) (fun _ _ _ _ _ => True) (fun _ U o U' => ∃ v L, o = .returned v ∧ Q_nst Z t k cs x d h0 n0 v U'.heap L ∧ CHr Z consts_1 U.vm U.heap U'.vm U'.heap ∧ ReturnedEndW U o U' L ({ frames := 3, cells := 2, slots := 8, locals := 50 } : Room).cells ({ frames := 3, cells := 2, slots := 8, locals := 50 } : Room).slots) := by
  refine MetFree.of_bodySF (plainFor_of_name pn_java_lang_StringLatin1) hisR ?_
  intro p e s m args below meth c s₁ Bd hml0 hP hK
  obtain ⟨rfl, hZ, hh, hH⟩ := hP
  have hx := Bd.exec
  have hby := Bd.bytes
  have hlk : meth.locks = false := BodyLoose.notSynchronized Bd
  have hml : c.maxLocals = 3 := hml0
  have hown : s.vm.findClass "java/lang/StringLatin1" = some m.cls := findClass_of_methodNamed Bd.named
  have hnm := (name_of_methodNamed Bd.named Bd.method).1
  have X0 : Stand p l e ({ frames := 3, cells := 2, slots := 8, locals := 50 } : Room) (s.setVm s.vm) m #[(.ref t), (.int (Int32.ofNat x)), (.int (Int32.ofNat d))] below meth c s₁ [] 0 0 := Stand.of_body Bd
  have e0 : s₁.heap = h0 := by rw [← hh, Bd.state]; rfl
  have N0 := Fr.nil n0
  show Gl p.tables e below (EndH s Z consts_1 (Q_nst Z t k cs x d h0 n0) ({ frames := 3, cells := 2, slots := 8, locals := 50 } : Room).cells ({ frames := 3, cells := 2, slots := 8, locals := 50 } : Room).slots) _
  refine Gl.cast (ef_nst m t x d) ?_
  show Gl p.tables e below _ (s₁.setTop (mkF m 0 #[.val (.ref t), .val (.int (Int32.ofNat x)), .val (.int (Int32.ofNat d))] []))
  have hS0 : s.Since s.vm s₁.heap.size := (State.WarmedH.refl s).since _
  have C0 : CHr Z consts_1 s.vm h0 s.vm h0 := CHr.refl hH
  refine Gl.st (fun _ kq => XS.iloadN X0.here hx rfl (hb hby d23_0) rfl kq) ?_
  show Gl p.tables e below _ (s₁.setTop (mkF m 1 #[.val (.ref t), .val (.int (Int32.ofNat x)), .val (.int (Int32.ofNat d))] [(.int (Int32.ofNat d))]))
  by_cases hc1 : (Int32.ofNat d) = (0 : Int32)
  · refine Gl.st (fun _ kq => XS.ifNo X0.here hx rfl (hb hby d23_1) rfl ((if0 _ _).trans (teq (hc1 : (Int32.ofNat d) = (0 : Int32))).2) kq) ?_
    show Gl p.tables e below _ (s₁.setTop (mkF m 4 #[.val (.ref t), .val (.int (Int32.ofNat x)), .val (.int (Int32.ofNat d))] []))
    obtain ⟨b2, T2, h2, k2, t2, kc2, X2, e2, E2, S2, q2, hZ2, ho2, A2, F2, G2, V2, la2, lb2, R2, L2, sa2, st2⟩ := ldcCH X0 hx hZ hown (tw hw 103 rfl) (strW hw) e0 hS0 (Nat.le_of_eq (congrArg Array.size e0)) (elW hw) (by decide) C0.1 (vs := []) (z := (0 : Int32)) (litc_103) (by decide) (by decide) (g := (mkF m 4 #[.val (.ref t), .val (.int (Int32.ofNat x)), .val (.int (Int32.ofNat d))] [])) rfl (hb hby d23_4) (n := 0) (by decide) (by decide) (by decide) (by decide)
    refine Gl.st st2 ?_
    have C3 : CHr Z consts_1 s.vm h0 T2.vm h2 := C0.trans R2
    have V2 : Arv Z h2 t2 kc2 .byte (Int32.ofNat ([] : List Int32).length) ((([] : List Int32).map (fun c => c.toInt8.toInt32)).map Value.int) (.int 0) := V2
    show Gl p.tables e below _ (T2.setTop (mkF m 6 #[.val (.ref t), .val (.int (Int32.ofNat x)), .val (.int (Int32.ofNat d))] [(.ref b2)]))
    have K4 : Keep h0 h2 [] := ((Keep.refl h0 []).ext E2)
    exact Gl.retAH X2 hx S2 (Nat.le_trans q2 (Nat.le_of_eq (congrArg Array.size e2).symm)) (by rw [hh, e2]; exact C3.trans (CHv.at X2 hZ2 (elW hw) C3.1)) Bd.returns rfl rfl (hb hby d23_6) hlk (by decide) (by decide) (by rw [e2]; exact ⟨b2, t2, kc2, ([] : List Int32), rfl, N0, K4, A2, F2, G2, V2, (by rw [(n32_eq0 (i := d) (by omega)).mp hc1]; simp)⟩)
  · refine Gl.st (fun _ kq => XS.ifYes X0.here hx rfl (pc0 := 1) (pc' := 7) rfl (hb hby d23_1) rfl ((if0 _ _).trans (feq (hc1 : ¬ ((Int32.ofNat d) = (0 : Int32)))).2) (by decide) (by decide) kq) ?_
    show Gl p.tables e below _ (s₁.setTop (mkF m 7 #[.val (.ref t), .val (.int (Int32.ofNat x)), .val (.int (Int32.ofNat d))] []))
    obtain ⟨T5, h5, X5, e5, E5, A5, D5, U5, st5⟩ := newO X0 hx hZ hown (tw hw 122 rfl) (tw hw 10 rfl) (tw hw 9 rfl) e0 (g := (mkF m 7 #[.val (.ref t), .val (.int (Int32.ofNat x)), .val (.int (Int32.ofNat d))] [])) rfl (hb hby d23_7) (by decide) (by decide)
    obtain ⟨b5, g5⟩ : ∃ z, z = h0.size := ⟨_, rfl⟩
    rw [← g5] at A5 D5 U5 st5
    refine Gl.st st5 ?_
    have g6 : n0 ≤ b5 := Nat.le_trans Z0 (Nat.le_of_eq g5.symm)
    have s7 : h0.size ≤ b5 := Nat.le_trans (Nat.le_refl _) (Nat.le_of_eq g5.symm)
    have C8 : CHr Z consts_1 s.vm h0 s.vm h5 := C0.trans (CHr.ext E5 C0.1)
    have F5_12 : Fld Z h5 b5 "java/lang/String" "value" "[B" .null := D5 (Or.inr (tw hw 12 rfl)) (ty := (.array .byte)) (by decide)
    have F5_13 : Fld Z h5 b5 "java/lang/String" "coder" "B" (.int 0) := D5 (Or.inr (tw hw 13 rfl)) (ty := .byte) (by decide)
    show Gl p.tables e below _ (T5.setTop (mkF m 10 #[.val (.ref t), .val (.int (Int32.ofNat x)), .val (.int (Int32.ofNat d))] [(.ref b5)]))
    refine Gl.st (fun _ kq => XS.dup X5.here hx rfl (hb hby d23_10) rfl rfl kq) ?_
    show Gl p.tables e below _ (T5.setTop (mkF m 11 #[.val (.ref t), .val (.int (Int32.ofNat x)), .val (.int (Int32.ofNat d))] [(.ref b5), (.ref b5)]))
    refine Gl.st (fun _ kq => XS.aloadN X5.here hx rfl (hb hby d23_11) rfl rfl kq) ?_
    show Gl p.tables e below _ (T5.setTop (mkF m 12 #[.val (.ref t), .val (.int (Int32.ofNat x)), .val (.int (Int32.ofNat d))] [(.ref t), (.ref b5), (.ref b5)]))
    refine Gl.st (fun _ kq => XS.iloadN X5.here hx rfl (hb hby d23_12) rfl kq) ?_
    show Gl p.tables e below _ (T5.setTop (mkF m 13 #[.val (.ref t), .val (.int (Int32.ofNat x)), .val (.int (Int32.ofNat d))] [(.int (Int32.ofNat x)), (.ref t), (.ref b5), (.ref b5)]))
    refine Gl.st (fun _ kq => XS.iloadN X5.here hx rfl (hb hby d23_13) rfl kq) ?_
    show Gl p.tables e below _ (T5.setTop (mkF m 14 #[.val (.ref t), .val (.int (Int32.ofNat x)), .val (.int (Int32.ofNat d))] [(.int (Int32.ofNat x)), (.int (Int32.ofNat x)), (.ref t), (.ref b5), (.ref b5)]))
    refine Gl.st (fun _ kq => XS.iloadN X5.here hx rfl (hb hby d23_14) rfl kq) ?_
    show Gl p.tables e below _ (T5.setTop (mkF m 15 #[.val (.ref t), .val (.int (Int32.ofNat x)), .val (.int (Int32.ofNat d))] [(.int (Int32.ofNat d)), (.int (Int32.ofNat x)), (.int (Int32.ofNat x)), (.ref t), (.ref b5), (.ref b5)]))
    refine Gl.st (fun _ kq => XS.iadd X5.here hx rfl (hb hby d23_15) rfl kq) ?_
    show Gl p.tables e below _ (T5.setTop (mkF m 16 #[.val (.ref t), .val (.int (Int32.ofNat x)), .val (.int (Int32.ofNat d))] [(.int ((Int32.ofNat x) + (Int32.ofNat d))), (.int (Int32.ofNat x)), (.ref t), (.ref b5), (.ref b5)]))
    rw [n32_add x d]
    show Gl p.tables e below _ (T5.setTop (mkF m 16 #[.val (.ref t), .val (.int (Int32.ofNat x)), .val (.int (Int32.ofNat d))] [(.int (Int32.ofNat (x + d))), (.int (Int32.ofNat x)), (.ref t), (.ref b5), (.ref b5)]))
    have f9 : Arv Z h5 t k .byte (Int32.ofNat cs.length) ((cs.map (fun c => c.toInt8.toInt32)).map Value.int) (.int 0) := (pf0.ext E5)
    obtain ⟨_, _, ⟨T12, L12, k12, n12⟩, -, X12, ⟨Lc12, hQ12, l12, y12, z12⟩, st12⟩ := Jvm.LawKit.callS X5 hx (y := (⟨"java/util/Arrays", "copyOfRange", "([BII)[B"⟩ : MethodName)) hown (mvT hZ (tw hw 123 rfl)) (mvT hZ (tw hw 124 rfl)) (mvT hZ (tw hw 125 rfl)) (mvT hZ (tw hw 126 rfl)) (by decide) (backOf (W := 2) (rm_cor l Z a0 hw [] (t) (k) (cs) (x) (d) h5 n0 (Nat.le_trans Z0 E5.1) f9 hl hx1 hnw) hZ (tw hw 126 rfl) (tw hw 125 rfl) (by decide) (by decide)) (g := (mkF m 16 #[.val (.ref t), .val (.int (Int32.ofNat x)), .val (.int (Int32.ofNat d))] [(.int (Int32.ofNat (x + d))), (.int (Int32.ofNat x)), (.ref t), (.ref b5), (.ref b5)])) rfl (by rw [hml]; rfl) (argsL := [(.ref t), (.int (Int32.ofNat x)), (.int (Int32.ofNat (x + d)))]) (rest := [(.ref b5), (.ref b5)]) (lenOf pd___BII__B rfl) rfl (by show 2 * 0 + _ ≤ _; exact Nat.le_of_eq rfl) (hb hby d23_16) (fun _ _ => ⟨rfl, e5, (by decide : 1 + 1 ≤ _), (by decide : 4 + 4 ≤ _)⟩)
    dsimp only [Pt.U, Pt.locs, Pt.cells, Pt.slots] at X12 l12 y12 z12 st12 hQ12
    subst l12 y12 z12
    obtain ⟨v10, v11, rfl, N12, K12, q12_0, y12_0⟩ := hQ12
    have C13 : CHr Z consts_1 s.vm h0 s.vm T12.heap := C8.trans (CHr.keep K12 sf0 C8.1)
    have M12 := Fr.app N0 N12
    have g14 : n0 ≤ v10 := Nat.le_trans (Nat.le_trans Z0 E5.1) y12_0
    have s15 : h0.size ≤ v10 := Nat.le_trans (Nat.le_trans (Nat.le_refl _) E5.1) y12_0
    refine Gl.st st12 ?_
    show Gl p.tables e below _ (T12.setTop (mkF m 19 #[.val (.ref t), .val (.int (Int32.ofNat x)), .val (.int (Int32.ofNat d))] [(.ref v10), (.ref b5), (.ref b5)]))
    show Gl p.tables e below _ (T12.setTop (mkF m 19 #[.val (.ref t), .val (.int (Int32.ofNat x)), .val (.int (Int32.ofNat d))] [(.ref v10), (.ref b5), (.ref b5)]))
    refine Gl.st (fun _ kq => XS.iconst X12.here hx rfl (hb hby d23_19) kq) ?_
    show Gl p.tables e below _ (T12.setTop (mkF m 20 #[.val (.ref t), .val (.int (Int32.ofNat x)), .val (.int (Int32.ofNat d))] [(.int 0), (.ref v10), (.ref b5), (.ref b5)]))
    have f16 : Exa Z T12.heap b5 "java/lang/String" := (A5.keep K12)
    have f17 : Fld Z T12.heap b5 "java/lang/String" "value" "[B" .null := (F5_12.keep K12 nin0)
    have f18 : Fld Z T12.heap b5 "java/lang/String" "coder" "B" (.int 0) := (F5_13.keep K12 nin0)
    have Sf20 : Safe Z consts_1 s.vm T12.heap b5 := (Safe.keep K12 sf0 C8.1 (Safe.ext E5 C0.1 (Safe.new (EL := consts_1) (vm := s.vm) (Nat.le_of_eq g5.symm))))
    obtain ⟨_, _, ⟨T19, L19, k19, n19⟩, -, X19, ⟨Lc19, hQ19, l19, y19, z19⟩, st19⟩ := X12.specialBack hx (y := (⟨"java/lang/String", "<init>", "([BB)V"⟩ : MethodName)) rfl hown (mvT hZ (tw hw 138 rfl)) (mvT hZ (tw hw 120 rfl)) (mvT hZ (tw hw 121 rfl)) (by decide) (backOf (W := 1) (rm_si l Z a0 hw [] (b5) (v10) (.null) ((0 : Int32)) T12.heap n0 (Nat.le_trans (Nat.le_trans Z0 E5.1) K12.1) f16 f17 f18 g6) hZ (tw hw 121 rfl) (tw hw 9 rfl) (by decide) (by decide)) (g := (mkF m 20 #[.val (.ref t), .val (.int (Int32.ofNat x)), .val (.int (Int32.ofNat d))] [(.int 0), (.ref v10), (.ref b5), (.ref b5)])) rfl (by rw [hml]; rfl) (Steps.refl _) (a := b5) (argsL := [(.ref v10), (.int 0)]) (rest := [(.ref b5)]) (lenOf pd___BB_V rfl) rfl (by show 2 * 0 + _ ≤ _; exact Nat.le_of_eq rfl) (hb hby d23_20) (fun _ _ => ⟨rfl, rfl, (by decide : 2 + 0 ≤ _), (by decide : 8 + 0 ≤ _)⟩)
    dsimp only [Pt.U, Pt.locs, Pt.cells, Pt.slots] at X19 l19 y19 z19 st19 hQ19
    subst l19 y19 z19
    obtain ⟨rfl, N19, K19, q19_0, q19_1, q19_2⟩ := hQ19
    have C21 : CHr Z consts_1 s.vm h0 s.vm T19.heap := C13.trans (CHr.keep K19 (sfS Sf20 sf0) C13.1)
    have M19 := Fr.app M12 N19
    refine Gl.to st19 ?_
    show Gl p.tables e below _ (T19.setTop (mkF m 23 #[.val (.ref t), .val (.int (Int32.ofNat x)), .val (.int (Int32.ofNat d))] [(.ref b5)]))
    show Gl p.tables e below _ (T19.setTop (mkF m 23 #[.val (.ref t), .val (.int (Int32.ofNat x)), .val (.int (Int32.ofNat d))] [(.ref b5)]))
    have K22 : Keep h0 T19.heap [] := ((((Keep.refl h0 []).ext E5).trans K12 all0).trans K19 (allS (Or.inr s7) all0))
    have ne23 : v10 ≠ b5 := Ne.symm (Nat.ne_of_lt (Nat.lt_of_lt_of_le A5.lt y12_0))
    have f24 : Arv Z T19.heap v10 v11 .byte (Int32.ofNat d) ((((cs.drop x).take d).map (fun c => c.toInt8.toInt32)).map Value.int) (.int 0) := (q12_0.keep K19 (ninS ne23 nin0))
    exact Gl.retAH X19 hx hS0 (Nat.le_trans (Nat.le_trans (Nat.le_trans (Nat.le_of_eq (congrArg Array.size e0)) E5.1) K12.1) K19.1) (by rw [hh]; exact C21.trans (CHv.at X19 hZ (elW hw) C21.1)) Bd.returns rfl rfl (hb hby d23_23) hlk (by decide) (by decide) ⟨b5, v10, v11, ((cs.drop x).take d), rfl, M19, K22, q19_0, q19_2, q19_1, (by rw [show ((cs.drop x).take d).length = d from by simp; omega]; exact f24), rfl⟩
theorem d20_0 : decode jdk_42_method_92_code 0 = .ok (.aload_n 0, 1) := by decide +kernel
theorem d20_1 : decode jdk_42_method_92_code 1 = .ok (.invokevirtual 505, 3) := by decide +kernel
theorem d20_4 : decode jdk_42_method_92_code 4 = .ok (.istore_n 3, 1) := by decide +kernel
theorem d20_5 : decode jdk_42_method_92_code 5 = .ok (.iload_n 1, 1) := by decide +kernel
theorem d20_6 : decode jdk_42_method_92_code 6 = .ok (.iload_n 2, 1) := by decide +kernel
theorem d20_7 : decode jdk_42_method_92_code 7 = .ok (.iload_n 3, 1) := by decide +kernel
theorem d20_8 : decode jdk_42_method_92_code 8 = .ok (.invokestatic 521, 3) := by decide +kernel
theorem d20_11 : decode jdk_42_method_92_code 11 = .ok (.iload_n 1, 1) := by decide +kernel
theorem d20_12 : decode jdk_42_method_92_code 12 = .ok (.ifCond .ne 10, 3) := by decide +kernel
theorem d20_15 : decode jdk_42_method_92_code 15 = .ok (.iload_n 2, 1) := by decide +kernel
theorem d20_16 : decode jdk_42_method_92_code 16 = .ok (.iload_n 3, 1) := by decide +kernel
theorem d20_17 : decode jdk_42_method_92_code 17 = .ok (.if_icmp .ne 5, 3) := by decide +kernel
theorem d20_20 : decode jdk_42_method_92_code 20 = .ok (.aload_n 0, 1) := by decide +kernel
theorem d20_21 : decode jdk_42_method_92_code 21 = .ok (.areturn, 1) := by decide +kernel
theorem d20_22 : decode jdk_42_method_92_code 22 = .ok (.iload_n 2, 1) := by decide +kernel
theorem d20_23 : decode jdk_42_method_92_code 23 = .ok (.iload_n 1, 1) := by decide +kernel
theorem d20_24 : decode jdk_42_method_92_code 24 = .ok (.isub, 1) := by decide +kernel
theorem d20_25 : decode jdk_42_method_92_code 25 = .ok (.istore 4, 2) := by decide +kernel
theorem d20_27 : decode jdk_42_method_92_code 27 = .ok (.aload_n 0, 1) := by decide +kernel
theorem d20_28 : decode jdk_42_method_92_code 28 = .ok (.invokevirtual 492, 3) := by decide +kernel
theorem d20_31 : decode jdk_42_method_92_code 31 = .ok (.ifCond .eq 16, 3) := by decide +kernel
theorem d20_34 : decode jdk_42_method_92_code 34 = .ok (.aload_n 0, 1) := by decide +kernel
theorem d20_35 : decode jdk_42_method_92_code 35 = .ok (.getfield 9, 3) := by decide +kernel
theorem d20_38 : decode jdk_42_method_92_code 38 = .ok (.iload_n 1, 1) := by decide +kernel
theorem d20_39 : decode jdk_42_method_92_code 39 = .ok (.iload 4, 2) := by decide +kernel
theorem d20_41 : decode jdk_42_method_92_code 41 = .ok (.invokestatic 685, 3) := by decide +kernel
theorem d20_44 : decode jdk_42_method_92_code 44 = .ok (.goto 13, 3) := by decide +kernel
theorem d20_57 : decode jdk_42_method_92_code 57 = .ok (.areturn, 1) := by decide +kernel
theorem ef_ss2 (m : MethodId) (b : Addr) (x : Nat) (y : Nat) : entryFrame m #[(.ref b), (.int (Int32.ofNat x)), (.int (Int32.ofNat y))] 5 = mkF m 0 #[.val (.ref b), .val (.int (Int32.ofNat x)), .val (.int (Int32.ofNat y)), .unset, .unset] [] := by first | (simp [entryFrame, mkF, argsToLocals, Value.category]; done) | rfl
def Q_ss2 (Z : State) (b : Addr) (t : Addr) (k : ClassId) (cs : List Int32) (x : Nat) (y : Nat) (G1 : Int32) (G3 : Value) (h0 : Heap) (n0 : Nat) (v : Option Value) (h : Heap) (L : List Loc) : Prop := (∃ r : Addr, ∃ t2 : Addr, ∃ k2 : ClassId, ∃ ds : List Int32, v = some (.ref r) ∧ Fr n0 L ∧ Keep h0 h [] ∧ Exa Z h r "java/lang/String" ∧ Fld Z h r "java/lang/String" "coder" "B" (.int 0) ∧ Fld Z h r "java/lang/String" "value" "[B" (.ref t2) ∧ Arv Z h t2 k2 .byte (Int32.ofNat ds.length) ((ds.map (fun c => c.toInt8.toInt32)).map Value.int) (.int 0) ∧ (ds = (cs.drop x).take (y - x)))
set_option maxRecDepth 65536 in
set_option maxHeartbeats 40000000 in
theorem rm_ss2 (l : Launch) (Z : State) (a0 : Array Value) (hw : ∀ d ∈ tables_1, d.before a0 Z = true) (ws : List Jvm.Cond) (b : Addr) (t : Addr) (k : ClassId) (cs : List Int32) (x : Nat) (y : Nat) (G1 : Int32) (G3 : Value) (h0 : Heap) (n0 : Nat) (Z0 : n0 ≤ h0.size) (pf0 : Exa Z h0 b "java/lang/String") (pf1 : Fld Z h0 b "java/lang/String" "coder" "B" (.int 0)) (pf2 : Fld Z h0 b "java/lang/String" "value" "[B" (.ref t)) (pf3 : Arv Z h0 t k .byte (Int32.ofNat cs.length) ((cs.map (fun c => c.toInt8.toInt32)).map Value.int) (.int 0)) (pf4 : Old Z n0 h0) (hr : Rng cs) (hl : cs.length ≤ 4) (hxy : x ≤ y) (hyn : y ≤ cs.length) (O2 : Sta Z Z.heap "java/lang/String" "COMPACT_STRINGS" "Z" (.int G1)) (P5 : ¬ (G1 = (0 : Int32))) (O4 : Sta Z Z.heap "jdk/internal/util/Preconditions" "SIOOBE_FORMATTER" "Ljava/util/function/BiFunction;" G3) (rG3 : G3.isRef = true) :
    MetFree l (⟨"java/lang/String", "substring", "(II)Ljava/lang/String;"⟩ : MethodName) (head1 (Jvm.Cond.code (⟨"java/lang/String", "substring", "(II)Ljava/lang/String;"⟩ : MethodName) jdk_42_method_92_code 5 (some (.object "java/lang/String")) :: ws) ({ frames := 4, cells := 2, slots := 8, locals := 64 } : Room)) (fun aa U => aa = #[(.ref b), (.int (Int32.ofNat x)), (.int (Int32.ofNat y))] ∧ Z.Warmed39 U.vm ∧ U.heap = h0 ∧ CHv Z consts_1 U.vm h0) (fun _ _ _ _ _ => True) (fun _ U o U' => ∃ v L, o = .returned v ∧ Q_ss2 Z b t k cs x y G1 G3 h0 n0 v U'.heap L ∧ CHr Z consts_1 U.vm U.heap U'.vm U'.heap ∧ ReturnedEndW U o U' L ({ frames := 4, cells := 2, slots := 8, locals := 64 } : Room).cells ({ frames := 4, cells := 2, slots := 8, locals := 64 } : Room).slots) := by
  refine MetFree.of_bodySF (plainFor_of_name pn_java_lang_String) hisR ?_
  intro p e s m args below meth c s₁ Bd hml0 hP hK
  obtain ⟨rfl, hZ, hh, hH⟩ := hP
  have hx := Bd.exec
  have hby := Bd.bytes
  have hlk : meth.locks = false := BodyLoose.notSynchronized Bd
  have hml : c.maxLocals = 5 := hml0
  have hown : s.vm.findClass "java/lang/String" = some m.cls := findClass_of_methodNamed Bd.named
  have hnm := (name_of_methodNamed Bd.named Bd.method).1
  have X0 : Stand p l e ({ frames := 4, cells := 2, slots := 8, locals := 64 } : Room) (s.setVm s.vm) m #[(.ref b), (.int (Int32.ofNat x)), (.int (Int32.ofNat y))] below meth c s₁ [] 0 0 := Stand.of_body Bd
  have e0 : s₁.heap = h0 := by rw [← hh, Bd.state]; rfl
  have N0 := Fr.nil n0
  show Gl p.tables e below (EndH s Z consts_1 (Q_ss2 Z b t k cs x y G1 G3 h0 n0) ({ frames := 4, cells := 2, slots := 8, locals := 64 } : Room).cells ({ frames := 4, cells := 2, slots := 8, locals := 64 } : Room).slots) _
  refine Gl.cast (ef_ss2 m b x y) ?_
  show Gl p.tables e below _ (s₁.setTop (mkF m 0 #[.val (.ref b), .val (.int (Int32.ofNat x)), .val (.int (Int32.ofNat y)), .unset, .unset] []))
  have hS0 : s.Since s.vm s₁.heap.size := (State.WarmedH.refl s).since _
  have C0 : CHr Z consts_1 s.vm h0 s.vm h0 := CHr.refl hH
  refine Gl.st (fun _ kq => XS.aloadN X0.here hx rfl (hb hby d20_0) rfl rfl kq) ?_
  show Gl p.tables e below _ (s₁.setTop (mkF m 1 #[.val (.ref b), .val (.int (Int32.ofNat x)), .val (.int (Int32.ofNat y)), .unset, .unset] [(.ref b)]))
  obtain ⟨cq1, kq1, q1a, q1b, q1c⟩ := isOf hZ e0 pf0
  obtain ⟨_, _, ⟨T1, L1, k1, n1⟩, -, X1, ⟨Lc1, hQ1, l1, y1, z1⟩, st1⟩ := X0.virtualBack hx (y := (⟨"java/lang/String", "length", "()I"⟩ : MethodName)) (z := (⟨"java/lang/String", "length", "()I"⟩ : MethodName)) hown (mvT hZ (tw hw 38 rfl)) (mvT hZ (tw hw 39 rfl)) (notFace_of_selects (args := #[]) (mvT hZ (tw hw 41 rfl))) (mvT hZ (tw hw 41 rfl)) (mvT hZ (tw hw 40 rfl)) (by decide) (StrChars.Road.lenW (W := 0) hZ (wdLen hw) (kI := 4) (tw hw 10 rfl) pf0 pf2 pf1 pf3 (StrChars.Road.codOf (cs := cs) rfl (fun x hx => (hr x hx).2)) (up255 _ hr) (O2.ext pf4.2) P5 (Nat.le_trans hl (by decide)) (by decide) (by decide)) q1a q1c (g := (mkF m 1 #[.val (.ref b), .val (.int (Int32.ofNat x)), .val (.int (Int32.ofNat y)), .unset, .unset] [(.ref b)])) rfl (by rw [hml]; rfl) (Steps.refl _) (argsL := []) (rest := []) (lenOf pd___I rfl) rfl (by show 2 * 0 + _ ≤ _; exact Nat.le_of_eq rfl) (hb hby d20_1) (fun _ _ => ⟨rfl, e0, (by decide : 0 + 0 ≤ _), (by decide : 0 + 0 ≤ _)⟩)
  dsimp only [Pt.U, Pt.locs, Pt.cells, Pt.slots] at X1 l1 y1 z1 st1 hQ1
  subst l1 y1 z1
  obtain ⟨rfl, rfl, e1⟩ := hQ1
  have N1 : Fr n0 ([] : List Loc) := Fr.nil n0
  have M1 := Fr.app N0 N1
  refine Gl.to st1 ?_
  show Gl p.tables e below _ (T1.setTop (mkF m 4 #[.val (.ref b), .val (.int (Int32.ofNat x)), .val (.int (Int32.ofNat y)), .unset, .unset] [(.int (Int32.ofNat cs.length))]))
  show Gl p.tables e below _ (T1.setTop (mkF m 4 #[.val (.ref b), .val (.int (Int32.ofNat x)), .val (.int (Int32.ofNat y)), .unset, .unset] [(.int (Int32.ofNat cs.length))]))
  refine Gl.st (fun _ kq => XS.istoreN X1.here hx rfl (hb hby d20_4) rfl (l' := #[.val (.ref b), .val (.int (Int32.ofNat x)), .val (.int (Int32.ofNat y)), .val (.int (Int32.ofNat cs.length)), .unset]) rfl kq) ?_
  show Gl p.tables e below _ (T1.setTop (mkF m 5 #[.val (.ref b), .val (.int (Int32.ofNat x)), .val (.int (Int32.ofNat y)), .val (.int (Int32.ofNat cs.length)), .unset] []))
  refine Gl.st (fun _ kq => XS.iloadN X1.here hx rfl (hb hby d20_5) rfl kq) ?_
  show Gl p.tables e below _ (T1.setTop (mkF m 6 #[.val (.ref b), .val (.int (Int32.ofNat x)), .val (.int (Int32.ofNat y)), .val (.int (Int32.ofNat cs.length)), .unset] [(.int (Int32.ofNat x))]))
  refine Gl.st (fun _ kq => XS.iloadN X1.here hx rfl (hb hby d20_6) rfl kq) ?_
  show Gl p.tables e below _ (T1.setTop (mkF m 7 #[.val (.ref b), .val (.int (Int32.ofNat x)), .val (.int (Int32.ofNat y)), .val (.int (Int32.ofNat cs.length)), .unset] [(.int (Int32.ofNat y)), (.int (Int32.ofNat x))]))
  refine Gl.st (fun _ kq => XS.iloadN X1.here hx rfl (hb hby d20_7) rfl kq) ?_
  show Gl p.tables e below _ (T1.setTop (mkF m 8 #[.val (.ref b), .val (.int (Int32.ofNat x)), .val (.int (Int32.ofNat y)), .val (.int (Int32.ofNat cs.length)), .unset] [(.int (Int32.ofNat cs.length)), (.int (Int32.ofNat y)), (.int (Int32.ofNat x))]))
  obtain ⟨_, _, ⟨T2, L2, k2, n2⟩, -, X2, ⟨Lc2, hQ2, l2, y2, z2⟩, st2⟩ := Jvm.LawKit.callS X1 hx (y := (⟨"java/lang/String", "checkBoundsBeginEnd", "(III)V"⟩ : MethodName)) hown (mvT hZ (tw hw 92 rfl)) (mvT hZ (tw hw 93 rfl)) (mvT hZ (tw hw 9 rfl)) (mvT hZ (tw hw 94 rfl)) (by decide) (backOf (W := 0) (rm_cbe l Z a0 hw [] (x) (y) (cs.length) (G3) h0 n0 Z0 pf4 (n32_nn (i := x) (by omega)) (n32_nlt (i := y) (j := x) (by omega) (by omega) (by omega)) (n32_nlt (i := cs.length) (j := y) (by omega) (by omega) (by omega)) O4 rG3) hZ (tw hw 94 rfl) (tw hw 9 rfl) (by decide) (by decide)) (g := (mkF m 8 #[.val (.ref b), .val (.int (Int32.ofNat x)), .val (.int (Int32.ofNat y)), .val (.int (Int32.ofNat cs.length)), .unset] [(.int (Int32.ofNat cs.length)), (.int (Int32.ofNat y)), (.int (Int32.ofNat x))])) rfl (by rw [hml]; rfl) (argsL := [(.int (Int32.ofNat x)), (.int (Int32.ofNat y)), (.int (Int32.ofNat cs.length))]) (rest := []) (lenOf pd__III_V rfl) rfl (by show 2 * 0 + _ ≤ _; exact Nat.le_of_eq rfl) (hb hby d20_8) (fun _ _ => ⟨rfl, e1, (by decide : 0 + 0 ≤ _), (by decide : 0 + 0 ≤ _)⟩)
  dsimp only [Pt.U, Pt.locs, Pt.cells, Pt.slots] at X2 l2 y2 z2 st2 hQ2
  subst l2 y2 z2
  obtain ⟨rfl, N2, e2⟩ := hQ2
  have M2 := Fr.app M1 N2
  refine Gl.st st2 ?_
  show Gl p.tables e below _ (T2.setTop (mkF m 11 #[.val (.ref b), .val (.int (Int32.ofNat x)), .val (.int (Int32.ofNat y)), .val (.int (Int32.ofNat cs.length)), .unset] []))
  show Gl p.tables e below _ (T2.setTop (mkF m 11 #[.val (.ref b), .val (.int (Int32.ofNat x)), .val (.int (Int32.ofNat y)), .val (.int (Int32.ofNat cs.length)), .unset] []))
  refine Gl.st (fun _ kq => XS.iloadN X2.here hx rfl (hb hby d20_11) rfl kq) ?_
  show Gl p.tables e below _ (T2.setTop (mkF m 12 #[.val (.ref b), .val (.int (Int32.ofNat x)), .val (.int (Int32.ofNat y)), .val (.int (Int32.ofNat cs.length)), .unset] [(.int (Int32.ofNat x))]))
  by_cases hc3 : (Int32.ofNat x) = (0 : Int32)
  · refine Gl.st (fun _ kq => XS.ifNo X2.here hx rfl (hb hby d20_12) rfl ((if0 _ _).trans (teq (hc3 : (Int32.ofNat x) = (0 : Int32))).2) kq) ?_
    show Gl p.tables e below _ (T2.setTop (mkF m 15 #[.val (.ref b), .val (.int (Int32.ofNat x)), .val (.int (Int32.ofNat y)), .val (.int (Int32.ofNat cs.length)), .unset] []))
    refine Gl.st (fun _ kq => XS.iloadN X2.here hx rfl (hb hby d20_15) rfl kq) ?_
    show Gl p.tables e below _ (T2.setTop (mkF m 16 #[.val (.ref b), .val (.int (Int32.ofNat x)), .val (.int (Int32.ofNat y)), .val (.int (Int32.ofNat cs.length)), .unset] [(.int (Int32.ofNat y))]))
    refine Gl.st (fun _ kq => XS.iloadN X2.here hx rfl (hb hby d20_16) rfl kq) ?_
    show Gl p.tables e below _ (T2.setTop (mkF m 17 #[.val (.ref b), .val (.int (Int32.ofNat x)), .val (.int (Int32.ofNat y)), .val (.int (Int32.ofNat cs.length)), .unset] [(.int (Int32.ofNat cs.length)), (.int (Int32.ofNat y))]))
    by_cases hc4 : (Int32.ofNat y) = (Int32.ofNat cs.length)
    · refine Gl.st (fun _ kq => XS.icmpNo X2.here hx rfl (hb hby d20_17) rfl (teq (hc4 : (Int32.ofNat y) = (Int32.ofNat cs.length))).2 kq) ?_
      show Gl p.tables e below _ (T2.setTop (mkF m 20 #[.val (.ref b), .val (.int (Int32.ofNat x)), .val (.int (Int32.ofNat y)), .val (.int (Int32.ofNat cs.length)), .unset] []))
      refine Gl.st (fun _ kq => XS.aloadN X2.here hx rfl (hb hby d20_20) rfl rfl kq) ?_
      show Gl p.tables e below _ (T2.setTop (mkF m 21 #[.val (.ref b), .val (.int (Int32.ofNat x)), .val (.int (Int32.ofNat y)), .val (.int (Int32.ofNat cs.length)), .unset] [(.ref b)]))
      exact Gl.retAH X2 hx hS0 (Nat.le_trans (Nat.le_of_eq (congrArg Array.size e0)) (Nat.le_of_eq (congrArg Array.size e2).symm)) (by rw [hh, e2]; exact C0.trans (CHv.at X2 hZ (elW hw) C0.1)) Bd.returns rfl rfl (hb hby d20_21) hlk (by decide) (by decide) (by rw [e2]; exact ⟨b, t, k, cs, rfl, M2, (Keep.refl h0 []), pf0, pf1, pf2, pf3, (by rw [(n32_eq0 (i := x) (by omega)).mp hc3, (n32_eq (i := y) (by omega) (by omega)).mp hc4]; simp)⟩)
    · refine Gl.st (fun _ kq => XS.icmpYes X2.here hx rfl (pc0 := 17) (pc' := 22) rfl (hb hby d20_17) rfl (feq (hc4 : ¬ ((Int32.ofNat y) = (Int32.ofNat cs.length)))).2 (by decide) (by decide) kq) ?_
      show Gl p.tables e below _ (T2.setTop (mkF m 22 #[.val (.ref b), .val (.int (Int32.ofNat x)), .val (.int (Int32.ofNat y)), .val (.int (Int32.ofNat cs.length)), .unset] []))
      refine Gl.st (fun _ kq => XS.iloadN X2.here hx rfl (hb hby d20_22) rfl kq) ?_
      show Gl p.tables e below _ (T2.setTop (mkF m 23 #[.val (.ref b), .val (.int (Int32.ofNat x)), .val (.int (Int32.ofNat y)), .val (.int (Int32.ofNat cs.length)), .unset] [(.int (Int32.ofNat y))]))
      refine Gl.st (fun _ kq => XS.iloadN X2.here hx rfl (hb hby d20_23) rfl kq) ?_
      show Gl p.tables e below _ (T2.setTop (mkF m 24 #[.val (.ref b), .val (.int (Int32.ofNat x)), .val (.int (Int32.ofNat y)), .val (.int (Int32.ofNat cs.length)), .unset] [(.int (Int32.ofNat x)), (.int (Int32.ofNat y))]))
      refine Gl.st (fun _ kq => XS.isub X2.here hx rfl (hb hby d20_24) rfl kq) ?_
      show Gl p.tables e below _ (T2.setTop (mkF m 25 #[.val (.ref b), .val (.int (Int32.ofNat x)), .val (.int (Int32.ofNat y)), .val (.int (Int32.ofNat cs.length)), .unset] [(.int ((Int32.ofNat y) - (Int32.ofNat x)))]))
      rw [n32_sub (i := y) (j := x) hxy]
      show Gl p.tables e below _ (T2.setTop (mkF m 25 #[.val (.ref b), .val (.int (Int32.ofNat x)), .val (.int (Int32.ofNat y)), .val (.int (Int32.ofNat cs.length)), .unset] [(.int (Int32.ofNat (y - x)))]))
      refine Gl.st (fun _ kq => XS.istore X2.here hx rfl (hb hby d20_25) rfl (l' := #[.val (.ref b), .val (.int (Int32.ofNat x)), .val (.int (Int32.ofNat y)), .val (.int (Int32.ofNat cs.length)), .val (.int (Int32.ofNat (y - x)))]) rfl kq) ?_
      show Gl p.tables e below _ (T2.setTop (mkF m 27 #[.val (.ref b), .val (.int (Int32.ofNat x)), .val (.int (Int32.ofNat y)), .val (.int (Int32.ofNat cs.length)), .val (.int (Int32.ofNat (y - x)))] []))
      refine Gl.st (fun _ kq => XS.aloadN X2.here hx rfl (hb hby d20_27) rfl rfl kq) ?_
      show Gl p.tables e below _ (T2.setTop (mkF m 28 #[.val (.ref b), .val (.int (Int32.ofNat x)), .val (.int (Int32.ofNat y)), .val (.int (Int32.ofNat cs.length)), .val (.int (Int32.ofNat (y - x)))] [(.ref b)]))
      obtain ⟨cq5, kq5, q5a, q5b, q5c⟩ := isOf hZ e2 pf0
      obtain ⟨_, _, ⟨T5, L5, k5, n5⟩, -, X5, ⟨Lc5, hQ5, l5, y5, z5⟩, st5⟩ := X2.virtualBack hx (y := (⟨"java/lang/String", "isLatin1", "()Z"⟩ : MethodName)) (z := (⟨"java/lang/String", "isLatin1", "()Z"⟩ : MethodName)) hown (mvT hZ (tw hw 30 rfl)) (mvT hZ (tw hw 31 rfl)) (notFace_of_selects (args := #[]) (mvT hZ (tw hw 33 rfl))) (mvT hZ (tw hw 33 rfl)) (mvT hZ (tw hw 32 rfl)) (by decide) (backOf (W := 0) (rm_isl l Z a0 hw [] (b) (G1) h0 n0 Z0 pf1 pf4 O2 P5) hZ (tw hw 34 rfl) (tw hw 9 rfl) (by decide) (by decide)) q5a q5c (g := (mkF m 28 #[.val (.ref b), .val (.int (Int32.ofNat x)), .val (.int (Int32.ofNat y)), .val (.int (Int32.ofNat cs.length)), .val (.int (Int32.ofNat (y - x)))] [(.ref b)])) rfl (by rw [hml]; rfl) (Steps.refl _) (argsL := []) (rest := []) (lenOf pd___Z rfl) rfl (by show 2 * 0 + _ ≤ _; exact Nat.le_of_eq rfl) (hb hby d20_28) (fun _ _ => ⟨rfl, e2, (by decide : 0 + 0 ≤ _), (by decide : 0 + 0 ≤ _)⟩)
      dsimp only [Pt.U, Pt.locs, Pt.cells, Pt.slots] at X5 l5 y5 z5 st5 hQ5
      subst l5 y5 z5
      obtain ⟨rfl, N5, e5⟩ := hQ5
      have M5 := Fr.app M2 N5
      refine Gl.to st5 ?_
      show Gl p.tables e below _ (T5.setTop (mkF m 31 #[.val (.ref b), .val (.int (Int32.ofNat x)), .val (.int (Int32.ofNat y)), .val (.int (Int32.ofNat cs.length)), .val (.int (Int32.ofNat (y - x)))] [(.int 1)]))
      show Gl p.tables e below _ (T5.setTop (mkF m 31 #[.val (.ref b), .val (.int (Int32.ofNat x)), .val (.int (Int32.ofNat y)), .val (.int (Int32.ofNat cs.length)), .val (.int (Int32.ofNat (y - x)))] [(.int 1)]))
      refine Gl.st (fun _ kq => XS.ifNo X5.here hx rfl (hb hby d20_31) rfl ((if0 _ _).trans (feq ((by decide) : ¬ ((1 : Int32) = (0 : Int32)))).1) kq) ?_
      show Gl p.tables e below _ (T5.setTop (mkF m 34 #[.val (.ref b), .val (.int (Int32.ofNat x)), .val (.int (Int32.ofNat y)), .val (.int (Int32.ofNat cs.length)), .val (.int (Int32.ofNat (y - x)))] []))
      refine Gl.st (fun _ kq => XS.aloadN X5.here hx rfl (hb hby d20_34) rfl rfl kq) ?_
      show Gl p.tables e below _ (T5.setTop (mkF m 35 #[.val (.ref b), .val (.int (Int32.ofNat x)), .val (.int (Int32.ofNat y)), .val (.int (Int32.ofNat cs.length)), .val (.int (Int32.ofNat (y - x)))] [(.ref b)]))
      obtain ⟨T6, X6, e6, st6⟩ := getF X5 hx hZ hown (host := "") (Or.inl (tw hw 37 rfl)) Via.refl e5 pf2 (g := (mkF m 35 #[.val (.ref b), .val (.int (Int32.ofNat x)), .val (.int (Int32.ofNat y)), .val (.int (Int32.ofNat cs.length)), .val (.int (Int32.ofNat (y - x)))] [(.ref b)])) rfl rfl (hb hby d20_35)
      refine Gl.st st6 ?_
      show Gl p.tables e below _ (T6.setTop (mkF m 38 #[.val (.ref b), .val (.int (Int32.ofNat x)), .val (.int (Int32.ofNat y)), .val (.int (Int32.ofNat cs.length)), .val (.int (Int32.ofNat (y - x)))] [(.ref t)]))
      refine Gl.st (fun _ kq => XS.iloadN X6.here hx rfl (hb hby d20_38) rfl kq) ?_
      show Gl p.tables e below _ (T6.setTop (mkF m 39 #[.val (.ref b), .val (.int (Int32.ofNat x)), .val (.int (Int32.ofNat y)), .val (.int (Int32.ofNat cs.length)), .val (.int (Int32.ofNat (y - x)))] [(.int (Int32.ofNat x)), (.ref t)]))
      refine Gl.st (fun _ kq => XS.iload X6.here hx rfl (hb hby d20_39) rfl kq) ?_
      show Gl p.tables e below _ (T6.setTop (mkF m 41 #[.val (.ref b), .val (.int (Int32.ofNat x)), .val (.int (Int32.ofNat y)), .val (.int (Int32.ofNat cs.length)), .val (.int (Int32.ofNat (y - x)))] [(.int (Int32.ofNat (y - x))), (.int (Int32.ofNat x)), (.ref t)]))
      obtain ⟨_, _, ⟨T11, L11, k11, n11⟩, -, X11, S11, g11, ⟨Lc11, hQ11, l11, y11, z11, R11⟩, st11⟩ := callSS X6 hx (y := (⟨"java/lang/StringLatin1", "newString", "([BII)Ljava/lang/String;"⟩ : MethodName)) hown (mvT hZ (tw hw 100 rfl)) (mvT hZ (tw hw 101 rfl)) (mvT hZ (tw hw 50 rfl)) (mvT hZ (tw hw 102 rfl)) (by decide) (backOfSH (W := 0) (rm_nst l Z a0 hw [] (t) (k) (cs) (x) ((y - x)) h0 n0 Z0 pf3 hl (by omega) (fun q => hc4 ((n32_eq (by omega) (by omega)).mpr (by omega)))) hZ (tw hw 102 rfl) (tw hw 50 rfl) (by decide) (by decide) (elW hw) C0.1) (g := (mkF m 41 #[.val (.ref b), .val (.int (Int32.ofNat x)), .val (.int (Int32.ofNat y)), .val (.int (Int32.ofNat cs.length)), .val (.int (Int32.ofNat (y - x)))] [(.int (Int32.ofNat (y - x))), (.int (Int32.ofNat x)), (.ref t)])) rfl (by rw [hml]; rfl) (argsL := [(.ref t), (.int (Int32.ofNat x)), (.int (Int32.ofNat (y - x)))]) (rest := []) (lenOf pd___BII_Ljava_lang_String_ rfl) rfl (by show 2 * 0 + _ ≤ _; exact Nat.le_of_eq rfl) (hb hby d20_41) (fun _ _ => ⟨rfl, e6, (by decide : 0 + 2 ≤ _), (by decide : 0 + 8 ≤ _)⟩)
      dsimp only [Pt.U, Pt.locs, Pt.cells, Pt.slots] at X11 l11 y11 z11 st11 hQ11 R11
      subst l11 y11 z11
      obtain ⟨X11, S11, hZ11, ho11⟩ := rebS hS0 (Nat.le_trans (Nat.le_of_eq (congrArg Array.size e0)) (Nat.le_of_eq (congrArg Array.size e6).symm)) X11 S11 g11 hZ hown
      obtain ⟨v7, v8, v9, v10, rfl, N11, K11, q11_0, q11_1, q11_2, q11_3, y11_0⟩ := hQ11
      have C12 : CHr Z consts_1 s.vm h0 T11.vm T11.heap := C0.trans R11
      have M11 := Fr.app M5 N11
      refine Gl.to st11 ?_
      show Gl p.tables e below _ (T11.setTop (mkF m 44 #[.val (.ref b), .val (.int (Int32.ofNat x)), .val (.int (Int32.ofNat y)), .val (.int (Int32.ofNat cs.length)), .val (.int (Int32.ofNat (y - x)))] [(.ref v7)]))
      show Gl p.tables e below _ (T11.setTop (mkF m 44 #[.val (.ref b), .val (.int (Int32.ofNat x)), .val (.int (Int32.ofNat y)), .val (.int (Int32.ofNat cs.length)), .val (.int (Int32.ofNat (y - x)))] [(.ref v7)]))
      refine Gl.st (fun _ kq => XS.goto X11.here hx rfl (pc0 := 44) (pc' := 57) rfl (hb hby d20_44) (by decide) (by decide) kq) ?_
      show Gl p.tables e below _ (T11.setTop (mkF m 57 #[.val (.ref b), .val (.int (Int32.ofNat x)), .val (.int (Int32.ofNat y)), .val (.int (Int32.ofNat cs.length)), .val (.int (Int32.ofNat (y - x)))] [(.ref v7)]))
      have K13 : Keep h0 T11.heap [] := ((Keep.refl h0 []).trans K11 all0)
      exact Gl.retAH X11 hx S11 (Nat.le_refl _) (by rw [hh]; exact C12.trans (CHv.at X11 hZ11 (elW hw) C12.1)) Bd.returns rfl rfl (hb hby d20_57) hlk (by decide) (by decide) ⟨v7, v8, v9, v10, rfl, M11, K13, q11_0, q11_1, q11_2, q11_3, y11_0⟩
  · refine Gl.st (fun _ kq => XS.ifYes X2.here hx rfl (pc0 := 12) (pc' := 22) rfl (hb hby d20_12) rfl ((if0 _ _).trans (feq (hc3 : ¬ ((Int32.ofNat x) = (0 : Int32)))).2) (by decide) (by decide) kq) ?_
    show Gl p.tables e below _ (T2.setTop (mkF m 22 #[.val (.ref b), .val (.int (Int32.ofNat x)), .val (.int (Int32.ofNat y)), .val (.int (Int32.ofNat cs.length)), .unset] []))
    refine Gl.st (fun _ kq => XS.iloadN X2.here hx rfl (hb hby d20_22) rfl kq) ?_
    show Gl p.tables e below _ (T2.setTop (mkF m 23 #[.val (.ref b), .val (.int (Int32.ofNat x)), .val (.int (Int32.ofNat y)), .val (.int (Int32.ofNat cs.length)), .unset] [(.int (Int32.ofNat y))]))
    refine Gl.st (fun _ kq => XS.iloadN X2.here hx rfl (hb hby d20_23) rfl kq) ?_
    show Gl p.tables e below _ (T2.setTop (mkF m 24 #[.val (.ref b), .val (.int (Int32.ofNat x)), .val (.int (Int32.ofNat y)), .val (.int (Int32.ofNat cs.length)), .unset] [(.int (Int32.ofNat x)), (.int (Int32.ofNat y))]))
    refine Gl.st (fun _ kq => XS.isub X2.here hx rfl (hb hby d20_24) rfl kq) ?_
    show Gl p.tables e below _ (T2.setTop (mkF m 25 #[.val (.ref b), .val (.int (Int32.ofNat x)), .val (.int (Int32.ofNat y)), .val (.int (Int32.ofNat cs.length)), .unset] [(.int ((Int32.ofNat y) - (Int32.ofNat x)))]))
    rw [n32_sub (i := y) (j := x) hxy]
    show Gl p.tables e below _ (T2.setTop (mkF m 25 #[.val (.ref b), .val (.int (Int32.ofNat x)), .val (.int (Int32.ofNat y)), .val (.int (Int32.ofNat cs.length)), .unset] [(.int (Int32.ofNat (y - x)))]))
    refine Gl.st (fun _ kq => XS.istore X2.here hx rfl (hb hby d20_25) rfl (l' := #[.val (.ref b), .val (.int (Int32.ofNat x)), .val (.int (Int32.ofNat y)), .val (.int (Int32.ofNat cs.length)), .val (.int (Int32.ofNat (y - x)))]) rfl kq) ?_
    show Gl p.tables e below _ (T2.setTop (mkF m 27 #[.val (.ref b), .val (.int (Int32.ofNat x)), .val (.int (Int32.ofNat y)), .val (.int (Int32.ofNat cs.length)), .val (.int (Int32.ofNat (y - x)))] []))
    refine Gl.st (fun _ kq => XS.aloadN X2.here hx rfl (hb hby d20_27) rfl rfl kq) ?_
    show Gl p.tables e below _ (T2.setTop (mkF m 28 #[.val (.ref b), .val (.int (Int32.ofNat x)), .val (.int (Int32.ofNat y)), .val (.int (Int32.ofNat cs.length)), .val (.int (Int32.ofNat (y - x)))] [(.ref b)]))
    obtain ⟨cq14, kq14, q14a, q14b, q14c⟩ := isOf hZ e2 pf0
    obtain ⟨_, _, ⟨T14, L14, k14, n14⟩, -, X14, ⟨Lc14, hQ14, l14, y14, z14⟩, st14⟩ := X2.virtualBack hx (y := (⟨"java/lang/String", "isLatin1", "()Z"⟩ : MethodName)) (z := (⟨"java/lang/String", "isLatin1", "()Z"⟩ : MethodName)) hown (mvT hZ (tw hw 30 rfl)) (mvT hZ (tw hw 31 rfl)) (notFace_of_selects (args := #[]) (mvT hZ (tw hw 33 rfl))) (mvT hZ (tw hw 33 rfl)) (mvT hZ (tw hw 32 rfl)) (by decide) (backOf (W := 0) (rm_isl l Z a0 hw [] (b) (G1) h0 n0 Z0 pf1 pf4 O2 P5) hZ (tw hw 34 rfl) (tw hw 9 rfl) (by decide) (by decide)) q14a q14c (g := (mkF m 28 #[.val (.ref b), .val (.int (Int32.ofNat x)), .val (.int (Int32.ofNat y)), .val (.int (Int32.ofNat cs.length)), .val (.int (Int32.ofNat (y - x)))] [(.ref b)])) rfl (by rw [hml]; rfl) (Steps.refl _) (argsL := []) (rest := []) (lenOf pd___Z rfl) rfl (by show 2 * 0 + _ ≤ _; exact Nat.le_of_eq rfl) (hb hby d20_28) (fun _ _ => ⟨rfl, e2, (by decide : 0 + 0 ≤ _), (by decide : 0 + 0 ≤ _)⟩)
    dsimp only [Pt.U, Pt.locs, Pt.cells, Pt.slots] at X14 l14 y14 z14 st14 hQ14
    subst l14 y14 z14
    obtain ⟨rfl, N14, e14⟩ := hQ14
    have M14 := Fr.app M2 N14
    refine Gl.to st14 ?_
    show Gl p.tables e below _ (T14.setTop (mkF m 31 #[.val (.ref b), .val (.int (Int32.ofNat x)), .val (.int (Int32.ofNat y)), .val (.int (Int32.ofNat cs.length)), .val (.int (Int32.ofNat (y - x)))] [(.int 1)]))
    show Gl p.tables e below _ (T14.setTop (mkF m 31 #[.val (.ref b), .val (.int (Int32.ofNat x)), .val (.int (Int32.ofNat y)), .val (.int (Int32.ofNat cs.length)), .val (.int (Int32.ofNat (y - x)))] [(.int 1)]))
    refine Gl.st (fun _ kq => XS.ifNo X14.here hx rfl (hb hby d20_31) rfl ((if0 _ _).trans (feq ((by decide) : ¬ ((1 : Int32) = (0 : Int32)))).1) kq) ?_
    show Gl p.tables e below _ (T14.setTop (mkF m 34 #[.val (.ref b), .val (.int (Int32.ofNat x)), .val (.int (Int32.ofNat y)), .val (.int (Int32.ofNat cs.length)), .val (.int (Int32.ofNat (y - x)))] []))
    refine Gl.st (fun _ kq => XS.aloadN X14.here hx rfl (hb hby d20_34) rfl rfl kq) ?_
    show Gl p.tables e below _ (T14.setTop (mkF m 35 #[.val (.ref b), .val (.int (Int32.ofNat x)), .val (.int (Int32.ofNat y)), .val (.int (Int32.ofNat cs.length)), .val (.int (Int32.ofNat (y - x)))] [(.ref b)]))
    obtain ⟨T15, X15, e15, st15⟩ := getF X14 hx hZ hown (host := "") (Or.inl (tw hw 37 rfl)) Via.refl e14 pf2 (g := (mkF m 35 #[.val (.ref b), .val (.int (Int32.ofNat x)), .val (.int (Int32.ofNat y)), .val (.int (Int32.ofNat cs.length)), .val (.int (Int32.ofNat (y - x)))] [(.ref b)])) rfl rfl (hb hby d20_35)
    refine Gl.st st15 ?_
    show Gl p.tables e below _ (T15.setTop (mkF m 38 #[.val (.ref b), .val (.int (Int32.ofNat x)), .val (.int (Int32.ofNat y)), .val (.int (Int32.ofNat cs.length)), .val (.int (Int32.ofNat (y - x)))] [(.ref t)]))
    refine Gl.st (fun _ kq => XS.iloadN X15.here hx rfl (hb hby d20_38) rfl kq) ?_
    show Gl p.tables e below _ (T15.setTop (mkF m 39 #[.val (.ref b), .val (.int (Int32.ofNat x)), .val (.int (Int32.ofNat y)), .val (.int (Int32.ofNat cs.length)), .val (.int (Int32.ofNat (y - x)))] [(.int (Int32.ofNat x)), (.ref t)]))
    refine Gl.st (fun _ kq => XS.iload X15.here hx rfl (hb hby d20_39) rfl kq) ?_
    show Gl p.tables e below _ (T15.setTop (mkF m 41 #[.val (.ref b), .val (.int (Int32.ofNat x)), .val (.int (Int32.ofNat y)), .val (.int (Int32.ofNat cs.length)), .val (.int (Int32.ofNat (y - x)))] [(.int (Int32.ofNat (y - x))), (.int (Int32.ofNat x)), (.ref t)]))
    obtain ⟨_, _, ⟨T20, L20, k20, n20⟩, -, X20, S20, g20, ⟨Lc20, hQ20, l20, y20, z20, R20⟩, st20⟩ := callSS X15 hx (y := (⟨"java/lang/StringLatin1", "newString", "([BII)Ljava/lang/String;"⟩ : MethodName)) hown (mvT hZ (tw hw 100 rfl)) (mvT hZ (tw hw 101 rfl)) (mvT hZ (tw hw 50 rfl)) (mvT hZ (tw hw 102 rfl)) (by decide) (backOfSH (W := 0) (rm_nst l Z a0 hw [] (t) (k) (cs) (x) ((y - x)) h0 n0 Z0 pf3 hl (by omega) (fun q => hc3 ((n32_eq0 (by omega)).mpr q.1))) hZ (tw hw 102 rfl) (tw hw 50 rfl) (by decide) (by decide) (elW hw) C0.1) (g := (mkF m 41 #[.val (.ref b), .val (.int (Int32.ofNat x)), .val (.int (Int32.ofNat y)), .val (.int (Int32.ofNat cs.length)), .val (.int (Int32.ofNat (y - x)))] [(.int (Int32.ofNat (y - x))), (.int (Int32.ofNat x)), (.ref t)])) rfl (by rw [hml]; rfl) (argsL := [(.ref t), (.int (Int32.ofNat x)), (.int (Int32.ofNat (y - x)))]) (rest := []) (lenOf pd___BII_Ljava_lang_String_ rfl) rfl (by show 2 * 0 + _ ≤ _; exact Nat.le_of_eq rfl) (hb hby d20_41) (fun _ _ => ⟨rfl, e15, (by decide : 0 + 2 ≤ _), (by decide : 0 + 8 ≤ _)⟩)
    dsimp only [Pt.U, Pt.locs, Pt.cells, Pt.slots] at X20 l20 y20 z20 st20 hQ20 R20
    subst l20 y20 z20
    obtain ⟨X20, S20, hZ20, ho20⟩ := rebS hS0 (Nat.le_trans (Nat.le_of_eq (congrArg Array.size e0)) (Nat.le_of_eq (congrArg Array.size e15).symm)) X20 S20 g20 hZ hown
    obtain ⟨v16, v17, v18, v19, rfl, N20, K20, q20_0, q20_1, q20_2, q20_3, y20_0⟩ := hQ20
    have C21 : CHr Z consts_1 s.vm h0 T20.vm T20.heap := C0.trans R20
    have M20 := Fr.app M14 N20
    refine Gl.to st20 ?_
    show Gl p.tables e below _ (T20.setTop (mkF m 44 #[.val (.ref b), .val (.int (Int32.ofNat x)), .val (.int (Int32.ofNat y)), .val (.int (Int32.ofNat cs.length)), .val (.int (Int32.ofNat (y - x)))] [(.ref v16)]))
    show Gl p.tables e below _ (T20.setTop (mkF m 44 #[.val (.ref b), .val (.int (Int32.ofNat x)), .val (.int (Int32.ofNat y)), .val (.int (Int32.ofNat cs.length)), .val (.int (Int32.ofNat (y - x)))] [(.ref v16)]))
    refine Gl.st (fun _ kq => XS.goto X20.here hx rfl (pc0 := 44) (pc' := 57) rfl (hb hby d20_44) (by decide) (by decide) kq) ?_
    show Gl p.tables e below _ (T20.setTop (mkF m 57 #[.val (.ref b), .val (.int (Int32.ofNat x)), .val (.int (Int32.ofNat y)), .val (.int (Int32.ofNat cs.length)), .val (.int (Int32.ofNat (y - x)))] [(.ref v16)]))
    have K22 : Keep h0 T20.heap [] := ((Keep.refl h0 []).trans K20 all0)
    exact Gl.retAH X20 hx S20 (Nat.le_refl _) (by rw [hh]; exact C21.trans (CHv.at X20 hZ20 (elW hw) C21.1)) Bd.returns rfl rfl (hb hby d20_57) hlk (by decide) (by decide) ⟨v16, v17, v18, v19, rfl, M20, K22, q20_0, q20_1, q20_2, q20_3, y20_0⟩
theorem d1_0 : decode method_3_code 0 = .ok (.iload_n 0, 1) := by decide +kernel
theorem d1_1 : decode method_3_code 1 = .ok (.iconst 3, 1) := by decide +kernel
theorem d1_2 : decode method_3_code 2 = .ok (.iand, 1) := by decide +kernel
theorem d1_3 : decode method_3_code 3 = .ok (.ifCond .ne 8, 3) := by decide +kernel
theorem d1_6 : decode method_3_code 6 = .ok (.bipush 46, 2) := by decide +kernel
theorem d1_8 : decode method_3_code 8 = .ok (.goto 11, 3) := by decide +kernel
theorem d1_11 : decode method_3_code 11 = .ok (.iload_n 0, 1) := by decide +kernel
theorem d1_12 : decode method_3_code 12 = .ok (.iconst 2, 1) := by decide +kernel
theorem d1_13 : decode method_3_code 13 = .ok (.iushr, 1) := by decide +kernel
theorem d1_14 : decode method_3_code 14 = .ok (.sipush 255, 3) := by decide +kernel
theorem d1_17 : decode method_3_code 17 = .ok (.iand, 1) := by decide +kernel
theorem d1_18 : decode method_3_code 18 = .ok (.i2c, 1) := by decide +kernel
theorem d1_19 : decode method_3_code 19 = .ok (.ireturn, 1) := by decide +kernel
theorem ef_ch (m : MethodId) (x : Int32) : entryFrame m #[(.int x)] 1 = mkF m 0 #[.val (.int x)] [] := by first | (simp [entryFrame, mkF, argsToLocals, Value.category]; done) | rfl
def Q_ch (Z : State) (x : Int32) (h0 : Heap) (n0 : Nat) (v : Option Value) (h : Heap) (L : List Loc) : Prop := (∃ r : Int32, v = some (.int r) ∧ Fr n0 L ∧ h = h0 ∧ (Chr r))
set_option maxRecDepth 65536 in
set_option maxHeartbeats 40000000 in
theorem rm_ch (l : Launch) (Z : State) (a0 : Array Value) (hw : ∀ d ∈ tables_1, d.before a0 Z = true) (ws : List Jvm.Cond) (x : Int32) (h0 : Heap) (n0 : Nat) (Z0 : n0 ≤ h0.size) :
    MetFree l (⟨"com/example/neighbor_keys/neighborkeys/model/RelatedNameOfPinLaw", "ch", "(I)C"⟩ : MethodName) (head1 (Jvm.Cond.code (⟨"com/example/neighbor_keys/neighborkeys/model/RelatedNameOfPinLaw", "ch", "(I)C"⟩ : MethodName) method_3_code 1 (some .char) :: ws) ({ frames := 0, cells := 0, slots := 0, locals := 0 } : Room)) (fun aa U => aa = #[(.int x)] ∧ Z.Warmed39 U.vm ∧ U.heap = h0) (fun _ _ _ _ _ => True) (fun _ U o U' => ∃ v L, o = .returned v ∧ Q_ch Z x h0 n0 v U'.heap L ∧ FrameEnd U o U' L ({ frames := 0, cells := 0, slots := 0, locals := 0 } : Room).cells ({ frames := 0, cells := 0, slots := 0, locals := 0 } : Room).slots) := by
  refine MetFree.of_bodySF (plainFor_of_name pn_com_example_neighbor_keys_neighborkeys_model_RelatedNameOfPinLaw) hisR ?_
  intro p e s m args below meth c s₁ Bd hml0 hP hK
  obtain ⟨rfl, hZ, hh⟩ := hP
  have hx := Bd.exec
  have hby := Bd.bytes
  have hlk : meth.locks = false := BodyLoose.notSynchronized Bd
  have hml : c.maxLocals = 1 := hml0
  have hown : s.vm.findClass "com/example/neighbor_keys/neighborkeys/model/RelatedNameOfPinLaw" = some m.cls := findClass_of_methodNamed Bd.named
  have hnm := (name_of_methodNamed Bd.named Bd.method).1
  have X0 : Stand p l e ({ frames := 0, cells := 0, slots := 0, locals := 0 } : Room) s m #[(.int x)] below meth c s₁ [] 0 0 := Stand.of_body Bd
  have e0 : s₁.heap = h0 := by rw [← hh, Bd.state]; rfl
  have N0 := Fr.nil n0
  show Gl p.tables e below (EndN s (Q_ch Z x h0 n0) ({ frames := 0, cells := 0, slots := 0, locals := 0 } : Room).cells ({ frames := 0, cells := 0, slots := 0, locals := 0 } : Room).slots) _
  refine Gl.cast (ef_ch m x) ?_
  show Gl p.tables e below _ (s₁.setTop (mkF m 0 #[.val (.int x)] []))
  refine Gl.st (fun _ kq => XS.iloadN X0.here hx rfl (hb hby d1_0) rfl kq) ?_
  show Gl p.tables e below _ (s₁.setTop (mkF m 1 #[.val (.int x)] [(.int x)]))
  refine Gl.st (fun _ kq => XS.iconst X0.here hx rfl (hb hby d1_1) kq) ?_
  show Gl p.tables e below _ (s₁.setTop (mkF m 2 #[.val (.int x)] [(.int 3), (.int x)]))
  refine Gl.st (fun _ kq => XS.iand X0.here hx rfl (hb hby d1_2) rfl kq) ?_
  show Gl p.tables e below _ (s₁.setTop (mkF m 3 #[.val (.int x)] [(.int (x &&& (3 : Int32)))]))
  by_cases hc1 : (x &&& (3 : Int32)) = (0 : Int32)
  · refine Gl.st (fun _ kq => XS.ifNo X0.here hx rfl (hb hby d1_3) rfl ((if0 _ _).trans (teq (hc1 : (x &&& (3 : Int32)) = (0 : Int32))).2) kq) ?_
    show Gl p.tables e below _ (s₁.setTop (mkF m 6 #[.val (.int x)] []))
    refine Gl.st (fun _ kq => XS.bipush X0.here hx rfl (hb hby d1_6) kq) ?_
    show Gl p.tables e below _ (s₁.setTop (mkF m 8 #[.val (.int x)] [(.int 46)]))
    refine Gl.st (fun _ kq => XS.goto X0.here hx rfl (pc0 := 8) (pc' := 19) rfl (hb hby d1_8) (by decide) (by decide) kq) ?_
    show Gl p.tables e below _ (s₁.setTop (mkF m 19 #[.val (.int x)] [(.int 46)]))
    exact Gl.retN X0 hx (t := .char) Bd.returns (by simp) (hb hby d1_19) hlk (by decide) (by decide) (by rw [e0]; exact ⟨(46 : Int32), rfl, N0, rfl, chr_dot⟩)
  · refine Gl.st (fun _ kq => XS.ifYes X0.here hx rfl (pc0 := 3) (pc' := 11) rfl (hb hby d1_3) rfl ((if0 _ _).trans (feq (hc1 : ¬ ((x &&& (3 : Int32)) = (0 : Int32)))).2) (by decide) (by decide) kq) ?_
    show Gl p.tables e below _ (s₁.setTop (mkF m 11 #[.val (.int x)] []))
    refine Gl.st (fun _ kq => XS.iloadN X0.here hx rfl (hb hby d1_11) rfl kq) ?_
    show Gl p.tables e below _ (s₁.setTop (mkF m 12 #[.val (.int x)] [(.int x)]))
    refine Gl.st (fun _ kq => XS.iconst X0.here hx rfl (hb hby d1_12) kq) ?_
    show Gl p.tables e below _ (s₁.setTop (mkF m 13 #[.val (.int x)] [(.int 2), (.int x)]))
    refine Gl.st (fun _ kq => XS.iushr X0.here hx rfl (hb hby d1_13) rfl kq) ?_
    show Gl p.tables e below _ (s₁.setTop (mkF m 14 #[.val (.int x)] [(.int ((x.toUInt32 >>> ((2 : Int32) &&& 31).toUInt32).toInt32))]))
    refine Gl.st (fun _ kq => XS.sipush X0.here hx rfl (hb hby d1_14) kq) ?_
    show Gl p.tables e below _ (s₁.setTop (mkF m 17 #[.val (.int x)] [(.int 255), (.int ((x.toUInt32 >>> ((2 : Int32) &&& 31).toUInt32).toInt32))]))
    refine Gl.st (fun _ kq => XS.iand X0.here hx rfl (hb hby d1_17) rfl kq) ?_
    show Gl p.tables e below _ (s₁.setTop (mkF m 18 #[.val (.int x)] [(.int (((x.toUInt32 >>> ((2 : Int32) &&& 31).toUInt32).toInt32) &&& (255 : Int32)))]))
    refine Gl.st (fun _ kq => XS.i2c X0.here hx rfl (hb hby d1_18) rfl kq) ?_
    show Gl p.tables e below _ (s₁.setTop (mkF m 19 #[.val (.int x)] [(.int ((((x.toUInt32 >>> ((2 : Int32) &&& 31).toUInt32).toInt32) &&& (255 : Int32)).toUInt32.toUInt16.toUInt32.toInt32))]))
    exact Gl.retN X0 hx (t := .char) Bd.returns (by simp) (hb hby d1_19) hlk (by decide) (by decide) (by rw [e0]; exact ⟨(nar .char ((((x.toUInt32 >>> ((2 : Int32) &&& 31).toUInt32).toInt32) &&& (255 : Int32)).toUInt32.toUInt16.toUInt32.toInt32)), rfl, N0, rfl, (chr_and _)⟩)
theorem d26_0 : decode jdk_43_method_3_code 0 = .ok (.iload_n 0, 1) := by decide +kernel
theorem d26_1 : decode jdk_43_method_3_code 1 = .ok (.sipush 255, 3) := by decide +kernel
theorem d26_4 : decode jdk_43_method_3_code 4 = .ok (.if_icmp .gt 7, 3) := by decide +kernel
theorem d26_7 : decode jdk_43_method_3_code 7 = .ok (.iconst 1, 1) := by decide +kernel
theorem d26_8 : decode jdk_43_method_3_code 8 = .ok (.goto 4, 3) := by decide +kernel
theorem d26_12 : decode jdk_43_method_3_code 12 = .ok (.ireturn, 1) := by decide +kernel
theorem ef_ce (m : MethodId) (ch : Int32) : entryFrame m #[(.int ch)] 1 = mkF m 0 #[.val (.int ch)] [] := by first | (simp [entryFrame, mkF, argsToLocals, Value.category]; done) | rfl
def Q_ce (Z : State) (ch : Int32) (h0 : Heap) (n0 : Nat) (v : Option Value) (h : Heap) (L : List Loc) : Prop := (v = some (.int 1) ∧ Fr n0 L ∧ h = h0)
set_option maxRecDepth 65536 in
set_option maxHeartbeats 40000000 in
theorem rm_ce (l : Launch) (Z : State) (a0 : Array Value) (hw : ∀ d ∈ tables_1, d.before a0 Z = true) (ws : List Jvm.Cond) (ch : Int32) (h0 : Heap) (n0 : Nat) (Z0 : n0 ≤ h0.size) (hc : ¬ ((255 : Int32) < ch)) :
    MetFree l (⟨"java/lang/StringLatin1", "canEncode", "(C)Z"⟩ : MethodName) (head1 (Jvm.Cond.code (⟨"java/lang/StringLatin1", "canEncode", "(C)Z"⟩ : MethodName) jdk_43_method_3_code 1 (some .boolean) :: ws) ({ frames := 0, cells := 0, slots := 0, locals := 0 } : Room)) (fun aa U => aa = #[(.int ch)] ∧ Z.Warmed39 U.vm ∧ U.heap = h0) (fun _ _ _ _ _ => True) (fun _ U o U' => ∃ v L, o = .returned v ∧ Q_ce Z ch h0 n0 v U'.heap L ∧ FrameEnd U o U' L ({ frames := 0, cells := 0, slots := 0, locals := 0 } : Room).cells ({ frames := 0, cells := 0, slots := 0, locals := 0 } : Room).slots) := by
  refine MetFree.of_bodySF (plainFor_of_name pn_java_lang_StringLatin1) hisR ?_
  intro p e s m args below meth c s₁ Bd hml0 hP hK
  obtain ⟨rfl, hZ, hh⟩ := hP
  have hx := Bd.exec
  have hby := Bd.bytes
  have hlk : meth.locks = false := BodyLoose.notSynchronized Bd
  have hml : c.maxLocals = 1 := hml0
  have hown : s.vm.findClass "java/lang/StringLatin1" = some m.cls := findClass_of_methodNamed Bd.named
  have hnm := (name_of_methodNamed Bd.named Bd.method).1
  have X0 : Stand p l e ({ frames := 0, cells := 0, slots := 0, locals := 0 } : Room) s m #[(.int ch)] below meth c s₁ [] 0 0 := Stand.of_body Bd
  have e0 : s₁.heap = h0 := by rw [← hh, Bd.state]; rfl
  have N0 := Fr.nil n0
  show Gl p.tables e below (EndN s (Q_ce Z ch h0 n0) ({ frames := 0, cells := 0, slots := 0, locals := 0 } : Room).cells ({ frames := 0, cells := 0, slots := 0, locals := 0 } : Room).slots) _
  refine Gl.cast (ef_ce m ch) ?_
  show Gl p.tables e below _ (s₁.setTop (mkF m 0 #[.val (.int ch)] []))
  refine Gl.st (fun _ kq => XS.iloadN X0.here hx rfl (hb hby d26_0) rfl kq) ?_
  show Gl p.tables e below _ (s₁.setTop (mkF m 1 #[.val (.int ch)] [(.int ch)]))
  refine Gl.st (fun _ kq => XS.sipush X0.here hx rfl (hb hby d26_1) kq) ?_
  show Gl p.tables e below _ (s₁.setTop (mkF m 4 #[.val (.int ch)] [(.int 255), (.int ch)]))
  refine Gl.st (fun _ kq => XS.icmpNo X0.here hx rfl (hb hby d26_4) rfl (flt (hc : ¬ ((255 : Int32) < ch))).2.2.1 kq) ?_
  show Gl p.tables e below _ (s₁.setTop (mkF m 7 #[.val (.int ch)] []))
  refine Gl.st (fun _ kq => XS.iconst X0.here hx rfl (hb hby d26_7) kq) ?_
  show Gl p.tables e below _ (s₁.setTop (mkF m 8 #[.val (.int ch)] [(.int 1)]))
  refine Gl.st (fun _ kq => XS.goto X0.here hx rfl (pc0 := 8) (pc' := 12) rfl (hb hby d26_8) (by decide) (by decide) kq) ?_
  show Gl p.tables e below _ (s₁.setTop (mkF m 12 #[.val (.int ch)] [(.int 1)]))
  exact Gl.retN X0 hx (t := .boolean) Bd.returns (by simp) (hb hby d26_12) hlk (by decide) (by decide) (by rw [e0]; exact ⟨rfl, N0, rfl⟩)
theorem d27_0 : decode jdk_43_method_46_code 0 = .ok (.iconst 1, 1) := by decide +kernel
theorem d27_1 : decode jdk_43_method_46_code 1 = .ok (.newarray .byte, 2) := by decide +kernel
theorem d27_3 : decode jdk_43_method_46_code 3 = .ok (.dup, 1) := by decide +kernel
theorem d27_4 : decode jdk_43_method_46_code 4 = .ok (.iconst 0, 1) := by decide +kernel
theorem d27_5 : decode jdk_43_method_46_code 5 = .ok (.iload_n 0, 1) := by decide +kernel
theorem d27_6 : decode jdk_43_method_46_code 6 = .ok (.i2b, 1) := by decide +kernel
theorem d27_7 : decode jdk_43_method_46_code 7 = .ok (.bastore, 1) := by decide +kernel
theorem d27_8 : decode jdk_43_method_46_code 8 = .ok (.areturn, 1) := by decide +kernel
theorem ef_tb (m : MethodId) (ch : Int32) : entryFrame m #[(.int ch)] 1 = mkF m 0 #[.val (.int ch)] [] := by first | (simp [entryFrame, mkF, argsToLocals, Value.category]; done) | rfl
def Q_tb (Z : State) (ch : Int32) (h0 : Heap) (n0 : Nat) (v : Option Value) (h : Heap) (L : List Loc) : Prop := (∃ t : Addr, ∃ k : ClassId, v = some (.ref t) ∧ Fr n0 L ∧ Keep h0 h [] ∧ Arv Z h t k .byte (Int32.ofNat ([ch] : List Int32).length) ((([ch] : List Int32).map (fun c => c.toInt8.toInt32)).map Value.int) (.int 0) ∧ (h0.size ≤ t))
set_option maxRecDepth 65536 in
set_option maxHeartbeats 40000000 in
theorem rm_tb (l : Launch) (Z : State) (a0 : Array Value) (hw : ∀ d ∈ tables_1, d.before a0 Z = true) (ws : List Jvm.Cond) (ch : Int32) (h0 : Heap) (n0 : Nat) (Z0 : n0 ≤ h0.size) (hc : Chr ch) :
    MetFree l (⟨"java/lang/StringLatin1", "toBytes", "(C)[B"⟩ : MethodName) (head1 (Jvm.Cond.code (⟨"java/lang/StringLatin1", "toBytes", "(C)[B"⟩ : MethodName) jdk_43_method_46_code 1 (some (.array .byte)) :: ws) ({ frames := 0, cells := 1, slots := 1, locals := 0 } : Room)) (fun aa U => aa = #[(.int ch)] ∧ Z.Warmed39 U.vm ∧ U.heap = h0) (fun _ _ _ _ _ => True) (fun _ U o U' => ∃ v L, o = .returned v ∧ Q_tb Z ch h0 n0 v U'.heap L ∧ FrameEnd U o U' L ({ frames := 0, cells := 1, slots := 1, locals := 0 } : Room).cells ({ frames := 0, cells := 1, slots := 1, locals := 0 } : Room).slots) := by
  refine MetFree.of_bodySF (plainFor_of_name pn_java_lang_StringLatin1) hisR ?_
  intro p e s m args below meth c s₁ Bd hml0 hP hK
  obtain ⟨rfl, hZ, hh⟩ := hP
  have hx := Bd.exec
  have hby := Bd.bytes
  have hlk : meth.locks = false := BodyLoose.notSynchronized Bd
  have hml : c.maxLocals = 1 := hml0
  have hown : s.vm.findClass "java/lang/StringLatin1" = some m.cls := findClass_of_methodNamed Bd.named
  have hnm := (name_of_methodNamed Bd.named Bd.method).1
  have X0 : Stand p l e ({ frames := 0, cells := 1, slots := 1, locals := 0 } : Room) s m #[(.int ch)] below meth c s₁ [] 0 0 := Stand.of_body Bd
  have e0 : s₁.heap = h0 := by rw [← hh, Bd.state]; rfl
  have N0 := Fr.nil n0
  show Gl p.tables e below (EndN s (Q_tb Z ch h0 n0) ({ frames := 0, cells := 1, slots := 1, locals := 0 } : Room).cells ({ frames := 0, cells := 1, slots := 1, locals := 0 } : Room).slots) _
  refine Gl.cast (ef_tb m ch) ?_
  show Gl p.tables e below _ (s₁.setTop (mkF m 0 #[.val (.int ch)] []))
  refine Gl.st (fun _ kq => XS.iconst X0.here hx rfl (hb hby d27_0) kq) ?_
  show Gl p.tables e below _ (s₁.setTop (mkF m 1 #[.val (.int ch)] [(.int 1)]))
  obtain ⟨T1, h1, k1, X1, e1, E1, A1, st1⟩ := newP X0 hx hZ (tw hw 11 rfl) e0 (g := (mkF m 1 #[.val (.int ch)] [(.int 1)])) rfl (hb hby d27_1) rfl (by decide) (cap := 1) (by decide) (by decide) (by decide) (by decide)
  obtain ⟨b1, g1⟩ : ∃ z, z = h0.size := ⟨_, rfl⟩
  rw [← g1] at A1 st1
  refine Gl.st st1 ?_
  have g2 : n0 ≤ b1 := Nat.le_trans Z0 (Nat.le_of_eq g1.symm)
  have s3 : h0.size ≤ b1 := Nat.le_trans (Nat.le_refl _) (Nat.le_of_eq g1.symm)
  have V1 : Arv Z h1 b1 k1 .byte (1 : Int32) [(.int 0)] (.int 0) := (Arv.new A1 (by decide)).pad (pad_rep [] (.int 0) 1)
  show Gl p.tables e below _ (T1.setTop (mkF m 3 #[.val (.int ch)] [(.ref b1)]))
  refine Gl.st (fun _ kq => XS.dup X1.here hx rfl (hb hby d27_3) rfl rfl kq) ?_
  show Gl p.tables e below _ (T1.setTop (mkF m 4 #[.val (.int ch)] [(.ref b1), (.ref b1)]))
  refine Gl.st (fun _ kq => XS.iconst X1.here hx rfl (hb hby d27_4) kq) ?_
  show Gl p.tables e below _ (T1.setTop (mkF m 5 #[.val (.int ch)] [(.int 0), (.ref b1), (.ref b1)]))
  refine Gl.st (fun _ kq => XS.iloadN X1.here hx rfl (hb hby d27_5) rfl kq) ?_
  show Gl p.tables e below _ (T1.setTop (mkF m 6 #[.val (.int ch)] [(.int ch), (.int 0), (.ref b1), (.ref b1)]))
  refine Gl.st (fun _ kq => XS.i2b X1.here hx rfl (hb hby d27_6) rfl kq) ?_
  show Gl p.tables e below _ (T1.setTop (mkF m 7 #[.val (.int ch)] [(.int (ch.toInt8.toInt32)), (.int 0), (.ref b1), (.ref b1)]))
  obtain ⟨c4, a4, q4, S4, M4, H4, G4⟩ := id V1
  obtain ⟨T4, h4, X4, e4, W4, st4⟩ := stB X1 hx hZ e1 a4 (j := (0 : Int32)) (inb_of S4 ⟨by decide, by decide⟩) (g := (mkF m 7 #[.val (.int ch)] [(.int (ch.toInt8.toInt32)), (.int 0), (.ref b1), (.ref b1)])) rfl rfl (hb hby d27_7)
  refine Gl.st st4 ?_
  have V4 : Arv Z h4 b1 k1 .byte (1 : Int32) [(.int (nar .byte (ch.toInt8.toInt32)))] (.int 0) := Arv.set a4 q4 S4 M4 H4 G4 (fits_nar_byte _) W4 0 rfl (Nat.le_of_ble_eq_true rfl)
  have N4 := Fr.snoc X4 N0 g2
  show Gl p.tables e below _ (T4.setTop (mkF m 8 #[.val (.int ch)] [(.ref b1)]))
  have K5 : Keep h0 h4 [] := (((Keep.refl h0 []).ext E1).wr W4 (Or.inr s3))
  exact Gl.retA X4 hx Bd.returns rfl rfl (hb hby d27_8) hlk (by decide) (by decide) (by rw [e4]; exact ⟨b1, k1, rfl, N4, K5, (by have q := V4; rw [nar_b hc] at q; exact q), s3⟩)
theorem d25_0 : decode jdk_42_method_139_code 0 = .ok (.getstatic 38, 3) := by decide +kernel
theorem d25_3 : decode jdk_42_method_139_code 3 = .ok (.ifCond .eq 23, 3) := by decide +kernel
theorem d25_6 : decode jdk_42_method_139_code 6 = .ok (.iload_n 0, 1) := by decide +kernel
theorem d25_7 : decode jdk_42_method_139_code 7 = .ok (.invokestatic 1015, 3) := by decide +kernel
theorem d25_10 : decode jdk_42_method_139_code 10 = .ok (.ifCond .eq 16, 3) := by decide +kernel
theorem d25_13 : decode jdk_42_method_139_code 13 = .ok (.new 10, 3) := by decide +kernel
theorem d25_16 : decode jdk_42_method_139_code 16 = .ok (.dup, 1) := by decide +kernel
theorem d25_17 : decode jdk_42_method_139_code 17 = .ok (.iload_n 0, 1) := by decide +kernel
theorem d25_18 : decode jdk_42_method_139_code 18 = .ok (.invokestatic 1018, 3) := by decide +kernel
theorem d25_21 : decode jdk_42_method_139_code 21 = .ok (.iconst 0, 1) := by decide +kernel
theorem d25_22 : decode jdk_42_method_139_code 22 = .ok (.invokespecial 209, 3) := by decide +kernel
theorem d25_25 : decode jdk_42_method_139_code 25 = .ok (.areturn, 1) := by decide +kernel
theorem ef_vo (m : MethodId) (ch : Int32) : entryFrame m #[(.int ch)] 1 = mkF m 0 #[.val (.int ch)] [] := by first | (simp [entryFrame, mkF, argsToLocals, Value.category]; done) | rfl
def Q_vo (Z : State) (ch : Int32) (G1 : Int32) (h0 : Heap) (n0 : Nat) (v : Option Value) (h : Heap) (L : List Loc) : Prop := (∃ b : Addr, ∃ t : Addr, ∃ k : ClassId, v = some (.ref b) ∧ Fr n0 L ∧ Keep h0 h [] ∧ Exa Z h b "java/lang/String" ∧ Fld Z h b "java/lang/String" "coder" "B" (.int 0) ∧ Fld Z h b "java/lang/String" "value" "[B" (.ref t) ∧ Arv Z h t k .byte (Int32.ofNat ([ch] : List Int32).length) ((([ch] : List Int32).map (fun c => c.toInt8.toInt32)).map Value.int) (.int 0) ∧ (h0.size ≤ b))
set_option maxRecDepth 65536 in
set_option maxHeartbeats 40000000 in
theorem rm_vo (l : Launch) (Z : State) (a0 : Array Value) (hw : ∀ d ∈ tables_1, d.before a0 Z = true) (ws : List Jvm.Cond) (ch : Int32) (G1 : Int32) (h0 : Heap) (n0 : Nat) (Z0 : n0 ≤ h0.size) (pf0 : Old Z n0 h0) (hc : Chr ch) (O2 : Sta Z Z.heap "java/lang/String" "COMPACT_STRINGS" "Z" (.int G1)) (P5 : ¬ (G1 = (0 : Int32))) :
    MetFree l (⟨"java/lang/String", "valueOf", "(C)Ljava/lang/String;"⟩ : MethodName) (head1 (Jvm.Cond.code (⟨"java/lang/String", "valueOf", "(C)Ljava/lang/String;"⟩ : MethodName) jdk_42_method_139_code 1 (some (.object "java/lang/String")) :: ws) ({ frames := 2, cells := 2, slots := 5, locals := 27 } : Room)) (fun aa U => aa = #[(.int ch)] ∧ Z.Warmed39 U.vm ∧ U.heap = h0) (fun _ _ _ _ _ => True) (fun _ U o U' => ∃ v L, o = .returned v ∧ Q_vo Z ch G1 h0 n0 v U'.heap L ∧ FrameEnd U o U' L ({ frames := 2, cells := 2, slots := 5, locals := 27 } : Room).cells ({ frames := 2, cells := 2, slots := 5, locals := 27 } : Room).slots) := by
  refine MetFree.of_bodySF (plainFor_of_name pn_java_lang_String) hisR ?_
  intro p e s m args below meth c s₁ Bd hml0 hP hK
  obtain ⟨rfl, hZ, hh⟩ := hP
  have hx := Bd.exec
  have hby := Bd.bytes
  have hlk : meth.locks = false := BodyLoose.notSynchronized Bd
  have hml : c.maxLocals = 1 := hml0
  have hown : s.vm.findClass "java/lang/String" = some m.cls := findClass_of_methodNamed Bd.named
  have hnm := (name_of_methodNamed Bd.named Bd.method).1
  have X0 : Stand p l e ({ frames := 2, cells := 2, slots := 5, locals := 27 } : Room) s m #[(.int ch)] below meth c s₁ [] 0 0 := Stand.of_body Bd
  have e0 : s₁.heap = h0 := by rw [← hh, Bd.state]; rfl
  have N0 := Fr.nil n0
  show Gl p.tables e below (EndN s (Q_vo Z ch G1 h0 n0) ({ frames := 2, cells := 2, slots := 5, locals := 27 } : Room).cells ({ frames := 2, cells := 2, slots := 5, locals := 27 } : Room).slots) _
  refine Gl.cast (ef_vo m ch) ?_
  show Gl p.tables e below _ (s₁.setTop (mkF m 0 #[.val (.int ch)] []))
  obtain ⟨T1, X1, e1, st1⟩ := getS2 X0 hx hZ hown (host := "") (Or.inl (tw hw 35 rfl)) Via.refl e0 (O2.ext pf0.2) (g := (mkF m 0 #[.val (.int ch)] [])) rfl (hb hby d25_0)
  refine Gl.st st1 ?_
  show Gl p.tables e below _ (T1.setTop (mkF m 3 #[.val (.int ch)] [(.int G1)]))
  refine Gl.st (fun _ kq => XS.ifNo X1.here hx rfl (hb hby d25_3) rfl ((if0 _ _).trans (feq (P5 : ¬ (G1 = (0 : Int32)))).1) kq) ?_
  show Gl p.tables e below _ (T1.setTop (mkF m 6 #[.val (.int ch)] []))
  refine Gl.st (fun _ kq => XS.iloadN X1.here hx rfl (hb hby d25_6) rfl kq) ?_
  show Gl p.tables e below _ (T1.setTop (mkF m 7 #[.val (.int ch)] [(.int ch)]))
  obtain ⟨_, _, ⟨T2, L2, k2, n2⟩, -, X2, ⟨Lc2, hQ2, l2, y2, z2⟩, st2⟩ := Jvm.LawKit.callS X1 hx (y := (⟨"java/lang/StringLatin1", "canEncode", "(C)Z"⟩ : MethodName)) hown (mvT hZ (tw hw 112 rfl)) (mvT hZ (tw hw 113 rfl)) (mvT hZ (tw hw 50 rfl)) (mvT hZ (tw hw 114 rfl)) (by decide) (backOf (W := 0) (rm_ce l Z a0 hw [] (ch) h0 n0 Z0 hc.2) hZ (tw hw 114 rfl) (tw hw 50 rfl) (by decide) (by decide)) (g := (mkF m 7 #[.val (.int ch)] [(.int ch)])) rfl (by rw [hml]; rfl) (argsL := [(.int ch)]) (rest := []) (lenOf pd__C_Z rfl) rfl (by show 2 * 0 + _ ≤ _; exact Nat.le_of_eq rfl) (hb hby d25_7) (fun _ _ => ⟨rfl, e1, (by decide : 0 + 0 ≤ _), (by decide : 0 + 0 ≤ _)⟩)
  dsimp only [Pt.U, Pt.locs, Pt.cells, Pt.slots] at X2 l2 y2 z2 st2 hQ2
  subst l2 y2 z2
  obtain ⟨rfl, N2, e2⟩ := hQ2
  have M2 := Fr.app N0 N2
  refine Gl.st st2 ?_
  show Gl p.tables e below _ (T2.setTop (mkF m 10 #[.val (.int ch)] [(.int 1)]))
  show Gl p.tables e below _ (T2.setTop (mkF m 10 #[.val (.int ch)] [(.int 1)]))
  refine Gl.st (fun _ kq => XS.ifNo X2.here hx rfl (hb hby d25_10) rfl ((if0 _ _).trans (feq ((by decide) : ¬ ((1 : Int32) = (0 : Int32)))).1) kq) ?_
  show Gl p.tables e below _ (T2.setTop (mkF m 13 #[.val (.int ch)] []))
  obtain ⟨T3, h3, X3, e3, E3, A3, D3, U3, st3⟩ := newO X2 hx hZ hown (tw hw 115 rfl) (tw hw 10 rfl) (tw hw 9 rfl) e2 (g := (mkF m 13 #[.val (.int ch)] [])) rfl (hb hby d25_13) (by decide) (by decide)
  obtain ⟨b3, g3⟩ : ∃ z, z = h0.size := ⟨_, rfl⟩
  rw [← g3] at A3 D3 U3 st3
  refine Gl.st st3 ?_
  have g4 : n0 ≤ b3 := Nat.le_trans Z0 (Nat.le_of_eq g3.symm)
  have s5 : h0.size ≤ b3 := Nat.le_trans (Nat.le_refl _) (Nat.le_of_eq g3.symm)
  have F3_12 : Fld Z h3 b3 "java/lang/String" "value" "[B" .null := D3 (Or.inr (tw hw 12 rfl)) (ty := (.array .byte)) (by decide)
  have F3_13 : Fld Z h3 b3 "java/lang/String" "coder" "B" (.int 0) := D3 (Or.inr (tw hw 13 rfl)) (ty := .byte) (by decide)
  show Gl p.tables e below _ (T3.setTop (mkF m 16 #[.val (.int ch)] [(.ref b3)]))
  refine Gl.st (fun _ kq => XS.dup X3.here hx rfl (hb hby d25_16) rfl rfl kq) ?_
  show Gl p.tables e below _ (T3.setTop (mkF m 17 #[.val (.int ch)] [(.ref b3), (.ref b3)]))
  refine Gl.st (fun _ kq => XS.iloadN X3.here hx rfl (hb hby d25_17) rfl kq) ?_
  show Gl p.tables e below _ (T3.setTop (mkF m 18 #[.val (.int ch)] [(.int ch), (.ref b3), (.ref b3)]))
  obtain ⟨_, _, ⟨T8, L8, k8, n8⟩, -, X8, ⟨Lc8, hQ8, l8, y8, z8⟩, st8⟩ := Jvm.LawKit.callS X3 hx (y := (⟨"java/lang/StringLatin1", "toBytes", "(C)[B"⟩ : MethodName)) hown (mvT hZ (tw hw 116 rfl)) (mvT hZ (tw hw 117 rfl)) (mvT hZ (tw hw 50 rfl)) (mvT hZ (tw hw 118 rfl)) (by decide) (backOf (W := 2) (rm_tb l Z a0 hw [] (ch) h3 n0 (Nat.le_trans Z0 E3.1) hc) hZ (tw hw 118 rfl) (tw hw 50 rfl) (by decide) (by decide)) (g := (mkF m 18 #[.val (.int ch)] [(.int ch), (.ref b3), (.ref b3)])) rfl (by rw [hml]; rfl) (argsL := [(.int ch)]) (rest := [(.ref b3), (.ref b3)]) (lenOf pd__C__B rfl) rfl (by show 2 * 0 + _ ≤ _; exact Nat.le_of_eq rfl) (hb hby d25_18) (fun _ _ => ⟨rfl, e3, (by decide : 1 + 1 ≤ _), (by decide : 4 + 1 ≤ _)⟩)
  dsimp only [Pt.U, Pt.locs, Pt.cells, Pt.slots] at X8 l8 y8 z8 st8 hQ8
  subst l8 y8 z8
  obtain ⟨v6, v7, rfl, N8, K8, q8_0, y8_0⟩ := hQ8
  have M8 := Fr.app M2 N8
  have g9 : n0 ≤ v6 := Nat.le_trans (Nat.le_trans Z0 E3.1) y8_0
  have s10 : h0.size ≤ v6 := Nat.le_trans (Nat.le_trans (Nat.le_refl _) E3.1) y8_0
  refine Gl.st st8 ?_
  show Gl p.tables e below _ (T8.setTop (mkF m 21 #[.val (.int ch)] [(.ref v6), (.ref b3), (.ref b3)]))
  show Gl p.tables e below _ (T8.setTop (mkF m 21 #[.val (.int ch)] [(.ref v6), (.ref b3), (.ref b3)]))
  refine Gl.st (fun _ kq => XS.iconst X8.here hx rfl (hb hby d25_21) kq) ?_
  show Gl p.tables e below _ (T8.setTop (mkF m 22 #[.val (.int ch)] [(.int 0), (.ref v6), (.ref b3), (.ref b3)]))
  have f11 : Exa Z T8.heap b3 "java/lang/String" := (A3.keep K8)
  have f12 : Fld Z T8.heap b3 "java/lang/String" "value" "[B" .null := (F3_12.keep K8 nin0)
  have f13 : Fld Z T8.heap b3 "java/lang/String" "coder" "B" (.int 0) := (F3_13.keep K8 nin0)
  obtain ⟨_, _, ⟨T14, L14, k14, n14⟩, -, X14, ⟨Lc14, hQ14, l14, y14, z14⟩, st14⟩ := X8.specialBack hx (y := (⟨"java/lang/String", "<init>", "([BB)V"⟩ : MethodName)) rfl hown (mvT hZ (tw hw 119 rfl)) (mvT hZ (tw hw 120 rfl)) (mvT hZ (tw hw 121 rfl)) (by decide) (backOf (W := 1) (rm_si l Z a0 hw [] (b3) (v6) (.null) ((0 : Int32)) T8.heap n0 (Nat.le_trans (Nat.le_trans Z0 E3.1) K8.1) f11 f12 f13 g4) hZ (tw hw 121 rfl) (tw hw 9 rfl) (by decide) (by decide)) (g := (mkF m 22 #[.val (.int ch)] [(.int 0), (.ref v6), (.ref b3), (.ref b3)])) rfl (by rw [hml]; rfl) (Steps.refl _) (a := b3) (argsL := [(.ref v6), (.int 0)]) (rest := [(.ref b3)]) (lenOf pd___BB_V rfl) rfl (by show 2 * 0 + _ ≤ _; exact Nat.le_of_eq rfl) (hb hby d25_22) (fun _ _ => ⟨rfl, rfl, (by decide : 2 + 0 ≤ _), (by decide : 5 + 0 ≤ _)⟩)
  dsimp only [Pt.U, Pt.locs, Pt.cells, Pt.slots] at X14 l14 y14 z14 st14 hQ14
  subst l14 y14 z14
  obtain ⟨rfl, N14, K14, q14_0, q14_1, q14_2⟩ := hQ14
  have M14 := Fr.app M8 N14
  refine Gl.to st14 ?_
  show Gl p.tables e below _ (T14.setTop (mkF m 25 #[.val (.int ch)] [(.ref b3)]))
  show Gl p.tables e below _ (T14.setTop (mkF m 25 #[.val (.int ch)] [(.ref b3)]))
  have K15 : Keep h0 T14.heap [] := ((((Keep.refl h0 []).ext E3).trans K8 all0).trans K14 (allS (Or.inr s5) all0))
  have ne16 : v6 ≠ b3 := Ne.symm (Nat.ne_of_lt (Nat.lt_of_lt_of_le A3.lt y8_0))
  have f17 : Arv Z T14.heap v6 v7 .byte (Int32.ofNat ([ch] : List Int32).length) ((([ch] : List Int32).map (fun c => c.toInt8.toInt32)).map Value.int) (.int 0) := (q8_0.keep K14 (ninS ne16 nin0))
  exact Gl.retA X14 hx Bd.returns rfl rfl (hb hby d25_25) hlk (by decide) (by decide) ⟨b3, v6, v7, rfl, M14, K15, q14_0, q14_2, q14_1, f17, s5⟩
theorem d2_0 : decode method_4_code 0 = .ok (.iload_n 0, 1) := by decide +kernel
theorem d2_1 : decode method_4_code 1 = .ok (.ifCond .ne 6, 3) := by decide +kernel
theorem d2_4 : decode method_4_code 4 = .ok (.ldc 30, 2) := by decide +kernel
theorem d2_6 : decode method_4_code 6 = .ok (.areturn, 1) := by decide +kernel
theorem d2_7 : decode method_4_code 7 = .ok (.iload_n 0, 1) := by decide +kernel
theorem d2_8 : decode method_4_code 8 = .ok (.iconst 1, 1) := by decide +kernel
theorem d2_9 : decode method_4_code 9 = .ok (.if_icmp .ne 8, 3) := by decide +kernel
theorem d2_12 : decode method_4_code 12 = .ok (.iload_n 1, 1) := by decide +kernel
theorem d2_13 : decode method_4_code 13 = .ok (.invokestatic 32, 3) := by decide +kernel
theorem d2_16 : decode method_4_code 16 = .ok (.areturn, 1) := by decide +kernel
theorem d2_17 : decode method_4_code 17 = .ok (.iload_n 0, 1) := by decide +kernel
theorem d2_18 : decode method_4_code 18 = .ok (.iconst 2, 1) := by decide +kernel
theorem d2_19 : decode method_4_code 19 = .ok (.if_icmp .ne 22, 3) := by decide +kernel
theorem d2_22 : decode method_4_code 22 = .ok (.new 25, 3) := by decide +kernel
theorem d2_25 : decode method_4_code 25 = .ok (.dup, 1) := by decide +kernel
theorem d2_26 : decode method_4_code 26 = .ok (.iconst 2, 1) := by decide +kernel
theorem d2_27 : decode method_4_code 27 = .ok (.newarray .char, 2) := by decide +kernel
theorem d2_29 : decode method_4_code 29 = .ok (.dup, 1) := by decide +kernel
theorem d2_30 : decode method_4_code 30 = .ok (.iconst 0, 1) := by decide +kernel
theorem d2_31 : decode method_4_code 31 = .ok (.iload_n 1, 1) := by decide +kernel
theorem d2_32 : decode method_4_code 32 = .ok (.castore, 1) := by decide +kernel
theorem d2_33 : decode method_4_code 33 = .ok (.dup, 1) := by decide +kernel
theorem d2_34 : decode method_4_code 34 = .ok (.iconst 1, 1) := by decide +kernel
theorem d2_35 : decode method_4_code 35 = .ok (.iload_n 2, 1) := by decide +kernel
theorem d2_36 : decode method_4_code 36 = .ok (.castore, 1) := by decide +kernel
theorem d2_37 : decode method_4_code 37 = .ok (.invokespecial 36, 3) := by decide +kernel
theorem d2_40 : decode method_4_code 40 = .ok (.areturn, 1) := by decide +kernel
theorem d2_41 : decode method_4_code 41 = .ok (.iload_n 0, 1) := by decide +kernel
theorem d2_42 : decode method_4_code 42 = .ok (.iconst 3, 1) := by decide +kernel
theorem d2_43 : decode method_4_code 43 = .ok (.if_icmp .ne 26, 3) := by decide +kernel
theorem d2_46 : decode method_4_code 46 = .ok (.new 25, 3) := by decide +kernel
theorem d2_49 : decode method_4_code 49 = .ok (.dup, 1) := by decide +kernel
theorem d2_50 : decode method_4_code 50 = .ok (.iconst 3, 1) := by decide +kernel
theorem d2_51 : decode method_4_code 51 = .ok (.newarray .char, 2) := by decide +kernel
theorem d2_53 : decode method_4_code 53 = .ok (.dup, 1) := by decide +kernel
theorem d2_54 : decode method_4_code 54 = .ok (.iconst 0, 1) := by decide +kernel
theorem d2_55 : decode method_4_code 55 = .ok (.iload_n 1, 1) := by decide +kernel
theorem d2_56 : decode method_4_code 56 = .ok (.castore, 1) := by decide +kernel
theorem d2_57 : decode method_4_code 57 = .ok (.dup, 1) := by decide +kernel
theorem d2_58 : decode method_4_code 58 = .ok (.iconst 1, 1) := by decide +kernel
theorem d2_59 : decode method_4_code 59 = .ok (.iload_n 2, 1) := by decide +kernel
theorem d2_60 : decode method_4_code 60 = .ok (.castore, 1) := by decide +kernel
theorem d2_61 : decode method_4_code 61 = .ok (.dup, 1) := by decide +kernel
theorem d2_62 : decode method_4_code 62 = .ok (.iconst 2, 1) := by decide +kernel
theorem d2_63 : decode method_4_code 63 = .ok (.iload_n 3, 1) := by decide +kernel
theorem d2_64 : decode method_4_code 64 = .ok (.castore, 1) := by decide +kernel
theorem d2_65 : decode method_4_code 65 = .ok (.invokespecial 36, 3) := by decide +kernel
theorem d2_68 : decode method_4_code 68 = .ok (.areturn, 1) := by decide +kernel
theorem d2_69 : decode method_4_code 69 = .ok (.new 25, 3) := by decide +kernel
theorem d2_72 : decode method_4_code 72 = .ok (.dup, 1) := by decide +kernel
theorem d2_73 : decode method_4_code 73 = .ok (.iconst 4, 1) := by decide +kernel
theorem d2_74 : decode method_4_code 74 = .ok (.newarray .char, 2) := by decide +kernel
theorem d2_76 : decode method_4_code 76 = .ok (.dup, 1) := by decide +kernel
theorem d2_77 : decode method_4_code 77 = .ok (.iconst 0, 1) := by decide +kernel
theorem d2_78 : decode method_4_code 78 = .ok (.iload_n 1, 1) := by decide +kernel
theorem d2_79 : decode method_4_code 79 = .ok (.castore, 1) := by decide +kernel
theorem d2_80 : decode method_4_code 80 = .ok (.dup, 1) := by decide +kernel
theorem d2_81 : decode method_4_code 81 = .ok (.iconst 1, 1) := by decide +kernel
theorem d2_82 : decode method_4_code 82 = .ok (.iload_n 2, 1) := by decide +kernel
theorem d2_83 : decode method_4_code 83 = .ok (.castore, 1) := by decide +kernel
theorem d2_84 : decode method_4_code 84 = .ok (.dup, 1) := by decide +kernel
theorem d2_85 : decode method_4_code 85 = .ok (.iconst 2, 1) := by decide +kernel
theorem d2_86 : decode method_4_code 86 = .ok (.iload_n 3, 1) := by decide +kernel
theorem d2_87 : decode method_4_code 87 = .ok (.castore, 1) := by decide +kernel
theorem d2_88 : decode method_4_code 88 = .ok (.dup, 1) := by decide +kernel
theorem d2_89 : decode method_4_code 89 = .ok (.iconst 3, 1) := by decide +kernel
theorem d2_90 : decode method_4_code 90 = .ok (.iload 4, 2) := by decide +kernel
theorem d2_92 : decode method_4_code 92 = .ok (.castore, 1) := by decide +kernel
theorem d2_93 : decode method_4_code 93 = .ok (.invokespecial 36, 3) := by decide +kernel
theorem d2_96 : decode method_4_code 96 = .ok (.areturn, 1) := by decide +kernel
theorem ef_mk (m : MethodId) (n : Int32) (v1 : Int32) (v2 : Int32) (v3 : Int32) (v4 : Int32) : entryFrame m #[(.int n), (.int v1), (.int v2), (.int v3), (.int v4)] 5 = mkF m 0 #[.val (.int n), .val (.int v1), .val (.int v2), .val (.int v3), .val (.int v4)] [] := by first | (simp [entryFrame, mkF, argsToLocals, Value.category]; done) | rfl
def Q_mk (Z : State) (n : Int32) (v1 : Int32) (v2 : Int32) (v3 : Int32) (v4 : Int32) (G1 : Int32) (h0 : Heap) (n0 : Nat) (v : Option Value) (h : Heap) (L : List Loc) : Prop := (∃ b : Addr, ∃ t : Addr, ∃ k : ClassId, ∃ cs : List Int32, v = some (.ref b) ∧ Fr n0 L ∧ Keep h0 h [] ∧ Exa Z h b "java/lang/String" ∧ Fld Z h b "java/lang/String" "coder" "B" (.int 0) ∧ Fld Z h b "java/lang/String" "value" "[B" (.ref t) ∧ Arv Z h t k .byte (Int32.ofNat cs.length) ((cs.map (fun c => c.toInt8.toInt32)).map Value.int) (.int 0) ∧ (cs = own_tk n v1 v2 v3 v4))
set_option maxRecDepth 65536 in
set_option maxHeartbeats 40000000 in
theorem rm_mk (l : Launch) (Z : State) (a0 : Array Value) (hw : ∀ d ∈ tables_1, d.before a0 Z = true) (ws : List Jvm.Cond) (n : Int32) (v1 : Int32) (v2 : Int32) (v3 : Int32) (v4 : Int32) (G1 : Int32) (h0 : Heap) (n0 : Nat) (Z0 : n0 ≤ h0.size) (pf0 : Old Z n0 h0) (hv1 : Chr v1) (hv2 : Chr v2) (hv3 : Chr v3) (hv4 : Chr v4) (O2 : Sta Z Z.heap "java/lang/String" "COMPACT_STRINGS" "Z" (.int G1)) (P5 : ¬ (G1 = (0 : Int32))) :
    MetFree l (⟨"com/example/neighbor_keys/neighborkeys/model/RelatedNameOfPinLaw", "mk", "(ICCCC)Ljava/lang/String;"⟩ : MethodName) (head1 (Jvm.Cond.code (⟨"com/example/neighbor_keys/neighborkeys/model/RelatedNameOfPinLaw", "mk", "(ICCCC)Ljava/lang/String;"⟩ : MethodName) method_4_code 5 (some (.object "java/lang/String")) :: ws) ({ frames := 4, cells := 3, slots := 12, locals := 66 } : Room)) (fun aa U => aa = #[(.int n), (.int v1), (.int v2), (.int v3), (.int v4)] ∧ Z.Warmed39 U.vm ∧ U.heap = h0 ∧ CHv Z consts_1 U.vm h0) (fun _ _ _ _ _ => True) (fun _ U o U' => ∃ v L, o = .returned v ∧ Q_mk Z n v1 v2 v3 v4 G1 h0 n0 v U'.heap L ∧ CHr Z consts_1 U.vm U.heap U'.vm U'.heap ∧ ReturnedEndW U o U' L ({ frames := 4, cells := 3, slots := 12, locals := 66 } : Room).cells ({ frames := 4, cells := 3, slots := 12, locals := 66 } : Room).slots) := by
  refine MetFree.of_bodySF (plainFor_of_name pn_com_example_neighbor_keys_neighborkeys_model_RelatedNameOfPinLaw) hisR ?_
  intro p e s m args below meth c s₁ Bd hml0 hP hK
  obtain ⟨rfl, hZ, hh, hH⟩ := hP
  have hx := Bd.exec
  have hby := Bd.bytes
  have hlk : meth.locks = false := BodyLoose.notSynchronized Bd
  have hml : c.maxLocals = 5 := hml0
  have hown : s.vm.findClass "com/example/neighbor_keys/neighborkeys/model/RelatedNameOfPinLaw" = some m.cls := findClass_of_methodNamed Bd.named
  have hnm := (name_of_methodNamed Bd.named Bd.method).1
  have X0 : Stand p l e ({ frames := 4, cells := 3, slots := 12, locals := 66 } : Room) (s.setVm s.vm) m #[(.int n), (.int v1), (.int v2), (.int v3), (.int v4)] below meth c s₁ [] 0 0 := Stand.of_body Bd
  have e0 : s₁.heap = h0 := by rw [← hh, Bd.state]; rfl
  have N0 := Fr.nil n0
  show Gl p.tables e below (EndH s Z consts_1 (Q_mk Z n v1 v2 v3 v4 G1 h0 n0) ({ frames := 4, cells := 3, slots := 12, locals := 66 } : Room).cells ({ frames := 4, cells := 3, slots := 12, locals := 66 } : Room).slots) _
  refine Gl.cast (ef_mk m n v1 v2 v3 v4) ?_
  show Gl p.tables e below _ (s₁.setTop (mkF m 0 #[.val (.int n), .val (.int v1), .val (.int v2), .val (.int v3), .val (.int v4)] []))
  have hS0 : s.Since s.vm s₁.heap.size := (State.WarmedH.refl s).since _
  have C0 : CHr Z consts_1 s.vm h0 s.vm h0 := CHr.refl hH
  refine Gl.st (fun _ kq => XS.iloadN X0.here hx rfl (hb hby d2_0) rfl kq) ?_
  show Gl p.tables e below _ (s₁.setTop (mkF m 1 #[.val (.int n), .val (.int v1), .val (.int v2), .val (.int v3), .val (.int v4)] [(.int n)]))
  by_cases hc1 : n = (0 : Int32)
  · refine Gl.st (fun _ kq => XS.ifNo X0.here hx rfl (hb hby d2_1) rfl ((if0 _ _).trans (teq (hc1 : n = (0 : Int32))).2) kq) ?_
    show Gl p.tables e below _ (s₁.setTop (mkF m 4 #[.val (.int n), .val (.int v1), .val (.int v2), .val (.int v3), .val (.int v4)] []))
    obtain ⟨b2, T2, h2, k2, t2, kc2, X2, e2, E2, S2, q2, hZ2, ho2, A2, F2, G2, V2, la2, lb2, R2, L2, sa2, st2⟩ := ldcCH X0 hx hZ hown (tw hw 8 rfl) (strW hw) e0 hS0 (Nat.le_of_eq (congrArg Array.size e0)) (elW hw) (by decide) C0.1 (vs := []) (z := (0 : Int32)) (litc_8) (by decide) (by decide) (g := (mkF m 4 #[.val (.int n), .val (.int v1), .val (.int v2), .val (.int v3), .val (.int v4)] [])) rfl (hb hby d2_4) (n := 0) (by decide) (by decide) (by decide) (by decide)
    refine Gl.st st2 ?_
    have C3 : CHr Z consts_1 s.vm h0 T2.vm h2 := C0.trans R2
    have V2 : Arv Z h2 t2 kc2 .byte (Int32.ofNat ([] : List Int32).length) ((([] : List Int32).map (fun c => c.toInt8.toInt32)).map Value.int) (.int 0) := V2
    show Gl p.tables e below _ (T2.setTop (mkF m 6 #[.val (.int n), .val (.int v1), .val (.int v2), .val (.int v3), .val (.int v4)] [(.ref b2)]))
    have K4 : Keep h0 h2 [] := ((Keep.refl h0 []).ext E2)
    exact Gl.retAH X2 hx S2 (Nat.le_trans q2 (Nat.le_of_eq (congrArg Array.size e2).symm)) (by rw [hh, e2]; exact C3.trans (CHv.at X2 hZ2 (elW hw) C3.1)) Bd.returns rfl rfl (hb hby d2_6) hlk (by decide) (by decide) (by rw [e2]; exact ⟨b2, t2, kc2, ([] : List Int32), rfl, N0, K4, A2, F2, G2, V2, (tk_nil hc1)⟩)
  · refine Gl.st (fun _ kq => XS.ifYes X0.here hx rfl (pc0 := 1) (pc' := 7) rfl (hb hby d2_1) rfl ((if0 _ _).trans (feq (hc1 : ¬ (n = (0 : Int32)))).2) (by decide) (by decide) kq) ?_
    show Gl p.tables e below _ (s₁.setTop (mkF m 7 #[.val (.int n), .val (.int v1), .val (.int v2), .val (.int v3), .val (.int v4)] []))
    refine Gl.st (fun _ kq => XS.iloadN X0.here hx rfl (hb hby d2_7) rfl kq) ?_
    show Gl p.tables e below _ (s₁.setTop (mkF m 8 #[.val (.int n), .val (.int v1), .val (.int v2), .val (.int v3), .val (.int v4)] [(.int n)]))
    refine Gl.st (fun _ kq => XS.iconst X0.here hx rfl (hb hby d2_8) kq) ?_
    show Gl p.tables e below _ (s₁.setTop (mkF m 9 #[.val (.int n), .val (.int v1), .val (.int v2), .val (.int v3), .val (.int v4)] [(.int 1), (.int n)]))
    by_cases hc5 : n = (1 : Int32)
    · refine Gl.st (fun _ kq => XS.icmpNo X0.here hx rfl (hb hby d2_9) rfl (teq (hc5 : n = (1 : Int32))).2 kq) ?_
      show Gl p.tables e below _ (s₁.setTop (mkF m 12 #[.val (.int n), .val (.int v1), .val (.int v2), .val (.int v3), .val (.int v4)] []))
      refine Gl.st (fun _ kq => XS.iloadN X0.here hx rfl (hb hby d2_12) rfl kq) ?_
      show Gl p.tables e below _ (s₁.setTop (mkF m 13 #[.val (.int n), .val (.int v1), .val (.int v2), .val (.int v3), .val (.int v4)] [(.int v1)]))
      obtain ⟨_, _, ⟨T9, L9, k9, n9⟩, -, X9, ⟨Lc9, hQ9, l9, y9, z9⟩, st9⟩ := Jvm.LawKit.callS X0 hx (y := (⟨"java/lang/String", "valueOf", "(C)Ljava/lang/String;"⟩ : MethodName)) hown (mvT hZ (tw hw 109 rfl)) (mvT hZ (tw hw 110 rfl)) (mvT hZ (tw hw 9 rfl)) (mvT hZ (tw hw 111 rfl)) (by decide) (backOf (W := 0) (rm_vo l Z a0 hw [] (v1) (G1) h0 n0 Z0 pf0 hv1 O2 P5) hZ (tw hw 111 rfl) (tw hw 9 rfl) (by decide) (by decide)) (g := (mkF m 13 #[.val (.int n), .val (.int v1), .val (.int v2), .val (.int v3), .val (.int v4)] [(.int v1)])) rfl (by rw [hml]; rfl) (argsL := [(.int v1)]) (rest := []) (lenOf pd__C_Ljava_lang_String_ rfl) rfl (by show 2 * 0 + _ ≤ _; exact Nat.le_of_eq rfl) (hb hby d2_13) (fun _ _ => ⟨rfl, e0, (by decide : 0 + 2 ≤ _), (by decide : 0 + 5 ≤ _)⟩)
      dsimp only [Pt.U, Pt.locs, Pt.cells, Pt.slots] at X9 l9 y9 z9 st9 hQ9
      subst l9 y9 z9
      obtain ⟨v6, v7, v8, rfl, N9, K9, q9_0, q9_1, q9_2, q9_3, y9_0⟩ := hQ9
      have C10 : CHr Z consts_1 s.vm h0 s.vm T9.heap := C0.trans (CHr.keep K9 sf0 C0.1)
      have M9 := Fr.app N0 N9
      have g11 : n0 ≤ v6 := Nat.le_trans Z0 y9_0
      have s12 : h0.size ≤ v6 := Nat.le_trans (Nat.le_refl _) y9_0
      refine Gl.st st9 ?_
      show Gl p.tables e below _ (T9.setTop (mkF m 16 #[.val (.int n), .val (.int v1), .val (.int v2), .val (.int v3), .val (.int v4)] [(.ref v6)]))
      show Gl p.tables e below _ (T9.setTop (mkF m 16 #[.val (.int n), .val (.int v1), .val (.int v2), .val (.int v3), .val (.int v4)] [(.ref v6)]))
      have K13 : Keep h0 T9.heap [] := ((Keep.refl h0 []).trans K9 all0)
      exact Gl.retAH X9 hx hS0 (Nat.le_trans (Nat.le_of_eq (congrArg Array.size e0)) K9.1) (by rw [hh]; exact C10.trans (CHv.at X9 hZ (elW hw) C10.1)) Bd.returns rfl rfl (hb hby d2_16) hlk (by decide) (by decide) ⟨v6, v7, v8, ([v1] : List Int32), rfl, M9, K13, q9_0, q9_1, q9_2, q9_3, (tk_1 hc1 hc5)⟩
    · refine Gl.st (fun _ kq => XS.icmpYes X0.here hx rfl (pc0 := 9) (pc' := 17) rfl (hb hby d2_9) rfl (feq (hc5 : ¬ (n = (1 : Int32)))).2 (by decide) (by decide) kq) ?_
      show Gl p.tables e below _ (s₁.setTop (mkF m 17 #[.val (.int n), .val (.int v1), .val (.int v2), .val (.int v3), .val (.int v4)] []))
      refine Gl.st (fun _ kq => XS.iloadN X0.here hx rfl (hb hby d2_17) rfl kq) ?_
      show Gl p.tables e below _ (s₁.setTop (mkF m 18 #[.val (.int n), .val (.int v1), .val (.int v2), .val (.int v3), .val (.int v4)] [(.int n)]))
      refine Gl.st (fun _ kq => XS.iconst X0.here hx rfl (hb hby d2_18) kq) ?_
      show Gl p.tables e below _ (s₁.setTop (mkF m 19 #[.val (.int n), .val (.int v1), .val (.int v2), .val (.int v3), .val (.int v4)] [(.int 2), (.int n)]))
      by_cases hc14 : n = (2 : Int32)
      · refine Gl.st (fun _ kq => XS.icmpNo X0.here hx rfl (hb hby d2_19) rfl (teq (hc14 : n = (2 : Int32))).2 kq) ?_
        show Gl p.tables e below _ (s₁.setTop (mkF m 22 #[.val (.int n), .val (.int v1), .val (.int v2), .val (.int v3), .val (.int v4)] []))
        obtain ⟨T15, h15, X15, e15, E15, A15, D15, U15, st15⟩ := newO X0 hx hZ hown (tw hw 62 rfl) (tw hw 10 rfl) (tw hw 9 rfl) e0 (g := (mkF m 22 #[.val (.int n), .val (.int v1), .val (.int v2), .val (.int v3), .val (.int v4)] [])) rfl (hb hby d2_22) (by decide) (by decide)
        obtain ⟨b15, g15⟩ : ∃ z, z = h0.size := ⟨_, rfl⟩
        rw [← g15] at A15 D15 U15 st15
        refine Gl.st st15 ?_
        have g16 : n0 ≤ b15 := Nat.le_trans Z0 (Nat.le_of_eq g15.symm)
        have s17 : h0.size ≤ b15 := Nat.le_trans (Nat.le_refl _) (Nat.le_of_eq g15.symm)
        have C18 : CHr Z consts_1 s.vm h0 s.vm h15 := C0.trans (CHr.ext E15 C0.1)
        have F15_12 : Fld Z h15 b15 "java/lang/String" "value" "[B" .null := D15 (Or.inr (tw hw 12 rfl)) (ty := (.array .byte)) (by decide)
        have F15_13 : Fld Z h15 b15 "java/lang/String" "coder" "B" (.int 0) := D15 (Or.inr (tw hw 13 rfl)) (ty := .byte) (by decide)
        show Gl p.tables e below _ (T15.setTop (mkF m 25 #[.val (.int n), .val (.int v1), .val (.int v2), .val (.int v3), .val (.int v4)] [(.ref b15)]))
        refine Gl.st (fun _ kq => XS.dup X15.here hx rfl (hb hby d2_25) rfl rfl kq) ?_
        show Gl p.tables e below _ (T15.setTop (mkF m 26 #[.val (.int n), .val (.int v1), .val (.int v2), .val (.int v3), .val (.int v4)] [(.ref b15), (.ref b15)]))
        refine Gl.st (fun _ kq => XS.iconst X15.here hx rfl (hb hby d2_26) kq) ?_
        show Gl p.tables e below _ (T15.setTop (mkF m 27 #[.val (.int n), .val (.int v1), .val (.int v2), .val (.int v3), .val (.int v4)] [(.int 2), (.ref b15), (.ref b15)]))
        obtain ⟨T19, h19, k19, X19, e19, E19, A19, st19⟩ := newP X15 hx hZ (tw hw 63 rfl) e15 (g := (mkF m 27 #[.val (.int n), .val (.int v1), .val (.int v2), .val (.int v3), .val (.int v4)] [(.int 2), (.ref b15), (.ref b15)])) rfl (hb hby d2_27) rfl (by decide) (cap := 2) (by decide) (by decide) (by decide) (by decide)
        obtain ⟨b19, g19⟩ : ∃ z, z = h15.size := ⟨_, rfl⟩
        rw [← g19] at A19 st19
        refine Gl.st st19 ?_
        have g20 : n0 ≤ b19 := Nat.le_trans (Nat.le_trans Z0 E15.1) (Nat.le_of_eq g19.symm)
        have s21 : h0.size ≤ b19 := Nat.le_trans (Nat.le_trans (Nat.le_refl _) E15.1) (Nat.le_of_eq g19.symm)
        have C22 : CHr Z consts_1 s.vm h0 s.vm h19 := C18.trans (CHr.ext E19 C18.1)
        have V19 : Arv Z h19 b19 k19 .char (2 : Int32) [(.int 0), (.int 0)] (.int 0) := (Arv.new A19 (by decide)).pad (pad_rep [] (.int 0) 2)
        show Gl p.tables e below _ (T19.setTop (mkF m 29 #[.val (.int n), .val (.int v1), .val (.int v2), .val (.int v3), .val (.int v4)] [(.ref b19), (.ref b15), (.ref b15)]))
        refine Gl.st (fun _ kq => XS.dup X19.here hx rfl (hb hby d2_29) rfl rfl kq) ?_
        show Gl p.tables e below _ (T19.setTop (mkF m 30 #[.val (.int n), .val (.int v1), .val (.int v2), .val (.int v3), .val (.int v4)] [(.ref b19), (.ref b19), (.ref b15), (.ref b15)]))
        refine Gl.st (fun _ kq => XS.iconst X19.here hx rfl (hb hby d2_30) kq) ?_
        show Gl p.tables e below _ (T19.setTop (mkF m 31 #[.val (.int n), .val (.int v1), .val (.int v2), .val (.int v3), .val (.int v4)] [(.int 0), (.ref b19), (.ref b19), (.ref b15), (.ref b15)]))
        refine Gl.st (fun _ kq => XS.iloadN X19.here hx rfl (hb hby d2_31) rfl kq) ?_
        show Gl p.tables e below _ (T19.setTop (mkF m 32 #[.val (.int n), .val (.int v1), .val (.int v2), .val (.int v3), .val (.int v4)] [(.int v1), (.int 0), (.ref b19), (.ref b19), (.ref b15), (.ref b15)]))
        obtain ⟨c23, a23, q23, S23, M23, H23, G23⟩ := id V19
        obtain ⟨T23, h23, X23, e23, W23, st23⟩ := stC X19 hx hZ e19 a23 (j := (0 : Int32)) (inb_of S23 ⟨by decide, by decide⟩) (g := (mkF m 32 #[.val (.int n), .val (.int v1), .val (.int v2), .val (.int v3), .val (.int v4)] [(.int v1), (.int 0), (.ref b19), (.ref b19), (.ref b15), (.ref b15)])) rfl rfl (hb hby d2_32)
        refine Gl.st st23 ?_
        have C24 : CHr Z consts_1 s.vm h0 s.vm h23 := C22.trans (CHr.wr W23 (Safe.arv hZ.alike V19 (by decide)) C22.1)
        have V23 : Arv Z h23 b19 k19 .char (2 : Int32) [(.int v1), (.int 0)] (.int 0) := by
          have q := Arv.set a23 q23 S23 M23 H23 G23 (fits_nar_char _) W23 0 rfl (Nat.le_of_ble_eq_true rfl)
          rw [nar_id hv1.1 hv1.2] at q
          exact q
        have N23 := Fr.snoc X23 N0 g20
        show Gl p.tables e below _ (T23.setTop (mkF m 33 #[.val (.int n), .val (.int v1), .val (.int v2), .val (.int v3), .val (.int v4)] [(.ref b19), (.ref b15), (.ref b15)]))
        refine Gl.st (fun _ kq => XS.dup X23.here hx rfl (hb hby d2_33) rfl rfl kq) ?_
        show Gl p.tables e below _ (T23.setTop (mkF m 34 #[.val (.int n), .val (.int v1), .val (.int v2), .val (.int v3), .val (.int v4)] [(.ref b19), (.ref b19), (.ref b15), (.ref b15)]))
        refine Gl.st (fun _ kq => XS.iconst X23.here hx rfl (hb hby d2_34) kq) ?_
        show Gl p.tables e below _ (T23.setTop (mkF m 35 #[.val (.int n), .val (.int v1), .val (.int v2), .val (.int v3), .val (.int v4)] [(.int 1), (.ref b19), (.ref b19), (.ref b15), (.ref b15)]))
        refine Gl.st (fun _ kq => XS.iloadN X23.here hx rfl (hb hby d2_35) rfl kq) ?_
        show Gl p.tables e below _ (T23.setTop (mkF m 36 #[.val (.int n), .val (.int v1), .val (.int v2), .val (.int v3), .val (.int v4)] [(.int v2), (.int 1), (.ref b19), (.ref b19), (.ref b15), (.ref b15)]))
        obtain ⟨c25, a25, q25, S25, M25, H25, G25⟩ := id V23
        obtain ⟨T25, h25, X25, e25, W25, st25⟩ := stC X23 hx hZ e23 a25 (j := (1 : Int32)) (inb_of S25 ⟨by decide, by decide⟩) (g := (mkF m 36 #[.val (.int n), .val (.int v1), .val (.int v2), .val (.int v3), .val (.int v4)] [(.int v2), (.int 1), (.ref b19), (.ref b19), (.ref b15), (.ref b15)])) rfl rfl (hb hby d2_36)
        refine Gl.st st25 ?_
        have C26 : CHr Z consts_1 s.vm h0 s.vm h25 := C24.trans (CHr.wr W25 (Safe.arv hZ.alike V23 (by decide)) C24.1)
        have V25 : Arv Z h25 b19 k19 .char (2 : Int32) [(.int v1), (.int v2)] (.int 0) := by
          have q := Arv.set a25 q25 S25 M25 H25 G25 (fits_nar_char _) W25 1 rfl (Nat.le_of_ble_eq_true rfl)
          rw [nar_id hv2.1 hv2.2] at q
          exact q
        have N25 := Fr.snoc X25 N23 g20
        show Gl p.tables e below _ (T25.setTop (mkF m 37 #[.val (.int n), .val (.int v1), .val (.int v2), .val (.int v3), .val (.int v4)] [(.ref b19), (.ref b15), (.ref b15)]))
        have f27 : Exa Z h25 b15 "java/lang/String" := (((A15.ext E19).wr W23).wr W25)
        have ne28 : b15 ≠ b19 := Nat.ne_of_lt (Nat.lt_of_lt_of_le A15.lt (Nat.le_of_eq g19.symm))
        have f29 : Fld Z h25 b15 "java/lang/String" "value" "[B" .null := (((F15_12.ext E19).other W23 (Or.inl ne28)).other W25 (Or.inl ne28))
        have f30 : Fld Z h25 b15 "java/lang/String" "coder" "B" (.int 0) := (((F15_13.ext E19).other W23 (Or.inl ne28)).other W25 (Or.inl ne28))
        have f31 : Old Z n0 h25 := ((((pf0.ext E15).ext E19).wr W23 g20).wr W25 g20)
        have hp32 : ∀ c ∈ ([v1, v2] : List Int32), ¬ c < 0 ∧ ¬ (255 : Int32) < c := (alcS hv1 (alcS hv2 alc0))
        have Sf34 : Safe Z consts_1 s.vm h25 b15 := (Safe.wr W25 (Safe.arv hZ.alike V23 (by decide)) C24.1 (Safe.wr W23 (Safe.arv hZ.alike V19 (by decide)) C22.1 (Safe.ext E19 C18.1 (Safe.ext E15 C0.1 (Safe.new (EL := consts_1) (vm := s.vm) (Nat.le_of_eq g15.symm))))))
        obtain ⟨_, _, ⟨T33, L33, k33, n33⟩, -, X33, ⟨Lc33, hQ33, l33, y33, z33⟩, st33⟩ := X25.specialBack hx (y := (⟨"java/lang/String", "<init>", "([C)V"⟩ : MethodName)) rfl hown (mvT hZ (tw hw 64 rfl)) (mvT hZ (tw hw 65 rfl)) (mvT hZ (tw hw 66 rfl)) (by decide) (StrChars.Road.backV (W := 1) hZ (wdNew hw) (kI := 4) (tw hw 10 rfl) (cs := ([v1, v2] : List Int32)) (bs := (([v1, v2] : List Int32).map (fun c => c.toInt8.toInt32))) (n := 2) g16 (Nat.le_trans (Nat.le_trans (Nat.le_trans (Nat.le_trans Z0 E15.1) E19.1) (Keep.of_wr W23).1) (Keep.of_wr W25).1) f27 f29 f30 V25 (O2.ext f31.2) P5 rfl rfl (by decide) (by decide) hp32 rfl (by decide) (by decide)) (g := (mkF m 37 #[.val (.int n), .val (.int v1), .val (.int v2), .val (.int v3), .val (.int v4)] [(.ref b19), (.ref b15), (.ref b15)])) rfl (by rw [hml]; rfl) (Steps.refl _) (a := b15) (argsL := [(.ref b19)]) (rest := [(.ref b15)]) (lenOf pd___C_V rfl) rfl (by show 2 * 0 + _ ≤ _; exact Nat.le_of_eq rfl) (hb hby d2_37) (fun _ _ => ⟨rfl, e25, (by decide : 2 + 1 ≤ _), (by decide : 6 + 2 ≤ _)⟩)
        dsimp only [Pt.U, Pt.locs, Pt.cells, Pt.slots] at X33 l33 y33 z33 st33 hQ33
        subst l33 y33 z33
        obtain ⟨rfl, N33, K33, q33_0, q33_1, t32, k32, y33_0, y33_1, y33_2, q33_2, q33_3⟩ := hQ33
        have C35 : CHr Z consts_1 s.vm h0 s.vm T33.heap := C26.trans (CHr.keep K33 (sfS Sf34 sf0) C26.1)
        have M33 := Fr.app N25 N33
        have g36 : n0 ≤ t32 := Nat.le_trans (Nat.le_trans (Nat.le_trans (Nat.le_trans (Nat.le_trans Z0 E15.1) E19.1) (Keep.of_wr W23).1) (Keep.of_wr W25).1) y33_1
        have s37 : h0.size ≤ t32 := Nat.le_trans (Nat.le_trans (Nat.le_trans (Nat.le_trans (Nat.le_trans (Nat.le_refl _) E15.1) E19.1) (Keep.of_wr W23).1) (Keep.of_wr W25).1) y33_1
        refine Gl.to st33 ?_
        show Gl p.tables e below _ (T33.setTop (mkF m 40 #[.val (.int n), .val (.int v1), .val (.int v2), .val (.int v3), .val (.int v4)] [(.ref b15)]))
        show Gl p.tables e below _ (T33.setTop (mkF m 40 #[.val (.int n), .val (.int v1), .val (.int v2), .val (.int v3), .val (.int v4)] [(.ref b15)]))
        have K38 : Keep h0 T33.heap [] := ((((((Keep.refl h0 []).ext E15).ext E19).wr W23 (Or.inr s21)).wr W25 (Or.inr s21)).trans K33 (allS (Or.inr s17) all0))
        exact Gl.retAH X33 hx hS0 (Nat.le_trans (Nat.le_trans (Nat.le_trans (Nat.le_trans (Nat.le_trans (Nat.le_of_eq (congrArg Array.size e0)) E15.1) E19.1) (Keep.of_wr W23).1) (Keep.of_wr W25).1) K33.1) (by rw [hh]; exact C35.trans (CHv.at X33 hZ (elW hw) C35.1)) Bd.returns rfl rfl (hb hby d2_40) hlk (by decide) (by decide) ⟨b15, t32, k32, ([v1, v2] : List Int32), rfl, M33, K38, q33_0, q33_1, q33_2, q33_3, (tk_2 hc1 hc5 hc14)⟩
      · refine Gl.st (fun _ kq => XS.icmpYes X0.here hx rfl (pc0 := 19) (pc' := 41) rfl (hb hby d2_19) rfl (feq (hc14 : ¬ (n = (2 : Int32)))).2 (by decide) (by decide) kq) ?_
        show Gl p.tables e below _ (s₁.setTop (mkF m 41 #[.val (.int n), .val (.int v1), .val (.int v2), .val (.int v3), .val (.int v4)] []))
        refine Gl.st (fun _ kq => XS.iloadN X0.here hx rfl (hb hby d2_41) rfl kq) ?_
        show Gl p.tables e below _ (s₁.setTop (mkF m 42 #[.val (.int n), .val (.int v1), .val (.int v2), .val (.int v3), .val (.int v4)] [(.int n)]))
        refine Gl.st (fun _ kq => XS.iconst X0.here hx rfl (hb hby d2_42) kq) ?_
        show Gl p.tables e below _ (s₁.setTop (mkF m 43 #[.val (.int n), .val (.int v1), .val (.int v2), .val (.int v3), .val (.int v4)] [(.int 3), (.int n)]))
        by_cases hc39 : n = (3 : Int32)
        · refine Gl.st (fun _ kq => XS.icmpNo X0.here hx rfl (hb hby d2_43) rfl (teq (hc39 : n = (3 : Int32))).2 kq) ?_
          show Gl p.tables e below _ (s₁.setTop (mkF m 46 #[.val (.int n), .val (.int v1), .val (.int v2), .val (.int v3), .val (.int v4)] []))
          obtain ⟨T40, h40, X40, e40, E40, A40, D40, U40, st40⟩ := newO X0 hx hZ hown (tw hw 62 rfl) (tw hw 10 rfl) (tw hw 9 rfl) e0 (g := (mkF m 46 #[.val (.int n), .val (.int v1), .val (.int v2), .val (.int v3), .val (.int v4)] [])) rfl (hb hby d2_46) (by decide) (by decide)
          obtain ⟨b40, g40⟩ : ∃ z, z = h0.size := ⟨_, rfl⟩
          rw [← g40] at A40 D40 U40 st40
          refine Gl.st st40 ?_
          have g41 : n0 ≤ b40 := Nat.le_trans Z0 (Nat.le_of_eq g40.symm)
          have s42 : h0.size ≤ b40 := Nat.le_trans (Nat.le_refl _) (Nat.le_of_eq g40.symm)
          have C43 : CHr Z consts_1 s.vm h0 s.vm h40 := C0.trans (CHr.ext E40 C0.1)
          have F40_12 : Fld Z h40 b40 "java/lang/String" "value" "[B" .null := D40 (Or.inr (tw hw 12 rfl)) (ty := (.array .byte)) (by decide)
          have F40_13 : Fld Z h40 b40 "java/lang/String" "coder" "B" (.int 0) := D40 (Or.inr (tw hw 13 rfl)) (ty := .byte) (by decide)
          show Gl p.tables e below _ (T40.setTop (mkF m 49 #[.val (.int n), .val (.int v1), .val (.int v2), .val (.int v3), .val (.int v4)] [(.ref b40)]))
          refine Gl.st (fun _ kq => XS.dup X40.here hx rfl (hb hby d2_49) rfl rfl kq) ?_
          show Gl p.tables e below _ (T40.setTop (mkF m 50 #[.val (.int n), .val (.int v1), .val (.int v2), .val (.int v3), .val (.int v4)] [(.ref b40), (.ref b40)]))
          refine Gl.st (fun _ kq => XS.iconst X40.here hx rfl (hb hby d2_50) kq) ?_
          show Gl p.tables e below _ (T40.setTop (mkF m 51 #[.val (.int n), .val (.int v1), .val (.int v2), .val (.int v3), .val (.int v4)] [(.int 3), (.ref b40), (.ref b40)]))
          obtain ⟨T44, h44, k44, X44, e44, E44, A44, st44⟩ := newP X40 hx hZ (tw hw 63 rfl) e40 (g := (mkF m 51 #[.val (.int n), .val (.int v1), .val (.int v2), .val (.int v3), .val (.int v4)] [(.int 3), (.ref b40), (.ref b40)])) rfl (hb hby d2_51) rfl (by decide) (cap := 3) (by decide) (by decide) (by decide) (by decide)
          obtain ⟨b44, g44⟩ : ∃ z, z = h40.size := ⟨_, rfl⟩
          rw [← g44] at A44 st44
          refine Gl.st st44 ?_
          have g45 : n0 ≤ b44 := Nat.le_trans (Nat.le_trans Z0 E40.1) (Nat.le_of_eq g44.symm)
          have s46 : h0.size ≤ b44 := Nat.le_trans (Nat.le_trans (Nat.le_refl _) E40.1) (Nat.le_of_eq g44.symm)
          have C47 : CHr Z consts_1 s.vm h0 s.vm h44 := C43.trans (CHr.ext E44 C43.1)
          have V44 : Arv Z h44 b44 k44 .char (3 : Int32) [(.int 0), (.int 0), (.int 0)] (.int 0) := (Arv.new A44 (by decide)).pad (pad_rep [] (.int 0) 3)
          show Gl p.tables e below _ (T44.setTop (mkF m 53 #[.val (.int n), .val (.int v1), .val (.int v2), .val (.int v3), .val (.int v4)] [(.ref b44), (.ref b40), (.ref b40)]))
          refine Gl.st (fun _ kq => XS.dup X44.here hx rfl (hb hby d2_53) rfl rfl kq) ?_
          show Gl p.tables e below _ (T44.setTop (mkF m 54 #[.val (.int n), .val (.int v1), .val (.int v2), .val (.int v3), .val (.int v4)] [(.ref b44), (.ref b44), (.ref b40), (.ref b40)]))
          refine Gl.st (fun _ kq => XS.iconst X44.here hx rfl (hb hby d2_54) kq) ?_
          show Gl p.tables e below _ (T44.setTop (mkF m 55 #[.val (.int n), .val (.int v1), .val (.int v2), .val (.int v3), .val (.int v4)] [(.int 0), (.ref b44), (.ref b44), (.ref b40), (.ref b40)]))
          refine Gl.st (fun _ kq => XS.iloadN X44.here hx rfl (hb hby d2_55) rfl kq) ?_
          show Gl p.tables e below _ (T44.setTop (mkF m 56 #[.val (.int n), .val (.int v1), .val (.int v2), .val (.int v3), .val (.int v4)] [(.int v1), (.int 0), (.ref b44), (.ref b44), (.ref b40), (.ref b40)]))
          obtain ⟨c48, a48, q48, S48, M48, H48, G48⟩ := id V44
          obtain ⟨T48, h48, X48, e48, W48, st48⟩ := stC X44 hx hZ e44 a48 (j := (0 : Int32)) (inb_of S48 ⟨by decide, by decide⟩) (g := (mkF m 56 #[.val (.int n), .val (.int v1), .val (.int v2), .val (.int v3), .val (.int v4)] [(.int v1), (.int 0), (.ref b44), (.ref b44), (.ref b40), (.ref b40)])) rfl rfl (hb hby d2_56)
          refine Gl.st st48 ?_
          have C49 : CHr Z consts_1 s.vm h0 s.vm h48 := C47.trans (CHr.wr W48 (Safe.arv hZ.alike V44 (by decide)) C47.1)
          have V48 : Arv Z h48 b44 k44 .char (3 : Int32) [(.int v1), (.int 0), (.int 0)] (.int 0) := by
            have q := Arv.set a48 q48 S48 M48 H48 G48 (fits_nar_char _) W48 0 rfl (Nat.le_of_ble_eq_true rfl)
            rw [nar_id hv1.1 hv1.2] at q
            exact q
          have N48 := Fr.snoc X48 N0 g45
          show Gl p.tables e below _ (T48.setTop (mkF m 57 #[.val (.int n), .val (.int v1), .val (.int v2), .val (.int v3), .val (.int v4)] [(.ref b44), (.ref b40), (.ref b40)]))
          refine Gl.st (fun _ kq => XS.dup X48.here hx rfl (hb hby d2_57) rfl rfl kq) ?_
          show Gl p.tables e below _ (T48.setTop (mkF m 58 #[.val (.int n), .val (.int v1), .val (.int v2), .val (.int v3), .val (.int v4)] [(.ref b44), (.ref b44), (.ref b40), (.ref b40)]))
          refine Gl.st (fun _ kq => XS.iconst X48.here hx rfl (hb hby d2_58) kq) ?_
          show Gl p.tables e below _ (T48.setTop (mkF m 59 #[.val (.int n), .val (.int v1), .val (.int v2), .val (.int v3), .val (.int v4)] [(.int 1), (.ref b44), (.ref b44), (.ref b40), (.ref b40)]))
          refine Gl.st (fun _ kq => XS.iloadN X48.here hx rfl (hb hby d2_59) rfl kq) ?_
          show Gl p.tables e below _ (T48.setTop (mkF m 60 #[.val (.int n), .val (.int v1), .val (.int v2), .val (.int v3), .val (.int v4)] [(.int v2), (.int 1), (.ref b44), (.ref b44), (.ref b40), (.ref b40)]))
          obtain ⟨c50, a50, q50, S50, M50, H50, G50⟩ := id V48
          obtain ⟨T50, h50, X50, e50, W50, st50⟩ := stC X48 hx hZ e48 a50 (j := (1 : Int32)) (inb_of S50 ⟨by decide, by decide⟩) (g := (mkF m 60 #[.val (.int n), .val (.int v1), .val (.int v2), .val (.int v3), .val (.int v4)] [(.int v2), (.int 1), (.ref b44), (.ref b44), (.ref b40), (.ref b40)])) rfl rfl (hb hby d2_60)
          refine Gl.st st50 ?_
          have C51 : CHr Z consts_1 s.vm h0 s.vm h50 := C49.trans (CHr.wr W50 (Safe.arv hZ.alike V48 (by decide)) C49.1)
          have V50 : Arv Z h50 b44 k44 .char (3 : Int32) [(.int v1), (.int v2), (.int 0)] (.int 0) := by
            have q := Arv.set a50 q50 S50 M50 H50 G50 (fits_nar_char _) W50 1 rfl (Nat.le_of_ble_eq_true rfl)
            rw [nar_id hv2.1 hv2.2] at q
            exact q
          have N50 := Fr.snoc X50 N48 g45
          show Gl p.tables e below _ (T50.setTop (mkF m 61 #[.val (.int n), .val (.int v1), .val (.int v2), .val (.int v3), .val (.int v4)] [(.ref b44), (.ref b40), (.ref b40)]))
          refine Gl.st (fun _ kq => XS.dup X50.here hx rfl (hb hby d2_61) rfl rfl kq) ?_
          show Gl p.tables e below _ (T50.setTop (mkF m 62 #[.val (.int n), .val (.int v1), .val (.int v2), .val (.int v3), .val (.int v4)] [(.ref b44), (.ref b44), (.ref b40), (.ref b40)]))
          refine Gl.st (fun _ kq => XS.iconst X50.here hx rfl (hb hby d2_62) kq) ?_
          show Gl p.tables e below _ (T50.setTop (mkF m 63 #[.val (.int n), .val (.int v1), .val (.int v2), .val (.int v3), .val (.int v4)] [(.int 2), (.ref b44), (.ref b44), (.ref b40), (.ref b40)]))
          refine Gl.st (fun _ kq => XS.iloadN X50.here hx rfl (hb hby d2_63) rfl kq) ?_
          show Gl p.tables e below _ (T50.setTop (mkF m 64 #[.val (.int n), .val (.int v1), .val (.int v2), .val (.int v3), .val (.int v4)] [(.int v3), (.int 2), (.ref b44), (.ref b44), (.ref b40), (.ref b40)]))
          obtain ⟨c52, a52, q52, S52, M52, H52, G52⟩ := id V50
          obtain ⟨T52, h52, X52, e52, W52, st52⟩ := stC X50 hx hZ e50 a52 (j := (2 : Int32)) (inb_of S52 ⟨by decide, by decide⟩) (g := (mkF m 64 #[.val (.int n), .val (.int v1), .val (.int v2), .val (.int v3), .val (.int v4)] [(.int v3), (.int 2), (.ref b44), (.ref b44), (.ref b40), (.ref b40)])) rfl rfl (hb hby d2_64)
          refine Gl.st st52 ?_
          have C53 : CHr Z consts_1 s.vm h0 s.vm h52 := C51.trans (CHr.wr W52 (Safe.arv hZ.alike V50 (by decide)) C51.1)
          have V52 : Arv Z h52 b44 k44 .char (3 : Int32) [(.int v1), (.int v2), (.int v3)] (.int 0) := by
            have q := Arv.set a52 q52 S52 M52 H52 G52 (fits_nar_char _) W52 2 rfl (Nat.le_of_ble_eq_true rfl)
            rw [nar_id hv3.1 hv3.2] at q
            exact q
          have N52 := Fr.snoc X52 N50 g45
          show Gl p.tables e below _ (T52.setTop (mkF m 65 #[.val (.int n), .val (.int v1), .val (.int v2), .val (.int v3), .val (.int v4)] [(.ref b44), (.ref b40), (.ref b40)]))
          have f54 : Exa Z h52 b40 "java/lang/String" := ((((A40.ext E44).wr W48).wr W50).wr W52)
          have ne55 : b40 ≠ b44 := Nat.ne_of_lt (Nat.lt_of_lt_of_le A40.lt (Nat.le_of_eq g44.symm))
          have f56 : Fld Z h52 b40 "java/lang/String" "value" "[B" .null := ((((F40_12.ext E44).other W48 (Or.inl ne55)).other W50 (Or.inl ne55)).other W52 (Or.inl ne55))
          have f57 : Fld Z h52 b40 "java/lang/String" "coder" "B" (.int 0) := ((((F40_13.ext E44).other W48 (Or.inl ne55)).other W50 (Or.inl ne55)).other W52 (Or.inl ne55))
          have f58 : Old Z n0 h52 := (((((pf0.ext E40).ext E44).wr W48 g45).wr W50 g45).wr W52 g45)
          have hp59 : ∀ c ∈ ([v1, v2, v3] : List Int32), ¬ c < 0 ∧ ¬ (255 : Int32) < c := (alcS hv1 (alcS hv2 (alcS hv3 alc0)))
          have Sf61 : Safe Z consts_1 s.vm h52 b40 := (Safe.wr W52 (Safe.arv hZ.alike V50 (by decide)) C51.1 (Safe.wr W50 (Safe.arv hZ.alike V48 (by decide)) C49.1 (Safe.wr W48 (Safe.arv hZ.alike V44 (by decide)) C47.1 (Safe.ext E44 C43.1 (Safe.ext E40 C0.1 (Safe.new (EL := consts_1) (vm := s.vm) (Nat.le_of_eq g40.symm)))))))
          obtain ⟨_, _, ⟨T60, L60, k60, n60⟩, -, X60, ⟨Lc60, hQ60, l60, y60, z60⟩, st60⟩ := X52.specialBack hx (y := (⟨"java/lang/String", "<init>", "([C)V"⟩ : MethodName)) rfl hown (mvT hZ (tw hw 64 rfl)) (mvT hZ (tw hw 65 rfl)) (mvT hZ (tw hw 66 rfl)) (by decide) (StrChars.Road.backV (W := 1) hZ (wdNew hw) (kI := 4) (tw hw 10 rfl) (cs := ([v1, v2, v3] : List Int32)) (bs := (([v1, v2, v3] : List Int32).map (fun c => c.toInt8.toInt32))) (n := 3) g41 (Nat.le_trans (Nat.le_trans (Nat.le_trans (Nat.le_trans (Nat.le_trans Z0 E40.1) E44.1) (Keep.of_wr W48).1) (Keep.of_wr W50).1) (Keep.of_wr W52).1) f54 f56 f57 V52 (O2.ext f58.2) P5 rfl rfl (by decide) (by decide) hp59 rfl (by decide) (by decide)) (g := (mkF m 65 #[.val (.int n), .val (.int v1), .val (.int v2), .val (.int v3), .val (.int v4)] [(.ref b44), (.ref b40), (.ref b40)])) rfl (by rw [hml]; rfl) (Steps.refl _) (a := b40) (argsL := [(.ref b44)]) (rest := [(.ref b40)]) (lenOf pd___C_V rfl) rfl (by show 2 * 0 + _ ≤ _; exact Nat.le_of_eq rfl) (hb hby d2_65) (fun _ _ => ⟨rfl, e52, (by decide : 2 + 1 ≤ _), (by decide : 7 + 3 ≤ _)⟩)
          dsimp only [Pt.U, Pt.locs, Pt.cells, Pt.slots] at X60 l60 y60 z60 st60 hQ60
          subst l60 y60 z60
          obtain ⟨rfl, N60, K60, q60_0, q60_1, t59, k59, y60_0, y60_1, y60_2, q60_2, q60_3⟩ := hQ60
          have C62 : CHr Z consts_1 s.vm h0 s.vm T60.heap := C53.trans (CHr.keep K60 (sfS Sf61 sf0) C53.1)
          have M60 := Fr.app N52 N60
          have g63 : n0 ≤ t59 := Nat.le_trans (Nat.le_trans (Nat.le_trans (Nat.le_trans (Nat.le_trans (Nat.le_trans Z0 E40.1) E44.1) (Keep.of_wr W48).1) (Keep.of_wr W50).1) (Keep.of_wr W52).1) y60_1
          have s64 : h0.size ≤ t59 := Nat.le_trans (Nat.le_trans (Nat.le_trans (Nat.le_trans (Nat.le_trans (Nat.le_trans (Nat.le_refl _) E40.1) E44.1) (Keep.of_wr W48).1) (Keep.of_wr W50).1) (Keep.of_wr W52).1) y60_1
          refine Gl.to st60 ?_
          show Gl p.tables e below _ (T60.setTop (mkF m 68 #[.val (.int n), .val (.int v1), .val (.int v2), .val (.int v3), .val (.int v4)] [(.ref b40)]))
          show Gl p.tables e below _ (T60.setTop (mkF m 68 #[.val (.int n), .val (.int v1), .val (.int v2), .val (.int v3), .val (.int v4)] [(.ref b40)]))
          have K65 : Keep h0 T60.heap [] := (((((((Keep.refl h0 []).ext E40).ext E44).wr W48 (Or.inr s46)).wr W50 (Or.inr s46)).wr W52 (Or.inr s46)).trans K60 (allS (Or.inr s42) all0))
          exact Gl.retAH X60 hx hS0 (Nat.le_trans (Nat.le_trans (Nat.le_trans (Nat.le_trans (Nat.le_trans (Nat.le_trans (Nat.le_of_eq (congrArg Array.size e0)) E40.1) E44.1) (Keep.of_wr W48).1) (Keep.of_wr W50).1) (Keep.of_wr W52).1) K60.1) (by rw [hh]; exact C62.trans (CHv.at X60 hZ (elW hw) C62.1)) Bd.returns rfl rfl (hb hby d2_68) hlk (by decide) (by decide) ⟨b40, t59, k59, ([v1, v2, v3] : List Int32), rfl, M60, K65, q60_0, q60_1, q60_2, q60_3, (tk_3 hc1 hc5 hc14 hc39)⟩
        · refine Gl.st (fun _ kq => XS.icmpYes X0.here hx rfl (pc0 := 43) (pc' := 69) rfl (hb hby d2_43) rfl (feq (hc39 : ¬ (n = (3 : Int32)))).2 (by decide) (by decide) kq) ?_
          show Gl p.tables e below _ (s₁.setTop (mkF m 69 #[.val (.int n), .val (.int v1), .val (.int v2), .val (.int v3), .val (.int v4)] []))
          obtain ⟨T66, h66, X66, e66, E66, A66, D66, U66, st66⟩ := newO X0 hx hZ hown (tw hw 62 rfl) (tw hw 10 rfl) (tw hw 9 rfl) e0 (g := (mkF m 69 #[.val (.int n), .val (.int v1), .val (.int v2), .val (.int v3), .val (.int v4)] [])) rfl (hb hby d2_69) (by decide) (by decide)
          obtain ⟨b66, g66⟩ : ∃ z, z = h0.size := ⟨_, rfl⟩
          rw [← g66] at A66 D66 U66 st66
          refine Gl.st st66 ?_
          have g67 : n0 ≤ b66 := Nat.le_trans Z0 (Nat.le_of_eq g66.symm)
          have s68 : h0.size ≤ b66 := Nat.le_trans (Nat.le_refl _) (Nat.le_of_eq g66.symm)
          have C69 : CHr Z consts_1 s.vm h0 s.vm h66 := C0.trans (CHr.ext E66 C0.1)
          have F66_12 : Fld Z h66 b66 "java/lang/String" "value" "[B" .null := D66 (Or.inr (tw hw 12 rfl)) (ty := (.array .byte)) (by decide)
          have F66_13 : Fld Z h66 b66 "java/lang/String" "coder" "B" (.int 0) := D66 (Or.inr (tw hw 13 rfl)) (ty := .byte) (by decide)
          show Gl p.tables e below _ (T66.setTop (mkF m 72 #[.val (.int n), .val (.int v1), .val (.int v2), .val (.int v3), .val (.int v4)] [(.ref b66)]))
          refine Gl.st (fun _ kq => XS.dup X66.here hx rfl (hb hby d2_72) rfl rfl kq) ?_
          show Gl p.tables e below _ (T66.setTop (mkF m 73 #[.val (.int n), .val (.int v1), .val (.int v2), .val (.int v3), .val (.int v4)] [(.ref b66), (.ref b66)]))
          refine Gl.st (fun _ kq => XS.iconst X66.here hx rfl (hb hby d2_73) kq) ?_
          show Gl p.tables e below _ (T66.setTop (mkF m 74 #[.val (.int n), .val (.int v1), .val (.int v2), .val (.int v3), .val (.int v4)] [(.int 4), (.ref b66), (.ref b66)]))
          obtain ⟨T70, h70, k70, X70, e70, E70, A70, st70⟩ := newP X66 hx hZ (tw hw 63 rfl) e66 (g := (mkF m 74 #[.val (.int n), .val (.int v1), .val (.int v2), .val (.int v3), .val (.int v4)] [(.int 4), (.ref b66), (.ref b66)])) rfl (hb hby d2_74) rfl (by decide) (cap := 4) (by decide) (by decide) (by decide) (by decide)
          obtain ⟨b70, g70⟩ : ∃ z, z = h66.size := ⟨_, rfl⟩
          rw [← g70] at A70 st70
          refine Gl.st st70 ?_
          have g71 : n0 ≤ b70 := Nat.le_trans (Nat.le_trans Z0 E66.1) (Nat.le_of_eq g70.symm)
          have s72 : h0.size ≤ b70 := Nat.le_trans (Nat.le_trans (Nat.le_refl _) E66.1) (Nat.le_of_eq g70.symm)
          have C73 : CHr Z consts_1 s.vm h0 s.vm h70 := C69.trans (CHr.ext E70 C69.1)
          have V70 : Arv Z h70 b70 k70 .char (4 : Int32) [(.int 0), (.int 0), (.int 0), (.int 0)] (.int 0) := (Arv.new A70 (by decide)).pad (pad_rep [] (.int 0) 4)
          show Gl p.tables e below _ (T70.setTop (mkF m 76 #[.val (.int n), .val (.int v1), .val (.int v2), .val (.int v3), .val (.int v4)] [(.ref b70), (.ref b66), (.ref b66)]))
          refine Gl.st (fun _ kq => XS.dup X70.here hx rfl (hb hby d2_76) rfl rfl kq) ?_
          show Gl p.tables e below _ (T70.setTop (mkF m 77 #[.val (.int n), .val (.int v1), .val (.int v2), .val (.int v3), .val (.int v4)] [(.ref b70), (.ref b70), (.ref b66), (.ref b66)]))
          refine Gl.st (fun _ kq => XS.iconst X70.here hx rfl (hb hby d2_77) kq) ?_
          show Gl p.tables e below _ (T70.setTop (mkF m 78 #[.val (.int n), .val (.int v1), .val (.int v2), .val (.int v3), .val (.int v4)] [(.int 0), (.ref b70), (.ref b70), (.ref b66), (.ref b66)]))
          refine Gl.st (fun _ kq => XS.iloadN X70.here hx rfl (hb hby d2_78) rfl kq) ?_
          show Gl p.tables e below _ (T70.setTop (mkF m 79 #[.val (.int n), .val (.int v1), .val (.int v2), .val (.int v3), .val (.int v4)] [(.int v1), (.int 0), (.ref b70), (.ref b70), (.ref b66), (.ref b66)]))
          obtain ⟨c74, a74, q74, S74, M74, H74, G74⟩ := id V70
          obtain ⟨T74, h74, X74, e74, W74, st74⟩ := stC X70 hx hZ e70 a74 (j := (0 : Int32)) (inb_of S74 ⟨by decide, by decide⟩) (g := (mkF m 79 #[.val (.int n), .val (.int v1), .val (.int v2), .val (.int v3), .val (.int v4)] [(.int v1), (.int 0), (.ref b70), (.ref b70), (.ref b66), (.ref b66)])) rfl rfl (hb hby d2_79)
          refine Gl.st st74 ?_
          have C75 : CHr Z consts_1 s.vm h0 s.vm h74 := C73.trans (CHr.wr W74 (Safe.arv hZ.alike V70 (by decide)) C73.1)
          have V74 : Arv Z h74 b70 k70 .char (4 : Int32) [(.int v1), (.int 0), (.int 0), (.int 0)] (.int 0) := by
            have q := Arv.set a74 q74 S74 M74 H74 G74 (fits_nar_char _) W74 0 rfl (Nat.le_of_ble_eq_true rfl)
            rw [nar_id hv1.1 hv1.2] at q
            exact q
          have N74 := Fr.snoc X74 N0 g71
          show Gl p.tables e below _ (T74.setTop (mkF m 80 #[.val (.int n), .val (.int v1), .val (.int v2), .val (.int v3), .val (.int v4)] [(.ref b70), (.ref b66), (.ref b66)]))
          refine Gl.st (fun _ kq => XS.dup X74.here hx rfl (hb hby d2_80) rfl rfl kq) ?_
          show Gl p.tables e below _ (T74.setTop (mkF m 81 #[.val (.int n), .val (.int v1), .val (.int v2), .val (.int v3), .val (.int v4)] [(.ref b70), (.ref b70), (.ref b66), (.ref b66)]))
          refine Gl.st (fun _ kq => XS.iconst X74.here hx rfl (hb hby d2_81) kq) ?_
          show Gl p.tables e below _ (T74.setTop (mkF m 82 #[.val (.int n), .val (.int v1), .val (.int v2), .val (.int v3), .val (.int v4)] [(.int 1), (.ref b70), (.ref b70), (.ref b66), (.ref b66)]))
          refine Gl.st (fun _ kq => XS.iloadN X74.here hx rfl (hb hby d2_82) rfl kq) ?_
          show Gl p.tables e below _ (T74.setTop (mkF m 83 #[.val (.int n), .val (.int v1), .val (.int v2), .val (.int v3), .val (.int v4)] [(.int v2), (.int 1), (.ref b70), (.ref b70), (.ref b66), (.ref b66)]))
          obtain ⟨c76, a76, q76, S76, M76, H76, G76⟩ := id V74
          obtain ⟨T76, h76, X76, e76, W76, st76⟩ := stC X74 hx hZ e74 a76 (j := (1 : Int32)) (inb_of S76 ⟨by decide, by decide⟩) (g := (mkF m 83 #[.val (.int n), .val (.int v1), .val (.int v2), .val (.int v3), .val (.int v4)] [(.int v2), (.int 1), (.ref b70), (.ref b70), (.ref b66), (.ref b66)])) rfl rfl (hb hby d2_83)
          refine Gl.st st76 ?_
          have C77 : CHr Z consts_1 s.vm h0 s.vm h76 := C75.trans (CHr.wr W76 (Safe.arv hZ.alike V74 (by decide)) C75.1)
          have V76 : Arv Z h76 b70 k70 .char (4 : Int32) [(.int v1), (.int v2), (.int 0), (.int 0)] (.int 0) := by
            have q := Arv.set a76 q76 S76 M76 H76 G76 (fits_nar_char _) W76 1 rfl (Nat.le_of_ble_eq_true rfl)
            rw [nar_id hv2.1 hv2.2] at q
            exact q
          have N76 := Fr.snoc X76 N74 g71
          show Gl p.tables e below _ (T76.setTop (mkF m 84 #[.val (.int n), .val (.int v1), .val (.int v2), .val (.int v3), .val (.int v4)] [(.ref b70), (.ref b66), (.ref b66)]))
          refine Gl.st (fun _ kq => XS.dup X76.here hx rfl (hb hby d2_84) rfl rfl kq) ?_
          show Gl p.tables e below _ (T76.setTop (mkF m 85 #[.val (.int n), .val (.int v1), .val (.int v2), .val (.int v3), .val (.int v4)] [(.ref b70), (.ref b70), (.ref b66), (.ref b66)]))
          refine Gl.st (fun _ kq => XS.iconst X76.here hx rfl (hb hby d2_85) kq) ?_
          show Gl p.tables e below _ (T76.setTop (mkF m 86 #[.val (.int n), .val (.int v1), .val (.int v2), .val (.int v3), .val (.int v4)] [(.int 2), (.ref b70), (.ref b70), (.ref b66), (.ref b66)]))
          refine Gl.st (fun _ kq => XS.iloadN X76.here hx rfl (hb hby d2_86) rfl kq) ?_
          show Gl p.tables e below _ (T76.setTop (mkF m 87 #[.val (.int n), .val (.int v1), .val (.int v2), .val (.int v3), .val (.int v4)] [(.int v3), (.int 2), (.ref b70), (.ref b70), (.ref b66), (.ref b66)]))
          obtain ⟨c78, a78, q78, S78, M78, H78, G78⟩ := id V76
          obtain ⟨T78, h78, X78, e78, W78, st78⟩ := stC X76 hx hZ e76 a78 (j := (2 : Int32)) (inb_of S78 ⟨by decide, by decide⟩) (g := (mkF m 87 #[.val (.int n), .val (.int v1), .val (.int v2), .val (.int v3), .val (.int v4)] [(.int v3), (.int 2), (.ref b70), (.ref b70), (.ref b66), (.ref b66)])) rfl rfl (hb hby d2_87)
          refine Gl.st st78 ?_
          have C79 : CHr Z consts_1 s.vm h0 s.vm h78 := C77.trans (CHr.wr W78 (Safe.arv hZ.alike V76 (by decide)) C77.1)
          have V78 : Arv Z h78 b70 k70 .char (4 : Int32) [(.int v1), (.int v2), (.int v3), (.int 0)] (.int 0) := by
            have q := Arv.set a78 q78 S78 M78 H78 G78 (fits_nar_char _) W78 2 rfl (Nat.le_of_ble_eq_true rfl)
            rw [nar_id hv3.1 hv3.2] at q
            exact q
          have N78 := Fr.snoc X78 N76 g71
          show Gl p.tables e below _ (T78.setTop (mkF m 88 #[.val (.int n), .val (.int v1), .val (.int v2), .val (.int v3), .val (.int v4)] [(.ref b70), (.ref b66), (.ref b66)]))
          refine Gl.st (fun _ kq => XS.dup X78.here hx rfl (hb hby d2_88) rfl rfl kq) ?_
          show Gl p.tables e below _ (T78.setTop (mkF m 89 #[.val (.int n), .val (.int v1), .val (.int v2), .val (.int v3), .val (.int v4)] [(.ref b70), (.ref b70), (.ref b66), (.ref b66)]))
          refine Gl.st (fun _ kq => XS.iconst X78.here hx rfl (hb hby d2_89) kq) ?_
          show Gl p.tables e below _ (T78.setTop (mkF m 90 #[.val (.int n), .val (.int v1), .val (.int v2), .val (.int v3), .val (.int v4)] [(.int 3), (.ref b70), (.ref b70), (.ref b66), (.ref b66)]))
          refine Gl.st (fun _ kq => XS.iload X78.here hx rfl (hb hby d2_90) rfl kq) ?_
          show Gl p.tables e below _ (T78.setTop (mkF m 92 #[.val (.int n), .val (.int v1), .val (.int v2), .val (.int v3), .val (.int v4)] [(.int v4), (.int 3), (.ref b70), (.ref b70), (.ref b66), (.ref b66)]))
          obtain ⟨c80, a80, q80, S80, M80, H80, G80⟩ := id V78
          obtain ⟨T80, h80, X80, e80, W80, st80⟩ := stC X78 hx hZ e78 a80 (j := (3 : Int32)) (inb_of S80 ⟨by decide, by decide⟩) (g := (mkF m 92 #[.val (.int n), .val (.int v1), .val (.int v2), .val (.int v3), .val (.int v4)] [(.int v4), (.int 3), (.ref b70), (.ref b70), (.ref b66), (.ref b66)])) rfl rfl (hb hby d2_92)
          refine Gl.st st80 ?_
          have C81 : CHr Z consts_1 s.vm h0 s.vm h80 := C79.trans (CHr.wr W80 (Safe.arv hZ.alike V78 (by decide)) C79.1)
          have V80 : Arv Z h80 b70 k70 .char (4 : Int32) [(.int v1), (.int v2), (.int v3), (.int v4)] (.int 0) := by
            have q := Arv.set a80 q80 S80 M80 H80 G80 (fits_nar_char _) W80 3 rfl (Nat.le_of_ble_eq_true rfl)
            rw [nar_id hv4.1 hv4.2] at q
            exact q
          have N80 := Fr.snoc X80 N78 g71
          show Gl p.tables e below _ (T80.setTop (mkF m 93 #[.val (.int n), .val (.int v1), .val (.int v2), .val (.int v3), .val (.int v4)] [(.ref b70), (.ref b66), (.ref b66)]))
          have f82 : Exa Z h80 b66 "java/lang/String" := (((((A66.ext E70).wr W74).wr W76).wr W78).wr W80)
          have ne83 : b66 ≠ b70 := Nat.ne_of_lt (Nat.lt_of_lt_of_le A66.lt (Nat.le_of_eq g70.symm))
          have f84 : Fld Z h80 b66 "java/lang/String" "value" "[B" .null := (((((F66_12.ext E70).other W74 (Or.inl ne83)).other W76 (Or.inl ne83)).other W78 (Or.inl ne83)).other W80 (Or.inl ne83))
          have f85 : Fld Z h80 b66 "java/lang/String" "coder" "B" (.int 0) := (((((F66_13.ext E70).other W74 (Or.inl ne83)).other W76 (Or.inl ne83)).other W78 (Or.inl ne83)).other W80 (Or.inl ne83))
          have f86 : Old Z n0 h80 := ((((((pf0.ext E66).ext E70).wr W74 g71).wr W76 g71).wr W78 g71).wr W80 g71)
          have hp87 : ∀ c ∈ ([v1, v2, v3, v4] : List Int32), ¬ c < 0 ∧ ¬ (255 : Int32) < c := (alcS hv1 (alcS hv2 (alcS hv3 (alcS hv4 alc0))))
          have Sf89 : Safe Z consts_1 s.vm h80 b66 := (Safe.wr W80 (Safe.arv hZ.alike V78 (by decide)) C79.1 (Safe.wr W78 (Safe.arv hZ.alike V76 (by decide)) C77.1 (Safe.wr W76 (Safe.arv hZ.alike V74 (by decide)) C75.1 (Safe.wr W74 (Safe.arv hZ.alike V70 (by decide)) C73.1 (Safe.ext E70 C69.1 (Safe.ext E66 C0.1 (Safe.new (EL := consts_1) (vm := s.vm) (Nat.le_of_eq g66.symm))))))))
          obtain ⟨_, _, ⟨T88, L88, k88, n88⟩, -, X88, ⟨Lc88, hQ88, l88, y88, z88⟩, st88⟩ := X80.specialBack hx (y := (⟨"java/lang/String", "<init>", "([C)V"⟩ : MethodName)) rfl hown (mvT hZ (tw hw 64 rfl)) (mvT hZ (tw hw 65 rfl)) (mvT hZ (tw hw 66 rfl)) (by decide) (StrChars.Road.backV (W := 1) hZ (wdNew hw) (kI := 4) (tw hw 10 rfl) (cs := ([v1, v2, v3, v4] : List Int32)) (bs := (([v1, v2, v3, v4] : List Int32).map (fun c => c.toInt8.toInt32))) (n := 4) g67 (Nat.le_trans (Nat.le_trans (Nat.le_trans (Nat.le_trans (Nat.le_trans (Nat.le_trans Z0 E66.1) E70.1) (Keep.of_wr W74).1) (Keep.of_wr W76).1) (Keep.of_wr W78).1) (Keep.of_wr W80).1) f82 f84 f85 V80 (O2.ext f86.2) P5 rfl rfl (by decide) (by decide) hp87 rfl (by decide) (by decide)) (g := (mkF m 93 #[.val (.int n), .val (.int v1), .val (.int v2), .val (.int v3), .val (.int v4)] [(.ref b70), (.ref b66), (.ref b66)])) rfl (by rw [hml]; rfl) (Steps.refl _) (a := b66) (argsL := [(.ref b70)]) (rest := [(.ref b66)]) (lenOf pd___C_V rfl) rfl (by show 2 * 0 + _ ≤ _; exact Nat.le_of_eq rfl) (hb hby d2_93) (fun _ _ => ⟨rfl, e80, (by decide : 2 + 1 ≤ _), (by decide : 8 + 4 ≤ _)⟩)
          dsimp only [Pt.U, Pt.locs, Pt.cells, Pt.slots] at X88 l88 y88 z88 st88 hQ88
          subst l88 y88 z88
          obtain ⟨rfl, N88, K88, q88_0, q88_1, t87, k87, y88_0, y88_1, y88_2, q88_2, q88_3⟩ := hQ88
          have C90 : CHr Z consts_1 s.vm h0 s.vm T88.heap := C81.trans (CHr.keep K88 (sfS Sf89 sf0) C81.1)
          have M88 := Fr.app N80 N88
          have g91 : n0 ≤ t87 := Nat.le_trans (Nat.le_trans (Nat.le_trans (Nat.le_trans (Nat.le_trans (Nat.le_trans (Nat.le_trans Z0 E66.1) E70.1) (Keep.of_wr W74).1) (Keep.of_wr W76).1) (Keep.of_wr W78).1) (Keep.of_wr W80).1) y88_1
          have s92 : h0.size ≤ t87 := Nat.le_trans (Nat.le_trans (Nat.le_trans (Nat.le_trans (Nat.le_trans (Nat.le_trans (Nat.le_trans (Nat.le_refl _) E66.1) E70.1) (Keep.of_wr W74).1) (Keep.of_wr W76).1) (Keep.of_wr W78).1) (Keep.of_wr W80).1) y88_1
          refine Gl.to st88 ?_
          show Gl p.tables e below _ (T88.setTop (mkF m 96 #[.val (.int n), .val (.int v1), .val (.int v2), .val (.int v3), .val (.int v4)] [(.ref b66)]))
          show Gl p.tables e below _ (T88.setTop (mkF m 96 #[.val (.int n), .val (.int v1), .val (.int v2), .val (.int v3), .val (.int v4)] [(.ref b66)]))
          have K93 : Keep h0 T88.heap [] := ((((((((Keep.refl h0 []).ext E66).ext E70).wr W74 (Or.inr s72)).wr W76 (Or.inr s72)).wr W78 (Or.inr s72)).wr W80 (Or.inr s72)).trans K88 (allS (Or.inr s68) all0))
          exact Gl.retAH X88 hx hS0 (Nat.le_trans (Nat.le_trans (Nat.le_trans (Nat.le_trans (Nat.le_trans (Nat.le_trans (Nat.le_trans (Nat.le_of_eq (congrArg Array.size e0)) E66.1) E70.1) (Keep.of_wr W74).1) (Keep.of_wr W76).1) (Keep.of_wr W78).1) (Keep.of_wr W80).1) K88.1) (by rw [hh]; exact C90.trans (CHv.at X88 hZ (elW hw) C90.1)) Bd.returns rfl rfl (hb hby d2_96) hlk (by decide) (by decide) ⟨b66, t87, k87, ([v1, v2, v3, v4] : List Int32), rfl, M88, K93, q88_0, q88_1, q88_2, q88_3, (tk_4 hc1 hc5 hc14 hc39)⟩
theorem d3_0 : decode prog_30_method_2_code 0 = .ok (.aload_n 0, 1) := by decide +kernel
theorem d3_1 : decode prog_30_method_2_code 1 = .ok (.bipush 46, 2) := by decide +kernel
theorem d3_3 : decode prog_30_method_2_code 3 = .ok (.invokevirtual 31, 3) := by decide +kernel
theorem d3_6 : decode prog_30_method_2_code 6 = .ok (.istore_n 1, 1) := by decide +kernel
theorem d3_7 : decode prog_30_method_2_code 7 = .ok (.iload_n 1, 1) := by decide +kernel
theorem d3_8 : decode prog_30_method_2_code 8 = .ok (.ifCond .ge 7, 3) := by decide +kernel
theorem d3_11 : decode prog_30_method_2_code 11 = .ok (.aconst_null, 1) := by decide +kernel
theorem d3_12 : decode prog_30_method_2_code 12 = .ok (.goto 9, 3) := by decide +kernel
theorem d3_15 : decode prog_30_method_2_code 15 = .ok (.aload_n 0, 1) := by decide +kernel
theorem d3_16 : decode prog_30_method_2_code 16 = .ok (.iconst 0, 1) := by decide +kernel
theorem d3_17 : decode prog_30_method_2_code 17 = .ok (.iload_n 1, 1) := by decide +kernel
theorem d3_18 : decode prog_30_method_2_code 18 = .ok (.invokevirtual 37, 3) := by decide +kernel
theorem d3_21 : decode prog_30_method_2_code 21 = .ok (.areturn, 1) := by decide +kernel
theorem ef_no (m : MethodId) (b : Addr) : entryFrame m #[(.ref b)] 2 = mkF m 0 #[.val (.ref b), .unset] [] := by first | (simp [entryFrame, mkF, argsToLocals, Value.category]; done) | rfl
def Q_no (Z : State) (b : Addr) (t : Addr) (k : ClassId) (cs : List Int32) (G1 : Int32) (G3 : Value) (h0 : Heap) (n0 : Nat) (v : Option Value) (h : Heap) (L : List Loc) : Prop := (∃ x : Nat, ∃ r : Addr, ∃ t2 : Addr, ∃ k2 : ClassId, ∃ ds : List Int32, v = some (.ref r) ∧ Fr n0 L ∧ Keep h0 h [] ∧ Exa Z h r "java/lang/String" ∧ Fld Z h r "java/lang/String" "coder" "B" (.int 0) ∧ Fld Z h r "java/lang/String" "value" "[B" (.ref t2) ∧ Arv Z h t2 k2 .byte (Int32.ofNat ds.length) ((ds.map (fun c => c.toInt8.toInt32)).map Value.int) (.int 0) ∧ (First (46 : Int32) cs 0 x) ∧ (ds = (cs.drop 0).take (x - 0))) ∨ (v = some .null ∧ Fr n0 L ∧ h = h0 ∧ (Nowhere (46 : Int32) cs 0))
set_option maxRecDepth 65536 in
set_option maxHeartbeats 40000000 in
theorem rm_no (l : Launch) (Z : State) (a0 : Array Value) (hw : ∀ d ∈ tables_1, d.before a0 Z = true) (ws : List Jvm.Cond) (b : Addr) (t : Addr) (k : ClassId) (cs : List Int32) (G1 : Int32) (G3 : Value) (h0 : Heap) (n0 : Nat) (Z0 : n0 ≤ h0.size) (pf0 : Exa Z h0 b "java/lang/String") (pf1 : Fld Z h0 b "java/lang/String" "coder" "B" (.int 0)) (pf2 : Fld Z h0 b "java/lang/String" "value" "[B" (.ref t)) (pf3 : Arv Z h0 t k .byte (Int32.ofNat cs.length) ((cs.map (fun c => c.toInt8.toInt32)).map Value.int) (.int 0)) (pf4 : Old Z n0 h0) (hr : Rng cs) (hl : cs.length ≤ 4) (O2 : Sta Z Z.heap "java/lang/String" "COMPACT_STRINGS" "Z" (.int G1)) (P5 : ¬ (G1 = (0 : Int32))) (O4 : Sta Z Z.heap "jdk/internal/util/Preconditions" "SIOOBE_FORMATTER" "Ljava/util/function/BiFunction;" G3) (rG3 : G3.isRef = true) :
    MetFree l (⟨"com/example/neighbor_keys/neighborkeys/model/Related", "nameOf", "(Ljava/lang/String;)Ljava/lang/String;"⟩ : MethodName) (head1 (Jvm.Cond.code (⟨"com/example/neighbor_keys/neighborkeys/model/Related", "nameOf", "(Ljava/lang/String;)Ljava/lang/String;"⟩ : MethodName) prog_30_method_2_code 2 (some (.object "java/lang/String")) :: ws) ({ frames := 5, cells := 2, slots := 8, locals := 80 } : Room)) (fun aa U => aa = #[(.ref b)] ∧ Z.Warmed39 U.vm ∧ U.heap = h0 ∧ CHv Z consts_1 U.vm h0) (fun _ _ _ _ _ => True) (fun _ U o U' => ∃ v L, o = .returned v ∧ Q_no Z b t k cs G1 G3 h0 n0 v U'.heap L ∧ CHr Z consts_1 U.vm U.heap U'.vm U'.heap ∧ ReturnedEndW U o U' L ({ frames := 5, cells := 2, slots := 8, locals := 80 } : Room).cells ({ frames := 5, cells := 2, slots := 8, locals := 80 } : Room).slots) := by
  refine MetFree.of_bodySF (plainFor_of_name pn_com_example_neighbor_keys_neighborkeys_model_Related) hisR ?_
  intro p e s m args below meth c s₁ Bd hml0 hP hK
  obtain ⟨rfl, hZ, hh, hH⟩ := hP
  have hx := Bd.exec
  have hby := Bd.bytes
  have hlk : meth.locks = false := BodyLoose.notSynchronized Bd
  have hml : c.maxLocals = 2 := hml0
  have hown : s.vm.findClass "com/example/neighbor_keys/neighborkeys/model/Related" = some m.cls := findClass_of_methodNamed Bd.named
  have hnm := (name_of_methodNamed Bd.named Bd.method).1
  have X0 : Stand p l e ({ frames := 5, cells := 2, slots := 8, locals := 80 } : Room) (s.setVm s.vm) m #[(.ref b)] below meth c s₁ [] 0 0 := Stand.of_body Bd
  have e0 : s₁.heap = h0 := by rw [← hh, Bd.state]; rfl
  have N0 := Fr.nil n0
  show Gl p.tables e below (EndH s Z consts_1 (Q_no Z b t k cs G1 G3 h0 n0) ({ frames := 5, cells := 2, slots := 8, locals := 80 } : Room).cells ({ frames := 5, cells := 2, slots := 8, locals := 80 } : Room).slots) _
  refine Gl.cast (ef_no m b) ?_
  show Gl p.tables e below _ (s₁.setTop (mkF m 0 #[.val (.ref b), .unset] []))
  have hS0 : s.Since s.vm s₁.heap.size := (State.WarmedH.refl s).since _
  have C0 : CHr Z consts_1 s.vm h0 s.vm h0 := CHr.refl hH
  refine Gl.st (fun _ kq => XS.aloadN X0.here hx rfl (hb hby d3_0) rfl rfl kq) ?_
  show Gl p.tables e below _ (s₁.setTop (mkF m 1 #[.val (.ref b), .unset] [(.ref b)]))
  refine Gl.st (fun _ kq => XS.bipush X0.here hx rfl (hb hby d3_1) kq) ?_
  show Gl p.tables e below _ (s₁.setTop (mkF m 3 #[.val (.ref b), .unset] [(.int 46), (.ref b)]))
  obtain ⟨cq2, kq2, q2a, q2b, q2c⟩ := isOf hZ e0 pf0
  obtain ⟨_, _, ⟨T2, L2, k2, n2⟩, -, X2, ⟨Lc2, hQ2, l2, y2, z2⟩, st2⟩ := X0.virtualBack hx (y := (⟨"java/lang/String", "indexOf", "(I)I"⟩ : MethodName)) (z := (⟨"java/lang/String", "indexOf", "(I)I"⟩ : MethodName)) hown (mvT hZ (tw hw 20 rfl)) (mvT hZ (tw hw 21 rfl)) (notFace_of_selects (args := #[]) (mvT hZ (tw hw 23 rfl))) (mvT hZ (tw hw 23 rfl)) (mvT hZ (tw hw 22 rfl)) (by decide) (backOf (W := 0) (rm_sio1 l Z a0 hw [] (b) (t) (k) (cs) ((46 : Int32)) (G1) h0 n0 Z0 pf0 pf1 pf2 pf3 pf4 hr hl (by decide) (by decide) O2 P5) hZ (tw hw 24 rfl) (tw hw 9 rfl) (by decide) (by decide)) q2a q2c (g := (mkF m 3 #[.val (.ref b), .unset] [(.int 46), (.ref b)])) rfl (by rw [hml]; rfl) (Steps.refl _) (argsL := [(.int 46)]) (rest := []) (lenOf pd__I_I rfl) rfl (by show 2 * 0 + _ ≤ _; exact Nat.le_of_eq rfl) (hb hby d3_3) (fun _ _ => ⟨rfl, e0, (by decide : 0 + 0 ≤ _), (by decide : 0 + 0 ≤ _)⟩)
  dsimp only [Pt.U, Pt.locs, Pt.cells, Pt.slots] at X2 l2 y2 z2 st2 hQ2
  subst l2 y2 z2
  rcases hQ2 with ⟨v1, rfl, N2, e2, y2_0⟩ | ⟨rfl, N2, e2, y2_0⟩
  · have M2 := Fr.app N0 N2
    refine Gl.to st2 ?_
    show Gl p.tables e below _ (T2.setTop (mkF m 6 #[.val (.ref b), .unset] [(.int (Int32.ofNat v1))]))
    refine Gl.st (fun _ kq => XS.istoreN X2.here hx rfl (hb hby d3_6) rfl (l' := #[.val (.ref b), .val (.int (Int32.ofNat v1))]) rfl kq) ?_
    show Gl p.tables e below _ (T2.setTop (mkF m 7 #[.val (.ref b), .val (.int (Int32.ofNat v1))] []))
    refine Gl.st (fun _ kq => XS.iloadN X2.here hx rfl (hb hby d3_7) rfl kq) ?_
    show Gl p.tables e below _ (T2.setTop (mkF m 8 #[.val (.ref b), .val (.int (Int32.ofNat v1))] [(.int (Int32.ofNat v1))]))
    refine Gl.st (fun _ kq => XS.ifYes X2.here hx rfl (pc0 := 8) (pc' := 15) rfl (hb hby d3_8) rfl ((if0 _ _).trans (flt ((n32_nn (by have q2 := y2_0.2.1; omega)) : ¬ ((Int32.ofNat v1) < (0 : Int32)))).2.1) (by decide) (by decide) kq) ?_
    show Gl p.tables e below _ (T2.setTop (mkF m 15 #[.val (.ref b), .val (.int (Int32.ofNat v1))] []))
    refine Gl.st (fun _ kq => XS.aloadN X2.here hx rfl (hb hby d3_15) rfl rfl kq) ?_
    show Gl p.tables e below _ (T2.setTop (mkF m 16 #[.val (.ref b), .val (.int (Int32.ofNat v1))] [(.ref b)]))
    refine Gl.st (fun _ kq => XS.iconst X2.here hx rfl (hb hby d3_16) kq) ?_
    show Gl p.tables e below _ (T2.setTop (mkF m 17 #[.val (.ref b), .val (.int (Int32.ofNat v1))] [(.int 0), (.ref b)]))
    refine Gl.st (fun _ kq => XS.iloadN X2.here hx rfl (hb hby d3_17) rfl kq) ?_
    show Gl p.tables e below _ (T2.setTop (mkF m 18 #[.val (.ref b), .val (.int (Int32.ofNat v1))] [(.int (Int32.ofNat v1)), (.int 0), (.ref b)]))
    obtain ⟨cq7, kq7, q7a, q7b, q7c⟩ := isOf hZ e2 pf0
    obtain ⟨_, _, ⟨T7, L7, k7, n7⟩, -, X7, S7, g7, ⟨Lc7, hQ7, l7, y7, z7, R7⟩, st7⟩ := X2.virtualBackS hx (y := (⟨"java/lang/String", "substring", "(II)Ljava/lang/String;"⟩ : MethodName)) (z := (⟨"java/lang/String", "substring", "(II)Ljava/lang/String;"⟩ : MethodName)) hown (mvT hZ (tw hw 87 rfl)) (mvT hZ (tw hw 88 rfl)) (notFace_of_selects (args := #[]) (mvT hZ (tw hw 90 rfl))) (mvT hZ (tw hw 90 rfl)) (mvT hZ (tw hw 89 rfl)) (by decide) (backOfSH (W := 0) (rm_ss2 l Z a0 hw [] (b) (t) (k) (cs) (0) (v1) (G1) (G3) h0 n0 Z0 pf0 pf1 pf2 pf3 pf4 hr hl (by omega) (Nat.le_of_lt y2_0.2.1) O2 P5 O4 rG3) hZ (tw hw 91 rfl) (tw hw 9 rfl) (by decide) (by decide) (elW hw) C0.1) q7a q7c (g := (mkF m 18 #[.val (.ref b), .val (.int (Int32.ofNat v1))] [(.int (Int32.ofNat v1)), (.int 0), (.ref b)])) rfl (by rw [hml]; rfl) (Steps.refl _) (argsL := [(.int 0), (.int (Int32.ofNat v1))]) (rest := []) (lenOf pd__II_Ljava_lang_String_ rfl) rfl (by show 2 * 0 + _ ≤ _; exact Nat.le_of_eq rfl) (hb hby d3_18) (fun _ _ => ⟨rfl, e2, (by decide : 0 + 2 ≤ _), (by decide : 0 + 8 ≤ _)⟩)
    dsimp only [Pt.U, Pt.locs, Pt.cells, Pt.slots] at X7 l7 y7 z7 st7 hQ7 R7
    subst l7 y7 z7
    obtain ⟨X7, S7, hZ7, ho7⟩ := rebS hS0 (Nat.le_trans (Nat.le_of_eq (congrArg Array.size e0)) (Nat.le_of_eq (congrArg Array.size e2).symm)) X7 S7 g7 hZ hown
    obtain ⟨v3, v4, v5, v6, rfl, N7, K7, q7_0, q7_1, q7_2, q7_3, y7_0⟩ := hQ7
    have C8 : CHr Z consts_1 s.vm h0 T7.vm T7.heap := C0.trans R7
    have M7 := Fr.app M2 N7
    refine Gl.to st7 ?_
    show Gl p.tables e below _ (T7.setTop (mkF m 21 #[.val (.ref b), .val (.int (Int32.ofNat v1))] [(.ref v3)]))
    show Gl p.tables e below _ (T7.setTop (mkF m 21 #[.val (.ref b), .val (.int (Int32.ofNat v1))] [(.ref v3)]))
    have K9 : Keep h0 T7.heap [] := ((Keep.refl h0 []).trans K7 all0)
    exact Gl.retAH X7 hx S7 (Nat.le_refl _) (by rw [hh]; exact C8.trans (CHv.at X7 hZ7 (elW hw) C8.1)) Bd.returns rfl rfl (hb hby d3_21) hlk (by decide) (by decide) (Or.inl ⟨v1, v3, v4, v5, v6, rfl, M7, K9, q7_0, q7_1, q7_2, q7_3, y2_0, y7_0⟩)
  · have M2 := Fr.app N0 N2
    refine Gl.to st2 ?_
    show Gl p.tables e below _ (T2.setTop (mkF m 6 #[.val (.ref b), .unset] [(.int (-1))]))
    refine Gl.st (fun _ kq => XS.istoreN X2.here hx rfl (hb hby d3_6) rfl (l' := #[.val (.ref b), .val (.int (-1))]) rfl kq) ?_
    show Gl p.tables e below _ (T2.setTop (mkF m 7 #[.val (.ref b), .val (.int (-1))] []))
    refine Gl.st (fun _ kq => XS.iloadN X2.here hx rfl (hb hby d3_7) rfl kq) ?_
    show Gl p.tables e below _ (T2.setTop (mkF m 8 #[.val (.ref b), .val (.int (-1))] [(.int (-1))]))
    refine Gl.st (fun _ kq => XS.ifNo X2.here hx rfl (hb hby d3_8) rfl ((if0 _ _).trans (tlt ((by decide) : (-1 : Int32) < (0 : Int32))).2.1) kq) ?_
    show Gl p.tables e below _ (T2.setTop (mkF m 11 #[.val (.ref b), .val (.int (-1))] []))
    refine Gl.st (fun _ kq => XS.aconstNull X2.here hx rfl (hb hby d3_11) kq) ?_
    show Gl p.tables e below _ (T2.setTop (mkF m 12 #[.val (.ref b), .val (.int (-1))] [.null]))
    refine Gl.st (fun _ kq => XS.goto X2.here hx rfl (pc0 := 12) (pc' := 21) rfl (hb hby d3_12) (by decide) (by decide) kq) ?_
    show Gl p.tables e below _ (T2.setTop (mkF m 21 #[.val (.ref b), .val (.int (-1))] [.null]))
    exact Gl.retAH X2 hx hS0 (Nat.le_trans (Nat.le_of_eq (congrArg Array.size e0)) (Nat.le_of_eq (congrArg Array.size e2).symm)) (by rw [hh, e2]; exact C0.trans (CHv.at X2 hZ (elW hw) C0.1)) Bd.returns rfl rfl (hb hby d3_21) hlk (by decide) (by decide) (by rw [e2]; exact (Or.inr (⟨rfl, M2, rfl, y2_0⟩)))
theorem ef_law (m : MethodId) (p0 : Int32) (p1 : Int32) (p2 : Int32) (p3 : Int32) (p4 : Int32) : entryFrame m #[(.int p0), (.int p1), (.int p2), (.int p3), (.int p4)] maxLocals = mkF m 0 #[.val (.int p0), .val (.int p1), .val (.int p2), .val (.int p3), .val (.int p4), .unset, .unset, .unset, .unset, .unset, .unset, .unset, .unset, .unset] [] := by first | (simp [entryFrame, mkF, argsToLocals, Value.category, maxLocals]; done) | rfl
def Q_law (Z : State) (p0 : Int32) (p1 : Int32) (p2 : Int32) (p3 : Int32) (p4 : Int32) (G1 : Int32) (G3 : Value) (h0 : Heap) (n0 : Nat) (v : Option Value) (h : Heap) (L : List Loc) : Prop := (v = some (.int 1) ∧ Fr n0 L)
set_option maxRecDepth 65536 in
set_option maxHeartbeats 40000000 in
theorem rm_law (l : Launch) (Z : State) (a0 : Array Value) (hw : ∀ d ∈ tables_1, d.before a0 Z = true) (ws : List Jvm.Cond) (p0 : Int32) (p1 : Int32) (p2 : Int32) (p3 : Int32) (p4 : Int32) (G1 : Int32) (G3 : Value) (h0 : Heap) (n0 : Nat) (Z0 : n0 ≤ h0.size) (pf0 : Old Z n0 h0) (O2 : Sta Z Z.heap "java/lang/String" "COMPACT_STRINGS" "Z" (.int G1)) (P5 : ¬ (G1 = (0 : Int32))) (O4 : Sta Z Z.heap "jdk/internal/util/Preconditions" "SIOOBE_FORMATTER" "Ljava/util/function/BiFunction;" G3) (rG3 : G3.isRef = true) :
    MetFree l x (head1 (Jvm.Cond.code x code maxLocals ret :: ws) room_1) (fun aa U => aa = #[(.int p0), (.int p1), (.int p2), (.int p3), (.int p4)] ∧ Z.Warmed39 U.vm ∧ U.heap = h0 ∧ CHv Z consts_1 U.vm h0) (fun _ _ _ _ _ => True) (fun _ U o U' => ∃ v L, o = .returned v ∧ Q_law Z p0 p1 p2 p3 p4 G1 G3 h0 n0 v U'.heap L ∧ CHr Z consts_1 U.vm U.heap U'.vm U'.heap ∧ ReturnedEndW U o U' L room_1.cells room_1.slots) := by
  refine MetFree.of_bodySF (plainFor_of_name pn_com_example_neighbor_keys_neighborkeys_model_RelatedNameOfPinLaw) hisR ?_
  intro p e s m args below meth c s₁ Bd hml0 hP hK
  obtain ⟨rfl, hZ, hh, hH⟩ := hP
  have hx := Bd.exec
  have hby := Bd.bytes
  have hlk : meth.locks = false := BodyLoose.notSynchronized Bd
  have hml : c.maxLocals = 14 := hml0
  have hown : s.vm.findClass "com/example/neighbor_keys/neighborkeys/model/RelatedNameOfPinLaw" = some m.cls := findClass_of_methodNamed Bd.named
  have hnm := (name_of_methodNamed Bd.named Bd.method).1
  have X0 : Stand p l e room_1 (s.setVm s.vm) m #[(.int p0), (.int p1), (.int p2), (.int p3), (.int p4)] below meth c s₁ [] 0 0 := Stand.of_body Bd
  have e0 : s₁.heap = h0 := by rw [← hh, Bd.state]; rfl
  have N0 := Fr.nil n0
  show Gl p.tables e below (EndH s Z consts_1 (Q_law Z p0 p1 p2 p3 p4 G1 G3 h0 n0) room_1.cells room_1.slots) _
  refine Gl.cast (ef_law m p0 p1 p2 p3 p4) ?_
  show Gl p.tables e below _ (s₁.setTop (mkF m 0 #[.val (.int p0), .val (.int p1), .val (.int p2), .val (.int p3), .val (.int p4), .unset, .unset, .unset, .unset, .unset, .unset, .unset, .unset, .unset] []))
  have hS0 : s.Since s.vm s₁.heap.size := (State.WarmedH.refl s).since _
  have C0 : CHr Z consts_1 s.vm h0 s.vm h0 := CHr.refl hH
  refine Gl.st (fun _ kq => XS.iloadN X0.here hx rfl (hb hby at_0) rfl kq) ?_
  show Gl p.tables e below _ (s₁.setTop (mkF m 1 #[.val (.int p0), .val (.int p1), .val (.int p2), .val (.int p3), .val (.int p4), .unset, .unset, .unset, .unset, .unset, .unset, .unset, .unset, .unset] [(.int p0)]))
  refine Gl.st (fun _ kq => X0.ldcInt hx hown (mvT hZ (tw hw 0 rfl)) (g := (mkF m 1 #[.val (.int p0), .val (.int p1), .val (.int p2), .val (.int p3), .val (.int p4), .unset, .unset, .unset, .unset, .unset, .unset, .unset, .unset, .unset] [(.int p0)])) rfl (hb hby at_1) _ kq) ?_
  show Gl p.tables e below _ (s₁.setTop (mkF m 3 #[.val (.int p0), .val (.int p1), .val (.int p2), .val (.int p3), .val (.int p4), .unset, .unset, .unset, .unset, .unset, .unset, .unset, .unset, .unset] [(.int 2147483647), (.int p0)]))
  refine Gl.st (fun _ kq => XS.iand X0.here hx rfl (hb hby at_3) rfl kq) ?_
  show Gl p.tables e below _ (s₁.setTop (mkF m 4 #[.val (.int p0), .val (.int p1), .val (.int p2), .val (.int p3), .val (.int p4), .unset, .unset, .unset, .unset, .unset, .unset, .unset, .unset, .unset] [(.int (p0 &&& (2147483647 : Int32)))]))
  refine Gl.st (fun _ kq => XS.iconst X0.here hx rfl (hb hby at_4) kq) ?_
  show Gl p.tables e below _ (s₁.setTop (mkF m 5 #[.val (.int p0), .val (.int p1), .val (.int p2), .val (.int p3), .val (.int p4), .unset, .unset, .unset, .unset, .unset, .unset, .unset, .unset, .unset] [(.int 5), (.int (p0 &&& (2147483647 : Int32)))]))
  refine Gl.st (fun _ kq => iremM (g := (mkF m 5 #[.val (.int p0), .val (.int p1), .val (.int p2), .val (.int p3), .val (.int p4), .unset, .unset, .unset, .unset, .unset, .unset, .unset, .unset, .unset] [(.int 5), (.int (p0 &&& (2147483647 : Int32)))])) X0 hx rfl (hb hby at_5) rfl (by decide) kq) ?_
  show Gl p.tables e below _ (s₁.setTop (mkF m 6 #[.val (.int p0), .val (.int p1), .val (.int p2), .val (.int p3), .val (.int p4), .unset, .unset, .unset, .unset, .unset, .unset, .unset, .unset, .unset] [(.int ((p0 &&& (2147483647 : Int32)) % (5 : Int32)))]))
  refine Gl.st (fun _ kq => XS.istore X0.here hx rfl (hb hby at_6) rfl (l' := #[.val (.int p0), .val (.int p1), .val (.int p2), .val (.int p3), .val (.int p4), .val (.int ((p0 &&& (2147483647 : Int32)) % (5 : Int32))), .unset, .unset, .unset, .unset, .unset, .unset, .unset, .unset]) rfl kq) ?_
  show Gl p.tables e below _ (s₁.setTop (mkF m 8 #[.val (.int p0), .val (.int p1), .val (.int p2), .val (.int p3), .val (.int p4), .val (.int ((p0 &&& (2147483647 : Int32)) % (5 : Int32))), .unset, .unset, .unset, .unset, .unset, .unset, .unset, .unset] []))
  refine Gl.st (fun _ kq => XS.iloadN X0.here hx rfl (hb hby at_8) rfl kq) ?_
  show Gl p.tables e below _ (s₁.setTop (mkF m 9 #[.val (.int p0), .val (.int p1), .val (.int p2), .val (.int p3), .val (.int p4), .val (.int ((p0 &&& (2147483647 : Int32)) % (5 : Int32))), .unset, .unset, .unset, .unset, .unset, .unset, .unset, .unset] [(.int p1)]))
  obtain ⟨_, _, ⟨T2, L2, k2, n2⟩, -, X2, ⟨Lc2, hQ2, l2, y2, z2⟩, st2⟩ := Jvm.LawKit.callS X0 hx (y := (⟨"com/example/neighbor_keys/neighborkeys/model/RelatedNameOfPinLaw", "ch", "(I)C"⟩ : MethodName)) hown (mvT hZ (tw hw 1 rfl)) (mvT hZ (tw hw 2 rfl)) (mvT hZ (tw hw 3 rfl)) (mvT hZ (tw hw 4 rfl)) (by decide) (backOf (W := 0) (rm_ch l Z a0 hw [] (p1) h0 n0 Z0 ) hZ (tw hw 4 rfl) (tw hw 3 rfl) (by decide) (by decide)) (g := (mkF m 9 #[.val (.int p0), .val (.int p1), .val (.int p2), .val (.int p3), .val (.int p4), .val (.int ((p0 &&& (2147483647 : Int32)) % (5 : Int32))), .unset, .unset, .unset, .unset, .unset, .unset, .unset, .unset] [(.int p1)])) rfl (by rw [hml]; rfl) (argsL := [(.int p1)]) (rest := []) (lenOf pd__I_C rfl) rfl (by show 2 * 0 + _ ≤ _; exact Nat.le_of_eq rfl) (hb hby at_9) (fun _ _ => ⟨rfl, e0, (by decide : 0 + 0 ≤ _), (by decide : 0 + 0 ≤ _)⟩)
  dsimp only [Pt.U, Pt.locs, Pt.cells, Pt.slots] at X2 l2 y2 z2 st2 hQ2
  subst l2 y2 z2
  obtain ⟨v1, rfl, N2, e2, y2_0⟩ := hQ2
  have M2 := Fr.app N0 N2
  refine Gl.st st2 ?_
  show Gl p.tables e below _ (T2.setTop (mkF m 12 #[.val (.int p0), .val (.int p1), .val (.int p2), .val (.int p3), .val (.int p4), .val (.int ((p0 &&& (2147483647 : Int32)) % (5 : Int32))), .unset, .unset, .unset, .unset, .unset, .unset, .unset, .unset] [(.int v1)]))
  show Gl p.tables e below _ (T2.setTop (mkF m 12 #[.val (.int p0), .val (.int p1), .val (.int p2), .val (.int p3), .val (.int p4), .val (.int ((p0 &&& (2147483647 : Int32)) % (5 : Int32))), .unset, .unset, .unset, .unset, .unset, .unset, .unset, .unset] [(.int v1)]))
  refine Gl.st (fun _ kq => XS.istore X2.here hx rfl (hb hby at_12) rfl (l' := #[.val (.int p0), .val (.int p1), .val (.int p2), .val (.int p3), .val (.int p4), .val (.int ((p0 &&& (2147483647 : Int32)) % (5 : Int32))), .val (.int v1), .unset, .unset, .unset, .unset, .unset, .unset, .unset]) rfl kq) ?_
  show Gl p.tables e below _ (T2.setTop (mkF m 14 #[.val (.int p0), .val (.int p1), .val (.int p2), .val (.int p3), .val (.int p4), .val (.int ((p0 &&& (2147483647 : Int32)) % (5 : Int32))), .val (.int v1), .unset, .unset, .unset, .unset, .unset, .unset, .unset] []))
  refine Gl.st (fun _ kq => XS.iloadN X2.here hx rfl (hb hby at_14) rfl kq) ?_
  show Gl p.tables e below _ (T2.setTop (mkF m 15 #[.val (.int p0), .val (.int p1), .val (.int p2), .val (.int p3), .val (.int p4), .val (.int ((p0 &&& (2147483647 : Int32)) % (5 : Int32))), .val (.int v1), .unset, .unset, .unset, .unset, .unset, .unset, .unset] [(.int p2)]))
  obtain ⟨_, _, ⟨T4, L4, k4, n4⟩, -, X4, ⟨Lc4, hQ4, l4, y4, z4⟩, st4⟩ := Jvm.LawKit.callS X2 hx (y := (⟨"com/example/neighbor_keys/neighborkeys/model/RelatedNameOfPinLaw", "ch", "(I)C"⟩ : MethodName)) hown (mvT hZ (tw hw 1 rfl)) (mvT hZ (tw hw 2 rfl)) (mvT hZ (tw hw 3 rfl)) (mvT hZ (tw hw 4 rfl)) (by decide) (backOf (W := 0) (rm_ch l Z a0 hw [] (p2) h0 n0 Z0 ) hZ (tw hw 4 rfl) (tw hw 3 rfl) (by decide) (by decide)) (g := (mkF m 15 #[.val (.int p0), .val (.int p1), .val (.int p2), .val (.int p3), .val (.int p4), .val (.int ((p0 &&& (2147483647 : Int32)) % (5 : Int32))), .val (.int v1), .unset, .unset, .unset, .unset, .unset, .unset, .unset] [(.int p2)])) rfl (by rw [hml]; rfl) (argsL := [(.int p2)]) (rest := []) (lenOf pd__I_C rfl) rfl (by show 2 * 0 + _ ≤ _; exact Nat.le_of_eq rfl) (hb hby at_15) (fun _ _ => ⟨rfl, e2, (by decide : 0 + 0 ≤ _), (by decide : 0 + 0 ≤ _)⟩)
  dsimp only [Pt.U, Pt.locs, Pt.cells, Pt.slots] at X4 l4 y4 z4 st4 hQ4
  subst l4 y4 z4
  obtain ⟨v3, rfl, N4, e4, y4_0⟩ := hQ4
  have M4 := Fr.app M2 N4
  refine Gl.st st4 ?_
  show Gl p.tables e below _ (T4.setTop (mkF m 18 #[.val (.int p0), .val (.int p1), .val (.int p2), .val (.int p3), .val (.int p4), .val (.int ((p0 &&& (2147483647 : Int32)) % (5 : Int32))), .val (.int v1), .unset, .unset, .unset, .unset, .unset, .unset, .unset] [(.int v3)]))
  show Gl p.tables e below _ (T4.setTop (mkF m 18 #[.val (.int p0), .val (.int p1), .val (.int p2), .val (.int p3), .val (.int p4), .val (.int ((p0 &&& (2147483647 : Int32)) % (5 : Int32))), .val (.int v1), .unset, .unset, .unset, .unset, .unset, .unset, .unset] [(.int v3)]))
  refine Gl.st (fun _ kq => XS.istore X4.here hx rfl (hb hby at_18) rfl (l' := #[.val (.int p0), .val (.int p1), .val (.int p2), .val (.int p3), .val (.int p4), .val (.int ((p0 &&& (2147483647 : Int32)) % (5 : Int32))), .val (.int v1), .val (.int v3), .unset, .unset, .unset, .unset, .unset, .unset]) rfl kq) ?_
  show Gl p.tables e below _ (T4.setTop (mkF m 20 #[.val (.int p0), .val (.int p1), .val (.int p2), .val (.int p3), .val (.int p4), .val (.int ((p0 &&& (2147483647 : Int32)) % (5 : Int32))), .val (.int v1), .val (.int v3), .unset, .unset, .unset, .unset, .unset, .unset] []))
  refine Gl.st (fun _ kq => XS.iloadN X4.here hx rfl (hb hby at_20) rfl kq) ?_
  show Gl p.tables e below _ (T4.setTop (mkF m 21 #[.val (.int p0), .val (.int p1), .val (.int p2), .val (.int p3), .val (.int p4), .val (.int ((p0 &&& (2147483647 : Int32)) % (5 : Int32))), .val (.int v1), .val (.int v3), .unset, .unset, .unset, .unset, .unset, .unset] [(.int p3)]))
  obtain ⟨_, _, ⟨T6, L6, k6, n6⟩, -, X6, ⟨Lc6, hQ6, l6, y6, z6⟩, st6⟩ := Jvm.LawKit.callS X4 hx (y := (⟨"com/example/neighbor_keys/neighborkeys/model/RelatedNameOfPinLaw", "ch", "(I)C"⟩ : MethodName)) hown (mvT hZ (tw hw 1 rfl)) (mvT hZ (tw hw 2 rfl)) (mvT hZ (tw hw 3 rfl)) (mvT hZ (tw hw 4 rfl)) (by decide) (backOf (W := 0) (rm_ch l Z a0 hw [] (p3) h0 n0 Z0 ) hZ (tw hw 4 rfl) (tw hw 3 rfl) (by decide) (by decide)) (g := (mkF m 21 #[.val (.int p0), .val (.int p1), .val (.int p2), .val (.int p3), .val (.int p4), .val (.int ((p0 &&& (2147483647 : Int32)) % (5 : Int32))), .val (.int v1), .val (.int v3), .unset, .unset, .unset, .unset, .unset, .unset] [(.int p3)])) rfl (by rw [hml]; rfl) (argsL := [(.int p3)]) (rest := []) (lenOf pd__I_C rfl) rfl (by show 2 * 0 + _ ≤ _; exact Nat.le_of_eq rfl) (hb hby at_21) (fun _ _ => ⟨rfl, e4, (by decide : 0 + 0 ≤ _), (by decide : 0 + 0 ≤ _)⟩)
  dsimp only [Pt.U, Pt.locs, Pt.cells, Pt.slots] at X6 l6 y6 z6 st6 hQ6
  subst l6 y6 z6
  obtain ⟨v5, rfl, N6, e6, y6_0⟩ := hQ6
  have M6 := Fr.app M4 N6
  refine Gl.st st6 ?_
  show Gl p.tables e below _ (T6.setTop (mkF m 24 #[.val (.int p0), .val (.int p1), .val (.int p2), .val (.int p3), .val (.int p4), .val (.int ((p0 &&& (2147483647 : Int32)) % (5 : Int32))), .val (.int v1), .val (.int v3), .unset, .unset, .unset, .unset, .unset, .unset] [(.int v5)]))
  show Gl p.tables e below _ (T6.setTop (mkF m 24 #[.val (.int p0), .val (.int p1), .val (.int p2), .val (.int p3), .val (.int p4), .val (.int ((p0 &&& (2147483647 : Int32)) % (5 : Int32))), .val (.int v1), .val (.int v3), .unset, .unset, .unset, .unset, .unset, .unset] [(.int v5)]))
  refine Gl.st (fun _ kq => XS.istore X6.here hx rfl (hb hby at_24) rfl (l' := #[.val (.int p0), .val (.int p1), .val (.int p2), .val (.int p3), .val (.int p4), .val (.int ((p0 &&& (2147483647 : Int32)) % (5 : Int32))), .val (.int v1), .val (.int v3), .val (.int v5), .unset, .unset, .unset, .unset, .unset]) rfl kq) ?_
  show Gl p.tables e below _ (T6.setTop (mkF m 26 #[.val (.int p0), .val (.int p1), .val (.int p2), .val (.int p3), .val (.int p4), .val (.int ((p0 &&& (2147483647 : Int32)) % (5 : Int32))), .val (.int v1), .val (.int v3), .val (.int v5), .unset, .unset, .unset, .unset, .unset] []))
  refine Gl.st (fun _ kq => XS.iload X6.here hx rfl (hb hby at_26) rfl kq) ?_
  show Gl p.tables e below _ (T6.setTop (mkF m 28 #[.val (.int p0), .val (.int p1), .val (.int p2), .val (.int p3), .val (.int p4), .val (.int ((p0 &&& (2147483647 : Int32)) % (5 : Int32))), .val (.int v1), .val (.int v3), .val (.int v5), .unset, .unset, .unset, .unset, .unset] [(.int p4)]))
  obtain ⟨_, _, ⟨T8, L8, k8, n8⟩, -, X8, ⟨Lc8, hQ8, l8, y8, z8⟩, st8⟩ := Jvm.LawKit.callS X6 hx (y := (⟨"com/example/neighbor_keys/neighborkeys/model/RelatedNameOfPinLaw", "ch", "(I)C"⟩ : MethodName)) hown (mvT hZ (tw hw 1 rfl)) (mvT hZ (tw hw 2 rfl)) (mvT hZ (tw hw 3 rfl)) (mvT hZ (tw hw 4 rfl)) (by decide) (backOf (W := 0) (rm_ch l Z a0 hw [] (p4) h0 n0 Z0 ) hZ (tw hw 4 rfl) (tw hw 3 rfl) (by decide) (by decide)) (g := (mkF m 28 #[.val (.int p0), .val (.int p1), .val (.int p2), .val (.int p3), .val (.int p4), .val (.int ((p0 &&& (2147483647 : Int32)) % (5 : Int32))), .val (.int v1), .val (.int v3), .val (.int v5), .unset, .unset, .unset, .unset, .unset] [(.int p4)])) rfl (by rw [hml]; rfl) (argsL := [(.int p4)]) (rest := []) (lenOf pd__I_C rfl) rfl (by show 2 * 0 + _ ≤ _; exact Nat.le_of_eq rfl) (hb hby at_28) (fun _ _ => ⟨rfl, e6, (by decide : 0 + 0 ≤ _), (by decide : 0 + 0 ≤ _)⟩)
  dsimp only [Pt.U, Pt.locs, Pt.cells, Pt.slots] at X8 l8 y8 z8 st8 hQ8
  subst l8 y8 z8
  obtain ⟨v7, rfl, N8, e8, y8_0⟩ := hQ8
  have M8 := Fr.app M6 N8
  refine Gl.st st8 ?_
  show Gl p.tables e below _ (T8.setTop (mkF m 31 #[.val (.int p0), .val (.int p1), .val (.int p2), .val (.int p3), .val (.int p4), .val (.int ((p0 &&& (2147483647 : Int32)) % (5 : Int32))), .val (.int v1), .val (.int v3), .val (.int v5), .unset, .unset, .unset, .unset, .unset] [(.int v7)]))
  show Gl p.tables e below _ (T8.setTop (mkF m 31 #[.val (.int p0), .val (.int p1), .val (.int p2), .val (.int p3), .val (.int p4), .val (.int ((p0 &&& (2147483647 : Int32)) % (5 : Int32))), .val (.int v1), .val (.int v3), .val (.int v5), .unset, .unset, .unset, .unset, .unset] [(.int v7)]))
  refine Gl.st (fun _ kq => XS.istore X8.here hx rfl (hb hby at_31) rfl (l' := #[.val (.int p0), .val (.int p1), .val (.int p2), .val (.int p3), .val (.int p4), .val (.int ((p0 &&& (2147483647 : Int32)) % (5 : Int32))), .val (.int v1), .val (.int v3), .val (.int v5), .val (.int v7), .unset, .unset, .unset, .unset]) rfl kq) ?_
  show Gl p.tables e below _ (T8.setTop (mkF m 33 #[.val (.int p0), .val (.int p1), .val (.int p2), .val (.int p3), .val (.int p4), .val (.int ((p0 &&& (2147483647 : Int32)) % (5 : Int32))), .val (.int v1), .val (.int v3), .val (.int v5), .val (.int v7), .unset, .unset, .unset, .unset] []))
  refine Gl.st (fun _ kq => XS.iload X8.here hx rfl (hb hby at_33) rfl kq) ?_
  show Gl p.tables e below _ (T8.setTop (mkF m 35 #[.val (.int p0), .val (.int p1), .val (.int p2), .val (.int p3), .val (.int p4), .val (.int ((p0 &&& (2147483647 : Int32)) % (5 : Int32))), .val (.int v1), .val (.int v3), .val (.int v5), .val (.int v7), .unset, .unset, .unset, .unset] [(.int ((p0 &&& (2147483647 : Int32)) % (5 : Int32)))]))
  refine Gl.st (fun _ kq => XS.iload X8.here hx rfl (hb hby at_35) rfl kq) ?_
  show Gl p.tables e below _ (T8.setTop (mkF m 37 #[.val (.int p0), .val (.int p1), .val (.int p2), .val (.int p3), .val (.int p4), .val (.int ((p0 &&& (2147483647 : Int32)) % (5 : Int32))), .val (.int v1), .val (.int v3), .val (.int v5), .val (.int v7), .unset, .unset, .unset, .unset] [(.int v1), (.int ((p0 &&& (2147483647 : Int32)) % (5 : Int32)))]))
  refine Gl.st (fun _ kq => XS.iload X8.here hx rfl (hb hby at_37) rfl kq) ?_
  show Gl p.tables e below _ (T8.setTop (mkF m 39 #[.val (.int p0), .val (.int p1), .val (.int p2), .val (.int p3), .val (.int p4), .val (.int ((p0 &&& (2147483647 : Int32)) % (5 : Int32))), .val (.int v1), .val (.int v3), .val (.int v5), .val (.int v7), .unset, .unset, .unset, .unset] [(.int v3), (.int v1), (.int ((p0 &&& (2147483647 : Int32)) % (5 : Int32)))]))
  refine Gl.st (fun _ kq => XS.iload X8.here hx rfl (hb hby at_39) rfl kq) ?_
  show Gl p.tables e below _ (T8.setTop (mkF m 41 #[.val (.int p0), .val (.int p1), .val (.int p2), .val (.int p3), .val (.int p4), .val (.int ((p0 &&& (2147483647 : Int32)) % (5 : Int32))), .val (.int v1), .val (.int v3), .val (.int v5), .val (.int v7), .unset, .unset, .unset, .unset] [(.int v5), (.int v3), (.int v1), (.int ((p0 &&& (2147483647 : Int32)) % (5 : Int32)))]))
  refine Gl.st (fun _ kq => XS.iload X8.here hx rfl (hb hby at_41) rfl kq) ?_
  show Gl p.tables e below _ (T8.setTop (mkF m 43 #[.val (.int p0), .val (.int p1), .val (.int p2), .val (.int p3), .val (.int p4), .val (.int ((p0 &&& (2147483647 : Int32)) % (5 : Int32))), .val (.int v1), .val (.int v3), .val (.int v5), .val (.int v7), .unset, .unset, .unset, .unset] [(.int v7), (.int v5), (.int v3), (.int v1), (.int ((p0 &&& (2147483647 : Int32)) % (5 : Int32)))]))
  obtain ⟨_, _, ⟨T13, L13, k13, n13⟩, -, X13, S13, g13, ⟨Lc13, hQ13, l13, y13, z13, R13⟩, st13⟩ := callSS X8 hx (y := (⟨"com/example/neighbor_keys/neighborkeys/model/RelatedNameOfPinLaw", "mk", "(ICCCC)Ljava/lang/String;"⟩ : MethodName)) hown (mvT hZ (tw hw 5 rfl)) (mvT hZ (tw hw 6 rfl)) (mvT hZ (tw hw 3 rfl)) (mvT hZ (tw hw 7 rfl)) (by decide) (backOfSH (W := 0) (rm_mk l Z a0 hw [] (((p0 &&& (2147483647 : Int32)) % (5 : Int32))) (v1) (v3) (v5) (v7) (G1) h0 n0 Z0 pf0 y2_0 y4_0 y6_0 y8_0 O2 P5) hZ (tw hw 7 rfl) (tw hw 3 rfl) (by decide) (by decide) (elW hw) C0.1) (g := (mkF m 43 #[.val (.int p0), .val (.int p1), .val (.int p2), .val (.int p3), .val (.int p4), .val (.int ((p0 &&& (2147483647 : Int32)) % (5 : Int32))), .val (.int v1), .val (.int v3), .val (.int v5), .val (.int v7), .unset, .unset, .unset, .unset] [(.int v7), (.int v5), (.int v3), (.int v1), (.int ((p0 &&& (2147483647 : Int32)) % (5 : Int32)))])) rfl (by rw [hml]; rfl) (argsL := [(.int ((p0 &&& (2147483647 : Int32)) % (5 : Int32))), (.int v1), (.int v3), (.int v5), (.int v7)]) (rest := []) (lenOf pd__ICCCC_Ljava_lang_String_ rfl) rfl (by show 2 * 0 + _ ≤ _; exact Nat.le_of_eq rfl) (hb hby at_43) (fun _ _ => ⟨rfl, e8, (by decide : 0 + 3 ≤ _), (by decide : 0 + 12 ≤ _)⟩)
  dsimp only [Pt.U, Pt.locs, Pt.cells, Pt.slots] at X13 l13 y13 z13 st13 hQ13 R13
  subst l13 y13 z13
  obtain ⟨X13, S13, hZ13, ho13⟩ := rebS hS0 (Nat.le_trans (Nat.le_of_eq (congrArg Array.size e0)) (Nat.le_of_eq (congrArg Array.size e8).symm)) X13 S13 g13 hZ hown
  obtain ⟨v9, v10, v11, v12, rfl, N13, K13, q13_0, q13_1, q13_2, q13_3, y13_0⟩ := hQ13
  have C14 : CHr Z consts_1 s.vm h0 T13.vm T13.heap := C0.trans R13
  have M13 := Fr.app M8 N13
  refine Gl.to st13 ?_
  show Gl p.tables e below _ (T13.setTop (mkF m 46 #[.val (.int p0), .val (.int p1), .val (.int p2), .val (.int p3), .val (.int p4), .val (.int ((p0 &&& (2147483647 : Int32)) % (5 : Int32))), .val (.int v1), .val (.int v3), .val (.int v5), .val (.int v7), .unset, .unset, .unset, .unset] [(.ref v9)]))
  show Gl p.tables e below _ (T13.setTop (mkF m 46 #[.val (.int p0), .val (.int p1), .val (.int p2), .val (.int p3), .val (.int p4), .val (.int ((p0 &&& (2147483647 : Int32)) % (5 : Int32))), .val (.int v1), .val (.int v3), .val (.int v5), .val (.int v7), .unset, .unset, .unset, .unset] [(.ref v9)]))
  refine Gl.st (fun _ kq => XS.astore X13.here hx rfl (hb hby at_46) rfl rfl (l' := #[.val (.int p0), .val (.int p1), .val (.int p2), .val (.int p3), .val (.int p4), .val (.int ((p0 &&& (2147483647 : Int32)) % (5 : Int32))), .val (.int v1), .val (.int v3), .val (.int v5), .val (.int v7), .val (.ref v9), .unset, .unset, .unset]) rfl kq) ?_
  show Gl p.tables e below _ (T13.setTop (mkF m 48 #[.val (.int p0), .val (.int p1), .val (.int p2), .val (.int p3), .val (.int p4), .val (.int ((p0 &&& (2147483647 : Int32)) % (5 : Int32))), .val (.int v1), .val (.int v3), .val (.int v5), .val (.int v7), .val (.ref v9), .unset, .unset, .unset] []))
  refine Gl.st (fun _ kq => XS.iconst X13.here hx rfl (hb hby at_48) kq) ?_
  show Gl p.tables e below _ (T13.setTop (mkF m 49 #[.val (.int p0), .val (.int p1), .val (.int p2), .val (.int p3), .val (.int p4), .val (.int ((p0 &&& (2147483647 : Int32)) % (5 : Int32))), .val (.int v1), .val (.int v3), .val (.int v5), .val (.int v7), .val (.ref v9), .unset, .unset, .unset] [(.int (-1))]))
  refine Gl.st (fun _ kq => XS.istore X13.here hx rfl (hb hby at_49) rfl (l' := #[.val (.int p0), .val (.int p1), .val (.int p2), .val (.int p3), .val (.int p4), .val (.int ((p0 &&& (2147483647 : Int32)) % (5 : Int32))), .val (.int v1), .val (.int v3), .val (.int v5), .val (.int v7), .val (.ref v9), .val (.int (-1)), .unset, .unset]) rfl kq) ?_
  show Gl p.tables e below _ (T13.setTop (mkF m 51 #[.val (.int p0), .val (.int p1), .val (.int p2), .val (.int p3), .val (.int p4), .val (.int ((p0 &&& (2147483647 : Int32)) % (5 : Int32))), .val (.int v1), .val (.int v3), .val (.int v5), .val (.int v7), .val (.ref v9), .val (.int (-1)), .unset, .unset] []))
  have hk5 := k5_rem p0
  have hle : v12.length ≤ 4 := by rw [y13_0]; exact tk_le _ _ _ _ _
  have hrg : Rng v12 := by rw [y13_0]; exact tk_rng y2_0 y4_0 y6_0 y8_0
  have Jj : ∀ (Tj : State) (hj : Heap) (Lj : List Loc) (vmj : Vm) (kj : Nat) (hSj : s.Since vmj kj) (hZj : Z.Warmed39 vmj) (hoj : vmj.findClass "com/example/neighbor_keys/neighborkeys/model/RelatedNameOfPinLaw" = some m.cls) (hkj : kj ≤ hj.size) (Cj : CHr Z consts_1 s.vm h0 vmj hj) (Xj : Stand p l e room_1 (s.setVm vmj) m #[(.int p0), (.int p1), (.int p2), (.int p3), (.int p4)] below meth c Tj Lj 3 12) (ej : Tj.heap = hj) (Nj : Fr n0 Lj) (zj : n0 ≤ hj.size) (dt : Int32) (fj_0 : Old Z n0 hj) (fj_1 : Exa Z hj v9 "java/lang/String") (fj_2 : Fld Z hj v9 "java/lang/String" "coder" "B" (.int 0)) (fj_3 : Fld Z hj v9 "java/lang/String" "value" "[B" (.ref v10)) (fj_4 : Arv Z hj v10 v11 .byte (Int32.ofNat v12.length) ((v12.map (fun c => c.toInt8.toInt32)).map Value.int) (.int 0)) (yj_0 : own_dot dt v12), Gl p.tables e below (EndH s Z consts_1 (Q_law Z p0 p1 p2 p3 p4 G1 G3 h0 n0) room_1.cells room_1.slots) (Tj.setTop (mkF m 123 #[.val (.int p0), .val (.int p1), .val (.int p2), .val (.int p3), .val (.int p4), .val (.int ((p0 &&& (2147483647 : Int32)) % (5 : Int32))), .val (.int v1), .val (.int v3), .val (.int v5), .val (.int v7), .val (.ref v9), .val (.int dt), .unset, .unset] [])) := by
    intro Tj hj Lj vmj kj hSj hZj hoj hkj Cj Xj ej Nj zj dt fj_0 fj_1 fj_2 fj_3 fj_4 yj_0
    show Gl p.tables e below _ (Tj.setTop (mkF m 123 #[.val (.int p0), .val (.int p1), .val (.int p2), .val (.int p3), .val (.int p4), .val (.int ((p0 &&& (2147483647 : Int32)) % (5 : Int32))), .val (.int v1), .val (.int v3), .val (.int v5), .val (.int v7), .val (.ref v9), .val (.int dt), .unset, .unset] []))
    rcases yj_0 with ⟨hdt, hno⟩ | ⟨rr, hdt, hfi⟩
    · subst hdt
      show Gl p.tables e below _ (Tj.setTop (mkF m 123 #[.val (.int p0), .val (.int p1), .val (.int p2), .val (.int p3), .val (.int p4), .val (.int ((p0 &&& (2147483647 : Int32)) % (5 : Int32))), .val (.int v1), .val (.int v3), .val (.int v5), .val (.int v7), .val (.ref v9), .val (.int (-1)), .unset, .unset] []))
      refine Gl.st (fun _ kq => XS.iload Xj.here hx rfl (hb hby at_123) rfl kq) ?_
      show Gl p.tables e below _ (Tj.setTop (mkF m 125 #[.val (.int p0), .val (.int p1), .val (.int p2), .val (.int p3), .val (.int p4), .val (.int ((p0 &&& (2147483647 : Int32)) % (5 : Int32))), .val (.int v1), .val (.int v3), .val (.int v5), .val (.int v7), .val (.ref v9), .val (.int (-1)), .unset, .unset] [(.int (-1))]))
      refine Gl.st (fun _ kq => XS.ifNo Xj.here hx rfl (hb hby at_125) rfl ((if0 _ _).trans (tlt ((by decide) : (-1 : Int32) < (0 : Int32))).2.1) kq) ?_
      show Gl p.tables e below _ (Tj.setTop (mkF m 128 #[.val (.int p0), .val (.int p1), .val (.int p2), .val (.int p3), .val (.int p4), .val (.int ((p0 &&& (2147483647 : Int32)) % (5 : Int32))), .val (.int v1), .val (.int v3), .val (.int v5), .val (.int v7), .val (.ref v9), .val (.int (-1)), .unset, .unset] []))
      refine Gl.st (fun _ kq => XS.aconstNull Xj.here hx rfl (hb hby at_128) kq) ?_
      show Gl p.tables e below _ (Tj.setTop (mkF m 129 #[.val (.int p0), .val (.int p1), .val (.int p2), .val (.int p3), .val (.int p4), .val (.int ((p0 &&& (2147483647 : Int32)) % (5 : Int32))), .val (.int v1), .val (.int v3), .val (.int v5), .val (.int v7), .val (.ref v9), .val (.int (-1)), .unset, .unset] [.null]))
      refine Gl.st (fun _ kq => XS.goto Xj.here hx rfl (pc0 := 129) (pc' := 145) rfl (hb hby at_129) (by decide) (by decide) kq) ?_
      show Gl p.tables e below _ (Tj.setTop (mkF m 145 #[.val (.int p0), .val (.int p1), .val (.int p2), .val (.int p3), .val (.int p4), .val (.int ((p0 &&& (2147483647 : Int32)) % (5 : Int32))), .val (.int v1), .val (.int v3), .val (.int v5), .val (.int v7), .val (.ref v9), .val (.int (-1)), .unset, .unset] [.null]))
      refine Gl.st (fun _ kq => XS.astore Xj.here hx rfl (hb hby at_145) rfl rfl (l' := #[.val (.int p0), .val (.int p1), .val (.int p2), .val (.int p3), .val (.int p4), .val (.int ((p0 &&& (2147483647 : Int32)) % (5 : Int32))), .val (.int v1), .val (.int v3), .val (.int v5), .val (.int v7), .val (.ref v9), .val (.int (-1)), .val .null, .unset]) rfl kq) ?_
      show Gl p.tables e below _ (Tj.setTop (mkF m 147 #[.val (.int p0), .val (.int p1), .val (.int p2), .val (.int p3), .val (.int p4), .val (.int ((p0 &&& (2147483647 : Int32)) % (5 : Int32))), .val (.int v1), .val (.int v3), .val (.int v5), .val (.int v7), .val (.ref v9), .val (.int (-1)), .val .null, .unset] []))
      refine Gl.st (fun _ kq => XS.aload Xj.here hx rfl (hb hby at_147) rfl rfl kq) ?_
      show Gl p.tables e below _ (Tj.setTop (mkF m 149 #[.val (.int p0), .val (.int p1), .val (.int p2), .val (.int p3), .val (.int p4), .val (.int ((p0 &&& (2147483647 : Int32)) % (5 : Int32))), .val (.int v1), .val (.int v3), .val (.int v5), .val (.int v7), .val (.ref v9), .val (.int (-1)), .val .null, .unset] [(.ref v9)]))
      obtain ⟨_, _, ⟨T20, L20, k20, n20⟩, -, X20, S20, g20, ⟨Lc20, hQ20, l20, y20, z20, R20⟩, st20⟩ := callSS Xj hx (y := (⟨"com/example/neighbor_keys/neighborkeys/model/Related", "nameOf", "(Ljava/lang/String;)Ljava/lang/String;"⟩ : MethodName)) hoj (mvT hZj (tw hw 16 rfl)) (mvT hZj (tw hw 17 rfl)) (mvT hZj (tw hw 18 rfl)) (mvT hZj (tw hw 19 rfl)) (by decide) (backOfSH (W := 0) (rm_no l Z a0 hw [] (v9) (v10) (v11) (v12) (G1) (G3) hj n0 zj fj_1 fj_2 fj_3 fj_4 fj_0 hrg hle O2 P5 O4 rG3) hZj (tw hw 19 rfl) (tw hw 18 rfl) (by decide) (by decide) (elW hw) Cj.1) (g := (mkF m 149 #[.val (.int p0), .val (.int p1), .val (.int p2), .val (.int p3), .val (.int p4), .val (.int ((p0 &&& (2147483647 : Int32)) % (5 : Int32))), .val (.int v1), .val (.int v3), .val (.int v5), .val (.int v7), .val (.ref v9), .val (.int (-1)), .val .null, .unset] [(.ref v9)])) rfl (by rw [hml]; rfl) (argsL := [(.ref v9)]) (rest := []) (lenOf pd__Ljava_lang_String__Ljava_lang_String_ rfl) rfl (by show 2 * 0 + _ ≤ _; exact Nat.le_of_eq rfl) (hb hby at_149) (fun _ _ => ⟨rfl, ej, (by decide : 3 + 2 ≤ _), (by decide : 12 + 8 ≤ _)⟩)
      dsimp only [Pt.U, Pt.locs, Pt.cells, Pt.slots] at X20 l20 y20 z20 st20 hQ20 R20
      subst l20 y20 z20
      obtain ⟨X20, S20, hZ20, ho20⟩ := rebS hSj (Nat.le_trans hkj (Nat.le_of_eq (congrArg Array.size ej).symm)) X20 S20 g20 hZj hoj
      rcases hQ20 with ⟨v15, v16, v17, v18, v19, rfl, N20, K20, q20_0, q20_1, q20_2, q20_3, y20_0, y20_1⟩ | ⟨rfl, N20, e20, y20_0⟩
      · exact (first_no y20_0 hno).elim
      · have C21 : CHr Z consts_1 s.vm h0 T20.vm hj := Cj.trans (e20 ▸ R20)
        have M20 := Fr.app Nj N20
        refine Gl.to st20 ?_
        show Gl p.tables e below _ (T20.setTop (mkF m 152 #[.val (.int p0), .val (.int p1), .val (.int p2), .val (.int p3), .val (.int p4), .val (.int ((p0 &&& (2147483647 : Int32)) % (5 : Int32))), .val (.int v1), .val (.int v3), .val (.int v5), .val (.int v7), .val (.ref v9), .val (.int (-1)), .val .null, .unset] [.null]))
        refine Gl.st (fun _ kq => XS.astore X20.here hx rfl (hb hby at_152) rfl rfl (l' := #[.val (.int p0), .val (.int p1), .val (.int p2), .val (.int p3), .val (.int p4), .val (.int ((p0 &&& (2147483647 : Int32)) % (5 : Int32))), .val (.int v1), .val (.int v3), .val (.int v5), .val (.int v7), .val (.ref v9), .val (.int (-1)), .val .null, .val .null]) rfl kq) ?_
        show Gl p.tables e below _ (T20.setTop (mkF m 154 #[.val (.int p0), .val (.int p1), .val (.int p2), .val (.int p3), .val (.int p4), .val (.int ((p0 &&& (2147483647 : Int32)) % (5 : Int32))), .val (.int v1), .val (.int v3), .val (.int v5), .val (.int v7), .val (.ref v9), .val (.int (-1)), .val .null, .val .null] []))
        refine Gl.st (fun _ kq => XS.aload X20.here hx rfl (hb hby at_154) rfl rfl kq) ?_
        show Gl p.tables e below _ (T20.setTop (mkF m 156 #[.val (.int p0), .val (.int p1), .val (.int p2), .val (.int p3), .val (.int p4), .val (.int ((p0 &&& (2147483647 : Int32)) % (5 : Int32))), .val (.int v1), .val (.int v3), .val (.int v5), .val (.int v7), .val (.ref v9), .val (.int (-1)), .val .null, .val .null] [.null]))
        refine Gl.st (fun _ kq => XS.ifnonnullNo X20.here hx rfl (hb hby at_156) rfl kq) ?_
        show Gl p.tables e below _ (T20.setTop (mkF m 159 #[.val (.int p0), .val (.int p1), .val (.int p2), .val (.int p3), .val (.int p4), .val (.int ((p0 &&& (2147483647 : Int32)) % (5 : Int32))), .val (.int v1), .val (.int v3), .val (.int v5), .val (.int v7), .val (.ref v9), .val (.int (-1)), .val .null, .val .null] []))
        refine Gl.st (fun _ kq => XS.aload X20.here hx rfl (hb hby at_159) rfl rfl kq) ?_
        show Gl p.tables e below _ (T20.setTop (mkF m 161 #[.val (.int p0), .val (.int p1), .val (.int p2), .val (.int p3), .val (.int p4), .val (.int ((p0 &&& (2147483647 : Int32)) % (5 : Int32))), .val (.int v1), .val (.int v3), .val (.int v5), .val (.int v7), .val (.ref v9), .val (.int (-1)), .val .null, .val .null] [.null]))
        refine Gl.st (fun _ kq => XS.ifnonnullNo X20.here hx rfl (hb hby at_161) rfl kq) ?_
        show Gl p.tables e below _ (T20.setTop (mkF m 164 #[.val (.int p0), .val (.int p1), .val (.int p2), .val (.int p3), .val (.int p4), .val (.int ((p0 &&& (2147483647 : Int32)) % (5 : Int32))), .val (.int v1), .val (.int v3), .val (.int v5), .val (.int v7), .val (.ref v9), .val (.int (-1)), .val .null, .val .null] []))
        refine Gl.st (fun _ kq => XS.iconst X20.here hx rfl (hb hby at_164) kq) ?_
        show Gl p.tables e below _ (T20.setTop (mkF m 165 #[.val (.int p0), .val (.int p1), .val (.int p2), .val (.int p3), .val (.int p4), .val (.int ((p0 &&& (2147483647 : Int32)) % (5 : Int32))), .val (.int v1), .val (.int v3), .val (.int v5), .val (.int v7), .val (.ref v9), .val (.int (-1)), .val .null, .val .null] [(.int 1)]))
        refine Gl.st (fun _ kq => XS.goto X20.here hx rfl (pc0 := 165) (pc' := 169) rfl (hb hby at_165) (by decide) (by decide) kq) ?_
        show Gl p.tables e below _ (T20.setTop (mkF m 169 #[.val (.int p0), .val (.int p1), .val (.int p2), .val (.int p3), .val (.int p4), .val (.int ((p0 &&& (2147483647 : Int32)) % (5 : Int32))), .val (.int v1), .val (.int v3), .val (.int v5), .val (.int v7), .val (.ref v9), .val (.int (-1)), .val .null, .val .null] [(.int 1)]))
        exact Gl.retNH X20 hx S20 (Nat.le_trans (Nat.le_of_eq (congrArg Array.size e20)) (Nat.le_of_eq (congrArg Array.size e20).symm)) (by rw [hh, e20]; exact C21.trans (CHv.at X20 hZ20 (elW hw) C21.1)) (t := .boolean) Bd.returns (by simp) (hb hby at_169) hlk (by decide) (by decide) (by rw [e20]; exact ⟨rfl, M20⟩)
    · subst hdt
      have hrl := hfi.2.1
      show Gl p.tables e below _ (Tj.setTop (mkF m 123 #[.val (.int p0), .val (.int p1), .val (.int p2), .val (.int p3), .val (.int p4), .val (.int ((p0 &&& (2147483647 : Int32)) % (5 : Int32))), .val (.int v1), .val (.int v3), .val (.int v5), .val (.int v7), .val (.ref v9), .val (.int (Int32.ofNat rr)), .unset, .unset] []))
      refine Gl.st (fun _ kq => XS.iload Xj.here hx rfl (hb hby at_123) rfl kq) ?_
      show Gl p.tables e below _ (Tj.setTop (mkF m 125 #[.val (.int p0), .val (.int p1), .val (.int p2), .val (.int p3), .val (.int p4), .val (.int ((p0 &&& (2147483647 : Int32)) % (5 : Int32))), .val (.int v1), .val (.int v3), .val (.int v5), .val (.int v7), .val (.ref v9), .val (.int (Int32.ofNat rr)), .unset, .unset] [(.int (Int32.ofNat rr))]))
      refine Gl.st (fun _ kq => XS.ifYes Xj.here hx rfl (pc0 := 125) (pc' := 132) rfl (hb hby at_125) rfl ((if0 _ _).trans (flt ((n32_nn (by omega)) : ¬ ((Int32.ofNat rr) < (0 : Int32)))).2.1) (by decide) (by decide) kq) ?_
      show Gl p.tables e below _ (Tj.setTop (mkF m 132 #[.val (.int p0), .val (.int p1), .val (.int p2), .val (.int p3), .val (.int p4), .val (.int ((p0 &&& (2147483647 : Int32)) % (5 : Int32))), .val (.int v1), .val (.int v3), .val (.int v5), .val (.int v7), .val (.ref v9), .val (.int (Int32.ofNat rr)), .unset, .unset] []))
      refine Gl.st (fun _ kq => XS.iload Xj.here hx rfl (hb hby at_132) rfl kq) ?_
      show Gl p.tables e below _ (Tj.setTop (mkF m 134 #[.val (.int p0), .val (.int p1), .val (.int p2), .val (.int p3), .val (.int p4), .val (.int ((p0 &&& (2147483647 : Int32)) % (5 : Int32))), .val (.int v1), .val (.int v3), .val (.int v5), .val (.int v7), .val (.ref v9), .val (.int (Int32.ofNat rr)), .unset, .unset] [(.int (Int32.ofNat rr))]))
      refine Gl.st (fun _ kq => XS.iload Xj.here hx rfl (hb hby at_134) rfl kq) ?_
      show Gl p.tables e below _ (Tj.setTop (mkF m 136 #[.val (.int p0), .val (.int p1), .val (.int p2), .val (.int p3), .val (.int p4), .val (.int ((p0 &&& (2147483647 : Int32)) % (5 : Int32))), .val (.int v1), .val (.int v3), .val (.int v5), .val (.int v7), .val (.ref v9), .val (.int (Int32.ofNat rr)), .unset, .unset] [(.int v1), (.int (Int32.ofNat rr))]))
      refine Gl.st (fun _ kq => XS.iload Xj.here hx rfl (hb hby at_136) rfl kq) ?_
      show Gl p.tables e below _ (Tj.setTop (mkF m 138 #[.val (.int p0), .val (.int p1), .val (.int p2), .val (.int p3), .val (.int p4), .val (.int ((p0 &&& (2147483647 : Int32)) % (5 : Int32))), .val (.int v1), .val (.int v3), .val (.int v5), .val (.int v7), .val (.ref v9), .val (.int (Int32.ofNat rr)), .unset, .unset] [(.int v3), (.int v1), (.int (Int32.ofNat rr))]))
      refine Gl.st (fun _ kq => XS.iload Xj.here hx rfl (hb hby at_138) rfl kq) ?_
      show Gl p.tables e below _ (Tj.setTop (mkF m 140 #[.val (.int p0), .val (.int p1), .val (.int p2), .val (.int p3), .val (.int p4), .val (.int ((p0 &&& (2147483647 : Int32)) % (5 : Int32))), .val (.int v1), .val (.int v3), .val (.int v5), .val (.int v7), .val (.ref v9), .val (.int (Int32.ofNat rr)), .unset, .unset] [(.int v5), (.int v3), (.int v1), (.int (Int32.ofNat rr))]))
      refine Gl.st (fun _ kq => XS.iload Xj.here hx rfl (hb hby at_140) rfl kq) ?_
      show Gl p.tables e below _ (Tj.setTop (mkF m 142 #[.val (.int p0), .val (.int p1), .val (.int p2), .val (.int p3), .val (.int p4), .val (.int ((p0 &&& (2147483647 : Int32)) % (5 : Int32))), .val (.int v1), .val (.int v3), .val (.int v5), .val (.int v7), .val (.ref v9), .val (.int (Int32.ofNat rr)), .unset, .unset] [(.int v7), (.int v5), (.int v3), (.int v1), (.int (Int32.ofNat rr))]))
      obtain ⟨_, _, ⟨T26, L26, k26, n26⟩, -, X26, S26, g26, ⟨Lc26, hQ26, l26, y26, z26, R26⟩, st26⟩ := callSS Xj hx (y := (⟨"com/example/neighbor_keys/neighborkeys/model/RelatedNameOfPinLaw", "mk", "(ICCCC)Ljava/lang/String;"⟩ : MethodName)) hoj (mvT hZj (tw hw 5 rfl)) (mvT hZj (tw hw 6 rfl)) (mvT hZj (tw hw 3 rfl)) (mvT hZj (tw hw 7 rfl)) (by decide) (backOfSH (W := 0) (rm_mk l Z a0 hw [] ((Int32.ofNat rr)) (v1) (v3) (v5) (v7) (G1) hj n0 zj fj_0 y2_0 y4_0 y6_0 y8_0 O2 P5) hZj (tw hw 7 rfl) (tw hw 3 rfl) (by decide) (by decide) (elW hw) Cj.1) (g := (mkF m 142 #[.val (.int p0), .val (.int p1), .val (.int p2), .val (.int p3), .val (.int p4), .val (.int ((p0 &&& (2147483647 : Int32)) % (5 : Int32))), .val (.int v1), .val (.int v3), .val (.int v5), .val (.int v7), .val (.ref v9), .val (.int (Int32.ofNat rr)), .unset, .unset] [(.int v7), (.int v5), (.int v3), (.int v1), (.int (Int32.ofNat rr))])) rfl (by rw [hml]; rfl) (argsL := [(.int (Int32.ofNat rr)), (.int v1), (.int v3), (.int v5), (.int v7)]) (rest := []) (lenOf pd__ICCCC_Ljava_lang_String_ rfl) rfl (by show 2 * 0 + _ ≤ _; exact Nat.le_of_eq rfl) (hb hby at_142) (fun _ _ => ⟨rfl, ej, (by decide : 3 + 3 ≤ _), (by decide : 12 + 12 ≤ _)⟩)
      dsimp only [Pt.U, Pt.locs, Pt.cells, Pt.slots] at X26 l26 y26 z26 st26 hQ26 R26
      subst l26 y26 z26
      obtain ⟨X26, S26, hZ26, ho26⟩ := rebS hSj (Nat.le_trans hkj (Nat.le_of_eq (congrArg Array.size ej).symm)) X26 S26 g26 hZj hoj
      obtain ⟨v22, v23, v24, v25, rfl, N26, K26, q26_0, q26_1, q26_2, q26_3, y26_0⟩ := hQ26
      have C27 : CHr Z consts_1 s.vm h0 T26.vm T26.heap := Cj.trans R26
      have M26 := Fr.app Nj N26
      refine Gl.to st26 ?_
      show Gl p.tables e below _ (T26.setTop (mkF m 145 #[.val (.int p0), .val (.int p1), .val (.int p2), .val (.int p3), .val (.int p4), .val (.int ((p0 &&& (2147483647 : Int32)) % (5 : Int32))), .val (.int v1), .val (.int v3), .val (.int v5), .val (.int v7), .val (.ref v9), .val (.int (Int32.ofNat rr)), .unset, .unset] [(.ref v22)]))
      show Gl p.tables e below _ (T26.setTop (mkF m 145 #[.val (.int p0), .val (.int p1), .val (.int p2), .val (.int p3), .val (.int p4), .val (.int ((p0 &&& (2147483647 : Int32)) % (5 : Int32))), .val (.int v1), .val (.int v3), .val (.int v5), .val (.int v7), .val (.ref v9), .val (.int (Int32.ofNat rr)), .unset, .unset] [(.ref v22)]))
      refine Gl.st (fun _ kq => XS.astore X26.here hx rfl (hb hby at_145) rfl rfl (l' := #[.val (.int p0), .val (.int p1), .val (.int p2), .val (.int p3), .val (.int p4), .val (.int ((p0 &&& (2147483647 : Int32)) % (5 : Int32))), .val (.int v1), .val (.int v3), .val (.int v5), .val (.int v7), .val (.ref v9), .val (.int (Int32.ofNat rr)), .val (.ref v22), .unset]) rfl kq) ?_
      show Gl p.tables e below _ (T26.setTop (mkF m 147 #[.val (.int p0), .val (.int p1), .val (.int p2), .val (.int p3), .val (.int p4), .val (.int ((p0 &&& (2147483647 : Int32)) % (5 : Int32))), .val (.int v1), .val (.int v3), .val (.int v5), .val (.int v7), .val (.ref v9), .val (.int (Int32.ofNat rr)), .val (.ref v22), .unset] []))
      refine Gl.st (fun _ kq => XS.aload X26.here hx rfl (hb hby at_147) rfl rfl kq) ?_
      show Gl p.tables e below _ (T26.setTop (mkF m 149 #[.val (.int p0), .val (.int p1), .val (.int p2), .val (.int p3), .val (.int p4), .val (.int ((p0 &&& (2147483647 : Int32)) % (5 : Int32))), .val (.int v1), .val (.int v3), .val (.int v5), .val (.int v7), .val (.ref v9), .val (.int (Int32.ofNat rr)), .val (.ref v22), .unset] [(.ref v9)]))
      have f28 : Exa Z T26.heap v9 "java/lang/String" := (fj_1.keep K26)
      have f29 : Fld Z T26.heap v9 "java/lang/String" "coder" "B" (.int 0) := (fj_2.keep K26 nin0)
      have f30 : Fld Z T26.heap v9 "java/lang/String" "value" "[B" (.ref v10) := (fj_3.keep K26 nin0)
      have f31 : Arv Z T26.heap v10 v11 .byte (Int32.ofNat v12.length) ((v12.map (fun c => c.toInt8.toInt32)).map Value.int) (.int 0) := (fj_4.keep K26 nin0)
      have f32 : Old Z n0 T26.heap := (fj_0.keep K26 all0)
      obtain ⟨_, _, ⟨T38, L38, k38, n38⟩, -, X38, S38, g38, ⟨Lc38, hQ38, l38, y38, z38, R38⟩, st38⟩ := callSS X26 hx (y := (⟨"com/example/neighbor_keys/neighborkeys/model/Related", "nameOf", "(Ljava/lang/String;)Ljava/lang/String;"⟩ : MethodName)) ho26 (mvT hZ26 (tw hw 16 rfl)) (mvT hZ26 (tw hw 17 rfl)) (mvT hZ26 (tw hw 18 rfl)) (mvT hZ26 (tw hw 19 rfl)) (by decide) (backOfSH (W := 0) (rm_no l Z a0 hw [] (v9) (v10) (v11) (v12) (G1) (G3) T26.heap n0 (Nat.le_trans zj K26.1) f28 f29 f30 f31 f32 hrg hle O2 P5 O4 rG3) hZ26 (tw hw 19 rfl) (tw hw 18 rfl) (by decide) (by decide) (elW hw) C27.1) (g := (mkF m 149 #[.val (.int p0), .val (.int p1), .val (.int p2), .val (.int p3), .val (.int p4), .val (.int ((p0 &&& (2147483647 : Int32)) % (5 : Int32))), .val (.int v1), .val (.int v3), .val (.int v5), .val (.int v7), .val (.ref v9), .val (.int (Int32.ofNat rr)), .val (.ref v22), .unset] [(.ref v9)])) rfl (by rw [hml]; rfl) (argsL := [(.ref v9)]) (rest := []) (lenOf pd__Ljava_lang_String__Ljava_lang_String_ rfl) rfl (by show 2 * 0 + _ ≤ _; exact Nat.le_of_eq rfl) (hb hby at_149) (fun _ _ => ⟨rfl, rfl, (by decide : 6 + 2 ≤ _), (by decide : 24 + 8 ≤ _)⟩)
      dsimp only [Pt.U, Pt.locs, Pt.cells, Pt.slots] at X38 l38 y38 z38 st38 hQ38 R38
      subst l38 y38 z38
      obtain ⟨X38, S38, hZ38, ho38⟩ := rebS S26 (Nat.le_trans (Nat.le_refl _) (Nat.le_of_eq (congrArg Array.size rfl).symm)) X38 S38 g38 hZ26 ho26
      rcases hQ38 with ⟨v33, v34, v35, v36, v37, rfl, N38, K38, q38_0, q38_1, q38_2, q38_3, y38_0, y38_1⟩ | ⟨rfl, N38, e38, y38_0⟩
      · have C39 : CHr Z consts_1 s.vm h0 T38.vm T38.heap := C27.trans R38
        have M38 := Fr.app M26 N38
        refine Gl.to st38 ?_
        show Gl p.tables e below _ (T38.setTop (mkF m 152 #[.val (.int p0), .val (.int p1), .val (.int p2), .val (.int p3), .val (.int p4), .val (.int ((p0 &&& (2147483647 : Int32)) % (5 : Int32))), .val (.int v1), .val (.int v3), .val (.int v5), .val (.int v7), .val (.ref v9), .val (.int (Int32.ofNat rr)), .val (.ref v22), .unset] [(.ref v34)]))
        obtain rfl : rr = v33 := first_uniq hfi y38_0
        refine Gl.st (fun _ kq => XS.astore X38.here hx rfl (hb hby at_152) rfl rfl (l' := #[.val (.int p0), .val (.int p1), .val (.int p2), .val (.int p3), .val (.int p4), .val (.int ((p0 &&& (2147483647 : Int32)) % (5 : Int32))), .val (.int v1), .val (.int v3), .val (.int v5), .val (.int v7), .val (.ref v9), .val (.int (Int32.ofNat rr)), .val (.ref v22), .val (.ref v34)]) rfl kq) ?_
        show Gl p.tables e below _ (T38.setTop (mkF m 154 #[.val (.int p0), .val (.int p1), .val (.int p2), .val (.int p3), .val (.int p4), .val (.int ((p0 &&& (2147483647 : Int32)) % (5 : Int32))), .val (.int v1), .val (.int v3), .val (.int v5), .val (.int v7), .val (.ref v9), .val (.int (Int32.ofNat rr)), .val (.ref v22), .val (.ref v34)] []))
        refine Gl.st (fun _ kq => XS.aload X38.here hx rfl (hb hby at_154) rfl rfl kq) ?_
        show Gl p.tables e below _ (T38.setTop (mkF m 156 #[.val (.int p0), .val (.int p1), .val (.int p2), .val (.int p3), .val (.int p4), .val (.int ((p0 &&& (2147483647 : Int32)) % (5 : Int32))), .val (.int v1), .val (.int v3), .val (.int v5), .val (.int v7), .val (.ref v9), .val (.int (Int32.ofNat rr)), .val (.ref v22), .val (.ref v34)] [(.ref v22)]))
        refine Gl.st (fun _ kq => XS.ifnonnullYes X38.here hx rfl (pc0 := 156) (pc' := 170) rfl (hb hby at_156) rfl (by decide) (by decide) kq) ?_
        show Gl p.tables e below _ (T38.setTop (mkF m 170 #[.val (.int p0), .val (.int p1), .val (.int p2), .val (.int p3), .val (.int p4), .val (.int ((p0 &&& (2147483647 : Int32)) % (5 : Int32))), .val (.int v1), .val (.int v3), .val (.int v5), .val (.int v7), .val (.ref v9), .val (.int (Int32.ofNat rr)), .val (.ref v22), .val (.ref v34)] []))
        refine Gl.st (fun _ kq => XS.aload X38.here hx rfl (hb hby at_170) rfl rfl kq) ?_
        show Gl p.tables e below _ (T38.setTop (mkF m 172 #[.val (.int p0), .val (.int p1), .val (.int p2), .val (.int p3), .val (.int p4), .val (.int ((p0 &&& (2147483647 : Int32)) % (5 : Int32))), .val (.int v1), .val (.int v3), .val (.int v5), .val (.int v7), .val (.ref v9), .val (.int (Int32.ofNat rr)), .val (.ref v22), .val (.ref v34)] [(.ref v34)]))
        refine Gl.st (fun _ kq => XS.ifnullNo X38.here hx rfl (hb hby at_172) rfl kq) ?_
        show Gl p.tables e below _ (T38.setTop (mkF m 175 #[.val (.int p0), .val (.int p1), .val (.int p2), .val (.int p3), .val (.int p4), .val (.int ((p0 &&& (2147483647 : Int32)) % (5 : Int32))), .val (.int v1), .val (.int v3), .val (.int v5), .val (.int v7), .val (.ref v9), .val (.int (Int32.ofNat rr)), .val (.ref v22), .val (.ref v34)] []))
        refine Gl.st (fun _ kq => XS.aload X38.here hx rfl (hb hby at_175) rfl rfl kq) ?_
        show Gl p.tables e below _ (T38.setTop (mkF m 177 #[.val (.int p0), .val (.int p1), .val (.int p2), .val (.int p3), .val (.int p4), .val (.int ((p0 &&& (2147483647 : Int32)) % (5 : Int32))), .val (.int v1), .val (.int v3), .val (.int v5), .val (.int v7), .val (.ref v9), .val (.int (Int32.ofNat rr)), .val (.ref v22), .val (.ref v34)] [(.ref v22)]))
        refine Gl.st (fun _ kq => XS.aload X38.here hx rfl (hb hby at_177) rfl rfl kq) ?_
        show Gl p.tables e below _ (T38.setTop (mkF m 179 #[.val (.int p0), .val (.int p1), .val (.int p2), .val (.int p3), .val (.int p4), .val (.int ((p0 &&& (2147483647 : Int32)) % (5 : Int32))), .val (.int v1), .val (.int v3), .val (.int v5), .val (.int v7), .val (.ref v9), .val (.int (Int32.ofNat rr)), .val (.ref v22), .val (.ref v34)] [(.ref v34), (.ref v22)]))
        have heq : v25 = v37 := by rw [y26_0]; exact tk_take hk5 y13_0 hrl y38_1
        have f40 : Exa Z T38.heap v22 "java/lang/String" := (q26_0.keep K38)
        have f41 : Fld Z T38.heap v22 "java/lang/String" "value" "[B" (.ref v23) := (q26_2.keep K38 nin0)
        have f42 : Fld Z T38.heap v22 "java/lang/String" "coder" "B" (.int 0) := (q26_1.keep K38 nin0)
        have f43 : Arv Z T38.heap v23 v24 .byte (Int32.ofNat v25.length) ((v25.map (fun c => c.toInt8.toInt32)).map Value.int) (.int 0) := (q26_3.keep K38 nin0)
        have f44 : Old Z n0 T38.heap := (f32.keep K38 all0)
        obtain ⟨cq45, kq45, q45a, q45b, q45c⟩ := isOf hZ38 rfl f40
        obtain ⟨_, _, ⟨T45, L45, k45, n45⟩, -, X45, ⟨Lc45, hQ45, l45, y45, z45⟩, st45⟩ := X38.virtualBack hx (y := (⟨"java/lang/String", "equals", "(Ljava/lang/Object;)Z"⟩ : MethodName)) (z := (⟨"java/lang/String", "equals", "(Ljava/lang/Object;)Z"⟩ : MethodName)) ho38 (mvT hZ38 (tw hw 104 rfl)) (mvT hZ38 (tw hw 105 rfl)) (notFace_of_selects (args := #[]) (mvT hZ38 (tw hw 107 rfl))) (mvT hZ38 (tw hw 107 rfl)) (mvT hZ38 (tw hw 106 rfl)) (by decide) (StrChars.Road.eqW (W := 0) hZ38 (wdEq hw) (kI := 4) (tw hw 10 rfl) f40 f41 f42 f43 (StrChars.Road.codOf (cs := v25) rfl (fun x hx => ((show ∀ c ∈ v25, ¬ c < 0 ∧ ¬ (255 : Int32) < c from by rw [y26_0]; exact tk_rng y2_0 y4_0 y6_0 y8_0) x hx).2)) (up255 _ (show ∀ c ∈ v25, ¬ c < 0 ∧ ¬ (255 : Int32) < c from by rw [y26_0]; exact tk_rng y2_0 y4_0 y6_0 y8_0)) (by rw [y26_0]; exact Nat.le_trans (tk_le _ _ _ _ _) (by decide)) q38_0 q38_2 q38_1 q38_3 (StrChars.Road.codOf (cs := v37) rfl (fun x hx => ((show ∀ c ∈ v37, ¬ c < 0 ∧ ¬ (255 : Int32) < c from by rw [y38_1]; exact Rng.sub hrg _ _) x hx).2)) (up255 _ (show ∀ c ∈ v37, ¬ c < 0 ∧ ¬ (255 : Int32) < c from by rw [y38_1]; exact Rng.sub hrg _ _)) (by rw [y38_1]; simp; omega) (O2.ext f44.2) P5 (by decide) (by decide)) q45a q45c (g := (mkF m 179 #[.val (.int p0), .val (.int p1), .val (.int p2), .val (.int p3), .val (.int p4), .val (.int ((p0 &&& (2147483647 : Int32)) % (5 : Int32))), .val (.int v1), .val (.int v3), .val (.int v5), .val (.int v7), .val (.ref v9), .val (.int (Int32.ofNat rr)), .val (.ref v22), .val (.ref v34)] [(.ref v34), (.ref v22)])) rfl (by rw [hml]; rfl) (Steps.refl _) (argsL := [(.ref v34)]) (rest := []) (lenOf pd__Ljava_lang_Object__Z rfl) rfl (by show 2 * 0 + _ ≤ _; exact Nat.le_of_eq rfl) (hb hby at_179) (fun _ _ => ⟨rfl, rfl, (by decide : 8 + 0 ≤ _), (by decide : 32 + 0 ≤ _)⟩)
        dsimp only [Pt.U, Pt.locs, Pt.cells, Pt.slots] at X45 l45 y45 z45 st45 hQ45
        subst l45 y45 z45
        obtain ⟨⟨rfl, y45_0⟩ | ⟨rfl, y45_0⟩, rfl, e45⟩ := hQ45
        · have N45 : Fr n0 ([] : List Loc) := Fr.nil n0
          have M45 := Fr.app M38 N45
          refine Gl.to st45 ?_
          show Gl p.tables e below _ (T45.setTop (mkF m 182 #[.val (.int p0), .val (.int p1), .val (.int p2), .val (.int p3), .val (.int p4), .val (.int ((p0 &&& (2147483647 : Int32)) % (5 : Int32))), .val (.int v1), .val (.int v3), .val (.int v5), .val (.int v7), .val (.ref v9), .val (.int (Int32.ofNat rr)), .val (.ref v22), .val (.ref v34)] [(.int 1)]))
          refine Gl.st (fun _ kq => XS.ifNo X45.here hx rfl (hb hby at_182) rfl ((if0 _ _).trans (feq ((by decide) : ¬ ((1 : Int32) = (0 : Int32)))).1) kq) ?_
          show Gl p.tables e below _ (T45.setTop (mkF m 185 #[.val (.int p0), .val (.int p1), .val (.int p2), .val (.int p3), .val (.int p4), .val (.int ((p0 &&& (2147483647 : Int32)) % (5 : Int32))), .val (.int v1), .val (.int v3), .val (.int v5), .val (.int v7), .val (.ref v9), .val (.int (Int32.ofNat rr)), .val (.ref v22), .val (.ref v34)] []))
          refine Gl.st (fun _ kq => XS.iconst X45.here hx rfl (hb hby at_185) kq) ?_
          show Gl p.tables e below _ (T45.setTop (mkF m 186 #[.val (.int p0), .val (.int p1), .val (.int p2), .val (.int p3), .val (.int p4), .val (.int ((p0 &&& (2147483647 : Int32)) % (5 : Int32))), .val (.int v1), .val (.int v3), .val (.int v5), .val (.int v7), .val (.ref v9), .val (.int (Int32.ofNat rr)), .val (.ref v22), .val (.ref v34)] [(.int 1)]))
          refine Gl.st (fun _ kq => XS.goto X45.here hx rfl (pc0 := 186) (pc' := 190) rfl (hb hby at_186) (by decide) (by decide) kq) ?_
          show Gl p.tables e below _ (T45.setTop (mkF m 190 #[.val (.int p0), .val (.int p1), .val (.int p2), .val (.int p3), .val (.int p4), .val (.int ((p0 &&& (2147483647 : Int32)) % (5 : Int32))), .val (.int v1), .val (.int v3), .val (.int v5), .val (.int v7), .val (.ref v9), .val (.int (Int32.ofNat rr)), .val (.ref v22), .val (.ref v34)] [(.int 1)]))
          exact Gl.retNH X45 hx S38 (Nat.le_trans (Nat.le_refl _) (Nat.le_of_eq (congrArg Array.size e45).symm)) (by rw [hh, e45]; exact C39.trans (CHv.at X45 hZ38 (elW hw) C39.1)) (t := .boolean) Bd.returns (by simp) (hb hby at_190) hlk (by decide) (by decide) (by rw [e45]; exact ⟨rfl, M45⟩)
        · exact absurd heq y45_0
      · exact (first_no hfi y38_0).elim
  refine Gl.st (fun _ kq => XS.iload X13.here hx rfl (hb hby at_51) rfl kq) ?_
  show Gl p.tables e below _ (T13.setTop (mkF m 53 #[.val (.int p0), .val (.int p1), .val (.int p2), .val (.int p3), .val (.int p4), .val (.int ((p0 &&& (2147483647 : Int32)) % (5 : Int32))), .val (.int v1), .val (.int v3), .val (.int v5), .val (.int v7), .val (.ref v9), .val (.int (-1)), .unset, .unset] [(.int ((p0 &&& (2147483647 : Int32)) % (5 : Int32)))]))
  by_cases hc46 : (0 : Int32) < ((p0 &&& (2147483647 : Int32)) % (5 : Int32))
  · refine Gl.st (fun _ kq => XS.ifNo X13.here hx rfl (hb hby at_53) rfl ((if0 _ _).trans (tlt (hc46 : (0 : Int32) < ((p0 &&& (2147483647 : Int32)) % (5 : Int32)))).2.2.2) kq) ?_
    show Gl p.tables e below _ (T13.setTop (mkF m 56 #[.val (.int p0), .val (.int p1), .val (.int p2), .val (.int p3), .val (.int p4), .val (.int ((p0 &&& (2147483647 : Int32)) % (5 : Int32))), .val (.int v1), .val (.int v3), .val (.int v5), .val (.int v7), .val (.ref v9), .val (.int (-1)), .unset, .unset] []))
    refine Gl.st (fun _ kq => XS.iload X13.here hx rfl (hb hby at_56) rfl kq) ?_
    show Gl p.tables e below _ (T13.setTop (mkF m 58 #[.val (.int p0), .val (.int p1), .val (.int p2), .val (.int p3), .val (.int p4), .val (.int ((p0 &&& (2147483647 : Int32)) % (5 : Int32))), .val (.int v1), .val (.int v3), .val (.int v5), .val (.int v7), .val (.ref v9), .val (.int (-1)), .unset, .unset] [(.int v1)]))
    refine Gl.st (fun _ kq => XS.bipush X13.here hx rfl (hb hby at_58) kq) ?_
    show Gl p.tables e below _ (T13.setTop (mkF m 60 #[.val (.int p0), .val (.int p1), .val (.int p2), .val (.int p3), .val (.int p4), .val (.int ((p0 &&& (2147483647 : Int32)) % (5 : Int32))), .val (.int v1), .val (.int v3), .val (.int v5), .val (.int v7), .val (.ref v9), .val (.int (-1)), .unset, .unset] [(.int 46), (.int v1)]))
    by_cases hc47 : v1 = (46 : Int32)
    · refine Gl.st (fun _ kq => XS.icmpNo X13.here hx rfl (hb hby at_60) rfl (teq (hc47 : v1 = (46 : Int32))).2 kq) ?_
      show Gl p.tables e below _ (T13.setTop (mkF m 63 #[.val (.int p0), .val (.int p1), .val (.int p2), .val (.int p3), .val (.int p4), .val (.int ((p0 &&& (2147483647 : Int32)) % (5 : Int32))), .val (.int v1), .val (.int v3), .val (.int v5), .val (.int v7), .val (.ref v9), .val (.int (-1)), .unset, .unset] []))
      refine Gl.st (fun _ kq => XS.iconst X13.here hx rfl (hb hby at_63) kq) ?_
      show Gl p.tables e below _ (T13.setTop (mkF m 64 #[.val (.int p0), .val (.int p1), .val (.int p2), .val (.int p3), .val (.int p4), .val (.int ((p0 &&& (2147483647 : Int32)) % (5 : Int32))), .val (.int v1), .val (.int v3), .val (.int v5), .val (.int v7), .val (.ref v9), .val (.int (-1)), .unset, .unset] [(.int 0)]))
      refine Gl.st (fun _ kq => XS.istore X13.here hx rfl (hb hby at_64) rfl (l' := #[.val (.int p0), .val (.int p1), .val (.int p2), .val (.int p3), .val (.int p4), .val (.int ((p0 &&& (2147483647 : Int32)) % (5 : Int32))), .val (.int v1), .val (.int v3), .val (.int v5), .val (.int v7), .val (.ref v9), .val (.int 0), .unset, .unset]) rfl kq) ?_
      show Gl p.tables e below _ (T13.setTop (mkF m 66 #[.val (.int p0), .val (.int p1), .val (.int p2), .val (.int p3), .val (.int p4), .val (.int ((p0 &&& (2147483647 : Int32)) % (5 : Int32))), .val (.int v1), .val (.int v3), .val (.int v5), .val (.int v7), .val (.ref v9), .val (.int 0), .unset, .unset] []))
      refine Gl.st (fun _ kq => XS.goto X13.here hx rfl (pc0 := 66) (pc' := 123) rfl (hb hby at_66) (by decide) (by decide) kq) ?_
      show Gl p.tables e below _ (T13.setTop (mkF m 123 #[.val (.int p0), .val (.int p1), .val (.int p2), .val (.int p3), .val (.int p4), .val (.int ((p0 &&& (2147483647 : Int32)) % (5 : Int32))), .val (.int v1), .val (.int v3), .val (.int v5), .val (.int v7), .val (.ref v9), .val (.int 0), .unset, .unset] []))
      have f48 : Old Z n0 T13.heap := (pf0.keep K13 all0)
      exact Jj _ _ _ _ _ S13 hZ13 ho13 (Nat.le_refl _) C14 (X13.more (by decide) (by decide)) rfl M13 (Nat.le_trans Z0 K13.1) ((0 : Int32)) f48 q13_0 q13_1 q13_2 q13_3 (by rw [y13_0]; exact dot_0 hk5 hc46 hc47)
    · refine Gl.st (fun _ kq => XS.icmpYes X13.here hx rfl (pc0 := 60) (pc' := 69) rfl (hb hby at_60) rfl (feq (hc47 : ¬ (v1 = (46 : Int32)))).2 (by decide) (by decide) kq) ?_
      show Gl p.tables e below _ (T13.setTop (mkF m 69 #[.val (.int p0), .val (.int p1), .val (.int p2), .val (.int p3), .val (.int p4), .val (.int ((p0 &&& (2147483647 : Int32)) % (5 : Int32))), .val (.int v1), .val (.int v3), .val (.int v5), .val (.int v7), .val (.ref v9), .val (.int (-1)), .unset, .unset] []))
      refine Gl.st (fun _ kq => XS.iload X13.here hx rfl (hb hby at_69) rfl kq) ?_
      show Gl p.tables e below _ (T13.setTop (mkF m 71 #[.val (.int p0), .val (.int p1), .val (.int p2), .val (.int p3), .val (.int p4), .val (.int ((p0 &&& (2147483647 : Int32)) % (5 : Int32))), .val (.int v1), .val (.int v3), .val (.int v5), .val (.int v7), .val (.ref v9), .val (.int (-1)), .unset, .unset] [(.int ((p0 &&& (2147483647 : Int32)) % (5 : Int32)))]))
      refine Gl.st (fun _ kq => XS.iconst X13.here hx rfl (hb hby at_71) kq) ?_
      show Gl p.tables e below _ (T13.setTop (mkF m 72 #[.val (.int p0), .val (.int p1), .val (.int p2), .val (.int p3), .val (.int p4), .val (.int ((p0 &&& (2147483647 : Int32)) % (5 : Int32))), .val (.int v1), .val (.int v3), .val (.int v5), .val (.int v7), .val (.ref v9), .val (.int (-1)), .unset, .unset] [(.int 1), (.int ((p0 &&& (2147483647 : Int32)) % (5 : Int32)))]))
      by_cases hc49 : (1 : Int32) < ((p0 &&& (2147483647 : Int32)) % (5 : Int32))
      · refine Gl.st (fun _ kq => XS.icmpNo X13.here hx rfl (hb hby at_72) rfl (tlt (hc49 : (1 : Int32) < ((p0 &&& (2147483647 : Int32)) % (5 : Int32)))).2.2.2 kq) ?_
        show Gl p.tables e below _ (T13.setTop (mkF m 75 #[.val (.int p0), .val (.int p1), .val (.int p2), .val (.int p3), .val (.int p4), .val (.int ((p0 &&& (2147483647 : Int32)) % (5 : Int32))), .val (.int v1), .val (.int v3), .val (.int v5), .val (.int v7), .val (.ref v9), .val (.int (-1)), .unset, .unset] []))
        refine Gl.st (fun _ kq => XS.iload X13.here hx rfl (hb hby at_75) rfl kq) ?_
        show Gl p.tables e below _ (T13.setTop (mkF m 77 #[.val (.int p0), .val (.int p1), .val (.int p2), .val (.int p3), .val (.int p4), .val (.int ((p0 &&& (2147483647 : Int32)) % (5 : Int32))), .val (.int v1), .val (.int v3), .val (.int v5), .val (.int v7), .val (.ref v9), .val (.int (-1)), .unset, .unset] [(.int v3)]))
        refine Gl.st (fun _ kq => XS.bipush X13.here hx rfl (hb hby at_77) kq) ?_
        show Gl p.tables e below _ (T13.setTop (mkF m 79 #[.val (.int p0), .val (.int p1), .val (.int p2), .val (.int p3), .val (.int p4), .val (.int ((p0 &&& (2147483647 : Int32)) % (5 : Int32))), .val (.int v1), .val (.int v3), .val (.int v5), .val (.int v7), .val (.ref v9), .val (.int (-1)), .unset, .unset] [(.int 46), (.int v3)]))
        by_cases hc50 : v3 = (46 : Int32)
        · refine Gl.st (fun _ kq => XS.icmpNo X13.here hx rfl (hb hby at_79) rfl (teq (hc50 : v3 = (46 : Int32))).2 kq) ?_
          show Gl p.tables e below _ (T13.setTop (mkF m 82 #[.val (.int p0), .val (.int p1), .val (.int p2), .val (.int p3), .val (.int p4), .val (.int ((p0 &&& (2147483647 : Int32)) % (5 : Int32))), .val (.int v1), .val (.int v3), .val (.int v5), .val (.int v7), .val (.ref v9), .val (.int (-1)), .unset, .unset] []))
          refine Gl.st (fun _ kq => XS.iconst X13.here hx rfl (hb hby at_82) kq) ?_
          show Gl p.tables e below _ (T13.setTop (mkF m 83 #[.val (.int p0), .val (.int p1), .val (.int p2), .val (.int p3), .val (.int p4), .val (.int ((p0 &&& (2147483647 : Int32)) % (5 : Int32))), .val (.int v1), .val (.int v3), .val (.int v5), .val (.int v7), .val (.ref v9), .val (.int (-1)), .unset, .unset] [(.int 1)]))
          refine Gl.st (fun _ kq => XS.istore X13.here hx rfl (hb hby at_83) rfl (l' := #[.val (.int p0), .val (.int p1), .val (.int p2), .val (.int p3), .val (.int p4), .val (.int ((p0 &&& (2147483647 : Int32)) % (5 : Int32))), .val (.int v1), .val (.int v3), .val (.int v5), .val (.int v7), .val (.ref v9), .val (.int 1), .unset, .unset]) rfl kq) ?_
          show Gl p.tables e below _ (T13.setTop (mkF m 85 #[.val (.int p0), .val (.int p1), .val (.int p2), .val (.int p3), .val (.int p4), .val (.int ((p0 &&& (2147483647 : Int32)) % (5 : Int32))), .val (.int v1), .val (.int v3), .val (.int v5), .val (.int v7), .val (.ref v9), .val (.int 1), .unset, .unset] []))
          refine Gl.st (fun _ kq => XS.goto X13.here hx rfl (pc0 := 85) (pc' := 123) rfl (hb hby at_85) (by decide) (by decide) kq) ?_
          show Gl p.tables e below _ (T13.setTop (mkF m 123 #[.val (.int p0), .val (.int p1), .val (.int p2), .val (.int p3), .val (.int p4), .val (.int ((p0 &&& (2147483647 : Int32)) % (5 : Int32))), .val (.int v1), .val (.int v3), .val (.int v5), .val (.int v7), .val (.ref v9), .val (.int 1), .unset, .unset] []))
          have f51 : Old Z n0 T13.heap := (pf0.keep K13 all0)
          exact Jj _ _ _ _ _ S13 hZ13 ho13 (Nat.le_refl _) C14 (X13.more (by decide) (by decide)) rfl M13 (Nat.le_trans Z0 K13.1) ((1 : Int32)) f51 q13_0 q13_1 q13_2 q13_3 (by rw [y13_0]; exact dot_1 hk5 hc49 hc47 hc50)
        · refine Gl.st (fun _ kq => XS.icmpYes X13.here hx rfl (pc0 := 79) (pc' := 88) rfl (hb hby at_79) rfl (feq (hc50 : ¬ (v3 = (46 : Int32)))).2 (by decide) (by decide) kq) ?_
          show Gl p.tables e below _ (T13.setTop (mkF m 88 #[.val (.int p0), .val (.int p1), .val (.int p2), .val (.int p3), .val (.int p4), .val (.int ((p0 &&& (2147483647 : Int32)) % (5 : Int32))), .val (.int v1), .val (.int v3), .val (.int v5), .val (.int v7), .val (.ref v9), .val (.int (-1)), .unset, .unset] []))
          refine Gl.st (fun _ kq => XS.iload X13.here hx rfl (hb hby at_88) rfl kq) ?_
          show Gl p.tables e below _ (T13.setTop (mkF m 90 #[.val (.int p0), .val (.int p1), .val (.int p2), .val (.int p3), .val (.int p4), .val (.int ((p0 &&& (2147483647 : Int32)) % (5 : Int32))), .val (.int v1), .val (.int v3), .val (.int v5), .val (.int v7), .val (.ref v9), .val (.int (-1)), .unset, .unset] [(.int ((p0 &&& (2147483647 : Int32)) % (5 : Int32)))]))
          refine Gl.st (fun _ kq => XS.iconst X13.here hx rfl (hb hby at_90) kq) ?_
          show Gl p.tables e below _ (T13.setTop (mkF m 91 #[.val (.int p0), .val (.int p1), .val (.int p2), .val (.int p3), .val (.int p4), .val (.int ((p0 &&& (2147483647 : Int32)) % (5 : Int32))), .val (.int v1), .val (.int v3), .val (.int v5), .val (.int v7), .val (.ref v9), .val (.int (-1)), .unset, .unset] [(.int 2), (.int ((p0 &&& (2147483647 : Int32)) % (5 : Int32)))]))
          by_cases hc52 : (2 : Int32) < ((p0 &&& (2147483647 : Int32)) % (5 : Int32))
          · refine Gl.st (fun _ kq => XS.icmpNo X13.here hx rfl (hb hby at_91) rfl (tlt (hc52 : (2 : Int32) < ((p0 &&& (2147483647 : Int32)) % (5 : Int32)))).2.2.2 kq) ?_
            show Gl p.tables e below _ (T13.setTop (mkF m 94 #[.val (.int p0), .val (.int p1), .val (.int p2), .val (.int p3), .val (.int p4), .val (.int ((p0 &&& (2147483647 : Int32)) % (5 : Int32))), .val (.int v1), .val (.int v3), .val (.int v5), .val (.int v7), .val (.ref v9), .val (.int (-1)), .unset, .unset] []))
            refine Gl.st (fun _ kq => XS.iload X13.here hx rfl (hb hby at_94) rfl kq) ?_
            show Gl p.tables e below _ (T13.setTop (mkF m 96 #[.val (.int p0), .val (.int p1), .val (.int p2), .val (.int p3), .val (.int p4), .val (.int ((p0 &&& (2147483647 : Int32)) % (5 : Int32))), .val (.int v1), .val (.int v3), .val (.int v5), .val (.int v7), .val (.ref v9), .val (.int (-1)), .unset, .unset] [(.int v5)]))
            refine Gl.st (fun _ kq => XS.bipush X13.here hx rfl (hb hby at_96) kq) ?_
            show Gl p.tables e below _ (T13.setTop (mkF m 98 #[.val (.int p0), .val (.int p1), .val (.int p2), .val (.int p3), .val (.int p4), .val (.int ((p0 &&& (2147483647 : Int32)) % (5 : Int32))), .val (.int v1), .val (.int v3), .val (.int v5), .val (.int v7), .val (.ref v9), .val (.int (-1)), .unset, .unset] [(.int 46), (.int v5)]))
            by_cases hc53 : v5 = (46 : Int32)
            · refine Gl.st (fun _ kq => XS.icmpNo X13.here hx rfl (hb hby at_98) rfl (teq (hc53 : v5 = (46 : Int32))).2 kq) ?_
              show Gl p.tables e below _ (T13.setTop (mkF m 101 #[.val (.int p0), .val (.int p1), .val (.int p2), .val (.int p3), .val (.int p4), .val (.int ((p0 &&& (2147483647 : Int32)) % (5 : Int32))), .val (.int v1), .val (.int v3), .val (.int v5), .val (.int v7), .val (.ref v9), .val (.int (-1)), .unset, .unset] []))
              refine Gl.st (fun _ kq => XS.iconst X13.here hx rfl (hb hby at_101) kq) ?_
              show Gl p.tables e below _ (T13.setTop (mkF m 102 #[.val (.int p0), .val (.int p1), .val (.int p2), .val (.int p3), .val (.int p4), .val (.int ((p0 &&& (2147483647 : Int32)) % (5 : Int32))), .val (.int v1), .val (.int v3), .val (.int v5), .val (.int v7), .val (.ref v9), .val (.int (-1)), .unset, .unset] [(.int 2)]))
              refine Gl.st (fun _ kq => XS.istore X13.here hx rfl (hb hby at_102) rfl (l' := #[.val (.int p0), .val (.int p1), .val (.int p2), .val (.int p3), .val (.int p4), .val (.int ((p0 &&& (2147483647 : Int32)) % (5 : Int32))), .val (.int v1), .val (.int v3), .val (.int v5), .val (.int v7), .val (.ref v9), .val (.int 2), .unset, .unset]) rfl kq) ?_
              show Gl p.tables e below _ (T13.setTop (mkF m 104 #[.val (.int p0), .val (.int p1), .val (.int p2), .val (.int p3), .val (.int p4), .val (.int ((p0 &&& (2147483647 : Int32)) % (5 : Int32))), .val (.int v1), .val (.int v3), .val (.int v5), .val (.int v7), .val (.ref v9), .val (.int 2), .unset, .unset] []))
              refine Gl.st (fun _ kq => XS.goto X13.here hx rfl (pc0 := 104) (pc' := 123) rfl (hb hby at_104) (by decide) (by decide) kq) ?_
              show Gl p.tables e below _ (T13.setTop (mkF m 123 #[.val (.int p0), .val (.int p1), .val (.int p2), .val (.int p3), .val (.int p4), .val (.int ((p0 &&& (2147483647 : Int32)) % (5 : Int32))), .val (.int v1), .val (.int v3), .val (.int v5), .val (.int v7), .val (.ref v9), .val (.int 2), .unset, .unset] []))
              have f54 : Old Z n0 T13.heap := (pf0.keep K13 all0)
              exact Jj _ _ _ _ _ S13 hZ13 ho13 (Nat.le_refl _) C14 (X13.more (by decide) (by decide)) rfl M13 (Nat.le_trans Z0 K13.1) ((2 : Int32)) f54 q13_0 q13_1 q13_2 q13_3 (by rw [y13_0]; exact dot_2 hk5 hc52 hc47 hc50 hc53)
            · refine Gl.st (fun _ kq => XS.icmpYes X13.here hx rfl (pc0 := 98) (pc' := 107) rfl (hb hby at_98) rfl (feq (hc53 : ¬ (v5 = (46 : Int32)))).2 (by decide) (by decide) kq) ?_
              show Gl p.tables e below _ (T13.setTop (mkF m 107 #[.val (.int p0), .val (.int p1), .val (.int p2), .val (.int p3), .val (.int p4), .val (.int ((p0 &&& (2147483647 : Int32)) % (5 : Int32))), .val (.int v1), .val (.int v3), .val (.int v5), .val (.int v7), .val (.ref v9), .val (.int (-1)), .unset, .unset] []))
              refine Gl.st (fun _ kq => XS.iload X13.here hx rfl (hb hby at_107) rfl kq) ?_
              show Gl p.tables e below _ (T13.setTop (mkF m 109 #[.val (.int p0), .val (.int p1), .val (.int p2), .val (.int p3), .val (.int p4), .val (.int ((p0 &&& (2147483647 : Int32)) % (5 : Int32))), .val (.int v1), .val (.int v3), .val (.int v5), .val (.int v7), .val (.ref v9), .val (.int (-1)), .unset, .unset] [(.int ((p0 &&& (2147483647 : Int32)) % (5 : Int32)))]))
              refine Gl.st (fun _ kq => XS.iconst X13.here hx rfl (hb hby at_109) kq) ?_
              show Gl p.tables e below _ (T13.setTop (mkF m 110 #[.val (.int p0), .val (.int p1), .val (.int p2), .val (.int p3), .val (.int p4), .val (.int ((p0 &&& (2147483647 : Int32)) % (5 : Int32))), .val (.int v1), .val (.int v3), .val (.int v5), .val (.int v7), .val (.ref v9), .val (.int (-1)), .unset, .unset] [(.int 3), (.int ((p0 &&& (2147483647 : Int32)) % (5 : Int32)))]))
              by_cases hc55 : (3 : Int32) < ((p0 &&& (2147483647 : Int32)) % (5 : Int32))
              · refine Gl.st (fun _ kq => XS.icmpNo X13.here hx rfl (hb hby at_110) rfl (tlt (hc55 : (3 : Int32) < ((p0 &&& (2147483647 : Int32)) % (5 : Int32)))).2.2.2 kq) ?_
                show Gl p.tables e below _ (T13.setTop (mkF m 113 #[.val (.int p0), .val (.int p1), .val (.int p2), .val (.int p3), .val (.int p4), .val (.int ((p0 &&& (2147483647 : Int32)) % (5 : Int32))), .val (.int v1), .val (.int v3), .val (.int v5), .val (.int v7), .val (.ref v9), .val (.int (-1)), .unset, .unset] []))
                refine Gl.st (fun _ kq => XS.iload X13.here hx rfl (hb hby at_113) rfl kq) ?_
                show Gl p.tables e below _ (T13.setTop (mkF m 115 #[.val (.int p0), .val (.int p1), .val (.int p2), .val (.int p3), .val (.int p4), .val (.int ((p0 &&& (2147483647 : Int32)) % (5 : Int32))), .val (.int v1), .val (.int v3), .val (.int v5), .val (.int v7), .val (.ref v9), .val (.int (-1)), .unset, .unset] [(.int v7)]))
                refine Gl.st (fun _ kq => XS.bipush X13.here hx rfl (hb hby at_115) kq) ?_
                show Gl p.tables e below _ (T13.setTop (mkF m 117 #[.val (.int p0), .val (.int p1), .val (.int p2), .val (.int p3), .val (.int p4), .val (.int ((p0 &&& (2147483647 : Int32)) % (5 : Int32))), .val (.int v1), .val (.int v3), .val (.int v5), .val (.int v7), .val (.ref v9), .val (.int (-1)), .unset, .unset] [(.int 46), (.int v7)]))
                by_cases hc56 : v7 = (46 : Int32)
                · refine Gl.st (fun _ kq => XS.icmpNo X13.here hx rfl (hb hby at_117) rfl (teq (hc56 : v7 = (46 : Int32))).2 kq) ?_
                  show Gl p.tables e below _ (T13.setTop (mkF m 120 #[.val (.int p0), .val (.int p1), .val (.int p2), .val (.int p3), .val (.int p4), .val (.int ((p0 &&& (2147483647 : Int32)) % (5 : Int32))), .val (.int v1), .val (.int v3), .val (.int v5), .val (.int v7), .val (.ref v9), .val (.int (-1)), .unset, .unset] []))
                  refine Gl.st (fun _ kq => XS.iconst X13.here hx rfl (hb hby at_120) kq) ?_
                  show Gl p.tables e below _ (T13.setTop (mkF m 121 #[.val (.int p0), .val (.int p1), .val (.int p2), .val (.int p3), .val (.int p4), .val (.int ((p0 &&& (2147483647 : Int32)) % (5 : Int32))), .val (.int v1), .val (.int v3), .val (.int v5), .val (.int v7), .val (.ref v9), .val (.int (-1)), .unset, .unset] [(.int 3)]))
                  refine Gl.st (fun _ kq => XS.istore X13.here hx rfl (hb hby at_121) rfl (l' := #[.val (.int p0), .val (.int p1), .val (.int p2), .val (.int p3), .val (.int p4), .val (.int ((p0 &&& (2147483647 : Int32)) % (5 : Int32))), .val (.int v1), .val (.int v3), .val (.int v5), .val (.int v7), .val (.ref v9), .val (.int 3), .unset, .unset]) rfl kq) ?_
                  show Gl p.tables e below _ (T13.setTop (mkF m 123 #[.val (.int p0), .val (.int p1), .val (.int p2), .val (.int p3), .val (.int p4), .val (.int ((p0 &&& (2147483647 : Int32)) % (5 : Int32))), .val (.int v1), .val (.int v3), .val (.int v5), .val (.int v7), .val (.ref v9), .val (.int 3), .unset, .unset] []))
                  have f57 : Old Z n0 T13.heap := (pf0.keep K13 all0)
                  exact Jj _ _ _ _ _ S13 hZ13 ho13 (Nat.le_refl _) C14 (X13.more (by decide) (by decide)) rfl M13 (Nat.le_trans Z0 K13.1) ((3 : Int32)) f57 q13_0 q13_1 q13_2 q13_3 (by rw [y13_0]; exact dot_3 hk5 hc55 hc47 hc50 hc53 hc56)
                · refine Gl.st (fun _ kq => XS.icmpYes X13.here hx rfl (pc0 := 117) (pc' := 123) rfl (hb hby at_117) rfl (feq (hc56 : ¬ (v7 = (46 : Int32)))).2 (by decide) (by decide) kq) ?_
                  show Gl p.tables e below _ (T13.setTop (mkF m 123 #[.val (.int p0), .val (.int p1), .val (.int p2), .val (.int p3), .val (.int p4), .val (.int ((p0 &&& (2147483647 : Int32)) % (5 : Int32))), .val (.int v1), .val (.int v3), .val (.int v5), .val (.int v7), .val (.ref v9), .val (.int (-1)), .unset, .unset] []))
                  have f58 : Old Z n0 T13.heap := (pf0.keep K13 all0)
                  exact Jj _ _ _ _ _ S13 hZ13 ho13 (Nat.le_refl _) C14 (X13.more (by decide) (by decide)) rfl M13 (Nat.le_trans Z0 K13.1) ((-1 : Int32)) f58 q13_0 q13_1 q13_2 q13_3 (by rw [y13_0]; exact dot_n4 hk5 hc47 hc50 hc53 hc56)
              · refine Gl.st (fun _ kq => XS.icmpYes X13.here hx rfl (pc0 := 110) (pc' := 123) rfl (hb hby at_110) rfl (flt (hc55 : ¬ ((3 : Int32) < ((p0 &&& (2147483647 : Int32)) % (5 : Int32))))).2.2.2 (by decide) (by decide) kq) ?_
                show Gl p.tables e below _ (T13.setTop (mkF m 123 #[.val (.int p0), .val (.int p1), .val (.int p2), .val (.int p3), .val (.int p4), .val (.int ((p0 &&& (2147483647 : Int32)) % (5 : Int32))), .val (.int v1), .val (.int v3), .val (.int v5), .val (.int v7), .val (.ref v9), .val (.int (-1)), .unset, .unset] []))
                have f59 : Old Z n0 T13.heap := (pf0.keep K13 all0)
                exact Jj _ _ _ _ _ S13 hZ13 ho13 (Nat.le_refl _) C14 (X13.more (by decide) (by decide)) rfl M13 (Nat.le_trans Z0 K13.1) ((-1 : Int32)) f59 q13_0 q13_1 q13_2 q13_3 (by rw [y13_0]; exact dot_n3 hk5 hc55 hc47 hc50 hc53)
          · refine Gl.st (fun _ kq => XS.icmpYes X13.here hx rfl (pc0 := 91) (pc' := 107) rfl (hb hby at_91) rfl (flt (hc52 : ¬ ((2 : Int32) < ((p0 &&& (2147483647 : Int32)) % (5 : Int32))))).2.2.2 (by decide) (by decide) kq) ?_
            show Gl p.tables e below _ (T13.setTop (mkF m 107 #[.val (.int p0), .val (.int p1), .val (.int p2), .val (.int p3), .val (.int p4), .val (.int ((p0 &&& (2147483647 : Int32)) % (5 : Int32))), .val (.int v1), .val (.int v3), .val (.int v5), .val (.int v7), .val (.ref v9), .val (.int (-1)), .unset, .unset] []))
            refine Gl.st (fun _ kq => XS.iload X13.here hx rfl (hb hby at_107) rfl kq) ?_
            show Gl p.tables e below _ (T13.setTop (mkF m 109 #[.val (.int p0), .val (.int p1), .val (.int p2), .val (.int p3), .val (.int p4), .val (.int ((p0 &&& (2147483647 : Int32)) % (5 : Int32))), .val (.int v1), .val (.int v3), .val (.int v5), .val (.int v7), .val (.ref v9), .val (.int (-1)), .unset, .unset] [(.int ((p0 &&& (2147483647 : Int32)) % (5 : Int32)))]))
            refine Gl.st (fun _ kq => XS.iconst X13.here hx rfl (hb hby at_109) kq) ?_
            show Gl p.tables e below _ (T13.setTop (mkF m 110 #[.val (.int p0), .val (.int p1), .val (.int p2), .val (.int p3), .val (.int p4), .val (.int ((p0 &&& (2147483647 : Int32)) % (5 : Int32))), .val (.int v1), .val (.int v3), .val (.int v5), .val (.int v7), .val (.ref v9), .val (.int (-1)), .unset, .unset] [(.int 3), (.int ((p0 &&& (2147483647 : Int32)) % (5 : Int32)))]))
            refine Gl.st (fun _ kq => XS.icmpYes X13.here hx rfl (pc0 := 110) (pc' := 123) rfl (hb hby at_110) rfl (flt ((own_le hc52 (by decide)) : ¬ ((3 : Int32) < ((p0 &&& (2147483647 : Int32)) % (5 : Int32))))).2.2.2 (by decide) (by decide) kq) ?_
            show Gl p.tables e below _ (T13.setTop (mkF m 123 #[.val (.int p0), .val (.int p1), .val (.int p2), .val (.int p3), .val (.int p4), .val (.int ((p0 &&& (2147483647 : Int32)) % (5 : Int32))), .val (.int v1), .val (.int v3), .val (.int v5), .val (.int v7), .val (.ref v9), .val (.int (-1)), .unset, .unset] []))
            have f60 : Old Z n0 T13.heap := (pf0.keep K13 all0)
            exact Jj _ _ _ _ _ S13 hZ13 ho13 (Nat.le_refl _) C14 (X13.more (by decide) (by decide)) rfl M13 (Nat.le_trans Z0 K13.1) ((-1 : Int32)) f60 q13_0 q13_1 q13_2 q13_3 (by rw [y13_0]; exact dot_n2 hk5 hc52 hc47 hc50)
      · refine Gl.st (fun _ kq => XS.icmpYes X13.here hx rfl (pc0 := 72) (pc' := 88) rfl (hb hby at_72) rfl (flt (hc49 : ¬ ((1 : Int32) < ((p0 &&& (2147483647 : Int32)) % (5 : Int32))))).2.2.2 (by decide) (by decide) kq) ?_
        show Gl p.tables e below _ (T13.setTop (mkF m 88 #[.val (.int p0), .val (.int p1), .val (.int p2), .val (.int p3), .val (.int p4), .val (.int ((p0 &&& (2147483647 : Int32)) % (5 : Int32))), .val (.int v1), .val (.int v3), .val (.int v5), .val (.int v7), .val (.ref v9), .val (.int (-1)), .unset, .unset] []))
        refine Gl.st (fun _ kq => XS.iload X13.here hx rfl (hb hby at_88) rfl kq) ?_
        show Gl p.tables e below _ (T13.setTop (mkF m 90 #[.val (.int p0), .val (.int p1), .val (.int p2), .val (.int p3), .val (.int p4), .val (.int ((p0 &&& (2147483647 : Int32)) % (5 : Int32))), .val (.int v1), .val (.int v3), .val (.int v5), .val (.int v7), .val (.ref v9), .val (.int (-1)), .unset, .unset] [(.int ((p0 &&& (2147483647 : Int32)) % (5 : Int32)))]))
        refine Gl.st (fun _ kq => XS.iconst X13.here hx rfl (hb hby at_90) kq) ?_
        show Gl p.tables e below _ (T13.setTop (mkF m 91 #[.val (.int p0), .val (.int p1), .val (.int p2), .val (.int p3), .val (.int p4), .val (.int ((p0 &&& (2147483647 : Int32)) % (5 : Int32))), .val (.int v1), .val (.int v3), .val (.int v5), .val (.int v7), .val (.ref v9), .val (.int (-1)), .unset, .unset] [(.int 2), (.int ((p0 &&& (2147483647 : Int32)) % (5 : Int32)))]))
        refine Gl.st (fun _ kq => XS.icmpYes X13.here hx rfl (pc0 := 91) (pc' := 107) rfl (hb hby at_91) rfl (flt ((own_le hc49 (by decide)) : ¬ ((2 : Int32) < ((p0 &&& (2147483647 : Int32)) % (5 : Int32))))).2.2.2 (by decide) (by decide) kq) ?_
        show Gl p.tables e below _ (T13.setTop (mkF m 107 #[.val (.int p0), .val (.int p1), .val (.int p2), .val (.int p3), .val (.int p4), .val (.int ((p0 &&& (2147483647 : Int32)) % (5 : Int32))), .val (.int v1), .val (.int v3), .val (.int v5), .val (.int v7), .val (.ref v9), .val (.int (-1)), .unset, .unset] []))
        refine Gl.st (fun _ kq => XS.iload X13.here hx rfl (hb hby at_107) rfl kq) ?_
        show Gl p.tables e below _ (T13.setTop (mkF m 109 #[.val (.int p0), .val (.int p1), .val (.int p2), .val (.int p3), .val (.int p4), .val (.int ((p0 &&& (2147483647 : Int32)) % (5 : Int32))), .val (.int v1), .val (.int v3), .val (.int v5), .val (.int v7), .val (.ref v9), .val (.int (-1)), .unset, .unset] [(.int ((p0 &&& (2147483647 : Int32)) % (5 : Int32)))]))
        refine Gl.st (fun _ kq => XS.iconst X13.here hx rfl (hb hby at_109) kq) ?_
        show Gl p.tables e below _ (T13.setTop (mkF m 110 #[.val (.int p0), .val (.int p1), .val (.int p2), .val (.int p3), .val (.int p4), .val (.int ((p0 &&& (2147483647 : Int32)) % (5 : Int32))), .val (.int v1), .val (.int v3), .val (.int v5), .val (.int v7), .val (.ref v9), .val (.int (-1)), .unset, .unset] [(.int 3), (.int ((p0 &&& (2147483647 : Int32)) % (5 : Int32)))]))
        refine Gl.st (fun _ kq => XS.icmpYes X13.here hx rfl (pc0 := 110) (pc' := 123) rfl (hb hby at_110) rfl (flt ((own_le hc49 (by decide)) : ¬ ((3 : Int32) < ((p0 &&& (2147483647 : Int32)) % (5 : Int32))))).2.2.2 (by decide) (by decide) kq) ?_
        show Gl p.tables e below _ (T13.setTop (mkF m 123 #[.val (.int p0), .val (.int p1), .val (.int p2), .val (.int p3), .val (.int p4), .val (.int ((p0 &&& (2147483647 : Int32)) % (5 : Int32))), .val (.int v1), .val (.int v3), .val (.int v5), .val (.int v7), .val (.ref v9), .val (.int (-1)), .unset, .unset] []))
        have f61 : Old Z n0 T13.heap := (pf0.keep K13 all0)
        exact Jj _ _ _ _ _ S13 hZ13 ho13 (Nat.le_refl _) C14 (X13.more (by decide) (by decide)) rfl M13 (Nat.le_trans Z0 K13.1) ((-1 : Int32)) f61 q13_0 q13_1 q13_2 q13_3 (by rw [y13_0]; exact dot_n1 hk5 hc49 hc47)
  · refine Gl.st (fun _ kq => XS.ifYes X13.here hx rfl (pc0 := 53) (pc' := 69) rfl (hb hby at_53) rfl ((if0 _ _).trans (flt (hc46 : ¬ ((0 : Int32) < ((p0 &&& (2147483647 : Int32)) % (5 : Int32))))).2.2.2) (by decide) (by decide) kq) ?_
    show Gl p.tables e below _ (T13.setTop (mkF m 69 #[.val (.int p0), .val (.int p1), .val (.int p2), .val (.int p3), .val (.int p4), .val (.int ((p0 &&& (2147483647 : Int32)) % (5 : Int32))), .val (.int v1), .val (.int v3), .val (.int v5), .val (.int v7), .val (.ref v9), .val (.int (-1)), .unset, .unset] []))
    refine Gl.st (fun _ kq => XS.iload X13.here hx rfl (hb hby at_69) rfl kq) ?_
    show Gl p.tables e below _ (T13.setTop (mkF m 71 #[.val (.int p0), .val (.int p1), .val (.int p2), .val (.int p3), .val (.int p4), .val (.int ((p0 &&& (2147483647 : Int32)) % (5 : Int32))), .val (.int v1), .val (.int v3), .val (.int v5), .val (.int v7), .val (.ref v9), .val (.int (-1)), .unset, .unset] [(.int ((p0 &&& (2147483647 : Int32)) % (5 : Int32)))]))
    refine Gl.st (fun _ kq => XS.iconst X13.here hx rfl (hb hby at_71) kq) ?_
    show Gl p.tables e below _ (T13.setTop (mkF m 72 #[.val (.int p0), .val (.int p1), .val (.int p2), .val (.int p3), .val (.int p4), .val (.int ((p0 &&& (2147483647 : Int32)) % (5 : Int32))), .val (.int v1), .val (.int v3), .val (.int v5), .val (.int v7), .val (.ref v9), .val (.int (-1)), .unset, .unset] [(.int 1), (.int ((p0 &&& (2147483647 : Int32)) % (5 : Int32)))]))
    refine Gl.st (fun _ kq => XS.icmpYes X13.here hx rfl (pc0 := 72) (pc' := 88) rfl (hb hby at_72) rfl (flt ((own_le hc46 (by decide)) : ¬ ((1 : Int32) < ((p0 &&& (2147483647 : Int32)) % (5 : Int32))))).2.2.2 (by decide) (by decide) kq) ?_
    show Gl p.tables e below _ (T13.setTop (mkF m 88 #[.val (.int p0), .val (.int p1), .val (.int p2), .val (.int p3), .val (.int p4), .val (.int ((p0 &&& (2147483647 : Int32)) % (5 : Int32))), .val (.int v1), .val (.int v3), .val (.int v5), .val (.int v7), .val (.ref v9), .val (.int (-1)), .unset, .unset] []))
    refine Gl.st (fun _ kq => XS.iload X13.here hx rfl (hb hby at_88) rfl kq) ?_
    show Gl p.tables e below _ (T13.setTop (mkF m 90 #[.val (.int p0), .val (.int p1), .val (.int p2), .val (.int p3), .val (.int p4), .val (.int ((p0 &&& (2147483647 : Int32)) % (5 : Int32))), .val (.int v1), .val (.int v3), .val (.int v5), .val (.int v7), .val (.ref v9), .val (.int (-1)), .unset, .unset] [(.int ((p0 &&& (2147483647 : Int32)) % (5 : Int32)))]))
    refine Gl.st (fun _ kq => XS.iconst X13.here hx rfl (hb hby at_90) kq) ?_
    show Gl p.tables e below _ (T13.setTop (mkF m 91 #[.val (.int p0), .val (.int p1), .val (.int p2), .val (.int p3), .val (.int p4), .val (.int ((p0 &&& (2147483647 : Int32)) % (5 : Int32))), .val (.int v1), .val (.int v3), .val (.int v5), .val (.int v7), .val (.ref v9), .val (.int (-1)), .unset, .unset] [(.int 2), (.int ((p0 &&& (2147483647 : Int32)) % (5 : Int32)))]))
    refine Gl.st (fun _ kq => XS.icmpYes X13.here hx rfl (pc0 := 91) (pc' := 107) rfl (hb hby at_91) rfl (flt ((own_le hc46 (by decide)) : ¬ ((2 : Int32) < ((p0 &&& (2147483647 : Int32)) % (5 : Int32))))).2.2.2 (by decide) (by decide) kq) ?_
    show Gl p.tables e below _ (T13.setTop (mkF m 107 #[.val (.int p0), .val (.int p1), .val (.int p2), .val (.int p3), .val (.int p4), .val (.int ((p0 &&& (2147483647 : Int32)) % (5 : Int32))), .val (.int v1), .val (.int v3), .val (.int v5), .val (.int v7), .val (.ref v9), .val (.int (-1)), .unset, .unset] []))
    refine Gl.st (fun _ kq => XS.iload X13.here hx rfl (hb hby at_107) rfl kq) ?_
    show Gl p.tables e below _ (T13.setTop (mkF m 109 #[.val (.int p0), .val (.int p1), .val (.int p2), .val (.int p3), .val (.int p4), .val (.int ((p0 &&& (2147483647 : Int32)) % (5 : Int32))), .val (.int v1), .val (.int v3), .val (.int v5), .val (.int v7), .val (.ref v9), .val (.int (-1)), .unset, .unset] [(.int ((p0 &&& (2147483647 : Int32)) % (5 : Int32)))]))
    refine Gl.st (fun _ kq => XS.iconst X13.here hx rfl (hb hby at_109) kq) ?_
    show Gl p.tables e below _ (T13.setTop (mkF m 110 #[.val (.int p0), .val (.int p1), .val (.int p2), .val (.int p3), .val (.int p4), .val (.int ((p0 &&& (2147483647 : Int32)) % (5 : Int32))), .val (.int v1), .val (.int v3), .val (.int v5), .val (.int v7), .val (.ref v9), .val (.int (-1)), .unset, .unset] [(.int 3), (.int ((p0 &&& (2147483647 : Int32)) % (5 : Int32)))]))
    refine Gl.st (fun _ kq => XS.icmpYes X13.here hx rfl (pc0 := 110) (pc' := 123) rfl (hb hby at_110) rfl (flt ((own_le hc46 (by decide)) : ¬ ((3 : Int32) < ((p0 &&& (2147483647 : Int32)) % (5 : Int32))))).2.2.2 (by decide) (by decide) kq) ?_
    show Gl p.tables e below _ (T13.setTop (mkF m 123 #[.val (.int p0), .val (.int p1), .val (.int p2), .val (.int p3), .val (.int p4), .val (.int ((p0 &&& (2147483647 : Int32)) % (5 : Int32))), .val (.int v1), .val (.int v3), .val (.int v5), .val (.int v7), .val (.ref v9), .val (.int (-1)), .unset, .unset] []))
    have f62 : Old Z n0 T13.heap := (pf0.keep K13 all0)
    exact Jj _ _ _ _ _ S13 hZ13 ho13 (Nat.le_refl _) C14 (X13.more (by decide) (by decide)) rfl M13 (Nat.le_trans Z0 K13.1) ((-1 : Int32)) f62 q13_0 q13_1 q13_2 q13_3 (by rw [y13_0]; exact dot_n0 hk5 hc46)
set_option maxRecDepth 65536 in
set_option maxHeartbeats 40000000 in
theorem comes_1 {Post : Tables → Env → Array Value → State → Outcome → State → Prop} (hpost : ∀ tb e args s v u, (limb_1_1.after args s (.returned v) u = true ∧ limb_1_2.after args s (.returned v) u = true ∧ True) → Jvm.ReturnedEndW s (.returned v) u (Jvm.fieldLocs frame_1_writes args s ++ Jvm.arrayLocs frame_1_arrays args s ++ Jvm.staticLocs frame_1_statics s) 32 2240 → Post tb e args s (.returned v) u) :
    ArmFor flags0 classFile x code maxLocals ret World_1 tables_1 room_1 Calls_1 rest_1 Pre_1 Post := by
  intro l hfl _ _ p e ha hc hk s m args below hf hA hF happ hP
  obtain ⟨hcalls, hrest, hpre⟩ := hP
  obtain ⟨-, -, -, hnamed, -, -, -, hat⟩ := (Spec.applies_iff hf).mp happ
  obtain ⟨hg, hn⟩ := and_e (Cond.before_iff.mp (show (Jvm.Cond.and given_1 narrow_1).before args s = true from hpre))
  obtain ⟨hcnt, g0⟩ := and_e hg
  obtain ⟨u0, g1⟩ := and_e g0
  obtain ⟨u1, g2⟩ := and_e g1
  obtain ⟨u2, g3⟩ := and_e g2
  obtain ⟨u3, g4⟩ := and_e g3
  have u4 := g4
  obtain ⟨w0, w1, w2, w3, w4, rfl⟩ : ∃ w0 w1 w2 w3 w4 : Value, args = #[w0, w1, w2, w3, w4] := by
    have hs : args.size = 5 := by simpa [Cond.value, given_1] using hcnt
    obtain ⟨L⟩ := args
    match L, hs with
    | [w0, w1, w2, w3, w4], _ => exact ⟨w0, w1, w2, w3, w4, rfl⟩
  have hw := fun d (hd : d ∈ tables_1) => atoms_spec (ws := Jvm.Cond.code x code maxLocals ret :: tables_1) hat d (List.mem_cons_of_mem _ hd)
  have hfit : Fit s := fun {y c} hc i hi => by
    obtain ⟨ha, rfl⟩ := Array.getElem?_eq_some_iff.mp hc
    have q := List.all_eq_true.mp ((Array.all_eq_true_iff_forall_mem.mp hF) _ (Array.getElem_mem ha)) i (List.mem_range.mpr hi)
    simpa [Array.getElem?_eq_getElem hi] using q
  obtain ⟨hsets, hown0⟩ := atoms_of _ (rest_1_c_eq ▸ (show rest_1_c.before _ s = true from hrest))
  have hr0 := Cond.before_iff.mp hown0
  obtain ⟨i0, ei0⟩ := is_v u0
  obtain rfl : w0 = (.int i0) := Option.some.inj ei0
  obtain ⟨i1, ei1⟩ := is_v u1
  obtain rfl : w1 = (.int i1) := Option.some.inj ei1
  obtain ⟨i2, ei2⟩ := is_v u2
  obtain rfl : w2 = (.int i2) := Option.some.inj ei2
  obtain ⟨i3, ei3⟩ := is_v u3
  obtain rfl : w3 = (.int i3) := Option.some.inj ei3
  obtain ⟨i4, ei4⟩ := is_v u4
  obtain rfl : w4 = (.int i4) := Option.some.inj ei4
  obtain ⟨iG, eG⟩ := is_v (Cond.before_iff.mp (hsets _ (List.mem_of_getElem? (i := 1) rfl)))
  have SG : Sta s s.heap "java/lang/String" "COMPACT_STRINGS" "Z" (.int iG) := Sta.start eG (Or.inl (hsets _ (List.mem_of_getElem? (i := 0) rfl)))
  have cG : ¬ (iG = (0 : Int32)) := gotF (Cond.eq_ints eG (Term.int_eval (0))) (not_v (Cond.before_iff.mp (hsets _ (List.mem_of_getElem? (i := 2) rfl))))
  obtain ⟨vF, eF, rF⟩ := isR_v (Cond.before_iff.mp (hsets _ (List.mem_of_getElem? (i := 8) rfl)))
  have SF : Sta s s.heap "jdk/internal/util/Preconditions" "SIOOBE_FORMATTER" "Ljava/util/function/BiFunction;" vF := Sta.start eF (Or.inl (hsets _ (List.mem_of_getElem? (i := 7) rfl)))
  have hCH : CHv s consts_1 s.vm s.heap := CHv.start (elW hw) (fun p hp => hcalls.1 p hp) (hsets _ (List.mem_of_getElem? (i := 2) rfl)) (tw hw 11 rfl) (tw hw 10 rfl)
  obtain ⟨n, o, h1, h2, h3, _, L, rfl, ⟨rfl, N⟩, -, hq⟩ := rm_law l s _ hw tables_1 i0 i1 i2 i3 i4 iG vF s.heap s.heap.size (Nat.le_refl _) (Old.start s) SG cG SF rF p e ha hc hk s m _ below hf ((Spec.applies_iff_loose hf).mp happ).1 ⟨rfl, State.Warmed39.refl s, rfl, hCH⟩ trivial
  refine ⟨n, _, h1, h2, h3, hpost _ _ _ _ _ _ ⟨Cond.after_iff.mpr rfl, Cond.after_iff.mpr (eq_i res_at (Term.int_eval (1)) rfl), trivial⟩ ⟨hq.1, hq.2.1, hq.2.2.1, (hq.2.2.2.sift fun y hy => Or.inr (N y hy)).mono (by decide) (by decide)⟩⟩
theorem main_1_1 : Claimed_1_1 := comes_1 fun _ _ _ _ _ _ h hF => ⟨h.1, hF⟩
theorem main_1_2 : Claimed_1_2 := comes_1 fun _ _ _ _ _ _ h hF => ⟨h.2.1, hF⟩
end Jvm.Pilot.@@N@@
namespace Jvm.Pilot.@@N@@
open Jvm Jvm.ClassFile Sem Op Lib Jvm.Free Jvm.Stand Jvm.Pilot.@@N@@.Jvm.D
/-! MADE BY PROGRAM (witnessworld.py) out of the Statement's table words and the real class files: 23 classes; the members and pool entries that the words name. The judged class is class 1, her method 1. -/
namespace start1
open Jvm.ClassFile
def u (s : String) : CpInfo := .utf8 (stringToUtf16 s)
/-- a pool by its gaps: so many unusable entries, then the entry; so many at the end -/
def gap : Nat → List CpInfo → List CpInfo
  | 0, r => r
  | n + 1, r => .unusable :: gap n r
def poolList (es : List (Nat × CpInfo)) (last : Nat) : List CpInfo := es.foldr (fun e r => gap e.1 (e.2 :: r)) (gap last [])
def pool (es : List (Nat × CpInfo)) (last : Nat) : Array CpInfo := ⟨poolList es last⟩
def fileOf (pool : Array CpInfo) (this : Nat) (attrs : Array Attribute := #[]) (ms : Array MethodInfo := #[]) (fl : Nat := 33) (sup : Nat := 0) (ifs : Array Nat := #[]) (fds : Array FieldInfo := #[]) : ClassFile where
  minorVersion := 0
  majorVersion := 65
  constantPool := pool
  accessFlags := fl
  thisClass := this
  superClass := sup
  interfaces := ifs
  fields := fds
  methods := ms
  attributes := attrs
def plain (name : String) (sup : Option ClassId) : Class where
  name := name
  kind := .ordinary
  loader := none
  accessFlags := 33
  super := sup
  interfaces := #[]
  cf := none
  fields := #[]
  methods := #[]
  instanceTypes := #[]
  staticTypes := #[]
  resolved := #[]
  callSites := []
  init := .initialized
  statics := none
  mirror := none

def pool0 : Array CpInfo := pool [(5, u "<init>"), (0, u "()V"), (1, .class_ 10), (1, u "java/lang/Object")] 113

def k0c0 : Code := { maxStack := 0, maxLocals := 1, code := object_method_1_code, exceptionTable := #[], attributes := #[] }
def k0m0 : Method := { name := "<init>", desc := "()V", sig := { parameters := [], returnType := none }, accessFlags := 1, code := some k0c0 }
/-- java/lang/Object -/
def k0 : Class := { plain "java/lang/Object" none with
  accessFlags := 33
  interfaces := #[]
  cf := some (fileOf pool0 8 #[] #[{ accessFlags := 1, nameIndex := 5, descriptorIndex := 6, attributes := #[] }] 33 0 #[] #[])
  fields := #[]
  methods := #[k0m0]
  instanceTypes := #[]
  staticTypes := #[]
  resolved := Array.replicate 124 none
  statics := none }

def pool1 : Array CpInfo := pool [(2, .class_ 4), (1, u "java/lang/Object"), (0, u "<init>"), (0, u "()V"), (0, .integer 2147483647), (0, .methodref 9 10), (0, .class_ 11), (0, .nameAndType 12 13), (0, u "com/example/neighbor_keys/neighborkeys/model/RelatedNameOfPinLaw"), (0, u "ch"), (0, u "(I)C"), (0, .methodref 9 15), (0, .nameAndType 16 17), (0, u "mk"), (0, u "(ICCCC)Ljava/lang/String;"), (0, .methodref 19 20), (0, .class_ 21), (0, .nameAndType 22 23), (0, u "com/example/neighbor_keys/neighborkeys/model/Related"), (0, u "nameOf"), (0, u "(Ljava/lang/String;)Ljava/lang/String;"), (0, .methodref 25 26), (0, .class_ 27), (0, .nameAndType 28 29), (0, u "java/lang/String"), (0, u "equals"), (0, u "(Ljava/lang/Object;)Z"), (0, .string 31), (0, u ""), (0, .methodref 25 33), (0, .nameAndType 34 35), (0, u "valueOf"), (0, u "(C)Ljava/lang/String;"), (0, .methodref 25 37), (0, .nameAndType 5 38), (0, u "([C)V"), (2, u "law"), (0, u "(IIIII)Z")] 3

def k1m0 : Method := { name := "<init>", desc := "()V", sig := { parameters := [], returnType := none }, accessFlags := 1, code := none }
def k1c1 : Code := { maxStack := 5, maxLocals := 14, code := code, exceptionTable := #[], attributes := #[] }
def k1m1 : Method := { name := "law", desc := "(IIIII)Z", sig := { parameters := [.int, .int, .int, .int, .int], returnType := some .boolean }, accessFlags := 9, code := some k1c1 }
def k1c2 : Code := { maxStack := 2, maxLocals := 1, code := method_3_code, exceptionTable := #[], attributes := #[] }
def k1m2 : Method := { name := "ch", desc := "(I)C", sig := { parameters := [.int], returnType := some .char }, accessFlags := 10, code := some k1c2 }
def k1c3 : Code := { maxStack := 6, maxLocals := 5, code := method_4_code, exceptionTable := #[], attributes := #[] }
def k1m3 : Method := { name := "mk", desc := "(ICCCC)Ljava/lang/String;", sig := { parameters := [.int, .char, .char, .char, .char], returnType := some (.object "java/lang/String") }, accessFlags := 10, code := some k1c3 }
/-- com/example/neighbor_keys/neighborkeys/model/RelatedNameOfPinLaw -/
def k1 : Class := { plain "com/example/neighbor_keys/neighborkeys/model/RelatedNameOfPinLaw" (some 0) with
  accessFlags := 49
  interfaces := #[]
  cf := some (fileOf pool1 9 #[] #[{ accessFlags := 1, nameIndex := 5, descriptorIndex := 6, attributes := #[] }, { accessFlags := 9, nameIndex := 41, descriptorIndex := 42, attributes := #[] }, { accessFlags := 10, nameIndex := 12, descriptorIndex := 13, attributes := #[] }, { accessFlags := 10, nameIndex := 16, descriptorIndex := 17, attributes := #[] }] 49 2 #[] #[])
  fields := #[]
  methods := #[k1m0, k1m1, k1m2, k1m3]
  instanceTypes := #[]
  staticTypes := #[]
  resolved := Array.replicate 46 none
  statics := none }

def pool2 : Array CpInfo := pool [(1, .class_ 2), (0, u "java/io/Serializable"), (0, .class_ 4), (0, u "java/lang/Object")] 2

/-- java/io/Serializable -/
def k2 : Class := { plain "java/io/Serializable" (some 0) with
  accessFlags := 1537
  interfaces := #[]
  cf := some (fileOf pool2 1 #[] #[] 1537 3 #[] #[])
  fields := #[]
  methods := #[]
  instanceTypes := #[]
  staticTypes := #[]
  resolved := Array.replicate 7 none
  statics := none }

def pool3 : Array CpInfo := pool [(1, .class_ 2), (0, u "java/lang/Comparable"), (0, .class_ 4), (0, u "java/lang/Object")] 7

/-- java/lang/Comparable -/
def k3 : Class := { plain "java/lang/Comparable" (some 0) with
  accessFlags := 1537
  interfaces := #[]
  cf := some (fileOf pool3 1 #[] #[] 1537 3 #[] #[])
  fields := #[]
  methods := #[]
  instanceTypes := #[]
  staticTypes := #[]
  resolved := Array.replicate 12 none
  statics := none }

def pool4 : Array CpInfo := pool [(2, .class_ 4), (1, u "java/lang/CharSequence"), (42, .class_ 48), (0, u "java/lang/CharSequence$1CodePointIterator"), (10, .class_ 60), (0, u "java/lang/CharSequence$1CharIterator"), (5, .class_ 67), (0, u "java/lang/Object")] 63

/-- java/lang/CharSequence -/
def k4 : Class := { plain "java/lang/CharSequence" (some 0) with
  accessFlags := 1537
  interfaces := #[]
  cf := some (fileOf pool4 2 #[.nestMembers #[47, 59]] #[] 1537 66 #[] #[])
  fields := #[]
  methods := #[]
  instanceTypes := #[]
  staticTypes := #[]
  resolved := Array.replicate 131 none
  statics := none }

def pool5 : Array CpInfo := pool [(1, .class_ 2), (0, u "java/lang/constant/Constable"), (0, .class_ 4), (0, u "java/lang/Object")] 6

/-- java/lang/constant/Constable -/
def k5 : Class := { plain "java/lang/constant/Constable" (some 0) with
  accessFlags := 1537
  interfaces := #[]
  cf := some (fileOf pool5 1 #[] #[] 1537 3 #[] #[])
  fields := #[]
  methods := #[]
  instanceTypes := #[]
  staticTypes := #[]
  resolved := Array.replicate 11 none
  statics := none }

def pool6 : Array CpInfo := pool [(1, .class_ 2), (0, u "java/lang/constant/ConstantDesc"), (0, .class_ 4), (0, u "java/lang/Object")] 32

/-- java/lang/constant/ConstantDesc -/
def k6 : Class := { plain "java/lang/constant/ConstantDesc" (some 0) with
  accessFlags := 1537
  interfaces := #[]
  cf := some (fileOf pool6 1 #[] #[] 1537 3 #[] #[])
  fields := #[]
  methods := #[]
  instanceTypes := #[]
  staticTypes := #[]
  resolved := Array.replicate 37 none
  statics := none }

def pool7 : Array CpInfo := pool [(1, .methodref 2 3), (0, .class_ 4), (0, .nameAndType 5 6), (0, u "java/lang/Object"), (0, u "<init>"), (0, u "()V"), (2, .fieldref 10 11), (0, .class_ 12), (0, .nameAndType 13 14), (0, u "java/lang/String"), (0, u "value"), (0, u "[B"), (0, .fieldref 10 16), (0, .nameAndType 17 18), (0, u "coder"), (0, u "B"), (2, u "hash"), (0, u "I"), (2, u "hashIsZero"), (0, u "Z"), (0, .methodref 10 28), (0, .nameAndType 5 29), (0, u "([CIILjava/lang/Void;)V"), (8, .fieldref 10 39), (0, .nameAndType 40 26), (0, u "COMPACT_STRINGS"), (1, .class_ 44), (1, u "java/lang/StringUTF16"), (0, u "compress"), (1, .methodref 42 48), (0, .nameAndType 49 50), (0, u "coderFromArrayLen"), (0, u "([BI)B"), (2, u "toBytes"), (53, .class_ 109), (1, u "java/lang/StringLatin1"), (32, u "()Z"), (34, .methodref 42 178), (0, .nameAndType 45 179), (0, u "([CII)[B"), (29, .methodref 10 210), (0, .nameAndType 5 211), (0, u "([BB)V"), (122, u "()I"), (0, .methodref 10 336), (0, .nameAndType 17 337), (0, u "()B"), (31, u "(C)Z"), (122, .methodref 10 493), (0, .nameAndType 494 142), (0, u "isLatin1"), (10, .methodref 10 506), (0, .nameAndType 507 334), (0, u "length"), (5, u "checkFromToIndex"), (7, .methodref 10 522), (0, .nameAndType 523 524), (0, u "checkBoundsBeginEnd"), (0, u "(III)V"), (16, .methodref 107 542), (0, .nameAndType 543 544), (0, u "equals"), (0, u "([B[B)Z"), (28, u "(Ljava/lang/Object;)Z"), (1, .class_ 576), (0, u "java/lang/CharSequence"), (22, u "CASE_INSENSITIVE_ORDER"), (0, u "Ljava/util/Comparator;"), (32, .methodref 10 634), (0, .nameAndType 635 636), (0, u "indexOf"), (0, u "(II)I"), (0, .methodref 107 638), (0, .nameAndType 635 639), (0, u "([BIII)I"), (43, u "substring"), (0, u "(II)Ljava/lang/String;"), (0, .methodref 107 686), (0, .nameAndType 687 688), (0, u "newString"), (0, u "([BII)Ljava/lang/String;"), (76, u "(I)I"), (16, u "valueOf"), (0, u "(C)Ljava/lang/String;"), (226, u "([C)V"), (4, .methodref 107 1016), (0, .nameAndType 1017 369), (0, u "canEncode"), (0, .methodref 107 1019), (0, .nameAndType 53 1020), (0, u "(C)[B"), (32, .fieldref 1054 1055), (0, .class_ 1056), (0, .nameAndType 1057 1058), (0, u "jdk/internal/util/Preconditions"), (0, u "SIOOBE_FORMATTER"), (0, u "Ljava/util/function/BiFunction;"), (3, .methodref 1054 1063), (0, .nameAndType 513 1064), (0, u "(IIILjava/util/function/BiFunction;)I"), (36, u "serialPersistentFields"), (0, u "[Ljava/io/ObjectStreamField;"), (0, .class_ 1104), (0, u "java/lang/String$CaseInsensitiveComparator"), (1, .class_ 1107), (0, u "java/io/Serializable"), (0, .class_ 1109), (0, u "java/lang/Comparable"), (0, .class_ 1111), (0, u "java/lang/constant/Constable"), (0, .class_ 1113), (0, u "java/lang/constant/ConstantDesc"), (2, u "serialVersionUID"), (0, u "J"), (3, u "REPL"), (0, u "C"), (2, u "LATIN1"), (1, u "UTF16")] 323

def k7m0 : Method := { name := "<init>", desc := "()V", sig := { parameters := [], returnType := none }, accessFlags := 1, code := none }
def k7c1 : Code := { maxStack := 5, maxLocals := 2, code := jdk_42_method_3_code, exceptionTable := #[], attributes := #[] }
def k7m1 : Method := { name := "<init>", desc := "([C)V", sig := { parameters := [(.array .char)], returnType := none }, accessFlags := 1, code := some k7c1 }
def k7c2 : Code := { maxStack := 2, maxLocals := 1, code := jdk_42_method_54_code, exceptionTable := #[], attributes := #[] }
def k7m2 : Method := { name := "length", desc := "()I", sig := { parameters := [], returnType := some .int }, accessFlags := 1, code := some k7c2 }
def k7c3 : Code := { maxStack := 2, maxLocals := 3, code := jdk_42_method_66_code, exceptionTable := #[], attributes := #[] }
def k7m3 : Method := { name := "equals", desc := "(Ljava/lang/Object;)Z", sig := { parameters := [(.object "java/lang/Object")], returnType := some .boolean }, accessFlags := 1, code := some k7c3 }
def k7c4 : Code := { maxStack := 3, maxLocals := 2, code := jdk_42_method_79_code, exceptionTable := #[], attributes := #[] }
def k7m4 : Method := { name := "indexOf", desc := "(I)I", sig := { parameters := [.int], returnType := some .int }, accessFlags := 1, code := some k7c4 }
def k7c5 : Code := { maxStack := 4, maxLocals := 3, code := jdk_42_method_80_code, exceptionTable := #[], attributes := #[] }
def k7m5 : Method := { name := "indexOf", desc := "(II)I", sig := { parameters := [.int, .int], returnType := some .int }, accessFlags := 1, code := some k7c5 }
def k7c6 : Code := { maxStack := 3, maxLocals := 5, code := jdk_42_method_92_code, exceptionTable := #[], attributes := #[] }
def k7m6 : Method := { name := "substring", desc := "(II)Ljava/lang/String;", sig := { parameters := [.int, .int], returnType := some (.object "java/lang/String") }, accessFlags := 1, code := some k7c6 }
def k7c7 : Code := { maxStack := 4, maxLocals := 1, code := jdk_42_method_139_code, exceptionTable := #[], attributes := #[] }
def k7m7 : Method := { name := "valueOf", desc := "(C)Ljava/lang/String;", sig := { parameters := [.char], returnType := some (.object "java/lang/String") }, accessFlags := 9, code := some k7c7 }
def k7c8 : Code := { maxStack := 4, maxLocals := 6, code := jdk_42_method_149_code, exceptionTable := #[], attributes := #[] }
def k7m8 : Method := { name := "<init>", desc := "([CIILjava/lang/Void;)V", sig := { parameters := [(.array .char), .int, .int, (.object "java/lang/Void")], returnType := none }, accessFlags := 2, code := some k7c8 }
def k7c9 : Code := { maxStack := 2, maxLocals := 3, code := jdk_42_method_151_code, exceptionTable := #[], attributes := #[] }
def k7m9 : Method := { name := "<init>", desc := "([BB)V", sig := { parameters := [(.array .byte), .byte], returnType := none }, accessFlags := 0, code := some k7c9 }
def k7c10 : Code := { maxStack := 1, maxLocals := 1, code := jdk_42_method_152_code, exceptionTable := #[], attributes := #[] }
def k7m10 : Method := { name := "coder", desc := "()B", sig := { parameters := [], returnType := some .byte }, accessFlags := 0, code := some k7c10 }
def k7c11 : Code := { maxStack := 1, maxLocals := 1, code := jdk_42_method_154_code, exceptionTable := #[], attributes := #[] }
def k7m11 : Method := { name := "isLatin1", desc := "()Z", sig := { parameters := [], returnType := some .boolean }, accessFlags := 0, code := some k7c11 }
def k7c12 : Code := { maxStack := 4, maxLocals := 3, code := jdk_42_method_158_code, exceptionTable := #[], attributes := #[] }
def k7m12 : Method := { name := "checkBoundsBeginEnd", desc := "(III)V", sig := { parameters := [.int, .int, .int], returnType := none }, accessFlags := 8, code := some k7c12 }
/-- java/lang/String -/
def k7 : Class := { plain "java/lang/String" (some 0) with
  accessFlags := 49
  interfaces := #[2, 3, 4, 5, 6]
  cf := some (fileOf pool7 10 #[.nestMembers #[1103]] #[{ accessFlags := 1, nameIndex := 5, descriptorIndex := 6, attributes := #[] }, { accessFlags := 1, nameIndex := 5, descriptorIndex := 1010, attributes := #[] }, { accessFlags := 1, nameIndex := 507, descriptorIndex := 334, attributes := #[] }, { accessFlags := 1, nameIndex := 543, descriptorIndex := 573, attributes := #[] }, { accessFlags := 1, nameIndex := 635, descriptorIndex := 765, attributes := #[] }, { accessFlags := 1, nameIndex := 635, descriptorIndex := 636, attributes := #[] }, { accessFlags := 1, nameIndex := 683, descriptorIndex := 684, attributes := #[] }, { accessFlags := 9, nameIndex := 782, descriptorIndex := 783, attributes := #[] }, { accessFlags := 2, nameIndex := 5, descriptorIndex := 29, attributes := #[] }, { accessFlags := 0, nameIndex := 5, descriptorIndex := 211, attributes := #[] }, { accessFlags := 0, nameIndex := 17, descriptorIndex := 337, attributes := #[] }, { accessFlags := 0, nameIndex := 494, descriptorIndex := 142, attributes := #[] }, { accessFlags := 8, nameIndex := 523, descriptorIndex := 524, attributes := #[] }] 49 2 #[1106, 1108, 575, 1110, 1112] #[{ accessFlags := 18, nameIndex := 13, descriptorIndex := 14, attributes := #[] }, { accessFlags := 18, nameIndex := 17, descriptorIndex := 18, attributes := #[] }, { accessFlags := 2, nameIndex := 21, descriptorIndex := 22, attributes := #[] }, { accessFlags := 2, nameIndex := 25, descriptorIndex := 26, attributes := #[] }, { accessFlags := 26, nameIndex := 1116, descriptorIndex := 1117, attributes := #[] }, { accessFlags := 24, nameIndex := 40, descriptorIndex := 26, attributes := #[] }, { accessFlags := 26, nameIndex := 1101, descriptorIndex := 1102, attributes := #[] }, { accessFlags := 26, nameIndex := 1121, descriptorIndex := 1122, attributes := #[] }, { accessFlags := 25, nameIndex := 599, descriptorIndex := 600, attributes := #[] }, { accessFlags := 24, nameIndex := 1125, descriptorIndex := 18, attributes := #[] }, { accessFlags := 24, nameIndex := 1127, descriptorIndex := 18, attributes := #[] }])
  fields := #[{ name := "value", type := (.array .byte), accessFlags := 18, slot := 0, constantValue := 0 }, { name := "coder", type := .byte, accessFlags := 18, slot := 1, constantValue := 0 }, { name := "hash", type := .int, accessFlags := 2, slot := 2, constantValue := 0 }, { name := "hashIsZero", type := .boolean, accessFlags := 2, slot := 3, constantValue := 0 }, { name := "serialVersionUID", type := .long, accessFlags := 26, slot := 0, constantValue := 0 }, { name := "COMPACT_STRINGS", type := .boolean, accessFlags := 24, slot := 1, constantValue := 0 }, { name := "serialPersistentFields", type := (.array (.object "java/io/ObjectStreamField")), accessFlags := 26, slot := 2, constantValue := 0 }, { name := "REPL", type := .char, accessFlags := 26, slot := 3, constantValue := 0 }, { name := "CASE_INSENSITIVE_ORDER", type := (.object "java/util/Comparator"), accessFlags := 25, slot := 4, constantValue := 0 }, { name := "LATIN1", type := .byte, accessFlags := 24, slot := 5, constantValue := 0 }, { name := "UTF16", type := .byte, accessFlags := 24, slot := 6, constantValue := 0 }]
  methods := #[k7m0, k7m1, k7m2, k7m3, k7m4, k7m5, k7m6, k7m7, k7m8, k7m9, k7m10, k7m11, k7m12]
  instanceTypes := #[(.array .byte), .byte, .int, .boolean]
  staticTypes := #[.long, .boolean, (.array (.object "java/io/ObjectStreamField")), .char, (.object "java/util/Comparator"), .byte, .byte]
  resolved := Array.replicate 1451 none
  statics := some 0 }

def pool8 : Array CpInfo := pool [(2, .class_ 4), (1, u "java/lang/Object"), (3, .class_ 10), (1, u "com/example/neighbor_keys/neighborkeys/model/Related"), (0, u "name"), (0, u "Ljava/lang/String;"), (2, u "entityType"), (13, u "match"), (0, u "Ljava/util/Map;"), (0, .methodref 32 33), (0, .class_ 34), (0, .nameAndType 35 36), (0, u "java/lang/String"), (0, u "indexOf"), (0, u "(I)I"), (0, .methodref 32 38), (0, .nameAndType 39 40), (0, u "substring"), (0, u "(II)Ljava/lang/String;"), (13, u "nameOf"), (0, u "(Ljava/lang/String;)Ljava/lang/String;")] 23

def k8c0 : Code := { maxStack := 3, maxLocals := 2, code := prog_30_method_2_code, exceptionTable := #[], attributes := #[] }
def k8m0 : Method := { name := "nameOf", desc := "(Ljava/lang/String;)Ljava/lang/String;", sig := { parameters := [(.object "java/lang/String")], returnType := some (.object "java/lang/String") }, accessFlags := 9, code := some k8c0 }
/-- com/example/neighbor_keys/neighborkeys/model/Related -/
def k8 : Class := { plain "com/example/neighbor_keys/neighborkeys/model/Related" (some 0) with
  accessFlags := 49
  interfaces := #[]
  cf := some (fileOf pool8 8 #[] #[{ accessFlags := 9, nameIndex := 54, descriptorIndex := 55, attributes := #[] }] 49 2 #[] #[{ accessFlags := 18, nameIndex := 11, descriptorIndex := 12, attributes := #[] }, { accessFlags := 18, nameIndex := 15, descriptorIndex := 12, attributes := #[] }, { accessFlags := 18, nameIndex := 29, descriptorIndex := 30, attributes := #[] }])
  fields := #[{ name := "name", type := (.object "java/lang/String"), accessFlags := 18, slot := 0, constantValue := 0 }, { name := "entityType", type := (.object "java/lang/String"), accessFlags := 18, slot := 1, constantValue := 0 }, { name := "match", type := (.object "java/util/Map"), accessFlags := 18, slot := 2, constantValue := 0 }]
  methods := #[k8m0]
  instanceTypes := #[(.object "java/lang/String"), (.object "java/lang/String"), (.object "java/util/Map")]
  staticTypes := #[]
  resolved := Array.replicate 79 none
  statics := none }

def pool9 : Array CpInfo := pool [(1, .class_ 2), (0, u "java/lang/String"), (1, .class_ 6), (1, u "java/lang/Object"), (0, u "<init>"), (0, u "()V"), (5, .class_ 16), (1, u "java/lang/StringLatin1"), (21, .methodref 39 40), (0, .class_ 41), (0, .nameAndType 42 43), (0, u "java/lang/Math"), (0, u "min"), (0, u "(II)I"), (44, .methodref 14 89), (0, .nameAndType 90 91), (0, u "canEncode"), (0, u "(I)Z"), (0, .methodref 39 93), (0, .nameAndType 94 43), (0, u "max"), (0, .methodref 14 96), (0, .nameAndType 97 98), (0, u "indexOfChar"), (0, u "([BIII)I"), (2, u "indexOf"), (3, u "(C)Z"), (6, .methodref 1 113), (0, .nameAndType 7 114), (0, u "([BB)V"), (6, u "$assertionsDisabled"), (0, u "Z"), (8, .class_ 133), (1, u "java/util/Arrays"), (17, .string 152), (0, u ""), (43, u "newString"), (0, u "([BII)Ljava/lang/String;"), (23, .class_ 223), (1, u "java/lang/StringLatin1$LinesSpliterator"), (8, .methodref 131 233), (0, .nameAndType 234 235), (0, u "copyOfRange"), (0, u "([BII)[B"), (45, u "equals"), (0, u "([B[B)Z"), (97, u "toBytes"), (1, u "(C)[B"), (7, .class_ 391), (0, u "java/lang/StringLatin1$CharsSpliterator")] 3

def k9m0 : Method := { name := "<init>", desc := "()V", sig := { parameters := [], returnType := none }, accessFlags := 0, code := none }
def k9c1 : Code := { maxStack := 2, maxLocals := 1, code := jdk_43_method_3_code, exceptionTable := #[], attributes := #[] }
def k9m1 : Method := { name := "canEncode", desc := "(C)Z", sig := { parameters := [.char], returnType := some .boolean }, accessFlags := 9, code := some k9c1 }
def k9c2 : Code := { maxStack := 2, maxLocals := 1, code := jdk_43_method_4_code, exceptionTable := #[], attributes := #[] }
def k9m2 : Method := { name := "canEncode", desc := "(I)Z", sig := { parameters := [.int], returnType := some .boolean }, accessFlags := 9, code := some k9c2 }
def k9c3 : Code := { maxStack := 3, maxLocals := 3, code := jdk_43_method_13_code, exceptionTable := #[], attributes := #[] }
def k9m3 : Method := { name := "equals", desc := "([B[B)Z", sig := { parameters := [(.array .byte), (.array .byte)], returnType := some .boolean }, accessFlags := 9, code := some k9c3 }
def k9c4 : Code := { maxStack := 4, maxLocals := 4, code := jdk_43_method_22_code, exceptionTable := #[], attributes := #[] }
def k9m4 : Method := { name := "indexOf", desc := "([BIII)I", sig := { parameters := [(.array .byte), .int, .int, .int], returnType := some .int }, accessFlags := 9, code := some k9c4 }
def k9c5 : Code := { maxStack := 2, maxLocals := 6, code := jdk_43_method_23_code, exceptionTable := #[], attributes := #[] }
def k9m5 : Method := { name := "indexOfChar", desc := "([BIII)I", sig := { parameters := [(.array .byte), .int, .int, .int], returnType := some .int }, accessFlags := 10, code := some k9c5 }
def k9c6 : Code := { maxStack := 4, maxLocals := 1, code := jdk_43_method_46_code, exceptionTable := #[], attributes := #[] }
def k9m6 : Method := { name := "toBytes", desc := "(C)[B", sig := { parameters := [.char], returnType := some (.array .byte) }, accessFlags := 9, code := some k9c6 }
def k9c7 : Code := { maxStack := 6, maxLocals := 3, code := jdk_43_method_47_code, exceptionTable := #[], attributes := #[] }
def k9m7 : Method := { name := "newString", desc := "([BII)Ljava/lang/String;", sig := { parameters := [(.array .byte), .int, .int], returnType := some (.object "java/lang/String") }, accessFlags := 9, code := some k9c7 }
/-- java/lang/StringLatin1 -/
def k9 : Class := { plain "java/lang/StringLatin1" (some 0) with
  accessFlags := 48
  interfaces := #[]
  cf := some (fileOf pool9 14 #[.nestMembers #[390, 221]] #[{ accessFlags := 0, nameIndex := 7, descriptorIndex := 8, attributes := #[] }, { accessFlags := 9, nameIndex := 90, descriptorIndex := 105, attributes := #[] }, { accessFlags := 9, nameIndex := 90, descriptorIndex := 91, attributes := #[] }, { accessFlags := 9, nameIndex := 281, descriptorIndex := 282, attributes := #[] }, { accessFlags := 9, nameIndex := 101, descriptorIndex := 98, attributes := #[] }, { accessFlags := 10, nameIndex := 97, descriptorIndex := 98, attributes := #[] }, { accessFlags := 9, nameIndex := 380, descriptorIndex := 382, attributes := #[] }, { accessFlags := 9, nameIndex := 196, descriptorIndex := 197, attributes := #[] }] 48 4 #[] #[{ accessFlags := 4120, nameIndex := 121, descriptorIndex := 122, attributes := #[] }])
  fields := #[{ name := "$assertionsDisabled", type := .boolean, accessFlags := 4120, slot := 0, constantValue := 0 }]
  methods := #[k9m0, k9m1, k9m2, k9m3, k9m4, k9m5, k9m6, k9m7]
  instanceTypes := #[]
  staticTypes := #[.boolean]
  resolved := Array.replicate 395 none
  statics := none }

def pool10 : Array CpInfo := pool [(1, .class_ 2), (0, u "java/lang/Math"), (1, .class_ 6), (1, u "java/lang/Object"), (0, u "<init>"), (0, u "()V"), (89, .class_ 100), (1, u "java/lang/Math$RandomNumberGeneratorHolder"), (71, u "negativeZeroFloatBits"), (0, u "J"), (2, u "negativeZeroDoubleBits"), (21, u "max"), (2, u "min"), (43, u "$assertionsDisabled"), (0, u "Z"), (88, u "(II)I"), (2, u "twoToTheDoubleScaleDown"), (0, u "D"), (4, u "twoToTheDoubleScaleUp"), (9, u "E"), (3, u "PI"), (2, u "TAU"), (2, u "DEGREES_TO_RADIANS"), (0, u "RADIANS_TO_DEGREES")] 94

def k10m0 : Method := { name := "<init>", desc := "()V", sig := { parameters := [], returnType := none }, accessFlags := 2, code := none }
def k10c1 : Code := { maxStack := 2, maxLocals := 2, code := jdk_29_method_65_code, exceptionTable := #[], attributes := #[] }
def k10m1 : Method := { name := "max", desc := "(II)I", sig := { parameters := [.int, .int], returnType := some .int }, accessFlags := 9, code := some k10c1 }
def k10c2 : Code := { maxStack := 2, maxLocals := 2, code := jdk_29_method_69_code, exceptionTable := #[], attributes := #[] }
def k10m2 : Method := { name := "min", desc := "(II)I", sig := { parameters := [.int, .int], returnType := some .int }, accessFlags := 9, code := some k10c2 }
/-- java/lang/Math -/
def k10 : Class := { plain "java/lang/Math" (some 0) with
  accessFlags := 49
  interfaces := #[]
  cf := some (fileOf pool10 1 #[.nestMembers #[98]] #[{ accessFlags := 2, nameIndex := 7, descriptorIndex := 8, attributes := #[] }, { accessFlags := 9, nameIndex := 198, descriptorIndex := 335, attributes := #[] }, { accessFlags := 9, nameIndex := 201, descriptorIndex := 335, attributes := #[] }] 49 4 #[] #[{ accessFlags := 25, nameIndex := 354, descriptorIndex := 339, attributes := #[] }, { accessFlags := 25, nameIndex := 358, descriptorIndex := 339, attributes := #[] }, { accessFlags := 25, nameIndex := 361, descriptorIndex := 339, attributes := #[] }, { accessFlags := 26, nameIndex := 364, descriptorIndex := 339, attributes := #[] }, { accessFlags := 26, nameIndex := 365, descriptorIndex := 339, attributes := #[] }, { accessFlags := 26, nameIndex := 172, descriptorIndex := 173, attributes := #[] }, { accessFlags := 26, nameIndex := 176, descriptorIndex := 173, attributes := #[] }, { accessFlags := 8, nameIndex := 344, descriptorIndex := 339, attributes := #[] }, { accessFlags := 8, nameIndex := 338, descriptorIndex := 339, attributes := #[] }, { accessFlags := 4120, nameIndex := 245, descriptorIndex := 246, attributes := #[] }])
  fields := #[{ name := "E", type := .double, accessFlags := 25, slot := 0, constantValue := 0 }, { name := "PI", type := .double, accessFlags := 25, slot := 1, constantValue := 0 }, { name := "TAU", type := .double, accessFlags := 25, slot := 2, constantValue := 0 }, { name := "DEGREES_TO_RADIANS", type := .double, accessFlags := 26, slot := 3, constantValue := 0 }, { name := "RADIANS_TO_DEGREES", type := .double, accessFlags := 26, slot := 4, constantValue := 0 }, { name := "negativeZeroFloatBits", type := .long, accessFlags := 26, slot := 5, constantValue := 0 }, { name := "negativeZeroDoubleBits", type := .long, accessFlags := 26, slot := 6, constantValue := 0 }, { name := "twoToTheDoubleScaleUp", type := .double, accessFlags := 8, slot := 7, constantValue := 0 }, { name := "twoToTheDoubleScaleDown", type := .double, accessFlags := 8, slot := 8, constantValue := 0 }, { name := "$assertionsDisabled", type := .boolean, accessFlags := 4120, slot := 9, constantValue := 0 }]
  methods := #[k10m0, k10m1, k10m2]
  instanceTypes := #[]
  staticTypes := #[.double, .double, .double, .double, .double, .long, .long, .double, .double, .boolean]
  resolved := Array.replicate 460 none
  statics := none }

def pool11 : Array CpInfo := pool [(6, .class_ 8), (1, u "java/lang/Object"), (0, u "<init>"), (0, u "()V"), (1, .class_ 14), (1, u "java/lang/StringUTF16"), (31, u "$assertionsDisabled"), (0, u "Z"), (13, u "HI_BYTE_SHIFT"), (0, u "I"), (2, u "LO_BYTE_SHIFT"), (49, .methodref 12 116), (0, .nameAndType 117 118), (0, u "compress"), (0, u "([CI[BII)I"), (3, u "([CII)[B"), (138, u "coderFromArrayLen"), (0, u "([BI)B"), (106, .class_ 371), (1, u "java/lang/StringUTF16$LinesSpliterator"), (58, u "MAX_LENGTH"), (196, .class_ 628), (0, u "java/lang/StringUTF16$CodePointsSpliterator"), (0, .class_ 630), (0, u "java/lang/StringUTF16$CharsSpliterator")] 4

def k11m0 : Method := { name := "<init>", desc := "()V", sig := { parameters := [], returnType := none }, accessFlags := 0, code := none }
def k11c1 : Code := { maxStack := 2, maxLocals := 2, code := jdk_52_method_15_code, exceptionTable := #[], attributes := #[] }
def k11m1 : Method := { name := "coderFromArrayLen", desc := "([BI)B", sig := { parameters := [(.array .byte), .int], returnType := some .byte }, accessFlags := 8, code := some k11c1 }
def k11c2 : Code := { maxStack := 5, maxLocals := 6, code := jdk_52_method_16_code, exceptionTable := #[], attributes := #[] }
def k11m2 : Method := { name := "compress", desc := "([CII)[B", sig := { parameters := [(.array .char), .int, .int], returnType := some (.array .byte) }, accessFlags := 9, code := some k11c2 }
def k11c3 : Code := { maxStack := 3, maxLocals := 7, code := jdk_52_method_21_code, exceptionTable := #[], attributes := #[] }
def k11m3 : Method := { name := "compress", desc := "([CI[BII)I", sig := { parameters := [(.array .char), .int, (.array .byte), .int, .int], returnType := some .int }, accessFlags := 9, code := some k11c3 }
/-- java/lang/StringUTF16 -/
def k11 : Class := { plain "java/lang/StringUTF16" (some 0) with
  accessFlags := 48
  interfaces := #[]
  cf := some (fileOf pool11 12 #[.nestMembers #[627, 629, 369]] #[{ accessFlags := 0, nameIndex := 9, descriptorIndex := 10, attributes := #[] }, { accessFlags := 8, nameIndex := 261, descriptorIndex := 262, attributes := #[] }, { accessFlags := 9, nameIndex := 117, descriptorIndex := 122, attributes := #[] }, { accessFlags := 9, nameIndex := 117, descriptorIndex := 118, attributes := #[] }] 48 6 #[] #[{ accessFlags := 26, nameIndex := 61, descriptorIndex := 62, attributes := #[] }, { accessFlags := 26, nameIndex := 65, descriptorIndex := 62, attributes := #[] }, { accessFlags := 24, nameIndex := 430, descriptorIndex := 62, attributes := #[] }, { accessFlags := 4120, nameIndex := 46, descriptorIndex := 47, attributes := #[] }])
  fields := #[{ name := "HI_BYTE_SHIFT", type := .int, accessFlags := 26, slot := 0, constantValue := 0 }, { name := "LO_BYTE_SHIFT", type := .int, accessFlags := 26, slot := 1, constantValue := 0 }, { name := "MAX_LENGTH", type := .int, accessFlags := 24, slot := 2, constantValue := 0 }, { name := "$assertionsDisabled", type := .boolean, accessFlags := 4120, slot := 3, constantValue := 0 }]
  methods := #[k11m0, k11m1, k11m2, k11m3]
  instanceTypes := #[]
  staticTypes := #[.int, .int, .int, .boolean]
  resolved := Array.replicate 635 none
  statics := none }

def pool12 : Array CpInfo := pool [(2, .class_ 4), (1, u "java/lang/Object"), (0, u "<init>"), (0, u "()V"), (17, .class_ 26), (1, u "jdk/internal/util/Preconditions"), (20, u "checkFromToIndex"), (7, .class_ 56), (0, u "jdk/internal/util/Preconditions$4"), (57, .class_ 115), (0, u "jdk/internal/util/Preconditions$1"), (7, u "SIOOBE_FORMATTER"), (0, u "Ljava/util/function/BiFunction;"), (0, .class_ 126), (0, u "jdk/internal/util/Preconditions$2"), (3, u "AIOOBE_FORMATTER"), (0, .class_ 132), (0, u "jdk/internal/util/Preconditions$3"), (3, u "IOOBE_FORMATTER"), (46, u "(IIILjava/util/function/BiFunction;)I")] 10

def k12m0 : Method := { name := "<init>", desc := "()V", sig := { parameters := [], returnType := none }, accessFlags := 1, code := none }
def k12c1 : Code := { maxStack := 4, maxLocals := 4, code := jdk_41_method_12_code, exceptionTable := #[], attributes := #[] }
def k12m1 : Method := { name := "checkFromToIndex", desc := "(IIILjava/util/function/BiFunction;)I", sig := { parameters := [.int, .int, .int, (.object "java/util/function/BiFunction")], returnType := some .int }, accessFlags := 9, code := some k12c1 }
/-- jdk/internal/util/Preconditions -/
def k12 : Class := { plain "jdk/internal/util/Preconditions" (some 0) with
  accessFlags := 33
  interfaces := #[]
  cf := some (fileOf pool12 24 #[.nestMembers #[55, 131, 125, 114]] #[{ accessFlags := 1, nameIndex := 5, descriptorIndex := 6, attributes := #[] }, { accessFlags := 9, nameIndex := 47, descriptorIndex := 183, attributes := #[] }] 33 2 #[] #[{ accessFlags := 25, nameIndex := 123, descriptorIndex := 124, attributes := #[] }, { accessFlags := 25, nameIndex := 130, descriptorIndex := 124, attributes := #[] }, { accessFlags := 25, nameIndex := 136, descriptorIndex := 124, attributes := #[] }])
  fields := #[{ name := "SIOOBE_FORMATTER", type := (.object "java/util/function/BiFunction"), accessFlags := 25, slot := 0, constantValue := 0 }, { name := "AIOOBE_FORMATTER", type := (.object "java/util/function/BiFunction"), accessFlags := 25, slot := 1, constantValue := 0 }, { name := "IOOBE_FORMATTER", type := (.object "java/util/function/BiFunction"), accessFlags := 25, slot := 2, constantValue := 0 }]
  methods := #[k12m0, k12m1]
  instanceTypes := #[]
  staticTypes := #[(.object "java/util/function/BiFunction"), (.object "java/util/function/BiFunction"), (.object "java/util/function/BiFunction")]
  resolved := Array.replicate 194 none
  statics := some 1 }

def pool13 : Array CpInfo := pool [(2, .class_ 4), (1, u "java/lang/Object"), (0, u "<init>"), (0, u "()V"), (7, .class_ 16), (1, u "java/util/Arrays"), (57, .class_ 76), (1, u "java/util/Arrays$NaturalOrder"), (36, .class_ 115), (1, u "java/util/Arrays$LegacyMergeSort"), (1, u "Z"), (21, u "copyOfRange"), (10, .methodref 151 152), (0, .class_ 153), (0, .nameAndType 154 155), (0, u "java/lang/System"), (0, u "arraycopy"), (0, u "(Ljava/lang/Object;ILjava/lang/Object;II)V"), (148, .methodref 305 306), (0, .class_ 307), (0, .nameAndType 308 309), (0, u "java/lang/Math"), (0, u "min"), (0, u "(II)I"), (29, .methodref 14 340), (0, .nameAndType 341 342), (0, u "copyOfRangeByte"), (0, u "([BII)[B"), (0, .methodref 14 344), (0, .nameAndType 345 346), (0, u "checkLength"), (0, u "(II)V"), (28, .class_ 376), (0, u "java/util/Arrays$ArrayList"), (68, u "$assertionsDisabled"), (269, u "MIN_ARRAY_SORT_GRAN"), (0, u "I"), (2, u "INSERTIONSORT_THRESHOLD"), (255, .class_ 976), (0, u "java/util/Arrays$ArrayItr")] 52

def k13m0 : Method := { name := "<init>", desc := "()V", sig := { parameters := [], returnType := none }, accessFlags := 2, code := none }
def k13c1 : Code := { maxStack := 4, maxLocals := 2, code := jdk_65_method_131_code, exceptionTable := #[], attributes := #[] }
def k13m1 : Method := { name := "checkLength", desc := "(II)V", sig := { parameters := [.int, .int], returnType := none }, accessFlags := 10, code := some k13c1 }
def k13c2 : Code := { maxStack := 3, maxLocals := 3, code := jdk_65_method_132_code, exceptionTable := #[], attributes := #[] }
def k13m2 : Method := { name := "copyOfRange", desc := "([BII)[B", sig := { parameters := [(.array .byte), .int, .int], returnType := some (.array .byte) }, accessFlags := 9, code := some k13c2 }
def k13c3 : Code := { maxStack := 6, maxLocals := 5, code := jdk_65_method_133_code, exceptionTable := #[], attributes := #[] }
def k13m3 : Method := { name := "copyOfRangeByte", desc := "([BII)[B", sig := { parameters := [(.array .byte), .int, .int], returnType := some (.array .byte) }, accessFlags := 10, code := some k13c3 }
/-- java/util/Arrays -/
def k13 : Class := { plain "java/util/Arrays" (some 0) with
  accessFlags := 49
  interfaces := #[]
  cf := some (fileOf pool13 14 #[.nestMembers #[975, 375, 113, 74]] #[{ accessFlags := 2, nameIndex := 5, descriptorIndex := 6, attributes := #[] }, { accessFlags := 10, nameIndex := 345, descriptorIndex := 346, attributes := #[] }, { accessFlags := 9, nameIndex := 139, descriptorIndex := 342, attributes := #[] }, { accessFlags := 10, nameIndex := 341, descriptorIndex := 342, attributes := #[] }] 49 2 #[] #[{ accessFlags := 26, nameIndex := 715, descriptorIndex := 716, attributes := #[] }, { accessFlags := 26, nameIndex := 719, descriptorIndex := 716, attributes := #[] }, { accessFlags := 4120, nameIndex := 445, descriptorIndex := 117, attributes := #[] }])
  fields := #[{ name := "MIN_ARRAY_SORT_GRAN", type := .int, accessFlags := 26, slot := 0, constantValue := 0 }, { name := "INSERTIONSORT_THRESHOLD", type := .int, accessFlags := 26, slot := 1, constantValue := 0 }, { name := "$assertionsDisabled", type := .boolean, accessFlags := 4120, slot := 2, constantValue := 0 }]
  methods := #[k13m0, k13m1, k13m2, k13m3]
  instanceTypes := #[]
  staticTypes := #[.int, .int, .boolean]
  resolved := Array.replicate 1029 none
  statics := none }

def pool14 : Array CpInfo := pool [(2, .class_ 4), (1, u "java/lang/Object"), (0, u "<init>"), (0, u "()V"), (1, .class_ 10), (1, u "java/lang/System"), (0, u "allowSecurityManager"), (0, u "I"), (16, u "cons"), (0, u "Ljava/io/Console;"), (77, .class_ 110), (1, u "java/lang/System$CallersHolder"), (43, u "initialErrStream"), (0, u "Ljava/io/PrintStream;"), (19, u "security"), (0, u "Ljava/lang/SecurityManager;"), (31, .class_ 209), (0, u "java/lang/System$1"), (7, u "props"), (0, u "Ljava/util/Properties;"), (2, u "lineSeparator"), (0, u "Ljava/lang/String;"), (96, .class_ 321), (1, u "java/lang/System$LoggerFinder"), (5, .class_ 328), (0, u "java/lang/System$Logger"), (67, u "err"), (2, u "out"), (91, u "notSupportedJnuEncoding"), (15, u "in"), (17, u "initialIn"), (0, u "Ljava/io/InputStream;"), (35, u "bootLayer"), (0, u "Ljava/lang/ModuleLayer;"), (99, .class_ 664), (0, u "java/lang/System$2"), (9, u "NEVER"), (2, u "MAYBE"), (49, u "arraycopy"), (0, u "(Ljava/lang/Object;ILjava/lang/Object;II)V"), (72, .class_ 802), (0, u "java/lang/System$Logger$Level")] 31

def k14m0 : Method := { name := "<init>", desc := "()V", sig := { parameters := [], returnType := none }, accessFlags := 2, code := none }
def k14m1 : Method := { name := "arraycopy", desc := "(Ljava/lang/Object;ILjava/lang/Object;II)V", sig := { parameters := [(.object "java/lang/Object"), .int, (.object "java/lang/Object"), .int, .int], returnType := none }, accessFlags := 265, code := none }
/-- java/lang/System -/
def k14 : Class := { plain "java/lang/System" (some 0) with
  accessFlags := 49
  interfaces := #[]
  cf := some (fileOf pool14 8 #[.nestMembers #[319, 327, 801, 108, 663, 208]] #[{ accessFlags := 2, nameIndex := 5, descriptorIndex := 6, attributes := #[] }, { accessFlags := 265, nameIndex := 727, descriptorIndex := 728, attributes := #[] }] 49 2 #[] #[{ accessFlags := 25, nameIndex := 507, descriptorIndex := 526, attributes := #[] }, { accessFlags := 25, nameIndex := 399, descriptorIndex := 155, attributes := #[] }, { accessFlags := 25, nameIndex := 396, descriptorIndex := 155, attributes := #[] }, { accessFlags := 10, nameIndex := 525, descriptorIndex := 526, attributes := #[] }, { accessFlags := 26, nameIndex := 674, descriptorIndex := 12, attributes := #[] }, { accessFlags := 26, nameIndex := 677, descriptorIndex := 12, attributes := #[] }, { accessFlags := 10, nameIndex := 11, descriptorIndex := 12, attributes := #[] }, { accessFlags := 74, nameIndex := 175, descriptorIndex := 176, attributes := #[] }, { accessFlags := 10, nameIndex := 491, descriptorIndex := 222, attributes := #[] }, { accessFlags := 74, nameIndex := 29, descriptorIndex := 30, attributes := #[] }, { accessFlags := 74, nameIndex := 154, descriptorIndex := 155, attributes := #[] }, { accessFlags := 10, nameIndex := 217, descriptorIndex := 218, attributes := #[] }, { accessFlags := 10, nameIndex := 221, descriptorIndex := 222, attributes := #[] }, { accessFlags := 8, nameIndex := 562, descriptorIndex := 563, attributes := #[] }])
  fields := #[{ name := "in", type := (.object "java/io/InputStream"), accessFlags := 25, slot := 0, constantValue := 0 }, { name := "out", type := (.object "java/io/PrintStream"), accessFlags := 25, slot := 1, constantValue := 0 }, { name := "err", type := (.object "java/io/PrintStream"), accessFlags := 25, slot := 2, constantValue := 0 }, { name := "initialIn", type := (.object "java/io/InputStream"), accessFlags := 10, slot := 3, constantValue := 0 }, { name := "NEVER", type := .int, accessFlags := 26, slot := 4, constantValue := 0 }, { name := "MAYBE", type := .int, accessFlags := 26, slot := 5, constantValue := 0 }, { name := "allowSecurityManager", type := .int, accessFlags := 10, slot := 6, constantValue := 0 }, { name := "security", type := (.object "java/lang/SecurityManager"), accessFlags := 74, slot := 7, constantValue := 0 }, { name := "notSupportedJnuEncoding", type := (.object "java/lang/String"), accessFlags := 10, slot := 8, constantValue := 0 }, { name := "cons", type := (.object "java/io/Console"), accessFlags := 74, slot := 9, constantValue := 0 }, { name := "initialErrStream", type := (.object "java/io/PrintStream"), accessFlags := 74, slot := 10, constantValue := 0 }, { name := "props", type := (.object "java/util/Properties"), accessFlags := 10, slot := 11, constantValue := 0 }, { name := "lineSeparator", type := (.object "java/lang/String"), accessFlags := 10, slot := 12, constantValue := 0 }, { name := "bootLayer", type := (.object "java/lang/ModuleLayer"), accessFlags := 8, slot := 13, constantValue := 0 }]
  methods := #[k14m0, k14m1]
  instanceTypes := #[]
  staticTypes := #[(.object "java/io/InputStream"), (.object "java/io/PrintStream"), (.object "java/io/PrintStream"), (.object "java/io/InputStream"), .int, .int, .int, (.object "java/lang/SecurityManager"), (.object "java/lang/String"), (.object "java/io/Console"), (.object "java/io/PrintStream"), (.object "java/util/Properties"), (.object "java/lang/String"), (.object "java/lang/ModuleLayer")]
  resolved := Array.replicate 834 none
  statics := none }

def pool15 : Array CpInfo := pool [(9, u "<init>"), (6, .class_ 18), (1, u "java/lang/Object"), (0, u "()V"), (1, .class_ 23), (1, u "jdk/internal/util/ArraysSupport"), (0, u "LOG2_ARRAY_LONG_INDEX_SCALE"), (0, u "I"), (2, u "U"), (0, u "Ljdk/internal/misc/Unsafe;"), (8, u "BIG_ENDIAN"), (0, u "Z"), (8, u "LOG2_BYTE_BIT_SIZE"), (4, u "LOG2_ARRAY_INT_INDEX_SCALE"), (54, u "JLA"), (0, u "Ljdk/internal/access/JavaLangAccess;"), (11, u "LOG2_ARRAY_BOOLEAN_INDEX_SCALE"), (9, u "LOG2_ARRAY_BYTE_INDEX_SCALE"), (5, u "LOG2_ARRAY_CHAR_INDEX_SCALE"), (5, u "LOG2_ARRAY_SHORT_INDEX_SCALE"), (18, u "LOG2_ARRAY_FLOAT_INDEX_SCALE"), (24, u "LOG2_ARRAY_DOUBLE_INDEX_SCALE"), (89, u "T_BOOLEAN"), (2, u "T_CHAR"), (1, u "T_FLOAT"), (1, u "T_DOUBLE"), (1, u "T_BYTE"), (1, u "T_SHORT"), (1, u "T_INT"), (1, u "T_LONG"), (1, u "SOFT_MAX_ARRAY_LENGTH")] 83

def k15m0 : Method := { name := "<init>", desc := "()V", sig := { parameters := [], returnType := none }, accessFlags := 2, code := none }
/-- jdk/internal/util/ArraysSupport -/
def k15 : Class := { plain "jdk/internal/util/ArraysSupport" (some 0) with
  accessFlags := 33
  interfaces := #[]
  cf := some (fileOf pool15 21 #[] #[{ accessFlags := 2, nameIndex := 9, descriptorIndex := 19, attributes := #[] }] 33 16 #[] #[{ accessFlags := 24, nameIndex := 28, descriptorIndex := 29, attributes := #[] }, { accessFlags := 26, nameIndex := 38, descriptorIndex := 39, attributes := #[] }, { accessFlags := 25, nameIndex := 121, descriptorIndex := 25, attributes := #[] }, { accessFlags := 25, nameIndex := 131, descriptorIndex := 25, attributes := #[] }, { accessFlags := 25, nameIndex := 137, descriptorIndex := 25, attributes := #[] }, { accessFlags := 25, nameIndex := 143, descriptorIndex := 25, attributes := #[] }, { accessFlags := 25, nameIndex := 53, descriptorIndex := 25, attributes := #[] }, { accessFlags := 25, nameIndex := 24, descriptorIndex := 25, attributes := #[] }, { accessFlags := 25, nameIndex := 162, descriptorIndex := 25, attributes := #[] }, { accessFlags := 25, nameIndex := 187, descriptorIndex := 25, attributes := #[] }, { accessFlags := 26, nameIndex := 48, descriptorIndex := 25, attributes := #[] }, { accessFlags := 25, nameIndex := 277, descriptorIndex := 25, attributes := #[] }, { accessFlags := 25, nameIndex := 280, descriptorIndex := 25, attributes := #[] }, { accessFlags := 25, nameIndex := 282, descriptorIndex := 25, attributes := #[] }, { accessFlags := 25, nameIndex := 284, descriptorIndex := 25, attributes := #[] }, { accessFlags := 25, nameIndex := 286, descriptorIndex := 25, attributes := #[] }, { accessFlags := 25, nameIndex := 288, descriptorIndex := 25, attributes := #[] }, { accessFlags := 25, nameIndex := 290, descriptorIndex := 25, attributes := #[] }, { accessFlags := 25, nameIndex := 292, descriptorIndex := 25, attributes := #[] }, { accessFlags := 26, nameIndex := 108, descriptorIndex := 109, attributes := #[] }, { accessFlags := 25, nameIndex := 294, descriptorIndex := 25, attributes := #[] }])
  fields := #[{ name := "U", type := (.object "jdk/internal/misc/Unsafe"), accessFlags := 24, slot := 0, constantValue := 0 }, { name := "BIG_ENDIAN", type := .boolean, accessFlags := 26, slot := 1, constantValue := 0 }, { name := "LOG2_ARRAY_BOOLEAN_INDEX_SCALE", type := .int, accessFlags := 25, slot := 2, constantValue := 0 }, { name := "LOG2_ARRAY_BYTE_INDEX_SCALE", type := .int, accessFlags := 25, slot := 3, constantValue := 0 }, { name := "LOG2_ARRAY_CHAR_INDEX_SCALE", type := .int, accessFlags := 25, slot := 4, constantValue := 0 }, { name := "LOG2_ARRAY_SHORT_INDEX_SCALE", type := .int, accessFlags := 25, slot := 5, constantValue := 0 }, { name := "LOG2_ARRAY_INT_INDEX_SCALE", type := .int, accessFlags := 25, slot := 6, constantValue := 0 }, { name := "LOG2_ARRAY_LONG_INDEX_SCALE", type := .int, accessFlags := 25, slot := 7, constantValue := 0 }, { name := "LOG2_ARRAY_FLOAT_INDEX_SCALE", type := .int, accessFlags := 25, slot := 8, constantValue := 0 }, { name := "LOG2_ARRAY_DOUBLE_INDEX_SCALE", type := .int, accessFlags := 25, slot := 9, constantValue := 0 }, { name := "LOG2_BYTE_BIT_SIZE", type := .int, accessFlags := 26, slot := 10, constantValue := 0 }, { name := "T_BOOLEAN", type := .int, accessFlags := 25, slot := 11, constantValue := 0 }, { name := "T_CHAR", type := .int, accessFlags := 25, slot := 12, constantValue := 0 }, { name := "T_FLOAT", type := .int, accessFlags := 25, slot := 13, constantValue := 0 }, { name := "T_DOUBLE", type := .int, accessFlags := 25, slot := 14, constantValue := 0 }, { name := "T_BYTE", type := .int, accessFlags := 25, slot := 15, constantValue := 0 }, { name := "T_SHORT", type := .int, accessFlags := 25, slot := 16, constantValue := 0 }, { name := "T_INT", type := .int, accessFlags := 25, slot := 17, constantValue := 0 }, { name := "T_LONG", type := .int, accessFlags := 25, slot := 18, constantValue := 0 }, { name := "JLA", type := (.object "jdk/internal/access/JavaLangAccess"), accessFlags := 26, slot := 19, constantValue := 0 }, { name := "SOFT_MAX_ARRAY_LENGTH", type := .int, accessFlags := 25, slot := 20, constantValue := 0 }]
  methods := #[k15m0]
  instanceTypes := #[]
  staticTypes := #[(.object "jdk/internal/misc/Unsafe"), .boolean, .int, .int, .int, .int, .int, .int, .int, .int, .int, .int, .int, .int, .int, .int, .int, .int, .int, (.object "jdk/internal/access/JavaLangAccess"), .int]
  resolved := Array.replicate 378 none
  statics := none }

def pool16 : Array CpInfo := pool [(1, u "java/lang/Cloneable"), (0, .class_ 1), (0, u "java/lang/Object"), (0, .class_ 3)] 3

/-- java/lang/Cloneable -/
def k16 : Class := { plain "java/lang/Cloneable" (some 0) with
  accessFlags := 1537
  interfaces := #[]
  cf := some (fileOf pool16 2 #[] #[] 1537 4 #[] #[])
  fields := #[]
  methods := #[]
  instanceTypes := #[]
  staticTypes := #[]
  resolved := Array.replicate 8 none
  statics := none }

/-- the primitive byte -/
def k17 : Class := { plain "byte" none with kind := .primitive 'B', accessFlags := 0x411 }
/-- [B -/
def k18 : Class := { plain "[B" (some 0) with kind := .array 17 .byte, interfaces := #[16, 2], accessFlags := 1041 }

/-- the primitive char -/
def k19 : Class := { plain "char" none with kind := .primitive 'C', accessFlags := 0x411 }
/-- [C -/
def k20 : Class := { plain "[C" (some 0) with kind := .array 19 .char, interfaces := #[16, 2], accessFlags := 1041 }

/-- the primitive int -/
def k21 : Class := { plain "int" none with kind := .primitive 'I', accessFlags := 0x411 }
/-- [I -/
def k22 : Class := { plain "[I" (some 0) with kind := .array 21 .int, interfaces := #[16, 2], accessFlags := 1041 }

def heap : Heap := #[{ cls := 7, slots := #[.long 0, .int 1, .null, .int 0, .null, .int 0, .int 0], vm := .statics 7 },
  { cls := 12, slots := #[.null, .null, .null], vm := .statics 12 }]
def classes : Array Class := #[k0, k1, k2, k3, k4, k5, k6, k7, k8, k9, k10, k11, k12, k13, k14, k15, k16, k17, k18, k19, k20, k21, k22]
def interned : List (Array UInt16 × Addr) := []
def slotsUsed : Nat := 10
def theMethod : MethodId := ⟨1, 1⟩
def args0 : Array Value := #[.int 5, .int 7, .int 9, .int 40, .int 3]
def aboutOver (below : List Frame) : State where
  vm := { classes := classes, interned := interned.toArray }
  heap := heap
  slotsUsed := slotsUsed
  threads := #[{ frames := .invoking theMethod args0 :: below }]
def below0 : List Frame := [.native { method := ⟨0, 0⟩, args := #[] }]
def about1 : State := aboutOver below0
def p0 : Program := .bare "" "" ""
def e0 : Env := launch0.env 0 0 0
theorem w_frames : about1.frames = Frame.invoking theMethod args0 :: below0 := rfl
set_option maxRecDepth 65536 in
theorem w_args : argsFit about1.vm theMethod args0 = true := by decide +kernel
set_option maxRecDepth 65536 in
theorem w_heap : heapFits about1 = true := by decide +kernel
set_option maxRecDepth 65536 in
theorem w_runnable : about1.curStatus? = some .runnable := by decide +kernel
set_option maxRecDepth 65536 in
theorem w_alone : about1.alone = true := by decide +kernel
set_option maxRecDepth 65536 in
theorem w_named : about1.methodNamed? x = some theMethod := by decide +kernel
set_option maxRecDepth 65536 in
theorem w_hears : about1.hears theMethod below0 = true := by decide +kernel
set_option maxRecDepth 65536 in
theorem w_ripe : about1.ripe theMethod args0 below0 = true := by decide +kernel
theorem w_running : about1.status = .running := rfl
set_option maxRecDepth 65536 in
theorem w_room : about1.hasRoom e0.platform room_1 = true :=
  launch0.hasRoom_least _ room_1 (by decide +kernel) (by decide +kernel) (by decide +kernel) (by decide +kernel) (by decide +kernel) (by decide +kernel)
theorem allAtoms_all (ts : List Jvm.Cond) (a : Array Jvm.Value) (st : Jvm.State) : (allAtoms ts).before a st = ts.all (fun c => c.before a st) := by
  induction ts with
  | nil => rfl
  | cons c t ih =>
    show (Jvm.Cond.and c (allAtoms t)).before a st = _
    rw [Jvm.Cond.before_and, ih, List.all_cons]
def words1 : List Jvm.Cond := Jvm.Cond.code x code maxLocals ret :: tables_1
/-- a 'code' word, met by the world's own term for the bytes: nothing is compared byte by byte -/
theorem code_word {y : MethodName} {bytes : ByteArray} {mx : Nat} {rt : Option FieldType} {a : Array Value} {s : State} {m : MethodId} {meth : Method} {c : Code} (h1 : s.methodNamed? y = some m) (h2 : s.vm.method? m = some meth) (h3 : meth.code = some c) (h4 : c.code = bytes)
    (h5 : (c.maxLocals == mx && c.exceptionTable.isEmpty && decide (c.maxStack ≤ mostOperands) && decide (meth.sig.returnType = rt) && !meth.locks && decide (parseMethodDescriptor y.desc = some meth.sig)) = true) : (Jvm.Cond.code y bytes mx rt).before a s = true := by
  simp only [Bool.and_eq_true, beq_iff_eq, Bool.not_eq_true', decide_eq_true_eq] at h5
  obtain ⟨⟨⟨⟨⟨g1, g2⟩, g3⟩, g4⟩, g5⟩, g6⟩ := h5
  simp [Cond.before, Cond.holds, Cond.value, h1, h2, h3, h4, g1, g2, g3, g4, g5, g6]
def isCode : Jvm.Cond → Bool
  | .code _ _ _ _ => true
  | _ => false
theorem all_split {L : List Jvm.Cond} {P : Jvm.Cond → Bool} (h1 : L.all (fun c => isCode c || P c) = true) (h2 : ∀ c ∈ L.filter isCode, P c = true) : L.all P = true := by
  refine List.all_eq_true.mpr fun c hc => ?_
  have h := List.all_eq_true.mp h1 c hc
  rcases Bool.eq_false_or_eq_true (isCode c) with hi | hi
  · exact h2 c (List.mem_filter.mpr ⟨hc, hi⟩)
  · simpa [hi] using h
set_option maxRecDepth 65536 in
theorem w_c0 : (Jvm.Cond.code x code maxLocals ret).before args0 about1 = true := code_word (m := ⟨1, 1⟩) (meth := k1m1) (c := k1c1) (by decide +kernel) rfl rfl rfl (by decide +kernel)
set_option maxRecDepth 65536 in
theorem w_c1 : (Jvm.Cond.code ({ cls := "com/example/neighbor_keys/neighborkeys/model/RelatedNameOfPinLaw", name := "ch", desc := "(I)C" } : Jvm.MethodName) method_3_code (1 : Nat) (Option.some Jvm.ClassFile.FieldType.char)).before args0 about1 = true := code_word (m := ⟨1, 2⟩) (meth := k1m2) (c := k1c2) (by decide +kernel) rfl rfl rfl (by decide +kernel)
set_option maxRecDepth 65536 in
theorem w_c2 : (Jvm.Cond.code ({ cls := "com/example/neighbor_keys/neighborkeys/model/RelatedNameOfPinLaw", name := "mk", desc := "(ICCCC)Ljava/lang/String;" } : Jvm.MethodName) method_4_code (5 : Nat) (Option.some (Jvm.ClassFile.FieldType.object "java/lang/String"))).before args0 about1 = true := code_word (m := ⟨1, 3⟩) (meth := k1m3) (c := k1c3) (by decide +kernel) rfl rfl rfl (by decide +kernel)
set_option maxRecDepth 65536 in
theorem w_c3 : (Jvm.Cond.code ({ cls := "com/example/neighbor_keys/neighborkeys/model/Related", name := "nameOf", desc := "(Ljava/lang/String;)Ljava/lang/String;" } : Jvm.MethodName) prog_30_method_2_code (2 : Nat) (Option.some (Jvm.ClassFile.FieldType.object "java/lang/String"))).before args0 about1 = true := code_word (m := ⟨8, 0⟩) (meth := k8m0) (c := k8c0) (by decide +kernel) rfl rfl rfl (by decide +kernel)
set_option maxRecDepth 65536 in
theorem w_c4 : (Jvm.Cond.code ({ cls := "java/lang/String", name := "indexOf", desc := "(I)I" } : Jvm.MethodName) jdk_42_method_79_code (2 : Nat) (Option.some Jvm.ClassFile.FieldType.int)).before args0 about1 = true := code_word (m := ⟨7, 4⟩) (meth := k7m4) (c := k7c4) (by decide +kernel) rfl rfl rfl (by decide +kernel)
set_option maxRecDepth 65536 in
theorem w_c5 : (Jvm.Cond.code ({ cls := "java/lang/String", name := "indexOf", desc := "(II)I" } : Jvm.MethodName) jdk_42_method_80_code (3 : Nat) (Option.some Jvm.ClassFile.FieldType.int)).before args0 about1 = true := code_word (m := ⟨7, 5⟩) (meth := k7m5) (c := k7c5) (by decide +kernel) rfl rfl rfl (by decide +kernel)
set_option maxRecDepth 65536 in
theorem w_c6 : (Jvm.Cond.code ({ cls := "java/lang/String", name := "isLatin1", desc := "()Z" } : Jvm.MethodName) jdk_42_method_154_code (1 : Nat) (Option.some Jvm.ClassFile.FieldType.boolean)).before args0 about1 = true := code_word (m := ⟨7, 11⟩) (meth := k7m11) (c := k7c11) (by decide +kernel) rfl rfl rfl (by decide +kernel)
set_option maxRecDepth 65536 in
theorem w_c7 : (Jvm.Cond.code ({ cls := "java/lang/String", name := "length", desc := "()I" } : Jvm.MethodName) jdk_42_method_54_code (1 : Nat) (Option.some Jvm.ClassFile.FieldType.int)).before args0 about1 = true := code_word (m := ⟨7, 2⟩) (meth := k7m2) (c := k7c2) (by decide +kernel) rfl rfl rfl (by decide +kernel)
set_option maxRecDepth 65536 in
theorem w_c8 : (Jvm.Cond.code ({ cls := "java/lang/String", name := "coder", desc := "()B" } : Jvm.MethodName) jdk_42_method_152_code (1 : Nat) (Option.some Jvm.ClassFile.FieldType.byte)).before args0 about1 = true := code_word (m := ⟨7, 10⟩) (meth := k7m10) (c := k7c10) (by decide +kernel) rfl rfl rfl (by decide +kernel)
set_option maxRecDepth 65536 in
theorem w_c9 : (Jvm.Cond.code ({ cls := "java/lang/StringLatin1", name := "indexOf", desc := "([BIII)I" } : Jvm.MethodName) jdk_43_method_22_code (4 : Nat) (Option.some Jvm.ClassFile.FieldType.int)).before args0 about1 = true := code_word (m := ⟨9, 4⟩) (meth := k9m4) (c := k9c4) (by decide +kernel) rfl rfl rfl (by decide +kernel)
set_option maxRecDepth 65536 in
theorem w_c10 : (Jvm.Cond.code ({ cls := "java/lang/StringLatin1", name := "canEncode", desc := "(I)Z" } : Jvm.MethodName) jdk_43_method_4_code (1 : Nat) (Option.some Jvm.ClassFile.FieldType.boolean)).before args0 about1 = true := code_word (m := ⟨9, 2⟩) (meth := k9m2) (c := k9c2) (by decide +kernel) rfl rfl rfl (by decide +kernel)
set_option maxRecDepth 65536 in
theorem w_c11 : (Jvm.Cond.code ({ cls := "java/lang/Math", name := "max", desc := "(II)I" } : Jvm.MethodName) jdk_29_method_65_code (2 : Nat) (Option.some Jvm.ClassFile.FieldType.int)).before args0 about1 = true := code_word (m := ⟨10, 1⟩) (meth := k10m1) (c := k10c1) (by decide +kernel) rfl rfl rfl (by decide +kernel)
set_option maxRecDepth 65536 in
theorem w_c12 : (Jvm.Cond.code ({ cls := "java/lang/Math", name := "min", desc := "(II)I" } : Jvm.MethodName) jdk_29_method_69_code (2 : Nat) (Option.some Jvm.ClassFile.FieldType.int)).before args0 about1 = true := code_word (m := ⟨10, 2⟩) (meth := k10m2) (c := k10c2) (by decide +kernel) rfl rfl rfl (by decide +kernel)
set_option maxRecDepth 65536 in
theorem w_c13 : (Jvm.Cond.code ({ cls := "java/lang/String", name := "<init>", desc := "([C)V" } : Jvm.MethodName) jdk_42_method_3_code (2 : Nat) (Option.none : Option Jvm.ClassFile.FieldType)).before args0 about1 = true := code_word (m := ⟨7, 1⟩) (meth := k7m1) (c := k7c1) (by decide +kernel) rfl rfl rfl (by decide +kernel)
set_option maxRecDepth 65536 in
theorem w_c14 : (Jvm.Cond.code ({ cls := "java/lang/String", name := "<init>", desc := "([CIILjava/lang/Void;)V" } : Jvm.MethodName) jdk_42_method_149_code (6 : Nat) (Option.none : Option Jvm.ClassFile.FieldType)).before args0 about1 = true := code_word (m := ⟨7, 8⟩) (meth := k7m8) (c := k7c8) (by decide +kernel) rfl rfl rfl (by decide +kernel)
set_option maxRecDepth 65536 in
theorem w_c15 : (Jvm.Cond.code ({ cls := "java/lang/Object", name := "<init>", desc := "()V" } : Jvm.MethodName) object_method_1_code (1 : Nat) (Option.none : Option Jvm.ClassFile.FieldType)).before args0 about1 = true := code_word (m := ⟨0, 0⟩) (meth := k0m0) (c := k0c0) (by decide +kernel) rfl rfl rfl (by decide +kernel)
set_option maxRecDepth 65536 in
theorem w_c16 : (Jvm.Cond.code ({ cls := "java/lang/StringUTF16", name := "compress", desc := "([CII)[B" } : Jvm.MethodName) jdk_52_method_16_code (6 : Nat) (Option.some (Jvm.ClassFile.FieldType.array Jvm.ClassFile.FieldType.byte))).before args0 about1 = true := code_word (m := ⟨11, 2⟩) (meth := k11m2) (c := k11c2) (by decide +kernel) rfl rfl rfl (by decide +kernel)
set_option maxRecDepth 65536 in
theorem w_c17 : (Jvm.Cond.code ({ cls := "java/lang/StringUTF16", name := "compress", desc := "([CI[BII)I" } : Jvm.MethodName) jdk_52_method_21_code (7 : Nat) (Option.some Jvm.ClassFile.FieldType.int)).before args0 about1 = true := code_word (m := ⟨11, 3⟩) (meth := k11m3) (c := k11c3) (by decide +kernel) rfl rfl rfl (by decide +kernel)
set_option maxRecDepth 65536 in
theorem w_c18 : (Jvm.Cond.code ({ cls := "java/lang/StringUTF16", name := "coderFromArrayLen", desc := "([BI)B" } : Jvm.MethodName) jdk_52_method_15_code (2 : Nat) (Option.some Jvm.ClassFile.FieldType.byte)).before args0 about1 = true := code_word (m := ⟨11, 1⟩) (meth := k11m1) (c := k11c1) (by decide +kernel) rfl rfl rfl (by decide +kernel)
set_option maxRecDepth 65536 in
theorem w_c19 : (Jvm.Cond.code ({ cls := "java/lang/StringLatin1", name := "indexOfChar", desc := "([BIII)I" } : Jvm.MethodName) jdk_43_method_23_code (6 : Nat) (Option.some Jvm.ClassFile.FieldType.int)).before args0 about1 = true := code_word (m := ⟨9, 5⟩) (meth := k9m5) (c := k9c5) (by decide +kernel) rfl rfl rfl (by decide +kernel)
set_option maxRecDepth 65536 in
theorem w_c20 : (Jvm.Cond.code ({ cls := "java/lang/String", name := "substring", desc := "(II)Ljava/lang/String;" } : Jvm.MethodName) jdk_42_method_92_code (5 : Nat) (Option.some (Jvm.ClassFile.FieldType.object "java/lang/String"))).before args0 about1 = true := code_word (m := ⟨7, 6⟩) (meth := k7m6) (c := k7c6) (by decide +kernel) rfl rfl rfl (by decide +kernel)
set_option maxRecDepth 65536 in
theorem w_c21 : (Jvm.Cond.code ({ cls := "java/lang/String", name := "checkBoundsBeginEnd", desc := "(III)V" } : Jvm.MethodName) jdk_42_method_158_code (3 : Nat) (Option.none : Option Jvm.ClassFile.FieldType)).before args0 about1 = true := code_word (m := ⟨7, 12⟩) (meth := k7m12) (c := k7c12) (by decide +kernel) rfl rfl rfl (by decide +kernel)
set_option maxRecDepth 65536 in
theorem w_c22 : (Jvm.Cond.code ({ cls := "jdk/internal/util/Preconditions", name := "checkFromToIndex", desc := "(IIILjava/util/function/BiFunction;)I" } : Jvm.MethodName) jdk_41_method_12_code (4 : Nat) (Option.some Jvm.ClassFile.FieldType.int)).before args0 about1 = true := code_word (m := ⟨12, 1⟩) (meth := k12m1) (c := k12c1) (by decide +kernel) rfl rfl rfl (by decide +kernel)
set_option maxRecDepth 65536 in
theorem w_c23 : (Jvm.Cond.code ({ cls := "java/lang/StringLatin1", name := "newString", desc := "([BII)Ljava/lang/String;" } : Jvm.MethodName) jdk_43_method_47_code (3 : Nat) (Option.some (Jvm.ClassFile.FieldType.object "java/lang/String"))).before args0 about1 = true := code_word (m := ⟨9, 7⟩) (meth := k9m7) (c := k9c7) (by decide +kernel) rfl rfl rfl (by decide +kernel)
set_option maxRecDepth 65536 in
theorem w_c24 : (Jvm.Cond.code ({ cls := "java/lang/String", name := "equals", desc := "(Ljava/lang/Object;)Z" } : Jvm.MethodName) jdk_42_method_66_code (3 : Nat) (Option.some Jvm.ClassFile.FieldType.boolean)).before args0 about1 = true := code_word (m := ⟨7, 3⟩) (meth := k7m3) (c := k7c3) (by decide +kernel) rfl rfl rfl (by decide +kernel)
set_option maxRecDepth 65536 in
theorem w_c25 : (Jvm.Cond.code ({ cls := "java/lang/String", name := "valueOf", desc := "(C)Ljava/lang/String;" } : Jvm.MethodName) jdk_42_method_139_code (1 : Nat) (Option.some (Jvm.ClassFile.FieldType.object "java/lang/String"))).before args0 about1 = true := code_word (m := ⟨7, 7⟩) (meth := k7m7) (c := k7c7) (by decide +kernel) rfl rfl rfl (by decide +kernel)
set_option maxRecDepth 65536 in
theorem w_c26 : (Jvm.Cond.code ({ cls := "java/lang/StringLatin1", name := "canEncode", desc := "(C)Z" } : Jvm.MethodName) jdk_43_method_3_code (1 : Nat) (Option.some Jvm.ClassFile.FieldType.boolean)).before args0 about1 = true := code_word (m := ⟨9, 1⟩) (meth := k9m1) (c := k9c1) (by decide +kernel) rfl rfl rfl (by decide +kernel)
set_option maxRecDepth 65536 in
theorem w_c27 : (Jvm.Cond.code ({ cls := "java/lang/StringLatin1", name := "toBytes", desc := "(C)[B" } : Jvm.MethodName) jdk_43_method_46_code (1 : Nat) (Option.some (Jvm.ClassFile.FieldType.array Jvm.ClassFile.FieldType.byte))).before args0 about1 = true := code_word (m := ⟨9, 6⟩) (meth := k9m6) (c := k9c6) (by decide +kernel) rfl rfl rfl (by decide +kernel)
set_option maxRecDepth 65536 in
theorem w_c28 : (Jvm.Cond.code ({ cls := "java/lang/String", name := "<init>", desc := "([BB)V" } : Jvm.MethodName) jdk_42_method_151_code (3 : Nat) (Option.none : Option Jvm.ClassFile.FieldType)).before args0 about1 = true := code_word (m := ⟨7, 9⟩) (meth := k7m9) (c := k7c9) (by decide +kernel) rfl rfl rfl (by decide +kernel)
set_option maxRecDepth 65536 in
theorem w_c29 : (Jvm.Cond.code ({ cls := "java/util/Arrays", name := "copyOfRange", desc := "([BII)[B" } : Jvm.MethodName) jdk_65_method_132_code (3 : Nat) (Option.some (Jvm.ClassFile.FieldType.array Jvm.ClassFile.FieldType.byte))).before args0 about1 = true := code_word (m := ⟨13, 2⟩) (meth := k13m2) (c := k13c2) (by decide +kernel) rfl rfl rfl (by decide +kernel)
set_option maxRecDepth 65536 in
theorem w_c30 : (Jvm.Cond.code ({ cls := "java/util/Arrays", name := "copyOfRangeByte", desc := "([BII)[B" } : Jvm.MethodName) jdk_65_method_133_code (5 : Nat) (Option.some (Jvm.ClassFile.FieldType.array Jvm.ClassFile.FieldType.byte))).before args0 about1 = true := code_word (m := ⟨13, 3⟩) (meth := k13m3) (c := k13c3) (by decide +kernel) rfl rfl rfl (by decide +kernel)
set_option maxRecDepth 65536 in
theorem w_c31 : (Jvm.Cond.code ({ cls := "java/util/Arrays", name := "checkLength", desc := "(II)V" } : Jvm.MethodName) jdk_65_method_131_code (2 : Nat) (Option.none : Option Jvm.ClassFile.FieldType)).before args0 about1 = true := code_word (m := ⟨13, 1⟩) (meth := k13m1) (c := k13c1) (by decide +kernel) rfl rfl rfl (by decide +kernel)
set_option maxRecDepth 65536 in
theorem w_c32 : (Jvm.Cond.code ({ cls := "java/lang/StringLatin1", name := "equals", desc := "([B[B)Z" } : Jvm.MethodName) jdk_43_method_13_code (3 : Nat) (Option.some Jvm.ClassFile.FieldType.boolean)).before args0 about1 = true := code_word (m := ⟨9, 3⟩) (meth := k9m3) (c := k9c3) (by decide +kernel) rfl rfl rfl (by decide +kernel)
def codes1 : List Jvm.Cond := [Jvm.Cond.code x code maxLocals ret, Jvm.Cond.code ({ cls := "com/example/neighbor_keys/neighborkeys/model/RelatedNameOfPinLaw", name := "ch", desc := "(I)C" } : Jvm.MethodName) method_3_code (1 : Nat) (Option.some Jvm.ClassFile.FieldType.char), Jvm.Cond.code ({ cls := "com/example/neighbor_keys/neighborkeys/model/RelatedNameOfPinLaw", name := "mk", desc := "(ICCCC)Ljava/lang/String;" } : Jvm.MethodName) method_4_code (5 : Nat) (Option.some (Jvm.ClassFile.FieldType.object "java/lang/String")), Jvm.Cond.code ({ cls := "com/example/neighbor_keys/neighborkeys/model/Related", name := "nameOf", desc := "(Ljava/lang/String;)Ljava/lang/String;" } : Jvm.MethodName) prog_30_method_2_code (2 : Nat) (Option.some (Jvm.ClassFile.FieldType.object "java/lang/String")), Jvm.Cond.code ({ cls := "java/lang/String", name := "indexOf", desc := "(I)I" } : Jvm.MethodName) jdk_42_method_79_code (2 : Nat) (Option.some Jvm.ClassFile.FieldType.int), Jvm.Cond.code ({ cls := "java/lang/String", name := "indexOf", desc := "(II)I" } : Jvm.MethodName) jdk_42_method_80_code (3 : Nat) (Option.some Jvm.ClassFile.FieldType.int), Jvm.Cond.code ({ cls := "java/lang/String", name := "isLatin1", desc := "()Z" } : Jvm.MethodName) jdk_42_method_154_code (1 : Nat) (Option.some Jvm.ClassFile.FieldType.boolean), Jvm.Cond.code ({ cls := "java/lang/String", name := "length", desc := "()I" } : Jvm.MethodName) jdk_42_method_54_code (1 : Nat) (Option.some Jvm.ClassFile.FieldType.int), Jvm.Cond.code ({ cls := "java/lang/String", name := "coder", desc := "()B" } : Jvm.MethodName) jdk_42_method_152_code (1 : Nat) (Option.some Jvm.ClassFile.FieldType.byte), Jvm.Cond.code ({ cls := "java/lang/StringLatin1", name := "indexOf", desc := "([BIII)I" } : Jvm.MethodName) jdk_43_method_22_code (4 : Nat) (Option.some Jvm.ClassFile.FieldType.int), Jvm.Cond.code ({ cls := "java/lang/StringLatin1", name := "canEncode", desc := "(I)Z" } : Jvm.MethodName) jdk_43_method_4_code (1 : Nat) (Option.some Jvm.ClassFile.FieldType.boolean), Jvm.Cond.code ({ cls := "java/lang/Math", name := "max", desc := "(II)I" } : Jvm.MethodName) jdk_29_method_65_code (2 : Nat) (Option.some Jvm.ClassFile.FieldType.int), Jvm.Cond.code ({ cls := "java/lang/Math", name := "min", desc := "(II)I" } : Jvm.MethodName) jdk_29_method_69_code (2 : Nat) (Option.some Jvm.ClassFile.FieldType.int), Jvm.Cond.code ({ cls := "java/lang/String", name := "<init>", desc := "([C)V" } : Jvm.MethodName) jdk_42_method_3_code (2 : Nat) (Option.none : Option Jvm.ClassFile.FieldType), Jvm.Cond.code ({ cls := "java/lang/String", name := "<init>", desc := "([CIILjava/lang/Void;)V" } : Jvm.MethodName) jdk_42_method_149_code (6 : Nat) (Option.none : Option Jvm.ClassFile.FieldType), Jvm.Cond.code ({ cls := "java/lang/Object", name := "<init>", desc := "()V" } : Jvm.MethodName) object_method_1_code (1 : Nat) (Option.none : Option Jvm.ClassFile.FieldType), Jvm.Cond.code ({ cls := "java/lang/StringUTF16", name := "compress", desc := "([CII)[B" } : Jvm.MethodName) jdk_52_method_16_code (6 : Nat) (Option.some (Jvm.ClassFile.FieldType.array Jvm.ClassFile.FieldType.byte)), Jvm.Cond.code ({ cls := "java/lang/StringUTF16", name := "compress", desc := "([CI[BII)I" } : Jvm.MethodName) jdk_52_method_21_code (7 : Nat) (Option.some Jvm.ClassFile.FieldType.int), Jvm.Cond.code ({ cls := "java/lang/StringUTF16", name := "coderFromArrayLen", desc := "([BI)B" } : Jvm.MethodName) jdk_52_method_15_code (2 : Nat) (Option.some Jvm.ClassFile.FieldType.byte), Jvm.Cond.code ({ cls := "java/lang/StringLatin1", name := "indexOfChar", desc := "([BIII)I" } : Jvm.MethodName) jdk_43_method_23_code (6 : Nat) (Option.some Jvm.ClassFile.FieldType.int), Jvm.Cond.code ({ cls := "java/lang/String", name := "substring", desc := "(II)Ljava/lang/String;" } : Jvm.MethodName) jdk_42_method_92_code (5 : Nat) (Option.some (Jvm.ClassFile.FieldType.object "java/lang/String")), Jvm.Cond.code ({ cls := "java/lang/String", name := "checkBoundsBeginEnd", desc := "(III)V" } : Jvm.MethodName) jdk_42_method_158_code (3 : Nat) (Option.none : Option Jvm.ClassFile.FieldType), Jvm.Cond.code ({ cls := "jdk/internal/util/Preconditions", name := "checkFromToIndex", desc := "(IIILjava/util/function/BiFunction;)I" } : Jvm.MethodName) jdk_41_method_12_code (4 : Nat) (Option.some Jvm.ClassFile.FieldType.int), Jvm.Cond.code ({ cls := "java/lang/StringLatin1", name := "newString", desc := "([BII)Ljava/lang/String;" } : Jvm.MethodName) jdk_43_method_47_code (3 : Nat) (Option.some (Jvm.ClassFile.FieldType.object "java/lang/String")), Jvm.Cond.code ({ cls := "java/lang/String", name := "equals", desc := "(Ljava/lang/Object;)Z" } : Jvm.MethodName) jdk_42_method_66_code (3 : Nat) (Option.some Jvm.ClassFile.FieldType.boolean), Jvm.Cond.code ({ cls := "java/lang/String", name := "valueOf", desc := "(C)Ljava/lang/String;" } : Jvm.MethodName) jdk_42_method_139_code (1 : Nat) (Option.some (Jvm.ClassFile.FieldType.object "java/lang/String")), Jvm.Cond.code ({ cls := "java/lang/StringLatin1", name := "canEncode", desc := "(C)Z" } : Jvm.MethodName) jdk_43_method_3_code (1 : Nat) (Option.some Jvm.ClassFile.FieldType.boolean), Jvm.Cond.code ({ cls := "java/lang/StringLatin1", name := "toBytes", desc := "(C)[B" } : Jvm.MethodName) jdk_43_method_46_code (1 : Nat) (Option.some (Jvm.ClassFile.FieldType.array Jvm.ClassFile.FieldType.byte)), Jvm.Cond.code ({ cls := "java/lang/String", name := "<init>", desc := "([BB)V" } : Jvm.MethodName) jdk_42_method_151_code (3 : Nat) (Option.none : Option Jvm.ClassFile.FieldType), Jvm.Cond.code ({ cls := "java/util/Arrays", name := "copyOfRange", desc := "([BII)[B" } : Jvm.MethodName) jdk_65_method_132_code (3 : Nat) (Option.some (Jvm.ClassFile.FieldType.array Jvm.ClassFile.FieldType.byte)), Jvm.Cond.code ({ cls := "java/util/Arrays", name := "copyOfRangeByte", desc := "([BII)[B" } : Jvm.MethodName) jdk_65_method_133_code (5 : Nat) (Option.some (Jvm.ClassFile.FieldType.array Jvm.ClassFile.FieldType.byte)), Jvm.Cond.code ({ cls := "java/util/Arrays", name := "checkLength", desc := "(II)V" } : Jvm.MethodName) jdk_65_method_131_code (2 : Nat) (Option.none : Option Jvm.ClassFile.FieldType), Jvm.Cond.code ({ cls := "java/lang/StringLatin1", name := "equals", desc := "([B[B)Z" } : Jvm.MethodName) jdk_43_method_13_code (3 : Nat) (Option.some Jvm.ClassFile.FieldType.boolean)]
set_option maxRecDepth 65536 in
theorem codes_eq : words1.filter isCode = codes1 := rfl
theorem w_codes : ∀ c ∈ words1.filter isCode, c.before args0 about1 = true := by
  rw [codes_eq]
  intro c hc
  simp only [codes1, List.mem_cons, List.not_mem_nil, or_false] at hc
  rcases hc with rfl | rfl | rfl | rfl | rfl | rfl | rfl | rfl | rfl | rfl | rfl | rfl | rfl | rfl | rfl | rfl | rfl | rfl | rfl | rfl | rfl | rfl | rfl | rfl | rfl | rfl | rfl | rfl | rfl | rfl | rfl | rfl | rfl
  · exact w_c0
  · exact w_c1
  · exact w_c2
  · exact w_c3
  · exact w_c4
  · exact w_c5
  · exact w_c6
  · exact w_c7
  · exact w_c8
  · exact w_c9
  · exact w_c10
  · exact w_c11
  · exact w_c12
  · exact w_c13
  · exact w_c14
  · exact w_c15
  · exact w_c16
  · exact w_c17
  · exact w_c18
  · exact w_c19
  · exact w_c20
  · exact w_c21
  · exact w_c22
  · exact w_c23
  · exact w_c24
  · exact w_c25
  · exact w_c26
  · exact w_c27
  · exact w_c28
  · exact w_c29
  · exact w_c30
  · exact w_c31
  · exact w_c32
set_option maxRecDepth 65536 in
theorem w_t1 : (words1.take 24).all (fun c => isCode c || c.before args0 about1) = true := by decide +kernel
set_option maxRecDepth 65536 in
theorem w_t2 : ((words1.drop 24).take 24).all (fun c => isCode c || c.before args0 about1) = true := by decide +kernel
set_option maxRecDepth 65536 in
theorem w_t3 : (((words1.drop 24).drop 24).take 24).all (fun c => isCode c || c.before args0 about1) = true := by decide +kernel
set_option maxRecDepth 65536 in
theorem w_t4 : ((((words1.drop 24).drop 24).drop 24).take 24).all (fun c => isCode c || c.before args0 about1) = true := by decide +kernel
set_option maxRecDepth 65536 in
theorem w_t5 : (((((words1.drop 24).drop 24).drop 24).drop 24).take 24).all (fun c => isCode c || c.before args0 about1) = true := by decide +kernel
set_option maxRecDepth 65536 in
theorem w_t6 : (((((words1.drop 24).drop 24).drop 24).drop 24).drop 24).all (fun c => isCode c || c.before args0 about1) = true := by decide +kernel
theorem w_tables : (allAtoms (Jvm.Cond.code x code maxLocals ret :: tables_1)).before args0 about1 = true := by
  rw [allAtoms_all]
  show words1.all (fun c => c.before args0 about1) = true
  refine all_split ?_ w_codes
  rw [← List.take_append_drop 24 words1, List.all_append, w_t1, ← List.take_append_drop 24 (words1.drop 24), List.all_append, w_t2, ← List.take_append_drop 24 ((words1.drop 24).drop 24), List.all_append, w_t3, ← List.take_append_drop 24 (((words1.drop 24).drop 24).drop 24), List.all_append, w_t4, ← List.take_append_drop 24 ((((words1.drop 24).drop 24).drop 24).drop 24), List.all_append, w_t5, w_t6]
  rfl
set_option maxRecDepth 65536 in
theorem w_rest : rest_1_c.before args0 about1 = true := by decide +kernel
set_option maxRecDepth 65536 in
theorem w_case : (Jvm.Cond.and given_1 narrow_1).before args0 about1 = true := by decide +kernel
set_option maxRecDepth 65536 in
theorem w_consts : constsHeld consts_1 about1 := Jvm.Lit.constsHeldB_iff.mp (by decide +kernel)
theorem w_applies : (headSpec (Jvm.Cond.code x code maxLocals ret :: tables_1) room_1).applies x e0.platform about1 = true :=
  (Spec.applies_iff w_frames).mpr ⟨w_running, w_runnable, w_alone, w_named, w_hears, w_ripe, w_room, w_tables⟩
theorem atStart : AtStart classFile x code maxLocals ret World_1 tables_1 room_1 Calls_1 rest_1 Pre_1 launch0 p0 e0 about1 theMethod args0 below0 :=
  ⟨lists_1, trivial, launch0.admits_env _ _ _, launch0.least_env, fairChoices_fair.cas, fairChoices_fair.clock, w_frames, w_args, w_heap, w_applies, ⟨w_consts, trivial⟩, w_rest, w_case⟩
end start1
theorem witness_1 : WitnessClaimed_1 := ⟨start1.p0, start1.e0, start1.about1, start1.theMethod, start1.args0, start1.below0, start1.atStart⟩
end Jvm.Pilot.@@N@@
