import JvmDerived
import JvmDerived.Pilot.@@N@@Statement
import JvmDerived.Pilot.@@N@@Code
set_option linter.unusedVariables false
set_option linter.unusedSimpArgs false
namespace Jvm.RoadKit
open Sem ClassFile Op Lib Jvm.Stand Jvm.Free Jvm.LawKit
section OwnKit
/-- the run from S comes to an end that P allows -/
def Gl (tb : Tables) (e : Env) (below : List Frame) (P : Outcome → State → Prop) (S : State) : Prop := ∃ s₂ o, Steps tb e below S s₂ ∧ s₂.status = .running ∧ Ended s₂ below o ∧ P o s₂
variable {tb : Tables} {p : Program} {l : Launch} {e : Env} {R : Room} {s : State} {m : MethodId} {args : Array Value} {below : List Frame} {meth : Method} {c : Code} {T : State} {locs : List Loc} {cells slots : Nat} {P : Outcome → State → Prop} {S S' : State}
theorem Gl.st (h : ∀ t, Steps tb e below S' t → Steps tb e below S t) (k : Gl tb e below P S') : Gl tb e below P S := by
  obtain ⟨s₂, o, h1, h2⟩ := k; exact ⟨s₂, o, h _ h1, h2⟩
theorem Gl.to (h : Steps tb e below S S') (k : Gl tb e below P S') : Gl tb e below P S := Gl.st (fun _ q => h.trans q) k
theorem Gl.cast {g g' : JFrame} (q : g = g') (k : Gl tb e below P (T.setTop g')) : Gl tb e below P (T.setTop g) := q ▸ k
abbrev EndN (s : State) (Q : Option Value → Heap → List Loc → Prop) (kc ks : Nat) : Outcome → State → Prop := fun o s₂ => ∃ v L, o = .returned v ∧ Q v s₂.heap L ∧ FrameEnd s o s₂ L kc ks
abbrev EndW (s : State) (Q : Option Value → Heap → List Loc → Prop) (kc ks : Nat) : Outcome → State → Prop := fun o s₂ => ∃ v L, o = .returned v ∧ Q v s₂.heap L ∧ ReturnedEndW s o s₂ L kc ks
variable {Q : Option Value → Heap → List Loc → Prop} {kc ks : Nat}
theorem Gl.fin (X : Stand p l e R s m args below meth c T locs cells slots) {v : Option Value} (hv : meth.sig.returnType = none → v = none) (hlk : meth.locks = false) (hc : cells ≤ kc) (hs : slots ≤ ks) (hQ : Q v T.heap locs)
    (k : ∀ fs, (∀ (f : JFrame) (acts : List Action), f.method = m → f.locked = none → f.entered = [] → (doReturn e (T.setTop f) acts v).1 = T.setFrames fs) → Steps p.tables e below S (T.setFrames fs)) : Gl p.tables e below (EndN s Q kc ks) S := by
  obtain ⟨fs, hr, hrun, hended, hW, hsame⟩ := X.leave hv hlk
  exact ⟨_, _, k fs hr, hrun, hended, v, locs, rfl, hQ, ⟨_, rfl⟩, hW, hsame.mono hc hs⟩
theorem Gl.finW {vm₁ : Vm} {n : Nat} (X : Stand p l e R (s.setVm vm₁) m args below meth c T locs cells slots) (hS : s.Since vm₁ n) (hn : n ≤ T.heap.size) {v : Option Value} (hv : meth.sig.returnType = none → v = none) (hlk : meth.locks = false) (hc : cells ≤ kc) (hs : slots ≤ ks) (hQ : Q v T.heap locs)
    (k : ∀ fs, (∀ (f : JFrame) (acts : List Action), f.method = m → f.locked = none → f.entered = [] → (doReturn e (T.setTop f) acts v).1 = T.setFrames fs) → Steps p.tables e below S (T.setFrames fs)) : Gl p.tables e below (EndW s Q kc ks) S := by
  obtain ⟨fs, hr, hrun, hended, h1, h2, h3, hsame⟩ := X.leaveW hS hn hv hlk
  exact ⟨_, _, k fs hr, hrun, hended, v, locs, rfl, hQ, h1, h2, h3, hsame.mono hc hs⟩
variable {pc : Nat} {Ls : Array Slot} {rest : List Value}
theorem nov {meth : Method} {t : FieldType} {v : Option Value} (h : meth.sig.returnType = some t) : meth.sig.returnType = none → v = none := fun q => by rw [h] at q; cases q
theorem narR {t : FieldType} {w : Value} (hw : w.isRef = true) (ht : t.isReference = true) : narrow t w = w := by
  rcases ref_cases hw with rfl | ⟨a, rfl⟩ <;> cases t <;> first | rfl | (simp [FieldType.isReference] at ht)
theorem fitR {t : FieldType} {w : Value} (hw : w.isRef = true) (ht : t.isReference = true) : fits t w = true := by
  rcases ref_cases hw with rfl | ⟨a, rfl⟩ <;> cases t <;> first | rfl | (simp [FieldType.isReference] at ht)
theorem refc {w : Value} (hw : w.isRef = true) : w.category = 1 := by
  rcases ref_cases hw with rfl | ⟨a, rfl⟩ <;> rfl
theorem lt_ne32 {u w : Int32} (h : u < w) : ¬ u = w := fun q => by rw [q] at h; exact Int32.lt_irrefl h
theorem lt_ne32' {u w : Int32} (h : w < u) : ¬ u = w := fun q => lt_ne32 h q.symm
theorem tri32 {u w : Int32} (h1 : ¬ u < w) (h2 : ¬ w < u) : u = w := by
  rw [Int32.lt_iff_toInt_lt] at h1 h2
  exact Int32.toInt_inj.mp (by omega)
theorem alc0 {P : Int32 → Prop} : ∀ x ∈ ([] : List Int32), P x := fun _ q => nomatch q
theorem alcS {P : Int32 → Prop} {y : Int32} {L : List Int32} (q : P y) (r : ∀ x ∈ L, P x) : ∀ x ∈ y :: L, P x := fun x z => (List.mem_cons.mp z).elim (fun u => u ▸ q) (r x)
theorem up255 (cs : List Int32) (h : ∀ c ∈ cs, ¬ c < 0 ∧ ¬ (255 : Int32) < c) : ∀ c ∈ cs, ¬ c < 0 ∧ ¬ (65535 : Int32) < c := fun c hc => ⟨(h c hc).1, fun q => (h c hc).2 (by rw [Int32.lt_iff_toInt_lt] at q ⊢; have e1 : (65535 : Int32).toInt = 65535 := rfl; have e2 : (255 : Int32).toInt = 255 := rfl; omega)⟩
theorem Gl.retN (X : Stand p l e R s m args below meth c T locs cells slots) (hx : p.tables.exec = Jvm.exec) {z : Int32} {t : FieldType} (hret : meth.sig.returnType = some t) (ht : t = .boolean ∨ t = .byte ∨ t = .char ∨ t = .short) (hd : decode c.code pc = .ok (.ireturn, 1)) (hlk : meth.locks = false) (hc : cells ≤ kc) (hs : slots ≤ ks) (hQ : Q (some (.int (nar t z))) T.heap locs) : Gl p.tables e below (EndN s Q kc ks) (T.setTop (mkF m pc Ls (.int z :: rest))) :=
  Gl.fin X (nov hret) hlk hc hs hQ fun _ hr => Jvm.RoadKit.retN X hx hret ht hd hr
theorem retIo (X : Stand p l e R s m args below meth c T locs cells slots) (hx : p.tables.exec = Jvm.exec) {z : Int32} (hret : meth.sig.returnType = some .int) (hd : decode c.code pc = .ok (.ireturn, 1)) {fs : List Frame}
    (hl : ∀ (f : JFrame) (acts : List Action), f.method = m → f.locked = none → f.entered = [] → (doReturn e (T.setTop f) acts (some (.int z))).1 = T.setFrames fs) : Steps p.tables e below (T.setTop (mkF m pc Ls (.int z :: rest))) (T.setFrames fs) :=
  retOut X hx hret rfl (Or.inl ⟨rfl, Or.inl rfl, _, rfl⟩) hd hl
theorem Gl.retI (X : Stand p l e R s m args below meth c T locs cells slots) (hx : p.tables.exec = Jvm.exec) {z : Int32} (hret : meth.sig.returnType = some .int) (hd : decode c.code pc = .ok (.ireturn, 1)) (hlk : meth.locks = false) (hc : cells ≤ kc) (hs : slots ≤ ks) (hQ : Q (some (.int z)) T.heap locs) : Gl p.tables e below (EndN s Q kc ks) (T.setTop (mkF m pc Ls (.int z :: rest))) :=
  Gl.fin X (nov hret) hlk hc hs hQ fun _ hr => retIo X hx hret hd hr
theorem Gl.retJ (X : Stand p l e R s m args below meth c T locs cells slots) (hx : p.tables.exec = Jvm.exec) {z : Int64} (hret : meth.sig.returnType = some .long) (hd : decode c.code pc = .ok (.lreturn, 1)) (hlk : meth.locks = false) (hc : cells ≤ kc) (hs : slots ≤ ks) (hQ : Q (some (.long z)) T.heap locs) : Gl p.tables e below (EndN s Q kc ks) (T.setTop (mkF m pc Ls (.long z :: rest))) :=
  Gl.fin X (nov hret) hlk hc hs hQ fun _ hr => retOut X hx hret rfl (Or.inr (Or.inl ⟨rfl, rfl, _, rfl⟩)) hd hr
theorem Gl.retA (X : Stand p l e R s m args below meth c T locs cells slots) (hx : p.tables.exec = Jvm.exec) {w : Value} {t : FieldType} (hret : meth.sig.returnType = some t) (ht : t.isReference = true) (hw : w.isRef = true) (hd : decode c.code pc = .ok (.areturn, 1)) (hlk : meth.locks = false) (hc : cells ≤ kc) (hs : slots ≤ ks) (hQ : Q (some w) T.heap locs) : Gl p.tables e below (EndN s Q kc ks) (T.setTop (mkF m pc Ls (w :: rest))) :=
  Gl.fin X (nov hret) hlk hc hs hQ fun _ hr => retOut X hx hret (narR hw ht) (Or.inr (Or.inr (Or.inr (Or.inr ⟨rfl, ht, hw⟩)))) hd hr
theorem Gl.ret0 (X : Stand p l e R s m args below meth c T locs cells slots) (hx : p.tables.exec = Jvm.exec) (hret : meth.sig.returnType = none) (hd : decode c.code pc = .ok (.return_, 1)) (hlk : meth.locks = false) (hc : cells ≤ kc) (hs : slots ≤ ks) (hQ : Q none T.heap locs) : Gl p.tables e below (EndN s Q kc ks) (T.setTop (mkF m pc Ls [])) :=
  Gl.fin X (fun _ => rfl) hlk hc hs hQ fun _ hr => X.returnOut hx hret hd hr
variable {vm₁ : Vm} {n : Nat}
theorem Gl.retNW (X : Stand p l e R (s.setVm vm₁) m args below meth c T locs cells slots) (hx : p.tables.exec = Jvm.exec) (hS : s.Since vm₁ n) (hn : n ≤ T.heap.size) {z : Int32} {t : FieldType} (hret : meth.sig.returnType = some t) (ht : t = .boolean ∨ t = .byte ∨ t = .char ∨ t = .short) (hd : decode c.code pc = .ok (.ireturn, 1)) (hlk : meth.locks = false) (hc : cells ≤ kc) (hs : slots ≤ ks) (hQ : Q (some (.int (nar t z))) T.heap locs) : Gl p.tables e below (EndW s Q kc ks) (T.setTop (mkF m pc Ls (.int z :: rest))) :=
  Gl.finW X hS hn (nov hret) hlk hc hs hQ fun _ hr => Jvm.RoadKit.retN X hx hret ht hd hr
theorem Gl.retIW (X : Stand p l e R (s.setVm vm₁) m args below meth c T locs cells slots) (hx : p.tables.exec = Jvm.exec) (hS : s.Since vm₁ n) (hn : n ≤ T.heap.size) {z : Int32} (hret : meth.sig.returnType = some .int) (hd : decode c.code pc = .ok (.ireturn, 1)) (hlk : meth.locks = false) (hc : cells ≤ kc) (hs : slots ≤ ks) (hQ : Q (some (.int z)) T.heap locs) : Gl p.tables e below (EndW s Q kc ks) (T.setTop (mkF m pc Ls (.int z :: rest))) :=
  Gl.finW X hS hn (nov hret) hlk hc hs hQ fun _ hr => retIo X hx hret hd hr
theorem Gl.retAW (X : Stand p l e R (s.setVm vm₁) m args below meth c T locs cells slots) (hx : p.tables.exec = Jvm.exec) (hS : s.Since vm₁ n) (hn : n ≤ T.heap.size) {w : Value} {t : FieldType} (hret : meth.sig.returnType = some t) (ht : t.isReference = true) (hw : w.isRef = true) (hd : decode c.code pc = .ok (.areturn, 1)) (hlk : meth.locks = false) (hc : cells ≤ kc) (hs : slots ≤ ks) (hQ : Q (some w) T.heap locs) : Gl p.tables e below (EndW s Q kc ks) (T.setTop (mkF m pc Ls (w :: rest))) :=
  Gl.finW X hS hn (nov hret) hlk hc hs hQ fun _ hr => retOut X hx hret (narR hw ht) (Or.inr (Or.inr (Or.inr (Or.inr ⟨rfl, ht, hw⟩)))) hd hr
theorem Gl.ret0W (X : Stand p l e R (s.setVm vm₁) m args below meth c T locs cells slots) (hx : p.tables.exec = Jvm.exec) (hS : s.Since vm₁ n) (hn : n ≤ T.heap.size) (hret : meth.sig.returnType = none) (hd : decode c.code pc = .ok (.return_, 1)) (hlk : meth.locks = false) (hc : cells ≤ kc) (hs : slots ≤ ks) (hQ : Q none T.heap locs) : Gl p.tables e below (EndW s Q kc ks) (T.setTop (mkF m pc Ls [])) :=
  Gl.finW X hS hn (fun _ => rfl) hlk hc hs hQ fun _ hr => X.returnOut hx hret hd hr
abbrev EndH (s : State) (Z : State) (EL : List (String × Nat)) (Q : Option Value → Heap → List Loc → Prop) (kc ks : Nat) : Outcome → State → Prop := fun o s₂ => ∃ v L, o = .returned v ∧ Q v s₂.heap L ∧ CHr Z EL s.vm s.heap s₂.vm s₂.heap ∧ ReturnedEndW s o s₂ L kc ks
variable {Z : State} {EL : List (String × Nat)}
theorem Gl.finH (X : Stand p l e R (s.setVm vm₁) m args below meth c T locs cells slots) (hS : s.Since vm₁ n) (hn : n ≤ T.heap.size) (hC : CHr Z EL s.vm s.heap T.vm T.heap) {v : Option Value} (hv : meth.sig.returnType = none → v = none) (hlk : meth.locks = false) (hc : cells ≤ kc) (hs : slots ≤ ks) (hQ : Q v T.heap locs)
    (k : ∀ fs, (∀ (f : JFrame) (acts : List Action), f.method = m → f.locked = none → f.entered = [] → (doReturn e (T.setTop f) acts v).1 = T.setFrames fs) → Steps p.tables e below S (T.setFrames fs)) : Gl p.tables e below (EndH s Z EL Q kc ks) S := by
  obtain ⟨fs, hr, hrun, hended, h1, h2, h3, hsame⟩ := X.leaveW hS hn hv hlk
  exact ⟨_, _, k fs hr, hrun, hended, v, locs, rfl, hQ, hC, h1, h2, h3, hsame.mono hc hs⟩
theorem Gl.retNH (X : Stand p l e R (s.setVm vm₁) m args below meth c T locs cells slots) (hx : p.tables.exec = Jvm.exec) (hS : s.Since vm₁ n) (hn : n ≤ T.heap.size) (hC : CHr Z EL s.vm s.heap T.vm T.heap) {z : Int32} {t : FieldType} (hret : meth.sig.returnType = some t) (ht : t = .boolean ∨ t = .byte ∨ t = .char ∨ t = .short) (hd : decode c.code pc = .ok (.ireturn, 1)) (hlk : meth.locks = false) (hc : cells ≤ kc) (hs : slots ≤ ks) (hQ : Q (some (.int (nar t z))) T.heap locs) : Gl p.tables e below (EndH s Z EL Q kc ks) (T.setTop (mkF m pc Ls (.int z :: rest))) :=
  Gl.finH X hS hn hC (nov hret) hlk hc hs hQ fun _ hr => Jvm.RoadKit.retN X hx hret ht hd hr
theorem Gl.retIH (X : Stand p l e R (s.setVm vm₁) m args below meth c T locs cells slots) (hx : p.tables.exec = Jvm.exec) (hS : s.Since vm₁ n) (hn : n ≤ T.heap.size) (hC : CHr Z EL s.vm s.heap T.vm T.heap) {z : Int32} (hret : meth.sig.returnType = some .int) (hd : decode c.code pc = .ok (.ireturn, 1)) (hlk : meth.locks = false) (hc : cells ≤ kc) (hs : slots ≤ ks) (hQ : Q (some (.int z)) T.heap locs) : Gl p.tables e below (EndH s Z EL Q kc ks) (T.setTop (mkF m pc Ls (.int z :: rest))) :=
  Gl.finH X hS hn hC (nov hret) hlk hc hs hQ fun _ hr => retIo X hx hret hd hr
theorem Gl.retAH (X : Stand p l e R (s.setVm vm₁) m args below meth c T locs cells slots) (hx : p.tables.exec = Jvm.exec) (hS : s.Since vm₁ n) (hn : n ≤ T.heap.size) (hC : CHr Z EL s.vm s.heap T.vm T.heap) {w : Value} {t : FieldType} (hret : meth.sig.returnType = some t) (ht : t.isReference = true) (hw : w.isRef = true) (hd : decode c.code pc = .ok (.areturn, 1)) (hlk : meth.locks = false) (hc : cells ≤ kc) (hs : slots ≤ ks) (hQ : Q (some w) T.heap locs) : Gl p.tables e below (EndH s Z EL Q kc ks) (T.setTop (mkF m pc Ls (w :: rest))) :=
  Gl.finH X hS hn hC (nov hret) hlk hc hs hQ fun _ hr => retOut X hx hret (narR hw ht) (Or.inr (Or.inr (Or.inr (Or.inr ⟨rfl, ht, hw⟩)))) hd hr
theorem Gl.ret0H (X : Stand p l e R (s.setVm vm₁) m args below meth c T locs cells slots) (hx : p.tables.exec = Jvm.exec) (hS : s.Since vm₁ n) (hn : n ≤ T.heap.size) (hC : CHr Z EL s.vm s.heap T.vm T.heap) (hret : meth.sig.returnType = none) (hd : decode c.code pc = .ok (.return_, 1)) (hlk : meth.locks = false) (hc : cells ≤ kc) (hs : slots ≤ ks) (hQ : Q none T.heap locs) : Gl p.tables e below (EndH s Z EL Q kc ks) (T.setTop (mkF m pc Ls [])) :=
  Gl.finH X hS hn hC (fun _ => rfl) hlk hc hs hQ fun _ hr => X.returnOut hx hret hd hr
theorem safe_nul {vm : Vm} {h : Heap} {x : Addr} (hal : Z.vm.Alike vm) (E : Exa Z h x "java/lang/String") (V : Fld Z h x "java/lang/String" "value" "[B" .null) : Safe Z EL vm h x := fun B => by
  obtain ⟨p, hp, u, a, hb, q, hqa, hS, hy⟩ := B
  obtain ⟨cS, ⟨⟨s1, s2, s3, ⟨cv, kv, iv, s4, s4'⟩, ⟨cc, kc, ic, s5, s5'⟩, s6, s7, s8, s9, s10, s11, s12, s13, s14, s15, s16⟩, hfS, hcS⟩, ⟨kS, k1, k2, k3⟩, hB, hbyt⟩ := hS
  rcases hy with rfl | rfl
  · obtain ⟨cell, cf, k, i, f, f1, f2, f3, f4, f5, f6, f7⟩ := V
    have e1 : cell = q.sC := Option.some.inj (f1.symm.trans s1)
    obtain ⟨kv', z4⟩ := ff_back (U := Wst Z vm h) hal s4
    cases f2.symm.trans z4
    rw [e1, s8] at f7
    cases f7
  · obtain ⟨cell, k, e1, e2, e3, e4, e5⟩ := E
    have e6 : cell = q.SA := Option.some.inj (e1.symm.trans s10)
    subst e6
    have hB' : Z.vm.findClass "[B" = some q.SA.cls := by rw [← hal.findClass]; exact hB
    obtain ⟨k1', a1, a2⟩ := Vm.findClass_spec e2
    obtain ⟨k2', b1, b2⟩ := Vm.findClass_spec hB'
    cases a1.symm.trans b1
    exact absurd (a2.symm.trans b2) (by decide)
/-- an object of a class whose superclass is the root is no instance of another class -/
theorem not_root {a0 : Array Value} {C O K : String} {n : Nat} (w : (Cond.superclass C O).before a0 Z = true) (wr : (Cond.noSuperclass O).before a0 Z = true) (wi : (Cond.instantiable K n).before a0 Z = true) (h1 : C ≠ K) (h2 : O ≠ K) : ∃ c t, Z.vm.findClass C = some c ∧ Z.vm.findClass K = some t ∧ Z.vm.assignable c t = false := by
  obtain ⟨t, kt, g1, g2, g3, g4, -⟩ := Cond.instantiable_spec wi
  obtain ⟨c, h0⟩ := found_sup w
  obtain ⟨p, k, kp, s1, s2, s3, s4, s5, s6, s7⟩ := Cond.superclass_spec h0 w
  obtain ⟨o, ko, o1, o2, o3, o4, o5⟩ := Cond.noSuperclass_spec wr
  have ne1 := ids_ne h0 g1 h1
  have ne2 := ids_ne o1 g1 h2
  have hi : kt.isInterface = false := by
    cases q : kt.isInterface with
    | false => rfl
    | true => rw [q] at g4; simp at g4
  have n0 : NS Z O K := ⟨o, t, o1, g1, fun fuel => by
    cases fuel with
    | zero => rfl
    | succ f => simp [Vm.isSubclassAux, ne2, o2, o3]⟩
  obtain ⟨c', t', a1, a2, n3⟩ := NS.step w n0 h1
  cases h0.symm.trans a1
  cases g1.symm.trans a2
  refine ⟨c, t, h0, g1, ?_⟩
  show Z.vm.assignableAux (255 + 1) c t = false
  simp [Vm.assignableAux, ne1, s2, g2, s5, g3, hi, Vm.isSubclass, n3]
end OwnKit
end Jvm.RoadKit
namespace Jvm.RoadKit
open Sem ClassFile Op Lib Jvm.Stand Jvm.Free Jvm.LawKit
theorem n32_int {i : Nat} (h : i < 2147483648) : (Int32.ofNat i).toInt = i := Int32.toInt_ofNat_small h
theorem n32_lt {i j : Nat} (hi : i < 2147483648) (hj : j < 2147483648) : (Int32.ofNat i < Int32.ofNat j) ↔ i < j := by
  rw [Int32.lt_iff_toInt_lt, n32_int hi, n32_int hj]; omega
theorem n32_plt {i j : Nat} (h : i < j) (hj : j < 2147483648) : Int32.ofNat i < Int32.ofNat j := (n32_lt (by omega) hj).mpr h
theorem n32_nlt {i j : Nat} (h : ¬ i < j) (hi : i < 2147483648) (hj : j < 2147483648) : ¬ (Int32.ofNat i < Int32.ofNat j) := fun q => h ((n32_lt hi hj).mp q)
theorem n32_nn {i : Nat} (hi : i < 2147483648) : ¬ (Int32.ofNat i < (0 : Int32)) := by
  rw [Int32.lt_iff_toInt_lt, n32_int hi]
  have e : (0 : Int32).toInt = 0 := rfl
  omega
theorem n32_eq {i j : Nat} (hi : i < 2147483648) (hj : j < 2147483648) : (Int32.ofNat i = Int32.ofNat j) ↔ i = j :=
  ⟨fun q => by have := congrArg Int32.toInt q; rw [n32_int hi, n32_int hj] at this; omega, fun q => q ▸ rfl⟩
theorem n32_eq0 {i : Nat} (hi : i < 2147483648) : (Int32.ofNat i = (0 : Int32)) ↔ i = 0 := n32_eq (j := 0) hi (by omega)
theorem n32_add (i j : Nat) : Int32.ofNat i + Int32.ofNat j = Int32.ofNat (i + j) := (Int32.ofNat_add i j).symm
theorem n32_inc (i : Nat) : Int32.ofNat i + (1 : Int32) = Int32.ofNat (i + 1) := n32_add i 1
theorem n32_sub {i j : Nat} (h : j ≤ i) : Int32.ofNat i - Int32.ofNat j = Int32.ofNat (i - j) := by
  have e : Int32.ofNat i = Int32.ofNat (i - j) + Int32.ofNat j := by rw [n32_add]; congr 1; omega
  rw [e, Int32.add_sub_cancel]
theorem n32_cl {i : Nat} (h : i < 2147483648) : (Int32.ofNat i).toNatClampNeg = i := by
  simp only [Int32.toNatClampNeg, n32_int h]; omega
/-- the low byte, and back -/
theorem lo_back {c : Int32} (h0 : ¬ c < 0) (h1 : ¬ (255 : Int32) < c) : c.toInt8.toInt32 &&& 255 = c := by
  rw [Int32.lt_iff_toInt_lt] at h0 h1
  have e0 : (0 : Int32).toInt = 0 := rfl
  have e1 : (255 : Int32).toInt = 255 := rfl
  obtain ⟨j, rfl⟩ : ∃ j : Fin 256, c = Int32.ofNat j.val := ⟨⟨c.toInt.toNat, by omega⟩, Int32.toInt_inj.mp (by rw [n32_int (by show c.toInt.toNat < _; omega)]; show c.toInt = ((c.toInt.toNat : Nat) : Int); omega)⟩
  exact (by decide +kernel : ∀ j : Fin 256, (Int32.ofNat j.val).toInt8.toInt32 &&& 255 = Int32.ofNat j.val) j
theorem lo_inj {c d : Int32} (h0 : ¬ c < 0) (h1 : ¬ (255 : Int32) < c) (k0 : ¬ d < 0) (k1 : ¬ (255 : Int32) < d) (e : c.toInt8.toInt32 = d.toInt8.toInt32) : c = d := by
  rw [← lo_back h0 h1, ← lo_back k0 k1, e]
theorem lo_get {cs : List Int32} {i : Nat} (hi : i < cs.length) : (((cs.map (fun c => c.toInt8.toInt32)).map Value.int).getD i (.int 0)) = .int ((cs.getD i 0).toInt8.toInt32) := by
  simp [List.getD_eq_getElem?_getD, hi]
theorem mem_get {P : Int32 → Prop} {cs : List Int32} (h : ∀ c ∈ cs, P c) {i : Nat} (hi : i < cs.length) : P (cs.getD i 0) := by
  have e : cs.getD i 0 = cs[i] := by simp [List.getD_eq_getElem?_getD, hi]
  rw [e]; exact h _ (List.getElem_mem hi)
def Rng (cs : List Int32) : Prop := ∀ c ∈ cs, ¬ c < 0 ∧ ¬ (255 : Int32) < c
theorem Rng.sub {cs : List Int32} (h : Rng cs) (x d : Nat) : Rng ((cs.drop x).take d) := fun c hc => h c (List.mem_of_mem_drop (List.mem_of_mem_take hc))
/-- the first place from i on -/
def First (q : Int32) (cs : List Int32) (i r : Nat) : Prop := i ≤ r ∧ r < cs.length ∧ cs.getD r 0 = q ∧ ∀ k, i ≤ k → k < r → ¬ cs.getD k 0 = q
def Nowhere (q : Int32) (cs : List Int32) (i : Nat) : Prop := ∀ k, i ≤ k → k < cs.length → ¬ cs.getD k 0 = q
theorem own_copied {cs : List Int32} {x d : Nat} (h : x + d ≤ cs.length) : ∀ i, ((((cs.drop x).take d).map (fun c => c.toInt8.toInt32)).map Value.int).getD i (.int 0) = ((([] ++ List.replicate d (Value.int (0 : Int32))).take 0) ++ ((List.range d).map fun i => (((cs.map (fun c => c.toInt8.toInt32)).map Value.int).getD (x + i) (.int 0))) ++ (([] ++ List.replicate d (Value.int (0 : Int32))).drop (0 + d))).getD i (.int 0) := by
  intro i
  by_cases hi : i < d
  · have hl : x + i < cs.length := by omega
    simp [List.getD_eq_getElem?_getD, hi, hl, List.getElem?_append, List.getElem?_take, List.getElem?_drop]
  · simp [List.getD_eq_getElem?_getD, hi, List.getElem?_append, List.getElem?_take, List.getElem?_drop]
end Jvm.RoadKit
namespace Jvm.RoadKit
open Sem ClassFile Op Lib Jvm.Stand Jvm.Free Jvm.LawKit
theorem first_here {q : Int32} {cs : List Int32} : First q (q :: cs) 0 0 := ⟨Nat.le_refl _, by simp, rfl, fun k _ h => absurd h (by omega)⟩
theorem first_cons {q c : Int32} {cs : List Int32} {r : Nat} (h : ¬ c = q) (F : First q cs 0 r) : First q (c :: cs) 0 (r + 1) := by
  obtain ⟨-, h2, h3, h4⟩ := F
  refine ⟨by omega, by simp; omega, h3, fun k _ hk => ?_⟩
  cases k with
  | zero => exact h
  | succ k => exact h4 k (by omega) (by omega)
theorem nowhere_nil {q : Int32} : Nowhere q [] 0 := fun k _ h => absurd h (by simp)
theorem nowhere_cons {q c : Int32} {cs : List Int32} (h : ¬ c = q) (F : Nowhere q cs 0) : Nowhere q (c :: cs) 0 := fun k _ hk => by
  cases k with
  | zero => exact h
  | succ k => exact F k (by omega) (by simpa using hk)
theorem first_no {q : Int32} {cs : List Int32} {i r : Nat} (F : First q cs i r) (N : Nowhere q cs i) : False := N r F.1 F.2.1 F.2.2.1
theorem first_uniq {q : Int32} {cs : List Int32} {i r r' : Nat} (F : First q cs i r) (G : First q cs i r') : r = r' := by
  rcases Nat.lt_trichotomy r r' with h | h | h
  · exact absurd F.2.2.1 (G.2.2.2 r F.1 h)
  · exact h
  · exact absurd G.2.2.1 (F.2.2.2 r' G.1 h)
theorem ds_len {cs ds : List Int32} {x : Nat} (h : ds = (cs.drop x).take (cs.length - x)) : ds.length = cs.length - x := by rw [h]; simp
theorem ds_get {cs ds : List Int32} {x d : Nat} (h : ds = (cs.drop x).take d) {j : Nat} (hj : j < ds.length) : ds.getD j 0 = cs.getD (x + j) 0 := by
  subst h
  have hj' : j < d ∧ x + j < cs.length := by simp at hj; omega
  simp [List.getD_eq_getElem?_getD, List.getElem?_take, List.getElem?_drop, hj'.1]
end Jvm.RoadKit
namespace Jvm.RoadKit
open Sem ClassFile Op Lib Jvm.Stand Jvm.Free Jvm.LawKit
theorem ex_first {q : Int32} {cs : List Int32} : ∀ (d i : Nat), (i + d < cs.length) → cs.getD (i + d) 0 = q → ∃ r, First q cs i r ∧ r ≤ i + d
  | 0, i, h, e => ⟨i, ⟨Nat.le_refl _, h, e, fun k h1 h2 => absurd h2 (by omega)⟩, Nat.le_refl _⟩
  | d + 1, i, h, e => by
    by_cases c : cs.getD i 0 = q
    · exact ⟨i, ⟨Nat.le_refl _, by omega, c, fun k h1 h2 => absurd h2 (by omega)⟩, by omega⟩
    · obtain ⟨r, F, hr⟩ := ex_first (q := q) (cs := cs) d (i + 1) (by omega) (by rw [show i + 1 + d = i + (d + 1) by omega]; exact e)
      exact ⟨r, ⟨by have := F.1; omega, F.2.1, F.2.2.1, fun k h1 h2 => by
        by_cases z : k = i
        · rw [z]; exact c
        · exact F.2.2.2 k (by omega) h2⟩, by omega⟩
def Chr (ch : Int32) : Prop := ¬ ch < 0 ∧ ¬ (255 : Int32) < ch
/-- no place from i to k - 1 holds q -/
def Upto (q : Int32) (cs : List Int32) (i k : Nat) : Prop := ∀ j, i ≤ j → j < k → ¬ cs.getD j 0 = q
theorem upto_0 {q : Int32} {cs : List Int32} {i : Nat} : Upto q cs i 0 := fun j _ h => absurd h (by omega)
theorem upto_lt {q : Int32} {cs : List Int32} {i k : Nat} (U : Upto q cs i k) (h : k < i) : Upto q cs i (k + 1) := fun j h1 h2 => absurd h2 (by omega)
theorem upto_ne {q : Int32} {cs : List Int32} {i k : Nat} (U : Upto q cs i k) (h : ¬ cs.getD k 0 = q) : Upto q cs i (k + 1) := fun j h1 h2 => by
  by_cases z : j = k
  · rw [z]; exact h
  · exact U j h1 (by omega)
end Jvm.RoadKit
/- laws to paste: Road.backV, Road.lenW, Road.chN, Road.codOf (cut by pick.py; bodies as the Statement names them) -/
namespace Jvm.Pilot.@@N@@
namespace StrChars
open Jvm Sem ClassFile Op Lib Jvm.Stand Jvm.Free.XT Jvm.Free.ALB Jvm.Free.JM Jvm.Free
open Jvm.Lib.Cold (StaticIs)
/-- a char array whose places are chars -/
def Ch (a : Addr) (A : Cell) (U : State) : Prop := Arr .char a A U ∧ Typed .char A
theorem Ch.mv {a : Addr} {A : Cell} {U U' : State} (h : Ch a A U) (hal : U.vm.Alike U'.vm) (hh : U'.heap = U.heap) : Ch a A U' := ⟨h.1.mv hal hh, h.2⟩
theorem Ch.keep {a : Addr} {A : Cell} {U U' : State} (h : Ch a A U) (hal : U.vm.Alike U'.vm) (hk : U'.heap[a]? = some A) : Ch a A U' := ⟨h.1.keep hal hk, h.2⟩
/-- what place i of a char[]'s cell holds -/
def cv (A : Cell) (i : Nat) : Int32 := match A.slots[i]? with | some (.int x) => x | _ => 0
theorem Ch.get {a : Addr} {A : Cell} {U : State} (h : Ch a A U) {i : Nat} (hi : i < A.slots.size) : A.slots[i]? = some (.int (cv A i)) := by
  have e := Array.getElem?_eq_getElem hi
  have f := h.2 i _ e
  unfold cv; rw [e]
  generalize A.slots[i] = v at f
  cases v <;> simp [fits] at f ⊢
/-- the byte that i2b leaves of a char -/
def lo8 (x : Int32) : Int32 := x.toInt8.toInt32
theorem fits_lo8 (y : Int32) : fits .byte (.int (lo8 y)) = true := by
  have h1 := y.toInt8.le_toInt
  have h2 := y.toInt8.toInt_lt
  simp only [lo8, fits, Bool.and_eq_true, decide_eq_true_eq, Int32.le_iff_toInt_le, Int8.toInt_toInt32, show (-128 : Int32).toInt = -128 from by decide, show (127 : Int32).toInt = 127 from by decide]
  omega
/-- A' is A but that each place j of lo .. hi - 1 holds f j -/
def Laid (A A' : Cell) (lo hi : Nat) (f : Nat → Value) : Prop := A'.cls = A.cls ∧ A'.vm = A.vm ∧ A'.slots.size = A.slots.size ∧ ∀ i, A'.slots[i]? = if lo ≤ i ∧ i < hi then some (f i) else A.slots[i]?
theorem Laid.zero (A : Cell) (lo : Nat) (f : Nat → Value) : Laid A A lo (lo + 0) f := ⟨rfl, rfl, rfl, fun i => by rw [if_neg (by omega)]⟩
theorem Laid.step {A Ak : Cell} {lo k : Nat} {f : Nat → Value} {v : Value} (h : Laid A Ak lo k f) (hlo : lo ≤ k) (hk : k < Ak.slots.size) (hv : v = f k) : Laid A (Ak.setSlot k v) lo (k + 1) f := by
  refine ⟨h.1, h.2.1, by simpa [Cell.setSlot] using h.2.2.1, fun i => ?_⟩
  by_cases e : k = i
  · subst e; rw [Cell.slots_setSlot_self v hk, if_pos (by omega), hv]
  · rw [Cell.slots_setSlot_ne v e, h.2.2.2 i]
    by_cases q : lo ≤ i ∧ i < k
    · rw [if_pos q, if_pos (by omega)]
    · rw [if_neg q, if_neg (by omega)]
def U16 : String := "java/lang/StringUTF16"
namespace Cmp5
def yN : MethodName := ⟨"java/lang/StringUTF16", "compress", "([CI[BII)I"⟩
abbrev yB : ByteArray := jdk_52_method_21_code
theorem d0 : decode yB 0 = .ok (.iconst 0, 1) := by decide +kernel
theorem d1 : decode yB 1 = .ok (.istore 5, 2) := by decide +kernel
theorem d3 : decode yB 3 = .ok (.iload 5, 2) := by decide +kernel
theorem d5 : decode yB 5 = .ok (.iload 4, 2) := by decide +kernel
theorem d7 : decode yB 7 = .ok (.if_icmp (.ge) 37, 3) := by decide +kernel
theorem d10 : decode yB 10 = .ok (.aload_n 0, 1) := by decide +kernel
theorem d11 : decode yB 11 = .ok (.iload_n 1, 1) := by decide +kernel
theorem d12 : decode yB 12 = .ok (.caload, 1) := by decide +kernel
theorem d13 : decode yB 13 = .ok (.istore 6, 2) := by decide +kernel
theorem d15 : decode yB 15 = .ok (.iload 6, 2) := by decide +kernel
theorem d17 : decode yB 17 = .ok (.sipush 255, 3) := by decide +kernel
theorem d20 : decode yB 20 = .ok (.if_icmp (.le) 6, 3) := by decide +kernel
theorem d26 : decode yB 26 = .ok (.aload_n 2, 1) := by decide +kernel
theorem d27 : decode yB 27 = .ok (.iload_n 3, 1) := by decide +kernel
theorem d28 : decode yB 28 = .ok (.iload 6, 2) := by decide +kernel
theorem d30 : decode yB 30 = .ok (.i2b, 1) := by decide +kernel
theorem d31 : decode yB 31 = .ok (.bastore, 1) := by decide +kernel
theorem d32 : decode yB 32 = .ok (.iinc 1 1, 3) := by decide +kernel
theorem d35 : decode yB 35 = .ok (.iinc 3 1, 3) := by decide +kernel
theorem d38 : decode yB 38 = .ok (.iinc 5 1, 3) := by decide +kernel
theorem d41 : decode yB 41 = .ok (.goto (-38), 3) := by decide +kernel
theorem d44 : decode yB 44 = .ok (.iload 4, 2) := by decide +kernel
theorem d46 : decode yB 46 = .ok (.ireturn, 1) := by decide +kernel
def site : List Cond := []
def tab : Cond := tabOf yN yB 7 (some .int) site
def P (b : Addr) (A : Cell) (d : Addr) (B : Cell) (o q len : Nat) (args : Array Value) (s : State) : Prop := args = #[.ref b, .int (Int32.ofNat o), .ref d, .int (Int32.ofNat q), .int (Int32.ofNat len)] ∧ Ch b A s ∧ Arr .byte d B s ∧ b ≠ d ∧ o + len ≤ A.slots.size ∧ q + len ≤ B.slots.size ∧ ∀ i, i < len → ¬ 255 < cv A (o + i)
def E (b : Addr) (A : Cell) (d : Addr) (B : Cell) (o q len : Nat) (r : Option Value) (s u : State) : Prop := r = some (.int (Int32.ofNat len)) ∧ ∃ B', Put d B' s u ∧ Laid B B' q (q + len) (fun j => Value.int (lo8 (cv A (o + (j - q)))))
/-- no char of the range above 255: len; the places written hold each char's low byte -/
theorem law (l : Launch) (b : Addr) (A : Cell) (d : Addr) (B : Cell) (o q len : Nat) : Law l yN 5 5 0 0 yB 7 (some .int) site (P b A d B o q len) (E b A d B o q len) (copyLocs d q len) 0 0 := by
  refine Law.of_walk (plainFor_of_name (by decide +kernel)) (by decide +kernel) (by decide +kernel) (by decide) (fun _ _ h => by rw [h.1]; rfl) (fun _ U U' hal hh h => ⟨h.1, h.2.1.mv hal hh, h.2.2.1.mv hal hh, h.2.2.2⟩) (fun r U U' V V' h1 hal h2 h => ⟨h.1, h.2.elim fun B' q => ⟨B', q.1.mv h1 h2, q.2⟩⟩) ?_
  intro p e s m args below meth c s₁ X0 hexec hbytes hml hret hlk hnm hown hh0 W hP
  obtain ⟨rfl, hA, hB, hne, l1, l2, hp⟩ := hP
  have c1 : Steps p.tables e below (s₁.setTop (entryFrame m #[.ref b, .int (Int32.ofNat o), .ref d, .int (Int32.ofNat q), .int (Int32.ofNat len)] 7)) (s₁.setTop (mkF m 0 #[.val (.ref b), .val (.int (Int32.ofNat o)), .val (.ref d), .val (.int (Int32.ofNat q)), .val (.int (Int32.ofNat len)), .unset, .unset] [])) := entry rfl
  have hA0 := hA.1.mv X0.warmed.alike hh0
  have hB0 := hB.mv X0.warmed.alike hh0
  have a31 := hA.1.2.2.2
  have c2 : Steps p.tables e below (s₁.setTop (entryFrame m #[.ref b, .int (Int32.ofNat o), .ref d, .int (Int32.ofNat q), .int (Int32.ofNat len)] 7)) (s₁.setTop (mkF m 3 #[.val (.ref b), .val (.int (Int32.ofNat o)), .val (.ref d), .val (.int (Int32.ofNat q)), .val (.int (Int32.ofNat len)), .val (.int 0), .unset] [])) := c1.trans (by
    refine iconstV X0.here hexec rfl 0 (hb hbytes d0) (by decide) ?_
    refine XS.istore X0.here hexec rfl (hb hbytes d1) rfl rfl ?_
    exact Steps.refl _)
  have loop : ∀ (r i : Nat), i + r = len → ∀ (z : Slot), (z = .unset ∨ ∃ w, z = .val w ∧ w.category = 1) → ∀ (Tl : State) (Bk : Cell), Stand p l e { frames := 0, locals := 0, cells := 0, slots := 0 } s m #[.ref b, .int (Int32.ofNat o), .ref d, .int (Int32.ofNat q), .int (Int32.ofNat len)] below meth c Tl ([] ++ copyLocs d q i) 0 0 → Put d Bk s₁ Tl → Laid B Bk q (q + i) (fun j => Value.int (lo8 (cv A (o + (j - q))))) →
      Steps p.tables e below (s₁.setTop (entryFrame m #[.ref b, .int (Int32.ofNat o), .ref d, .int (Int32.ofNat q), .int (Int32.ofNat len)] 7)) (Tl.setTop (mkF m 3 #[.val (.ref b), .val (.int (Int32.ofNat (o + i))), .val (.ref d), .val (.int (Int32.ofNat (q + i))), .val (.int (Int32.ofNat len)), .val (.int (Int32.ofNat i)), z] [])) → ∃ (T' : State) (B' : Cell) (z' : Slot), Stand p l e { frames := 0, locals := 0, cells := 0, slots := 0 } s m #[.ref b, .int (Int32.ofNat o), .ref d, .int (Int32.ofNat q), .int (Int32.ofNat len)] below meth c T' ([] ++ copyLocs d q len) 0 0 ∧ Put d B' s₁ T' ∧ Laid B B' q (q + len) (fun j => Value.int (lo8 (cv A (o + (j - q))))) ∧
      Steps p.tables e below (s₁.setTop (entryFrame m #[.ref b, .int (Int32.ofNat o), .ref d, .int (Int32.ofNat q), .int (Int32.ofNat len)] 7)) (T'.setTop (mkF m 3 #[.val (.ref b), .val (.int (Int32.ofNat (o + len))), .val (.ref d), .val (.int (Int32.ofNat (q + len))), .val (.int (Int32.ofNat len)), .val (.int (Int32.ofNat len)), z'] [])) := by
    intro r
    induction r with
    | zero =>
      intro i hi z hz Tl Bk Xl pl fl cl
      have hil : i = len := by omega
      rw [hil] at Xl fl cl
      exact ⟨Tl, Bk, z, Xl, pl, fl, cl⟩
    | succ r ih =>
      intro i hi z hz Tl Bk Xl pl fl cl
      have all := X0.warmed.alike.symm.trans Xl.warmed.alike
      have hAl := hA0.keep all (pl.other hne hA0.1)
      have hBk := hB0.like all pl.1 fl.1 fl.2.1 fl.2.2.1
      have hlt : q + i < Bk.slots.size := by rw [fl.2.2.1]; omega
      have c3 : Steps p.tables e below (s₁.setTop (entryFrame m #[.ref b, .int (Int32.ofNat o), .ref d, .int (Int32.ofNat q), .int (Int32.ofNat len)] 7)) (Tl.setTop (mkF m 12 #[.val (.ref b), .val (.int (Int32.ofNat (o + i))), .val (.ref d), .val (.int (Int32.ofNat (q + i))), .val (.int (Int32.ofNat len)), .val (.int (Int32.ofNat i)), z] [.int (Int32.ofNat (o + i)), .ref b])) := cl.trans (by
        refine XS.iload Xl.here hexec rfl (hb hbytes d3) rfl ?_
        refine XS.iload Xl.here hexec rfl (hb hbytes d5) rfl ?_
        refine XS.icmpNo Xl.here hexec rfl (hb hbytes d7) rfl (ii_ge_f (lt32 (by omega) (by omega))) ?_
        refine XS.aloadN Xl.here hexec rfl (hb hbytes d10) rfl rfl ?_
        refine XS.iloadN Xl.here hexec rfl (hb hbytes d11) rfl ?_
        exact Steps.refl _)
      have c4 : Steps p.tables e below (s₁.setTop (entryFrame m #[.ref b, .int (Int32.ofNat o), .ref d, .int (Int32.ofNat q), .int (Int32.ofNat len)] 7)) (Tl.setTop (mkF m 13 #[.val (.ref b), .val (.int (Int32.ofNat (o + i))), .val (.ref d), .val (.int (Int32.ofNat (q + i))), .val (.int (Int32.ofNat len)), .val (.int (Int32.ofNat i)), z] [.int (cv A (o + i))])) := c3.trans (by
        refine Xl.aget hexec hAl rfl (hA.get (i := o + i) (by omega)) rfl rfl (hb hbytes d12) ?_
        exact Steps.refl _)
      have c5 : Steps p.tables e below (s₁.setTop (entryFrame m #[.ref b, .int (Int32.ofNat o), .ref d, .int (Int32.ofNat q), .int (Int32.ofNat len)] 7)) (Tl.setTop (mkF m 15 #[.val (.ref b), .val (.int (Int32.ofNat (o + i))), .val (.ref d), .val (.int (Int32.ofNat (q + i))), .val (.int (Int32.ofNat len)), .val (.int (Int32.ofNat i)), .val (.int (cv A (o + i)))] [])) := c4.trans (by
        refine XS.istoreS Xl.here hexec rfl (hb hbytes d13) rfl rfl hz ?_
        exact Steps.refl _)
      have c6 : Steps p.tables e below (s₁.setTop (entryFrame m #[.ref b, .int (Int32.ofNat o), .ref d, .int (Int32.ofNat q), .int (Int32.ofNat len)] 7)) (Tl.setTop (mkF m 31 #[.val (.ref b), .val (.int (Int32.ofNat (o + i))), .val (.ref d), .val (.int (Int32.ofNat (q + i))), .val (.int (Int32.ofNat len)), .val (.int (Int32.ofNat i)), .val (.int (cv A (o + i)))] [.int (lo8 (cv A (o + i))), .int (Int32.ofNat (q + i)), .ref d])) := c5.trans (by
        refine XS.iload Xl.here hexec rfl (hb hbytes d15) rfl ?_
        refine sipushV Xl.here hexec rfl 255 (hb hbytes d17) (by decide) ?_
        refine XS.icmpYes Xl.here hexec rfl (pc0 := 20) rfl (hb hbytes d20) rfl (ii_le_t (hp i (by omega))) (by decide) rfl ?_
        refine XS.aloadN Xl.here hexec rfl (hb hbytes d26) rfl rfl ?_
        refine XS.iloadN Xl.here hexec rfl (hb hbytes d27) rfl ?_
        refine XS.iload Xl.here hexec rfl (hb hbytes d28) rfl ?_
        refine i2b Xl.here hexec rfl (hb hbytes d30) rfl ?_
        exact Steps.refl _)
      obtain ⟨T7, X7, p7, st7⟩ := Xl.aput hexec hBk rfl hlt rfl (fits_lo8 (cv A (o + i))) (g := (mkF m 31 #[.val (.ref b), .val (.int (Int32.ofNat (o + i))), .val (.ref d), .val (.int (Int32.ofNat (q + i))), .val (.int (Int32.ofNat len)), .val (.int (Int32.ofNat i)), .val (.int (cv A (o + i)))] [.int (lo8 (cv A (o + i))), .int (Int32.ofNat (q + i)), .ref d])) rfl (rest := []) rfl (hb hbytes d31)
      have c8 : Steps p.tables e below (s₁.setTop (entryFrame m #[.ref b, .int (Int32.ofNat o), .ref d, .int (Int32.ofNat q), .int (Int32.ofNat len)] 7)) (T7.setTop (mkF m 32 #[.val (.ref b), .val (.int (Int32.ofNat (o + i))), .val (.ref d), .val (.int (Int32.ofNat (q + i))), .val (.int (Int32.ofNat len)), .val (.int (Int32.ofNat i)), .val (.int (cv A (o + i)))] [])) := c6.trans (st7 _ (Steps.refl _))
      have c9 : Steps p.tables e below (s₁.setTop (entryFrame m #[.ref b, .int (Int32.ofNat o), .ref d, .int (Int32.ofNat q), .int (Int32.ofNat len)] 7)) (T7.setTop (mkF m 3 #[.val (.ref b), .val (.int (Int32.ofNat (o + i) + 1)), .val (.ref d), .val (.int (Int32.ofNat (q + i) + 1)), .val (.int (Int32.ofNat len)), .val (.int (Int32.ofNat i + 1)), .val (.int (cv A (o + i)))] [])) := c8.trans (by
        refine iincV X7.here hexec rfl 1 (hb hbytes d32) (by decide) rfl rfl ?_
        refine iincV X7.here hexec rfl 1 (hb hbytes d35) (by decide) rfl rfl ?_
        refine iincV X7.here hexec rfl 1 (hb hbytes d38) (by decide) rfl rfl ?_
        refine XS.goto X7.here hexec rfl (pc0 := 41) rfl (hb hbytes d41) (by decide) rfl ?_
        exact Steps.refl _)
      have c10 : Steps p.tables e below (s₁.setTop (entryFrame m #[.ref b, .int (Int32.ofNat o), .ref d, .int (Int32.ofNat q), .int (Int32.ofNat len)] 7)) (T7.setTop (mkF m 3 #[.val (.ref b), .val (.int (Int32.ofNat (o + (i + 1)))), .val (.ref d), .val (.int (Int32.ofNat (q + (i + 1)))), .val (.int (Int32.ofNat len)), .val (.int (Int32.ofNat (i + 1))), .val (.int (cv A (o + i)))] [])) := by
        have := c9
        rw [succ32, succ32, succ32] at this
        exact this
      exact ih (i + 1) (by omega) _ (Or.inr ⟨_, rfl, rfl⟩) T7 _ (by rw [copyLocs_step, ← List.append_assoc]; exact X7) (pl.trans p7) (fl.step (by omega) hlt (by simp)) c10
  obtain ⟨T9, B9, z9, X9, p9, f9, g9⟩ := loop len 0 (by omega) .unset (Or.inl rfl) s₁ B (by simpa [copyLocs] using X0) ⟨hB0.1, fun _ _ => rfl, rfl⟩ (Laid.zero _ _ _) c2
  have c11 : Steps p.tables e below (s₁.setTop (entryFrame m #[.ref b, .int (Int32.ofNat o), .ref d, .int (Int32.ofNat q), .int (Int32.ofNat len)] 7)) (T9.setTop (mkF m 46 #[.val (.ref b), .val (.int (Int32.ofNat (o + len))), .val (.ref d), .val (.int (Int32.ofNat (q + len))), .val (.int (Int32.ofNat len)), .val (.int (Int32.ofNat len)), z9] [.int (Int32.ofNat len)])) := g9.trans (by
    refine XS.iload X9.here hexec rfl (hb hbytes d3) rfl ?_
    refine XS.iload X9.here hexec rfl (hb hbytes d5) rfl ?_
    refine XS.icmpYes X9.here hexec rfl (pc0 := 7) rfl (hb hbytes d7) rfl (ii_ge_t (nlt32 (by omega) (Nat.le_refl _))) (by decide) rfl ?_
    refine XS.iload X9.here hexec rfl (hb hbytes d44) rfl ?_
    exact Steps.refl _)
  exact ⟨T9, some (.int (Int32.ofNat len)), _, _, _, X9, by simp, rfl, rfl, (fun h => by cases h), ⟨rfl, B9, p9.from hh0, f9⟩, fun fs hl => c11.trans (X9.ireturnOut hexec hret rfl (Or.inl rfl) (hb hbytes d46) hl)⟩
end Cmp5
namespace Cmp3
def yN : MethodName := ⟨"java/lang/StringUTF16", "compress", "([CII)[B"⟩
abbrev yB : ByteArray := jdk_52_method_16_code
theorem d0 : decode yB 0 = .ok (.iload_n 2, 1) := by decide +kernel
theorem d1 : decode yB 1 = .ok (.newarray .byte, 2) := by decide +kernel
theorem d3 : decode yB 3 = .ok (.astore_n 3, 1) := by decide +kernel
theorem d4 : decode yB 4 = .ok (.aload_n 0, 1) := by decide +kernel
theorem d5 : decode yB 5 = .ok (.iload_n 1, 1) := by decide +kernel
theorem d6 : decode yB 6 = .ok (.aload_n 3, 1) := by decide +kernel
theorem d7 : decode yB 7 = .ok (.iconst 0, 1) := by decide +kernel
theorem d8 : decode yB 8 = .ok (.iload_n 2, 1) := by decide +kernel
theorem d9 : decode yB 9 = .ok (.invokestatic 115, 3) := by decide +kernel
theorem d12 : decode yB 12 = .ok (.istore 4, 2) := by decide +kernel
theorem d14 : decode yB 14 = .ok (.iload 4, 2) := by decide +kernel
theorem d16 : decode yB 16 = .ok (.iload_n 2, 1) := by decide +kernel
theorem d17 : decode yB 17 = .ok (.if_icmp (.eq) 40, 3) := by decide +kernel
theorem d57 : decode yB 57 = .ok (.aload_n 3, 1) := by decide +kernel
theorem d58 : decode yB 58 = .ok (.areturn, 1) := by decide +kernel
def site : List Cond := [.arrayClass .byte, Cmp5.tab] ++ staticW U16 115 Cmp5.yN
def tab : Cond := tabOf yN yB 6 (some (.array .byte)) site
def P (b : Addr) (A : Cell) (o len : Nat) (args : Array Value) (s : State) : Prop := args = #[.ref b, .int (Int32.ofNat o), .int (Int32.ofNat len)] ∧ Ch b A s ∧ o + len ≤ A.slots.size ∧ len ≤ 536870912 ∧ ∀ i, i < len → ¬ 255 < cv A (o + i)
def E (b : Addr) (A : Cell) (o len : Nat) (r : Option Value) (s u : State) : Prop := NewArr .byte "[B" len (fun j => .int (lo8 (cv A (o + j)))) r s u ∧ u.heap.size = s.heap.size + 1
/-- no char of the range above 255: a new byte[] of their low bytes -/
theorem law (l : Launch) (b : Addr) (A : Cell) (o len : Nat) : Law l yN 3 3 1 18 yB 6 (some (.array .byte)) site (P b A o len) (E b A o len) [] 1 len := by
  refine Law.of_walk (plainFor_of_name (by decide +kernel)) (by decide +kernel) (by decide +kernel) (by decide) (fun _ _ h => by rw [h.1]; rfl) (fun _ U U' hal hh h => ⟨h.1, h.2.1.mv hal hh, h.2.2⟩) (fun r U U' V V' h1 hal h2 h => ⟨NewArr.mv r U U' V V' h1 hal h2 h.1, by rw [h1, h2]; exact h.2⟩) ?_
  intro p e s m args below meth c s₁ X0 hexec hbytes hml hret hlk hnm hown hh0 W hP
  obtain ⟨rfl, hA, l1, l2, hp⟩ := hP
  have a31 := hA.1.2.2.2
  have c1 : Steps p.tables e below (s₁.setTop (entryFrame m #[.ref b, .int (Int32.ofNat o), .int (Int32.ofNat len)] 6)) (s₁.setTop (mkF m 0 #[.val (.ref b), .val (.int (Int32.ofNat o)), .val (.int (Int32.ofNat len)), .unset, .unset, .unset] [])) := entry rfl
  have c2 : Steps p.tables e below (s₁.setTop (entryFrame m #[.ref b, .int (Int32.ofNat o), .int (Int32.ofNat len)] 6)) (s₁.setTop (mkF m 1 #[.val (.ref b), .val (.int (Int32.ofNat o)), .val (.int (Int32.ofNat len)), .unset, .unset, .unset] [.int (Int32.ofNat len)])) := c1.trans (by
    refine XS.iloadN X0.here hexec rfl (hb hbytes d0) rfl ?_
    exact Steps.refl _)
  obtain ⟨T3, B3, X3, ba3, bs3, bv3, bh3, bf3, st3⟩ := X0.anew hexec (atype := .byte) (wk W (.arrayClass .byte)) rfl (by show len * 1 ≤ _; omega) (by omega) (g := (mkF m 1 #[.val (.ref b), .val (.int (Int32.ofNat o)), .val (.int (Int32.ofNat len)), .unset, .unset, .unset] [.int (Int32.ofNat len)])) rfl (hb hbytes d1) (rest := []) rfl (Nat.le_refl _) (by show 0 + len ≤ len; omega)
  rw [hh0] at ba3 st3
  have kp3 : XT.Kept s T3 := (XT.Kept.of_eq hh0).push bh3
  have hA3 := hA.keep X3.warmed.alike (kp3 _ _ hA.1.1)
  have hne : b ≠ s.heap.size := hA.1.ne
  have c4 : Steps p.tables e below (s₁.setTop (entryFrame m #[.ref b, .int (Int32.ofNat o), .int (Int32.ofNat len)] 6)) (T3.setTop (mkF m 3 #[.val (.ref b), .val (.int (Int32.ofNat o)), .val (.int (Int32.ofNat len)), .unset, .unset, .unset] [.ref s.heap.size])) := c2.trans (st3 _ (Steps.refl _))
  have c5 : Steps p.tables e below (s₁.setTop (entryFrame m #[.ref b, .int (Int32.ofNat o), .int (Int32.ofNat len)] 6)) (T3.setTop (mkF m 9 #[.val (.ref b), .val (.int (Int32.ofNat o)), .val (.int (Int32.ofNat len)), .val (.ref s.heap.size), .unset, .unset] [.int (Int32.ofNat len), .int 0, .ref s.heap.size, .int (Int32.ofNat o), .ref b])) := c4.trans (by
    refine XS.astoreN X3.here hexec rfl (hb hbytes d3) rfl rfl rfl ?_
    refine XS.aloadN X3.here hexec rfl (hb hbytes d4) rfl rfl ?_
    refine XS.iloadN X3.here hexec rfl (hb hbytes d5) rfl ?_
    refine XS.aloadN X3.here hexec rfl (hb hbytes d6) rfl rfl ?_
    refine iconstV X3.here hexec rfl 0 (hb hbytes d7) (by decide) ?_
    refine XS.iloadN X3.here hexec rfl (hb hbytes d8) rfl ?_
    exact Steps.refl _)
  obtain ⟨v6, T6, X6, E6, g6⟩ := X3.callS hexec (Cmp5.law l b A s.heap.size B3 o 0 len) hown (wks W (staticW U16 115 Cmp5.yN)) (wk W Cmp5.tab) (W := 0) (Nat.le_of_ble_eq_true rfl) (Nat.le_of_ble_eq_true rfl) (Nat.le_refl _) (by show 0 + len + 0 ≤ len; omega) (g := (mkF m 9 #[.val (.ref b), .val (.int (Int32.ofNat o)), .val (.int (Int32.ofNat len)), .val (.ref s.heap.size), .unset, .unset] [.int (Int32.ofNat len), .int (Int32.ofNat 0), .ref s.heap.size, .int (Int32.ofNat o), .ref b])) rfl (by rw [hml]; rfl) c5 (argsL := [.ref b, .int (Int32.ofNat o), .ref s.heap.size, .int (Int32.ofNat 0), .int (Int32.ofNat len)]) (rest := []) rfl rfl (by show 2 * 0 + 0 ≤ _; decide) (hb hbytes d9) (⟨rfl, hA3, ba3, hne, l1, by rw [bs3]; simp, hp⟩)
  obtain ⟨rfl, B6, p6, f6⟩ := E6
  have c7 : Steps p.tables e below (s₁.setTop (entryFrame m #[.ref b, .int (Int32.ofNat o), .int (Int32.ofNat len)] 6)) (T6.setTop (mkF m 12 #[.val (.ref b), .val (.int (Int32.ofNat o)), .val (.int (Int32.ofNat len)), .val (.ref s.heap.size), .unset, .unset] [.int (Int32.ofNat len)])) := g6
  have c8 : Steps p.tables e below (s₁.setTop (entryFrame m #[.ref b, .int (Int32.ofNat o), .int (Int32.ofNat len)] 6)) (T6.setTop (mkF m 58 #[.val (.ref b), .val (.int (Int32.ofNat o)), .val (.int (Int32.ofNat len)), .val (.ref s.heap.size), .val (.int (Int32.ofNat len)), .unset] [.ref s.heap.size])) := c7.trans (by
    refine XS.istore X6.here hexec rfl (hb hbytes d12) rfl rfl ?_
    refine XS.iload X6.here hexec rfl (hb hbytes d14) rfl ?_
    refine XS.iloadN X6.here hexec rfl (hb hbytes d16) rfl ?_
    refine XS.icmpYes X6.here hexec rfl (pc0 := 17) rfl (hb hbytes d17) rfl (ii_eq_t rfl) (by decide) rfl ?_
    refine XS.aloadN X6.here hexec rfl (hb hbytes d57) rfl rfl ?_
    exact Steps.refl _)
  have X8 := X6.wide (L' := []) (cells' := 1) (slots' := len) (fun x hx hlt => by
    simp only [List.nil_append, copyLocs, List.mem_map, List.mem_range] at hx
    obtain ⟨i, -, rfl⟩ := hx
    exact absurd hlt (Nat.lt_irrefl _)) (Nat.le_refl _) (by omega)
  exact ⟨T6, some (.ref s.heap.size), _, _, _, X8, rfl, rfl, rfl, (fun h => by cases h), ⟨⟨rfl, B6, ba3.like (X3.warmed.alike.symm.trans X6.warmed.alike) p6.1 f6.1 f6.2.1 f6.2.2.1, f6.2.1.trans bv3, by rw [X6.warmed.alike.findClass, f6.1]; exact bf3, by rw [f6.2.2.1, bs3]; simp, fun j hj => by rw [f6.2.2.2 j, if_pos (by omega)]; rfl, kp3.put p6 (Nat.le_refl _)⟩, by rw [p6.2.2, bh3, hh0]; simp⟩, fun fs hl => c8.trans (X8.areturnOut hexec rfl hret rfl (hb hbytes d58) hl)⟩
end Cmp3
namespace CodL
def yN : MethodName := ⟨"java/lang/StringUTF16", "coderFromArrayLen", "([BI)B"⟩
abbrev yB : ByteArray := jdk_52_method_15_code
theorem d0 : decode yB 0 = .ok (.iload_n 1, 1) := by decide +kernel
theorem d1 : decode yB 1 = .ok (.aload_n 0, 1) := by decide +kernel
theorem d2 : decode yB 2 = .ok (.arraylength, 1) := by decide +kernel
theorem d3 : decode yB 3 = .ok (.isub, 1) := by decide +kernel
theorem d4 : decode yB 4 = .ok (.bipush 31, 2) := by decide +kernel
theorem d6 : decode yB 6 = .ok (.iushr, 1) := by decide +kernel
theorem d7 : decode yB 7 = .ok (.i2b, 1) := by decide +kernel
theorem d8 : decode yB 8 = .ok (.ireturn, 1) := by decide +kernel
def site : List Cond := []
def tab : Cond := tabOf yN yB 2 (some .byte) site
def P (d : Addr) (B : Cell) (args : Array Value) (s : State) : Prop := args = #[.ref d, .int (Int32.ofNat B.slots.size)] ∧ Arr .byte d B s
def E (r : Option Value) (s u : State) : Prop := XT.PureE (some (.int 0)) r s u
/-- an array as long as the number of chars: LATIN1 -/
theorem law (l : Launch) (d : Addr) (B : Cell) : Law l yN 2 2 0 0 yB 2 (some .byte) site (P d B) E [] 0 0 := by
  refine Law.of_walk (plainFor_of_name (by decide +kernel)) (by decide +kernel) (by decide +kernel) (by decide) (fun _ _ h => by rw [h.1]; rfl) (fun _ U U' hal hh h => ⟨h.1, h.2.mv hal hh⟩) (fun r U U' V V' h1 hal h2 h => XT.PureE.mv r U U' V V' h1 hal h2 h) ?_
  intro p e s m args below meth c s₁ X0 hexec hbytes hml hret hlk hnm hown hh0 W hP
  obtain ⟨rfl, hB⟩ := hP
  have hB0 := hB.mv X0.warmed.alike hh0
  have c1 : Steps p.tables e below (s₁.setTop (entryFrame m #[.ref d, .int (Int32.ofNat B.slots.size)] 2)) (s₁.setTop (mkF m 0 #[.val (.ref d), .val (.int (Int32.ofNat B.slots.size))] [])) := entry rfl
  have c2 : Steps p.tables e below (s₁.setTop (entryFrame m #[.ref d, .int (Int32.ofNat B.slots.size)] 2)) (s₁.setTop (mkF m 2 #[.val (.ref d), .val (.int (Int32.ofNat B.slots.size))] [.ref d, .int (Int32.ofNat B.slots.size)])) := c1.trans (by
    refine XS.iloadN X0.here hexec rfl (hb hbytes d0) rfl ?_
    refine XS.aloadN X0.here hexec rfl (hb hbytes d1) rfl rfl ?_
    exact Steps.refl _)
  have c3 : Steps p.tables e below (s₁.setTop (entryFrame m #[.ref d, .int (Int32.ofNat B.slots.size)] 2)) (s₁.setTop (mkF m 8 #[.val (.ref d), .val (.int (Int32.ofNat B.slots.size))] [.int (lo8 (ushr (Int32.ofNat B.slots.size - Int32.ofNat B.slots.size) 31))])) := c2.trans (by
    refine X0.alen hexec hB0 rfl rfl (hb hbytes d2) ?_
    refine XS.isub X0.here hexec rfl (hb hbytes d3) rfl ?_
    refine bipushV X0.here hexec rfl 31 (hb hbytes d4) (by decide) ?_
    refine iushr X0.here hexec rfl (hb hbytes d6) rfl ?_
    refine i2b X0.here hexec rfl (hb hbytes d7) rfl ?_
    exact Steps.refl _)
  have e0 : lo8 (ushr (Int32.ofNat B.slots.size - Int32.ofNat B.slots.size) 31) = 0 := by rw [Int32.sub_self]; decide
  rw [e0] at c3
  exact ⟨s₁, some (.int 0), _, _, _, X0, rfl, rfl, rfl, (fun h => by cases h), ⟨rfl, hh0⟩, fun fs hl => c3.trans (X0.ireturnOut hexec hret rfl (Or.inr (Or.inr (Or.inl rfl))) (hb hbytes d8) hl)⟩
end CodL
/-- the String at a is Latin-1 over a new byte[] (the heap's one new cell): the low bytes of the len chars of A from o on; every cell but a is kept -/
def Got (a : Addr) (D : Cell) (fV fC : Field) (A : Cell) (o len : Nat) (r : Option Value) (s u : State) : Prop := r = none ∧ ∃ D' V : Cell, Blank "java/lang/String" a D' u ∧ Same D D' [fV.slot, fC.slot] ∧ D'.slots[fV.slot]? = some (.ref s.heap.size) ∧ D'.slots[fC.slot]? = some (.int 0) ∧ Arr .byte s.heap.size V u ∧ V.vm = .none ∧ u.vm.findClass "[B" = some V.cls ∧ V.slots.size = len ∧ (∀ j, j < len → V.slots[j]? = some (.int (lo8 (cv A (o + j))))) ∧ (∀ (y : Addr) (c : Cell), y ≠ a → s.heap[y]? = some c → u.heap[y]? = some c) ∧ u.heap.size = s.heap.size + 1
theorem Got.mv {a : Addr} {D A : Cell} {fV fC : Field} {o len : Nat} : ∀ r (U U' V V' : State), U'.heap = U.heap → V.vm.Alike V'.vm → V'.heap = V.heap → Got a D fV fC A o len r U V → Got a D fV fC A o len r U' V' :=
  fun r U U' V V' h1 hal h2 ⟨e0, D', X, a1, a2, a3, a4, a5, a6, a7, a8, a9, a10, a11⟩ => ⟨e0, D', X, a1.mv hal h2, a2, by rw [h1]; exact a3, a4, by rw [h1]; exact a5.mv hal h2, a6, by rw [hal.findClass]; exact a7, a8, a9, by rw [h1, h2]; exact a10, by rw [h1, h2]; exact a11⟩
namespace New4
def yN : MethodName := ⟨"java/lang/String", "<init>", "([CIILjava/lang/Void;)V"⟩
abbrev yB : ByteArray := jdk_42_method_149_code
theorem d0 : decode yB 0 = .ok (.aload_n 0, 1) := by decide +kernel
theorem d1 : decode yB 1 = .ok (.invokespecial 1, 3) := by decide +kernel
theorem d4 : decode yB 4 = .ok (.iload_n 3, 1) := by decide +kernel
theorem d5 : decode yB 5 = .ok (.ifCond (.ne) 22, 3) := by decide +kernel
theorem d27 : decode yB 27 = .ok (.getstatic 38, 3) := by decide +kernel
theorem d30 : decode yB 30 = .ok (.ifCond (.eq) 28, 3) := by decide +kernel
theorem d33 : decode yB 33 = .ok (.aload_n 1, 1) := by decide +kernel
theorem d34 : decode yB 34 = .ok (.iload_n 2, 1) := by decide +kernel
theorem d35 : decode yB 35 = .ok (.iload_n 3, 1) := by decide +kernel
theorem d36 : decode yB 36 = .ok (.invokestatic 177, 3) := by decide +kernel
theorem d39 : decode yB 39 = .ok (.astore 5, 2) := by decide +kernel
theorem d41 : decode yB 41 = .ok (.aload_n 0, 1) := by decide +kernel
theorem d42 : decode yB 42 = .ok (.aload 5, 2) := by decide +kernel
theorem d44 : decode yB 44 = .ok (.iload_n 3, 1) := by decide +kernel
theorem d45 : decode yB 45 = .ok (.invokestatic 47, 3) := by decide +kernel
theorem d48 : decode yB 48 = .ok (.putfield 15, 3) := by decide +kernel
theorem d51 : decode yB 51 = .ok (.aload_n 0, 1) := by decide +kernel
theorem d52 : decode yB 52 = .ok (.aload 5, 2) := by decide +kernel
theorem d54 : decode yB 54 = .ok (.putfield 9, 3) := by decide +kernel
theorem d57 : decode yB 57 = .ok (.return_, 1) := by decide +kernel
def site : List Cond := [.fieldLink "java/lang/String" 38 "java/lang/String" "COMPACT_STRINGS" "Z", Cmp3.tab, CodL.tab, .laysFinal "java/lang/String" "java/lang/String" "value" "[B", .fieldLink "java/lang/String" 9 "java/lang/String" "value" "[B", .laysFinal "java/lang/String" "java/lang/String" "coder" "B", .fieldLink "java/lang/String" 15 "java/lang/String" "coder" "B"] ++ objW "java/lang/String" 1 ++ staticW "java/lang/String" 177 Cmp3.yN ++ staticW "java/lang/String" 47 CodL.yN
def tab : Cond := tabOf yN yB 6 none site
def P (a : Addr) (D : Cell) (fV fC : Field) (b : Addr) (A : Cell) (z : Int32) (o len : Nat) (args : Array Value) (s : State) : Prop := args = #[.ref a, .ref b, .int (Int32.ofNat o), .int (Int32.ofNat len), .null] ∧ Blank "java/lang/String" a D s ∧ Found "java/lang/String" "value" "[B" fV s ∧ Found "java/lang/String" "coder" "B" fC s ∧ Ch b A s ∧ StaticIs s "java/lang/String" "COMPACT_STRINGS" "Z" (.int z) ∧ ¬ z = 0 ∧ 0 < len ∧ o + len ≤ A.slots.size ∧ len ≤ 536870912 ∧ ∀ i, i < len → ¬ 255 < cv A (o + i)
def E (a : Addr) (D : Cell) (fV fC : Field) (A : Cell) (o len : Nat) (r : Option Value) (s u : State) : Prop := Got a D fV fC A o len r s u
/-- len > 0, no char of the range above 255: a Latin-1 String of their low bytes -/
theorem law (l : Launch) (a : Addr) (D : Cell) (fV fC : Field) (b : Addr) (A : Cell) (z : Int32) (o len : Nat) : Law l yN 5 4 2 35 yB 6 none site (P a D fV fC b A z o len) (E a D fV fC A o len) [⟨a, fC.slot⟩, ⟨a, fV.slot⟩] 1 len := by
  refine Law.of_walk (plainFor_of_name (by decide +kernel)) (by decide +kernel) (by decide +kernel) (by decide) (fun _ _ h => by rw [h.1]; rfl) (fun _ U U' hal hh h => ⟨h.1, h.2.1.mv hal hh, h.2.2.1.al hal, h.2.2.2.1.al hal, h.2.2.2.2.1.mv hal hh, h.2.2.2.2.2.1.there hal hh, h.2.2.2.2.2.2⟩) (fun r U U' V V' h1 hal h2 h => Got.mv r U U' V V' h1 hal h2 h) ?_
  intro p e s m args below meth c s₁ X0 hexec hbytes hml hret hlk hnm hown hh0 W hP
  obtain ⟨rfl, hB, f1, f2, hA, s1, hz, l0, l1, l2, hp⟩ := hP
  have a31 := hA.1.2.2.2
  have c1 : Steps p.tables e below (s₁.setTop (entryFrame m #[.ref a, .ref b, .int (Int32.ofNat o), .int (Int32.ofNat len), .null] 6)) (s₁.setTop (mkF m 0 #[.val (.ref a), .val (.ref b), .val (.int (Int32.ofNat o)), .val (.int (Int32.ofNat len)), .val .null, .unset] [])) := entry rfl
  have c2 : Steps p.tables e below (s₁.setTop (entryFrame m #[.ref a, .ref b, .int (Int32.ofNat o), .int (Int32.ofNat len), .null] 6)) (s₁.setTop (mkF m 1 #[.val (.ref a), .val (.ref b), .val (.int (Int32.ofNat o)), .val (.int (Int32.ofNat len)), .val .null, .unset] [.ref a])) := c1.trans (by
    refine XS.aloadN X0.here hexec rfl (hb hbytes d0) rfl rfl ?_
    exact Steps.refl _)
  obtain ⟨T3, X3, q3, st3⟩ := X0.oinit hexec hown (wks W (objW "java/lang/String" 1)) (g := (mkF m 1 #[.val (.ref a), .val (.ref b), .val (.int (Int32.ofNat o)), .val (.int (Int32.ofNat len)), .val .null, .unset] [.ref a])) rfl (by rw [hml]; rfl) (rest := []) rfl (hb hbytes d1) (W := 0) (by show 2 * 0 + 0 ≤ _; decide) (Nat.le_of_ble_eq_true rfl) (Nat.le_of_ble_eq_true rfl)
  have hh3 := q3.trans hh0
  have c4 : Steps p.tables e below (s₁.setTop (entryFrame m #[.ref a, .ref b, .int (Int32.ofNat o), .int (Int32.ofNat len), .null] 6)) (T3.setTop (mkF m 27 #[.val (.ref a), .val (.ref b), .val (.int (Int32.ofNat o)), .val (.int (Int32.ofNat len)), .val .null, .unset] [])) := (c2.trans (st3 _ (Steps.refl _))).trans (by
    refine XS.iloadN X3.here hexec rfl (hb hbytes d4) rfl ?_
    refine XS.ifYes X3.here hexec rfl (pc0 := 5) rfl (hb hbytes d5) rfl (i0_ne_t (nz32 (by omega) l0)) (by decide) rfl ?_
    exact Steps.refl _)
  obtain ⟨T5, X5, q5, st5⟩ := X3.sget hexec hown (wk W (.fieldLink "java/lang/String" 38 "java/lang/String" "COMPACT_STRINGS" "Z")) s1 (fun _ _ h => by rw [hh3]; exact h) (g := (mkF m 27 #[.val (.ref a), .val (.ref b), .val (.int (Int32.ofNat o)), .val (.int (Int32.ofNat len)), .val .null, .unset] [])) rfl (hb hbytes d27)
  have hh5 := q5.trans hh3
  have c6 : Steps p.tables e below (s₁.setTop (entryFrame m #[.ref a, .ref b, .int (Int32.ofNat o), .int (Int32.ofNat len), .null] 6)) (T5.setTop (mkF m 30 #[.val (.ref a), .val (.ref b), .val (.int (Int32.ofNat o)), .val (.int (Int32.ofNat len)), .val .null, .unset] [.int z])) := c4.trans (st5 _ (Steps.refl _))
  have c7 : Steps p.tables e below (s₁.setTop (entryFrame m #[.ref a, .ref b, .int (Int32.ofNat o), .int (Int32.ofNat len), .null] 6)) (T5.setTop (mkF m 36 #[.val (.ref a), .val (.ref b), .val (.int (Int32.ofNat o)), .val (.int (Int32.ofNat len)), .val .null, .unset] [.int (Int32.ofNat len), .int (Int32.ofNat o), .ref b])) := c6.trans (by
    refine XS.ifNo X5.here hexec rfl (hb hbytes d30) rfl (i0_eq_f hz) ?_
    refine XS.aloadN X5.here hexec rfl (hb hbytes d33) rfl rfl ?_
    refine XS.iloadN X5.here hexec rfl (hb hbytes d34) rfl ?_
    refine XS.iloadN X5.here hexec rfl (hb hbytes d35) rfl ?_
    exact Steps.refl _)
  obtain ⟨v8, T8, X8, E8, g8⟩ := X5.callS hexec (Cmp3.law l b A o len) hown (wks W (staticW "java/lang/String" 177 Cmp3.yN)) (wk W Cmp3.tab) (W := 0) (Nat.le_of_ble_eq_true rfl) (Nat.le_of_ble_eq_true rfl) (Nat.le_refl _) (by show 0 + len ≤ len; omega) (g := (mkF m 36 #[.val (.ref a), .val (.ref b), .val (.int (Int32.ofNat o)), .val (.int (Int32.ofNat len)), .val .null, .unset] [.int (Int32.ofNat len), .int (Int32.ofNat o), .ref b])) rfl (by rw [hml]; rfl) c7 (argsL := [.ref b, .int (Int32.ofNat o), .int (Int32.ofNat len)]) (rest := []) rfl rfl (by show 2 * 0 + 0 ≤ _; decide) (hb hbytes d36) (⟨rfl, hA.mv X5.warmed.alike hh5, l1, l2, hp⟩)
  obtain ⟨e8, z8⟩ := E8
  obtain ⟨rfl, N, n1, n2, n3, n4, n5, n6⟩ := NewArr.mv _ T5 s _ _ hh5.symm (Vm.Alike.refl _) rfl e8
  rw [hh5] at z8
  have hB1 := hB.keep X8.warmed.alike (n6 _ _ hB.1)
  have hne : s.heap.size ≠ a := (Nat.ne_of_lt (Array.getElem?_eq_some_iff.mp hB.1).1).symm
  have c9 : Steps p.tables e below (s₁.setTop (entryFrame m #[.ref a, .ref b, .int (Int32.ofNat o), .int (Int32.ofNat len), .null] 6)) (T8.setTop (mkF m 39 #[.val (.ref a), .val (.ref b), .val (.int (Int32.ofNat o)), .val (.int (Int32.ofNat len)), .val .null, .unset] [.ref s.heap.size])) := g8
  have c10 : Steps p.tables e below (s₁.setTop (entryFrame m #[.ref a, .ref b, .int (Int32.ofNat o), .int (Int32.ofNat len), .null] 6)) (T8.setTop (mkF m 45 #[.val (.ref a), .val (.ref b), .val (.int (Int32.ofNat o)), .val (.int (Int32.ofNat len)), .val .null, .val (.ref s.heap.size)] [.int (Int32.ofNat N.slots.size), .ref s.heap.size, .ref a])) := by
    have hc : Steps p.tables e below (s₁.setTop (entryFrame m #[.ref a, .ref b, .int (Int32.ofNat o), .int (Int32.ofNat len), .null] 6)) (T8.setTop (mkF m 45 #[.val (.ref a), .val (.ref b), .val (.int (Int32.ofNat o)), .val (.int (Int32.ofNat len)), .val .null, .val (.ref s.heap.size)] [.int (Int32.ofNat len), .ref s.heap.size, .ref a])) := c9.trans (by
      refine XS.astore X8.here hexec rfl (hb hbytes d39) rfl rfl rfl ?_
      refine XS.aloadN X8.here hexec rfl (hb hbytes d41) rfl rfl ?_
      refine XS.aload X8.here hexec rfl (hb hbytes d42) rfl rfl ?_
      refine XS.iloadN X8.here hexec rfl (hb hbytes d44) rfl ?_
      exact Steps.refl _)
    rw [n4]; exact hc
  obtain ⟨v11, T11, X11, E11, g11⟩ := X8.callS hexec (CodL.law l s.heap.size N) hown (wks W (staticW "java/lang/String" 47 CodL.yN)) (wk W CodL.tab) (W := 1) (Nat.le_of_ble_eq_true rfl) (Nat.le_of_ble_eq_true rfl) (Nat.le_refl _) (by show 0 + len + 0 ≤ len; omega) (g := (mkF m 45 #[.val (.ref a), .val (.ref b), .val (.int (Int32.ofNat o)), .val (.int (Int32.ofNat len)), .val .null, .val (.ref s.heap.size)] [.int (Int32.ofNat N.slots.size), .ref s.heap.size, .ref a])) rfl (by rw [hml]; rfl) c10 (argsL := [.ref s.heap.size, .int (Int32.ofNat N.slots.size)]) (rest := [.ref a]) rfl rfl (by show 2 * 0 + (1 + 0) ≤ _; decide) (hb hbytes d45) (⟨rfl, n1⟩)
  obtain ⟨rfl, q11⟩ := E11
  have hB11 := hB1.mv (X8.warmed.alike.symm.trans X11.warmed.alike) q11
  have c12 : Steps p.tables e below (s₁.setTop (entryFrame m #[.ref a, .ref b, .int (Int32.ofNat o), .int (Int32.ofNat len), .null] 6)) (T11.setTop (mkF m 48 #[.val (.ref a), .val (.ref b), .val (.int (Int32.ofNat o)), .val (.int (Int32.ofNat len)), .val .null, .val (.ref s.heap.size)] [.int 0, .ref a])) := g11
  obtain ⟨T13, X13, p13, bl13, sl13, st13⟩ := X11.finit hexec hown (wk W (.fieldLink "java/lang/String" 15 "java/lang/String" "coder" "B")) (Or.inr ⟨_, (wk W (.laysFinal "java/lang/String" "java/lang/String" "coder" "B"))⟩) (Or.inl ⟨rfl, hnm⟩) f2 (Or.inl rfl) hB11 (t := .byte) (by decide +kernel) rfl (g := (mkF m 48 #[.val (.ref a), .val (.ref b), .val (.int (Int32.ofNat o)), .val (.int (Int32.ofNat len)), .val .null, .val (.ref s.heap.size)] [.int 0, .ref a])) rfl (rest := []) rfl (hb hbytes d48)
  have c14 : Steps p.tables e below (s₁.setTop (entryFrame m #[.ref a, .ref b, .int (Int32.ofNat o), .int (Int32.ofNat len), .null] 6)) (T13.setTop (mkF m 54 #[.val (.ref a), .val (.ref b), .val (.int (Int32.ofNat o)), .val (.int (Int32.ofNat len)), .val .null, .val (.ref s.heap.size)] [.ref s.heap.size, .ref a])) := (c12.trans (st13 _ (Steps.refl _))).trans (by
    refine XS.aloadN X13.here hexec rfl (hb hbytes d51) rfl rfl ?_
    refine XS.aload X13.here hexec rfl (hb hbytes d52) rfl rfl ?_
    exact Steps.refl _)
  obtain ⟨T15, X15, p15, bl15, sl15, st15⟩ := X13.finit hexec hown (wk W (.fieldLink "java/lang/String" 9 "java/lang/String" "value" "[B")) (Or.inr ⟨_, (wk W (.laysFinal "java/lang/String" "java/lang/String" "value" "[B"))⟩) (Or.inl ⟨rfl, hnm⟩) f1 (Or.inl rfl) bl13 (t := (.array .byte)) (by decide +kernel) rfl (g := (mkF m 54 #[.val (.ref a), .val (.ref b), .val (.int (Int32.ofNat o)), .val (.int (Int32.ofNat len)), .val .null, .val (.ref s.heap.size)] [.ref s.heap.size, .ref a])) rfl (rest := []) rfl (hb hbytes d54)
  have c16 : Steps p.tables e below (s₁.setTop (entryFrame m #[.ref a, .ref b, .int (Int32.ofNat o), .int (Int32.ofNat len), .null] 6)) (T15.setTop (mkF m 57 #[.val (.ref a), .val (.ref b), .val (.int (Int32.ofNat o)), .val (.int (Int32.ofNat len)), .val .null, .val (.ref s.heap.size)] [])) := c14.trans (st15 _ (Steps.refl _))
  have ap := apart (Or.inr ⟨_, (wk W (.laysFinal "java/lang/String" "java/lang/String" "value" "[B"))⟩) (Or.inr ⟨_, (wk W (.laysFinal "java/lang/String" "java/lang/String" "coder" "B"))⟩) f1 f2 (t₁ := .array .byte) (t₂ := .byte) (by decide +kernel) (by decide +kernel) (by decide)
  have al := X8.warmed.alike.symm.trans X15.warmed.alike
  have n7 : T11.heap[s.heap.size]? = some N := by rw [q11]; exact n1.1
  exact ⟨T15, none, _, _, _, X15, by simp, rfl, by omega, (fun _ => rfl), ⟨rfl, _, N, bl15, ((Same.refl D _).set _ (by simp)).set _ (by simp), sl15, (Cell.slots_setSlot_ne _ ap).trans sl13, n1.keep al (p15.other hne (p13.other hne n7)), n2, by rw [al.findClass]; exact n3, n4, n5, fun y c h1 h2 => p15.other h1 (p13.other h1 (by rw [q11]; exact n6 y c h2)), by rw [p15.2.2, p13.2.2, q11]; exact z8⟩, fun fs hl => c16.trans (X15.returnOut hexec hret (hb hbytes d57) hl)⟩
end New4
namespace New1
def yN : MethodName := ⟨"java/lang/String", "<init>", "([C)V"⟩
abbrev yB : ByteArray := jdk_42_method_3_code
theorem d0 : decode yB 0 = .ok (.aload_n 0, 1) := by decide +kernel
theorem d1 : decode yB 1 = .ok (.aload_n 1, 1) := by decide +kernel
theorem d2 : decode yB 2 = .ok (.iconst 0, 1) := by decide +kernel
theorem d3 : decode yB 3 = .ok (.aload_n 1, 1) := by decide +kernel
theorem d4 : decode yB 4 = .ok (.arraylength, 1) := by decide +kernel
theorem d5 : decode yB 5 = .ok (.aconst_null, 1) := by decide +kernel
theorem d6 : decode yB 6 = .ok (.invokespecial 27, 3) := by decide +kernel
theorem d9 : decode yB 9 = .ok (.return_, 1) := by decide +kernel
def site : List Cond := [New4.tab] ++ initW "java/lang/String" 27 New4.yN
def tab : Cond := tabOf yN yB 2 none site
def P (a : Addr) (D : Cell) (fV fC : Field) (b : Addr) (A : Cell) (z : Int32) (args : Array Value) (s : State) : Prop := args = #[.ref a, .ref b] ∧ Blank "java/lang/String" a D s ∧ Found "java/lang/String" "value" "[B" fV s ∧ Found "java/lang/String" "coder" "B" fC s ∧ Ch b A s ∧ StaticIs s "java/lang/String" "COMPACT_STRINGS" "Z" (.int z) ∧ ¬ z = 0 ∧ 0 < A.slots.size ∧ A.slots.size ≤ 536870912 ∧ ∀ i, i < A.slots.size → ¬ 255 < cv A i
def E (a : Addr) (D : Cell) (fV fC : Field) (A : Cell) (r : Option Value) (s u : State) : Prop := Got a D fV fC A 0 A.slots.size r s u
/-- new String(chars), not empty, no char above 255: a Latin-1 String of their low bytes -/
theorem law (l : Launch) (a : Addr) (D : Cell) (fV fC : Field) (b : Addr) (A : Cell) (z : Int32) : Law l yN 2 1 3 52 yB 2 none site (P a D fV fC b A z) (E a D fV fC A) [⟨a, fC.slot⟩, ⟨a, fV.slot⟩] 1 A.slots.size := by
  refine Law.of_walk (plainFor_of_name (by decide +kernel)) (by decide +kernel) (by decide +kernel) (by decide) (fun _ _ h => by rw [h.1]; rfl) (fun _ U U' hal hh h => ⟨h.1, h.2.1.mv hal hh, h.2.2.1.al hal, h.2.2.2.1.al hal, h.2.2.2.2.1.mv hal hh, h.2.2.2.2.2.1.there hal hh, h.2.2.2.2.2.2⟩) (fun r U U' V V' h1 hal h2 h => Got.mv r U U' V V' h1 hal h2 h) ?_
  intro p e s m args below meth c s₁ X0 hexec hbytes hml hret hlk hnm hown hh0 W hP
  obtain ⟨rfl, hB, f1, f2, hA, s1, hz, l0, l2, hp⟩ := hP
  have c1 : Steps p.tables e below (s₁.setTop (entryFrame m #[.ref a, .ref b] 2)) (s₁.setTop (mkF m 0 #[.val (.ref a), .val (.ref b)] [])) := entry rfl
  have c2 : Steps p.tables e below (s₁.setTop (entryFrame m #[.ref a, .ref b] 2)) (s₁.setTop (mkF m 6 #[.val (.ref a), .val (.ref b)] [.null, .int (Int32.ofNat A.slots.size), .int 0, .ref b, .ref a])) := c1.trans (by
    refine XS.aloadN X0.here hexec rfl (hb hbytes d0) rfl rfl ?_
    refine XS.aloadN X0.here hexec rfl (hb hbytes d1) rfl rfl ?_
    refine iconstV X0.here hexec rfl 0 (hb hbytes d2) (by decide) ?_
    refine XS.aloadN X0.here hexec rfl (hb hbytes d3) rfl rfl ?_
    refine X0.alen hexec (hA.1.mv X0.warmed.alike hh0) rfl rfl (hb hbytes d4) ?_
    refine XS.aconstNull X0.here hexec rfl (hb hbytes d5) ?_
    exact Steps.refl _)
  obtain ⟨v3, T3, X3, E3, g3⟩ := X0.callN hexec (New4.law l a D fV fC b A z 0 A.slots.size) rfl hown (wks W (initW "java/lang/String" 27 New4.yN)) (W New4.tab (by simp only [site, List.mem_cons, List.mem_append, true_or, or_true])) (W := 0) (Nat.le_of_ble_eq_true rfl) (Nat.le_of_ble_eq_true rfl) (Nat.le_refl _) (by show 0 + A.slots.size ≤ A.slots.size; omega) (g := (mkF m 6 #[.val (.ref a), .val (.ref b)] [.null, .int (Int32.ofNat A.slots.size), .int (Int32.ofNat 0), .ref b, .ref a])) rfl (by rw [hml]; rfl) c2 (argsL := [.ref b, .int (Int32.ofNat 0), .int (Int32.ofNat A.slots.size), .null]) (rest := []) rfl rfl (by show 2 * 0 + 0 ≤ _; decide) (hb hbytes d6) (⟨rfl, hB.mv X0.warmed.alike hh0, f1.al X0.warmed.alike, f2.al X0.warmed.alike, hA.mv X0.warmed.alike hh0, s1.there X0.warmed.alike hh0, hz, l0, by omega, l2, fun i hi => by rw [Nat.zero_add]; exact hp i hi⟩)
  have e0 := Got.mv _ s₁ s _ _ hh0.symm (Vm.Alike.refl _) rfl E3
  obtain rfl := e0.1
  have c4 : Steps p.tables e below (s₁.setTop (entryFrame m #[.ref a, .ref b] 2)) (T3.setTop (mkF m 9 #[.val (.ref a), .val (.ref b)] [])) := g3
  exact ⟨T3, none, _, _, _, X3, by simp, rfl, by omega, (fun _ => rfl), e0, fun fs hl => c4.trans (X3.returnOut hexec hret (hb hbytes d9) hl)⟩
theorem pays {l : Launch} {R : Room} {p : Program} {e : Env} {below : List Frame} {s : State} {sargs : Array Value} {len W : Nat} (a : Addr) (D : Cell) (fV fC : Field) (b : Addr) (A : Cell) (z : Int32) (htab : tab.before sargs s = true) (hfr : 4 ≤ R.frames) (hlo : W + 65 ≤ R.locals) :
    Back l R p e below s sargs yN len W (fun A₁ a₁ => A₁.cells + 1 ≤ R.cells ∧ A₁.slots + A.slots.size ≤ R.slots ∧ P a D fV fC b A z a₁ A₁.U) (fun A₁ _ v₁ B₁ => E a D fV fC A v₁ A₁.U B₁.U ∧ B₁.locs = A₁.locs ++ [⟨a, fC.slot⟩, ⟨a, fV.slot⟩] ∧ B₁.cells = A₁.cells + 1 ∧ B₁.slots = A₁.slots + A.slots.size) :=
  (law l a D fV fC b A z).pays htab hfr (by omega)
end New1
/-- the byte, read back as charAt reads it, is the char -/
theorem lo8_mask {x : Int32} (h0 : ¬ x < 0) (h1 : ¬ 255 < x) : lo8 x &&& 255 = x := by
  have t : ∀ k : Fin 256, lo8 (Int32.ofNat k.val) &&& 255 = Int32.ofNat k.val := by decide +kernel
  rw [Int32.lt_iff_toInt_lt] at h0 h1
  have e0 : (0 : Int32).toInt = 0 := rfl
  have e1 : (255 : Int32).toInt = 255 := rfl
  obtain ⟨k, hk⟩ : ∃ k : Nat, x.toInt = k := ⟨x.toInt.toNat, by omega⟩
  have hx : x = Int32.ofNat k := Int32.toInt_inj.mp (by rw [hk, Int32.toInt_ofNat_small (by omega)])
  rw [hx]
  exact t ⟨k, by omega⟩
end StrChars
namespace StrChars.Road
open Jvm Sem ClassFile Op Lib Jvm.Stand Jvm.Free Jvm.Free.XT
open Jvm.Lib.Cold (StaticIs)
abbrev ST : String := "java/lang/String"
/-- every table word that New1's law asks, flat -/
abbrev words : List Jvm.Cond := [.code New1.yN New1.yB 2 none, .initialized ST, .methodLink ST 27 New4.yN, .instanceMethod New4.yN,
  .code New4.yN New4.yB 6 none, .fieldLink ST 38 ST "COMPACT_STRINGS" "Z", .laysFinal ST ST "value" "[B", .fieldLink ST 9 ST "value" "[B", .laysFinal ST ST "coder" "B", .fieldLink ST 15 ST "coder" "B",
  .methodLink ST 1 Lib.objectInit, .instanceMethod Lib.objectInit, .code Lib.objectInit ⟨#[0xb1]⟩ 1 none, .methodLink ST 177 Cmp3.yN, .static Cmp3.yN, .methodLink ST 47 CodL.yN, .static CodL.yN,
  .code Cmp3.yN Cmp3.yB 6 (some (.array .byte)), .initialized U16, .arrayClass .byte, .methodLink U16 115 Cmp5.yN, .static Cmp5.yN, .code Cmp5.yN Cmp5.yB 7 (some .int), .code CodL.yN CodL.yB 2 (some .byte)]
theorem tab_of {a : Array Value} {s : State} (h : ∀ w ∈ words, w.before a s = true) : New1.tab.before a s = true := by
  have h5 : Cmp5.tab.before a s = true := unparts (wk h (.code Cmp5.yN Cmp5.yB 7 (some .int))) (wks h (.initialized Cmp5.yN.cls :: Cmp5.site))
  have hc : CodL.tab.before a s = true := unparts (wk h (.code CodL.yN CodL.yB 2 (some .byte))) (wks h (.initialized CodL.yN.cls :: CodL.site))
  have q5 : ∀ w ∈ Cmp5.tab :: words, w.before a s = true := fun w hw => (List.mem_cons.mp hw).elim (fun e => e ▸ h5) (h w)
  have h3 : Cmp3.tab.before a s = true := unparts (wk q5 (.code Cmp3.yN Cmp3.yB 6 (some (.array .byte)))) (wks q5 (.initialized Cmp3.yN.cls :: Cmp3.site))
  have q3 : ∀ w ∈ Cmp3.tab :: CodL.tab :: words, w.before a s = true := fun w hw => (List.mem_cons.mp hw).elim (fun e => e ▸ h3) fun hw => (List.mem_cons.mp hw).elim (fun e => e ▸ hc) (h w)
  have h4 : New4.tab.before a s = true := unparts (wk q3 (.code New4.yN New4.yB 6 none)) (wks q3 (.initialized New4.yN.cls :: New4.site))
  have q4 : ∀ w ∈ New4.tab :: words, w.before a s = true := fun w hw => (List.mem_cons.mp hw).elim (fun e => e ▸ h4) (h w)
  exact unparts (wk q4 (.code New1.yN New1.yB 2 none)) (wks q4 (.initialized New1.yN.cls :: New1.site))
/-- the words ride from the start Z to the walk's own state -/
theorem moved {Z s : State} {a0 args : Array Value} (hZ : Z.Warmed39 s.vm) (hw : ∀ d ∈ words, d.before a0 Z = true) : ∀ d ∈ words, d.before args s = true := fun d hd => by
  have q := hw d hd
  have t : ∀ d ∈ words, d = .arrayClass .byte ∨ (d.onTables && d.keepsFace) = true := by decide +kernel
  rcases t d hd with rfl | t
  · exact RoadKit.mvA hZ q
  · exact RoadKit.mv hZ q t
/-- WHAT COMES BACK, over the tables of the start Z: h the heap at the call, h' behind it -/
def Q (Z : State) (x : Addr) (A : Cell) (h : Heap) (v : Option Value) (h' : Heap) (L : List Loc) : Prop := v = none ∧ (∀ y ∈ L, y.base = x) ∧ RoadKit.Keep h h' [x] ∧ h'.size = h.size + 1 ∧ RoadKit.Exa Z h' x ST ∧ RoadKit.Fld Z h' x ST "value" "[B" (.ref h.size) ∧ RoadKit.Fld Z h' x ST "coder" "B" (.int 0) ∧
  (∃ V : Cell, RoadKit.Arr Z h' h.size V .byte ∧ V.vm = .none ∧ Z.vm.findClass "[B" = some V.cls ∧ V.slots.size = A.slots.size ∧ ∀ j, j < A.slots.size → V.slots[j]? = some (.int (lo8 (cv A j)))) ∧
  ∀ (O n d : String) (w : Value), RoadKit.Fld Z h x O n d w → RoadKit.slotOf Z O n d ≠ RoadKit.slotOf Z ST "value" "[B" → RoadKit.slotOf Z O n d ≠ RoadKit.slotOf Z ST "coder" "B" → RoadKit.Fld Z h' x O n d w
/-- **new String(chars) AT A CALL, IN THE ROAD'S FORM**: for specialBack behind newO: x the fresh String, b the char[] with the cell A -/
theorem back {p : Program} {l : Launch} {e : Env} {R : Room} {s : State} {args : Array Value} {below : List Frame} {len W : Nat} {Z : State} {a0 : Array Value} {h : Heap} (hZ : Z.Warmed39 s.vm) (hw : ∀ d ∈ words, d.before a0 Z = true) {kI : Nat} (wi : (Jvm.Cond.instantiable ST kI).before a0 Z = true)
    {x b : Addr} {A : Cell} {z : Int32} {v0 c0 : Value} (E : RoadKit.Exa Z h x ST) (V : RoadKit.Fld Z h x ST "value" "[B" v0) (C : RoadKit.Fld Z h x ST "coder" "B" c0) (K : RoadKit.Arr Z h b A .char) (hty : Typed .char A) (S : RoadKit.Sta Z h ST "COMPACT_STRINGS" "Z" (.int z)) (hz : ¬ z = 0)
    (l0 : 0 < A.slots.size) (l2 : A.slots.size ≤ 536870912) (hp : ∀ i, i < A.slots.size → ¬ 255 < cv A i) (hfr : 4 ≤ R.frames) (hlo : W + 65 ≤ R.locals) :
    Back l R p e below s args New1.yN len W (fun P a => a = #[.ref x, .ref b] ∧ P.U.heap = h ∧ P.cells + 1 ≤ R.cells ∧ P.slots + A.slots.size ≤ R.slots)
      (fun P _ v B => ∃ L, Q Z x A h v B.U.heap L ∧ B.locs = P.locs ++ L ∧ B.cells = P.cells + 1 ∧ B.slots = P.slots + A.slots.size) := by
  intro m meth c P g ig mk a X hg hsize hdg hW hn hp'
  obtain ⟨rfl, rfl, r1, r2⟩ := hp'
  have al : Z.vm.Alike P.U.vm := hZ.alike.trans X.warmed.alike
  obtain ⟨D, cfV, kV, iV, fV, hD, gV, stV, knV, obV, asV, slV⟩ := id V
  obtain ⟨D', cfC, kC, iC, fC, hD', gC, stC, -, -, asC, slC⟩ := id C
  cases hD.symm.trans hD'
  obtain ⟨D2, kD, e1, e2, e3, e4, e5⟩ := id E
  cases hD.symm.trans e1
  obtain ⟨c2, k2, i1, i2, i3, -⟩ := Cond.instantiable_spec wi
  cases e2.symm.trans i1
  cases e3.symm.trans i2
  obtain ⟨kU, u1, u2⟩ := al.2.2 _ _ e3
  have hB : Blank ST x D P.U := ⟨hD, ⟨knV, fun q hq => by rw [hq] at obV; cases obV⟩, by rw [al.findClass]; exact e2, kU, u1, by rw [u2]; exact i3, by rw [u2]; exact e5 i3⟩
  have F1 : Found ST "value" "[B" fV P.U := ⟨SBG.found_only al ⟨cfV, kV, iV, gV⟩, stV⟩
  have F2 : Found ST "coder" "B" fC P.U := ⟨SBG.found_only al ⟨cfC, kC, iC, gC⟩, stC⟩
  have hA : Ch b A P.U := ⟨⟨K.1, State.isArrayOf_alike al K.2.1, K.2.2, by omega⟩, hty⟩
  have hS : StaticIs P.U ST "COMPACT_STRINGS" "Z" (.int z) := by
    obtain ⟨cfS, iS, kS, fS, st, cS, t1, t2, t3, t4, t5, t6, t7⟩ := S
    exact StaticIs.there (s := { Z with heap := P.U.heap }) ⟨cfS, iS, kS, fS, st, cS, t1, t2, t3, t4, t5, (fun q => by rw [q] at t6; cases t6), t7⟩ al rfl
  obtain ⟨v, B, X', ⟨⟨hv, E', V', q1, q2, q3, q4, q5, q6, q7, q8, q9, q10, q11⟩, hl, hc, hs⟩, st⟩ := New1.pays x D fV fC b A z (tab_of (moved hZ hw)) hfr hlo m meth c P g ig mk _ X hg hsize hdg hW hn ⟨r1, r2, rfl, hB, F1, F2, hA, hS, hz, l0, l2, hp⟩
  have al' : Z.vm.Alike B.U.vm := hZ.alike.trans X'.warmed.alike
  have hsz : E'.slots.size = D.slots.size := by
    obtain ⟨-, -, -, kB, w1, w2, w3⟩ := q1
    obtain ⟨kB', y1, y2⟩ := al'.2.2 _ _ e3
    rw [q2.2.1] at w1
    cases w1.symm.trans y1
    rw [w3, e5 i3, y2]
  refine ⟨v, B, X', ⟨_, ⟨hv, ?_, ⟨by omega, fun y cy hy hn' => q10 y cy (by simpa using hn') hy, fun y cy hy => ?_⟩, q11, ⟨E', _, q1.1, by rw [q2.2.1]; exact e2, by rw [q2.2.1]; exact e3, by rw [q2.1]; exact obV, fun _ => by rw [hsz]; exact e5 i3⟩,
    ⟨E', cfV, kV, iV, fV, q1.1, gV, stV, by rw [q2.1]; exact knV, by rw [q2.1]; exact obV, by rw [q2.2.1]; exact asV, q3⟩, ⟨E', cfC, kC, iC, fC, q1.1, gC, stC, by rw [q2.1]; exact knV, by rw [q2.1]; exact obV, by rw [q2.2.1]; exact asC, q4⟩,
    ⟨V', ⟨q5.1, State.isArrayOf_alike al'.symm q5.2.1, q5.2.2.1⟩, q6, by rw [← al'.findClass]; exact q7, q8, fun j hj => by have := q9 j hj; rwa [Nat.zero_add] at this⟩, fun O n d w F n1 n2 => ?_⟩, hl, hc, hs⟩, st⟩
  · intro y hy
    simp only [List.mem_cons, List.not_mem_nil, or_false] at hy
    rcases hy with rfl | rfl <;> rfl
  · by_cases q : y = x
    · subst q
      cases hD.symm.trans hy
      exact ⟨E', q1.1, q2.2.1, q2.1, hsz⟩
    · exact ⟨cy, q10 y cy q hy, rfl, rfl, rfl⟩
  · obtain ⟨D3, cf, k, i, f, g1, g2, g3, g4, g5, g6, g7⟩ := F
    cases hD.symm.trans g1
    simp only [RoadKit.slotOf, g2, gV, gC, Option.map_some, Option.getD_some] at n1 n2
    exact ⟨E', cf, k, i, f, q1.1, g2, g3, by rw [q2.1]; exact g4, by rw [q2.1]; exact g5, by rw [q2.2.1]; exact g6, by rw [q2.2.2 f.slot (by simp [n1, n2])]; exact g7⟩
end StrChars.Road
namespace StrChars.Road
open Jvm Sem ClassFile Op Lib Jvm.Stand Jvm.Free Jvm.Free.XT
/-- WHAT COMES BACK, the byte[] as a list of values -/
def QA (Z : State) (x : Addr) (zn : Int32) (cs : List Int32) (h : Heap) (v : Option Value) (h' : Heap) (L : List Loc) : Prop := v = none ∧ (∀ y ∈ L, y.base = x) ∧ RoadKit.Keep h h' [x] ∧ h'.size = h.size + 1 ∧ RoadKit.Exa Z h' x ST ∧ RoadKit.Fld Z h' x ST "value" "[B" (.ref h.size) ∧ RoadKit.Fld Z h' x ST "coder" "B" (.int 0) ∧
  (∃ kb, Z.vm.findClass "[B" = some kb ∧ RoadKit.Arv Z h' h.size kb .byte zn (cs.map fun c => .int (lo8 c)) (.int 0)) ∧
  ∀ (O n d : String) (w : Value), RoadKit.Fld Z h x O n d w → RoadKit.slotOf Z O n d ≠ RoadKit.slotOf Z ST "value" "[B" → RoadKit.slotOf Z O n d ≠ RoadKit.slotOf Z ST "coder" "B" → RoadKit.Fld Z h' x O n d w
/-- **new String(chars) AT A CALL, THE ARRAYS AS LISTS**: the char[] at b holds cs, not empty, no char above 255 -/
theorem backArv {p : Program} {l : Launch} {e : Env} {R : Room} {s : State} {args : Array Value} {below : List Frame} {len W : Nat} {Z : State} {a0 : Array Value} {h : Heap} (hZ : Z.Warmed39 s.vm) (hw : ∀ d ∈ words, d.before a0 Z = true) {kI : Nat} (wi : (Jvm.Cond.instantiable ST kI).before a0 Z = true)
    {x b : Addr} {k : ClassId} {zn z : Int32} {cs : List Int32} {dv v0 c0 : Value} (E : RoadKit.Exa Z h x ST) (V : RoadKit.Fld Z h x ST "value" "[B" v0) (C : RoadKit.Fld Z h x ST "coder" "B" c0) (K : RoadKit.Arv Z h b k .char zn (cs.map Value.int) dv) (S : RoadKit.Sta Z h ST "COMPACT_STRINGS" "Z" (.int z)) (hz : ¬ z = 0)
    (hlen : zn.toNatClampNeg = cs.length) (h0 : 0 < cs.length) (hbig : cs.length ≤ 536870912) (hall : ∀ c ∈ cs, ¬ 255 < c) (hfr : 4 ≤ R.frames) (hlo : W + 65 ≤ R.locals) :
    Back l R p e below s args New1.yN len W (fun P a => a = #[.ref x, .ref b] ∧ P.U.heap = h ∧ P.cells + 1 ≤ R.cells ∧ P.slots + cs.length ≤ R.slots)
      (fun P _ v B => ∃ L, QA Z x zn cs h v B.U.heap L ∧ B.locs = P.locs ++ L ∧ B.cells = P.cells + 1 ∧ B.slots = P.slots + cs.length) := by
  obtain ⟨A, K1, K2, K3, K4, K5, K6⟩ := K
  have e : A.slots.size = cs.length := K3.trans hlen
  have hat : ∀ (i : Nat) (hi : i < cs.length), A.slots[i]? = some (.int cs[i]) := fun i hi => by rw [K5 i (by omega)]; simp [List.getD_eq_getElem?_getD, hi]
  have hcv : ∀ (i : Nat) (hi : i < cs.length), cv A i = cs[i] := fun i hi => by unfold cv; rw [hat i hi]
  have hty : Typed .char A := fun i v hv => by
    have hi : i < A.slots.size := (Array.getElem?_eq_some_iff.mp hv).1
    have q := K5 i hi
    rw [hv] at q
    rw [Option.some.inj q]
    exact K6 i hi
  refine Back.mono (back hZ hw wi E V C K1 hty S hz (by omega) (by omega) (fun i hi => by rw [hcv i (by omega)]; exact hall _ (List.getElem_mem _)) hfr hlo) (fun P a hp => ⟨hp.1, hp.2.1, hp.2.2.1, by rw [e]; exact hp.2.2.2⟩) (fun P a v B hp hq => ?_)
  obtain ⟨L, ⟨q1, q2, q3, q4, q5, q6, q7, ⟨V', v1, v2, v3, v4, v5⟩, q9⟩, hl, hc, hs⟩ := hq
  refine ⟨L, ⟨q1, q2, q3, q4, q5, q6, q7, ⟨V'.cls, v3, V', v1, rfl, by rw [v4, e, hlen], K4, fun i hi => ?_, fun i hi => ?_⟩, q9⟩, hl, hc, by rw [hs, e]⟩
  · have hi' : i < cs.length := by omega
    rw [v5 i (by omega), hcv i hi']; simp [List.getD_eq_getElem?_getD, hi']
  · have hi' : i < cs.length := by omega
    simp only [List.getD_eq_getElem?_getD, List.getElem?_map, List.getElem?_eq_getElem hi', Option.map_some, Option.getD_some]
    exact fits_lo8 _
end StrChars.Road
namespace StrChars.Road
open Jvm Sem ClassFile Op Lib Jvm.Stand Jvm.Free Jvm.Free.XT
/-- WHAT COMES BACK, in the writer's own shape -/
def QV (Z : State) (x : Addr) (N : Int32) (bs : List Int32) (h : Heap) (n0 : Nat) (v : Option Value) (h' : Heap) (L : List Loc) : Prop := v = none ∧ RoadKit.Fr n0 L ∧ RoadKit.Keep h h' [x] ∧ RoadKit.Exa Z h' x ST ∧ RoadKit.Fld Z h' x ST "coder" "B" (.int 0) ∧
  ∃ (t : Addr) (kb : ClassId), n0 ≤ t ∧ h.size ≤ t ∧ ¬ t = x ∧ RoadKit.Fld Z h' x ST "value" "[B" (.ref t) ∧ RoadKit.Arv Z h' t kb .byte N (bs.map Value.int) (.int 0)
/-- **new String(chars) AT A CALL, FOR THE WRITER**: a char[] of n known ints, each 0 to 255 -/
theorem backV {p : Program} {l : Launch} {e : Env} {R : Room} {s : State} {args : Array Value} {below : List Frame} {len W : Nat} {Z : State} {a0 : Array Value} {h : Heap} (hZ : Z.Warmed39 s.vm) (hw : ∀ d ∈ words, d.before a0 Z = true) {kI : Nat} (wi : (Jvm.Cond.instantiable ST kI).before a0 Z = true)
    {x b : Addr} {kC : ClassId} {cs bs : List Int32} {d v0 c0 : Value} {z N : Int32} {n n0 : Nat} (hx0 : n0 ≤ x) (hh0 : n0 ≤ h.size) (E : RoadKit.Exa Z h x ST) (V : RoadKit.Fld Z h x ST "value" "[B" v0) (C : RoadKit.Fld Z h x ST "coder" "B" c0) (K : RoadKit.Arv Z h b kC .char N (cs.map Value.int) d) (S : RoadKit.Sta Z h ST "COMPACT_STRINGS" "Z" (.int z)) (hz : ¬ z = 0)
    (hn : cs.length = n) (hN : N = Int32.ofNat n) (l0 : 0 < n) (l2 : n ≤ 4000) (hp : ∀ c ∈ cs, ¬ c < 0 ∧ ¬ (255 : Int32) < c) (hb : bs = cs.map (fun c => c.toInt8.toInt32)) (hfr : 4 ≤ R.frames) (hlo : W + 65 ≤ R.locals) :
    Back l R p e below s args (⟨"java/lang/String", "<init>", "([C)V"⟩ : MethodName) len W (fun P a => a = #[.ref x, .ref b] ∧ P.U.heap = h ∧ P.cells + 1 ≤ R.cells ∧ P.slots + n ≤ R.slots)
      (fun P _ v B => ∃ L, QV Z x N bs h n0 v B.U.heap L ∧ B.locs = P.locs ++ L ∧ B.cells = P.cells + 1 ∧ B.slots = P.slots + n) := by
  subst hn hN hb
  refine Back.mono (backArv hZ hw wi E V C K S hz (n32 (by omega)) l0 (by omega) (fun c hc => (hp c hc).2) hfr hlo) (fun P a hp => hp) (fun P a v B hp hq => ?_)
  obtain ⟨L, ⟨q1, q2, q3, q4, q5, q6, q7, ⟨kb, v1, v2⟩, q9⟩, hl, hc, hs⟩ := hq
  exact ⟨L, ⟨q1, fun y hy => by rw [q2 y hy]; exact hx0, q3, q5, q7, h.size, kb, hh0, Nat.le_refl _, Nat.ne_of_gt E.lt, q6, by rw [List.map_map]; exact v2⟩, hl, hc, hs⟩
end StrChars.Road
namespace StrChars
open Jvm Sem ClassFile Op Lib Jvm.Stand Jvm.Free.XT Jvm.Free.ALB Jvm.Free.JM Jvm.Free
open Jvm.Lib.Cold (StaticIs)
def hi8 (x : Int32) : Int32 := lo8 (x >>> ((8 : Int32) &&& 31))
/-- what StringUTF16.getChar makes of two bytes -/
def pairCh (u v : Int32) : Int32 := (((u &&& 255) <<< ((0 : Int32) &&& 31)) ||| ((v &&& 255) <<< ((8 : Int32) &&& 31))).toUInt32.toUInt16.toUInt32.toInt32
theorem shr0 (c : Int32) : c >>> ((0 : Int32) &&& 31) = c := by
  have e : ((0 : Int32) &&& 31) = 0 := by decide
  rw [e]
  apply Int32.toBitVec_inj.mp
  rw [Int32.toBitVec_shiftRight]
  have e1 : ((0 : Int32).toBitVec.smod 32) = 0#32 := by decide
  rw [e1, BitVec.sshiftRight_eq']
  exact BitVec.sshiftRight_zero
theorem lo8_and (x : Int32) : (lo8 x &&& 255).toBitVec.toNat = x.toBitVec.toNat % 256 := by
  have h : (lo8 x).toBitVec = (x.toBitVec.signExtend 8).signExtend 32 := by rw [lo8, Int8.toBitVec_toInt32, Int32.toBitVec_toInt8]
  rw [Int32.toBitVec_and, BitVec.toNat_and, h]
  have e : ((x.toBitVec.signExtend 8).signExtend 32).toNat % 256 = x.toBitVec.toNat % 256 := by
    rw [BitVec.toNat_signExtend]
    have hlt := x.toBitVec.isLt
    simp only [BitVec.toNat_setWidth, BitVec.toNat_signExtend]
    split <;> split <;> omega
  rw [← e]
  exact Nat.and_two_pow_sub_one_eq_mod _ 8
theorem pair_says {c : Int32} (h0 : ¬ c < 0) (h1 : ¬ 65535 < c) : pairCh (lo8 c) (hi8 c) = c := by
  rw [Int32.lt_iff_toInt_lt] at h0 h1
  have e0 : (0 : Int32).toInt = 0 := rfl
  have e1 : (65535 : Int32).toInt = 65535 := rfl
  have hc : c.toInt = c.toBitVec.toNat := by
    have := c.toBitVec.isLt
    have e : c.toInt = c.toBitVec.toInt := rfl
    rw [e] at h0 h1
    rw [e]
    rw [BitVec.toInt_eq_toNat_cond] at h0 h1 ⊢
    split at h0 <;> split <;> omega
  have hn : c.toBitVec.toNat < 65536 := by omega
  have a1 := lo8_and c
  have a2 : (hi8 c &&& 255).toBitVec.toNat = c.toBitVec.toNat / 256 := by
    rw [hi8, lo8_and]
    have e : ((8 : Int32) &&& 31) = 8 := by decide
    rw [e, Int32.toBitVec_shiftRight]
    have e2 : ((8 : Int32).toBitVec.smod 32) = 8#32 := by decide
    rw [e2, BitVec.sshiftRight_eq', BitVec.toNat_sshiftRight_of_msb_false (by rw [BitVec.msb_eq_false_iff_two_mul_lt]; omega)]
    show c.toBitVec.toNat >>> 8 % 256 = _
    rw [Nat.shiftRight_eq_div_pow]
    omega
  unfold pairCh
  apply Int32.toBitVec_inj.mp
  apply BitVec.eq_of_toNat_eq
  have f0 : ((0 : Int32) &&& 31) = 0 := by decide
  have f8 : ((8 : Int32) &&& 31) = 8 := by decide
  rw [f0, f8]
  have g : (((lo8 c &&& 255) <<< (0 : Int32)) ||| ((hi8 c &&& 255) <<< (8 : Int32))).toBitVec.toNat = c.toBitVec.toNat := by
    rw [Int32.toBitVec_or, Int32.toBitVec_shiftLeft, Int32.toBitVec_shiftLeft]
    have s0 : ((0 : Int32).toBitVec.smod 32) = 0#32 := by decide
    have s8 : ((8 : Int32).toBitVec.smod 32) = 8#32 := by decide
    rw [s0, s8, BitVec.toNat_or]
    simp only [BitVec.shiftLeft_eq', BitVec.toNat_shiftLeft, a1, a2]
    show (c.toBitVec.toNat % 256) <<< 0 % 2 ^ 32 ||| (c.toBitVec.toNat / 256) <<< 8 % 2 ^ 32 = _
    rw [Nat.shiftLeft_zero, Nat.mod_eq_of_lt (show c.toBitVec.toNat % 256 < 2 ^ 32 by omega), Nat.mod_eq_of_lt (show (c.toBitVec.toNat / 256) <<< 8 < 2 ^ 32 by rw [Nat.shiftLeft_eq]; omega), Nat.or_comm, ← Nat.shiftLeft_add_eq_or_of_lt (by omega), Nat.shiftLeft_eq]
    omega
  show BitVec.toNat (((((lo8 c &&& 255) <<< (0 : Int32)) ||| ((hi8 c &&& 255) <<< (8 : Int32))).toBitVec.setWidth 16).setWidth 32) = _
  rw [BitVec.toNat_setWidth, BitVec.toNat_setWidth, g]
  omega
end StrChars
namespace StrChars
open Jvm Sem ClassFile Op Lib Jvm.Stand Jvm.Free.XT Jvm.Free.ALB Jvm.Free.JM Jvm.Free
open Jvm.Lib.Cold (StaticIs)
theorem shr1 {n : Nat} (h : 2 * n < 2 ^ 31) : Int32.ofNat (2 * n) >>> ((1 : Int32) &&& 31) = Int32.ofNat n := by
  have e : ((1 : Int32) &&& 31) = 1 := by decide
  rw [e]
  apply Int32.toBitVec_inj.mp
  rw [Int32.toBitVec_shiftRight]
  have e1 : ((1 : Int32).toBitVec.smod 32) = 1#32 := by decide
  have hm : (BitVec.ofNat 32 (2 * n)).toNat = 2 * n := by rw [BitVec.toNat_ofNat, Nat.mod_eq_of_lt (by omega)]
  rw [e1, BitVec.sshiftRight_eq']
  apply BitVec.eq_of_toNat_eq
  show ((BitVec.ofNat 32 (2 * n)).sshiftRight 1).toNat = (BitVec.ofNat 32 n).toNat
  rw [BitVec.toNat_sshiftRight_of_msb_false (by rw [BitVec.msb_eq_false_iff_two_mul_lt, hm]; omega), hm, BitVec.toNat_ofNat, Nat.shiftRight_eq_div_pow]
  omega
/-- charAt's cast of a byte read back -/
def chr8 (u : Int32) : Int32 := (u &&& 255).toUInt32.toUInt16.toUInt32.toInt32
theorem chr8_lo8 {c : Int32} (h0 : ¬ c < 0) (h1 : ¬ 255 < c) : chr8 (lo8 c) = c := by
  have t : ∀ k : Fin 256, (Int32.ofNat k.val).toUInt32.toUInt16.toUInt32.toInt32 = Int32.ofNat k.val := by decide +kernel
  unfold chr8
  rw [lo8_mask h0 h1]
  rw [Int32.lt_iff_toInt_lt] at h0 h1
  have e0 : (0 : Int32).toInt = 0 := rfl
  have e1 : (255 : Int32).toInt = 255 := rfl
  obtain ⟨k, hk⟩ : ∃ k : Nat, c.toInt = k := ⟨c.toInt.toNat, by omega⟩
  have hx : c = Int32.ofNat k := Int32.toInt_inj.mp (by rw [hk, Int32.toInt_ofNat_small (by omega)])
  rw [hx]
  exact t ⟨k, by omega⟩
theorem narrow_ch {c : Int32} (h0 : ¬ c < 0) (h1 : ¬ 65535 < c) : narrow .char (.int c) = .int c := by
  have q : narrow .char (.int (pairCh (lo8 c) (hi8 c))) = .int (pairCh (lo8 c) (hi8 c)) := narrow_c _
  rwa [pair_says h0 h1] at q
/-- the array's cell V codes the n chars f 0 .. f (n - 1) by the coder cd, as the JDK does: coder 1 just where some char is above 255 -/
def Cod (cd : Int32) (n : Nat) (f : Nat → Int32) (V : Cell) : Prop := (cd = 0 ∧ V.slots.size = n ∧ ∀ j, j < n → V.slots[j]? = some (.int (lo8 (f j))) ∧ ¬ 255 < f j) ∨ (cd = 1 ∧ V.slots.size = 2 * n ∧ (∀ j, j < n → V.slots[2 * j]? = some (.int (lo8 (f j))) ∧ V.slots[2 * j + 1]? = some (.int (hi8 (f j)))) ∧ ∃ j, j < n ∧ 255 < f j)
theorem Cod.cd {cd : Int32} {n : Nat} {f : Nat → Int32} {V : Cell} (h : Cod cd n f V) : cd = 0 ∨ cd = 1 := h.imp (fun q => q.1) fun q => q.1
theorem Cod.len {cd : Int32} {n : Nat} {f : Nat → Int32} {V : Cell} (h : Cod cd n f V) (hs : V.slots.size < 2 ^ 31) : Int32.ofNat V.slots.size >>> (cd &&& 31) = Int32.ofNat n := by
  rcases h with ⟨rfl, h, -⟩ | ⟨rfl, h, -⟩
  · rw [shr0, h]
  · rw [h, shr1 (by omega)]
/-- **x is a String of the n chars f 0 .. f (n - 1)**, Latin-1 or UTF-16; its array at t has the cell V -/
def Txt (x t : Addr) (V : Cell) (cd : Int32) (n : Nat) (f : Nat → Int32) (U : State) : Prop := Exact "java/lang/String" x U ∧ Has x "java/lang/String" "value" "[B" (.ref t) U ∧ Has x "java/lang/String" "coder" "B" (.int cd) U ∧ XT.Arr .byte t V U ∧ Cod cd n f V ∧ ∀ j, j < n → ¬ f j < 0 ∧ ¬ 65535 < f j
theorem Txt.mv {x t : Addr} {V : Cell} {cd : Int32} {n : Nat} {f : Nat → Int32} {U U' : State} (h : Txt x t V cd n f U) (hal : U.vm.Alike U'.vm) (hh : U'.heap = U.heap) : Txt x t V cd n f U' := ⟨h.1.mv hal hh, h.2.1.mv hal hh, h.2.2.1.mv hal hh, h.2.2.2.1.mv hal hh, h.2.2.2.2⟩
namespace Cdr
def yN : MethodName := ⟨"java/lang/String", "coder", "()B"⟩
abbrev yB : ByteArray := jdk_42_method_152_code
theorem d0 : decode yB 0 = .ok (.getstatic 38, 3) := by decide +kernel
theorem d3 : decode yB 3 = .ok (.ifCond (.eq) 10, 3) := by decide +kernel
theorem d6 : decode yB 6 = .ok (.aload_n 0, 1) := by decide +kernel
theorem d7 : decode yB 7 = .ok (.getfield 15, 3) := by decide +kernel
theorem d10 : decode yB 10 = .ok (.goto 4, 3) := by decide +kernel
theorem d14 : decode yB 14 = .ok (.ireturn, 1) := by decide +kernel
def site : List Cond := [.fieldLink "java/lang/String" 38 "java/lang/String" "COMPACT_STRINGS" "Z", .fieldLink "java/lang/String" 15 "java/lang/String" "coder" "B"]
def tab : Cond := tabOf yN yB 1 (some .byte) site
def P (x : Addr) (cd z : Int32) (args : Array Value) (s : State) : Prop := args = #[.ref x] ∧ Has x "java/lang/String" "coder" "B" (.int cd) s ∧ (cd = 0 ∨ cd = 1) ∧ StaticIs s "java/lang/String" "COMPACT_STRINGS" "Z" (.int z) ∧ ¬ z = 0
def E (cd : Int32) (r : Option Value) (s u : State) : Prop := XT.PureE (some (.int cd)) r s u
theorem law (l : Launch) (x : Addr) (cd z : Int32) : Law l yN 1 0 0 0 yB 1 (some .byte) site (P x cd z) (E cd) [] 0 0 := by
  refine Law.of_walk (plainFor_of_name (by decide +kernel)) (by decide +kernel) (by decide +kernel) (by decide) (fun _ _ h => by rw [h.1]; rfl) (fun _ U U' hal hh h => ⟨h.1, h.2.1.mv hal hh, h.2.2.1, h.2.2.2.1.there hal hh, h.2.2.2.2⟩) (fun r U U' V V' h1 hal h2 h => XT.PureE.mv r U U' V V' h1 hal h2 h) ?_
  intro p e s m args below meth c s₁ X0 hexec hbytes hml hret hlk hnm hown hh0 W hP
  obtain ⟨rfl, hx, hc, s1, hz⟩ := hP
  have c1 : Steps p.tables e below (s₁.setTop (entryFrame m #[.ref x] 1)) (s₁.setTop (mkF m 0 #[.val (.ref x)] [])) := entry rfl
  obtain ⟨T2, X2, q2, st2⟩ := X0.sget hexec hown (wk W (.fieldLink "java/lang/String" 38 "java/lang/String" "COMPACT_STRINGS" "Z")) s1 (fun _ _ h => by rw [hh0]; exact h) (g := (mkF m 0 #[.val (.ref x)] [])) rfl (hb hbytes d0)
  have hh2 := q2.trans hh0
  have c3 : Steps p.tables e below (s₁.setTop (entryFrame m #[.ref x] 1)) (T2.setTop (mkF m 7 #[.val (.ref x)] [.ref x])) := (c1.trans (st2 _ (Steps.refl _))).trans (by
    refine XS.ifNo X2.here hexec rfl (hb hbytes d3) rfl (i0_eq_f hz) ?_
    refine XS.aloadN X2.here hexec rfl (hb hbytes d6) rfl rfl ?_
    exact Steps.refl _)
  obtain ⟨T4, X4, q4, st4⟩ := X2.hget hexec hown (wk W (.fieldLink "java/lang/String" 15 "java/lang/String" "coder" "B")) (hx.mv X2.warmed.alike hh2) (g := (mkF m 7 #[.val (.ref x)] [.ref x])) rfl (rest := []) rfl (hb hbytes d7)
  have c5 : Steps p.tables e below (s₁.setTop (entryFrame m #[.ref x] 1)) (T4.setTop (mkF m 14 #[.val (.ref x)] [.int cd])) := (c3.trans (st4 _ (Steps.refl _))).trans (by
    refine XS.goto X4.here hexec rfl (pc0 := 10) rfl (hb hbytes d10) (by decide) rfl ?_
    exact Steps.refl _)
  exact ⟨T4, some (.int cd), _, _, _, X4, rfl, rfl, rfl, (fun h => by cases h), ⟨rfl, q4.trans hh2⟩, fun fs hl => c5.trans (X4.ireturnOut hexec hret (by rcases hc with rfl | rfl <;> rfl) (Or.inr (Or.inr (Or.inl rfl))) (hb hbytes d14) hl)⟩
end Cdr
namespace Len
def yN : MethodName := ⟨"java/lang/String", "length", "()I"⟩
abbrev yB : ByteArray := jdk_42_method_54_code
theorem d0 : decode yB 0 = .ok (.aload_n 0, 1) := by decide +kernel
theorem d1 : decode yB 1 = .ok (.getfield 9, 3) := by decide +kernel
theorem d4 : decode yB 4 = .ok (.arraylength, 1) := by decide +kernel
theorem d5 : decode yB 5 = .ok (.aload_n 0, 1) := by decide +kernel
theorem d6 : decode yB 6 = .ok (.invokevirtual 335, 3) := by decide +kernel
theorem d9 : decode yB 9 = .ok (.ishr, 1) := by decide +kernel
theorem d10 : decode yB 10 = .ok (.ireturn, 1) := by decide +kernel
def site : List Cond := [.fieldLink "java/lang/String" 9 "java/lang/String" "value" "[B", Cdr.tab] ++ virtW "java/lang/String" 335 "java/lang/String" Cdr.yN Cdr.yN
def tab : Cond := tabOf yN yB 1 (some .int) site
def P (x t : Addr) (V : Cell) (cd : Int32) (n : Nat) (f : Nat → Int32) (z : Int32) (args : Array Value) (s : State) : Prop := args = #[.ref x] ∧ Txt x t V cd n f s ∧ StaticIs s "java/lang/String" "COMPACT_STRINGS" "Z" (.int z) ∧ ¬ z = 0
def E (n : Nat) (r : Option Value) (s u : State) : Prop := XT.PureE (some (.int (Int32.ofNat n))) r s u
/-- length() of a String of n chars, in either coding -/
theorem law (l : Launch) (x t : Addr) (V : Cell) (cd : Int32) (n : Nat) (f : Nat → Int32) (z : Int32) : Law l yN 1 0 1 13 yB 1 (some .int) site (P x t V cd n f z) (E n) [] 0 0 := by
  refine Law.of_walk (plainFor_of_name (by decide +kernel)) (by decide +kernel) (by decide +kernel) (by decide) (fun _ _ h => by rw [h.1]; rfl) (fun _ U U' hal hh h => ⟨h.1, h.2.1.mv hal hh, h.2.2.1.there hal hh, h.2.2.2⟩) (fun r U U' V V' h1 hal h2 h => XT.PureE.mv r U U' V V' h1 hal h2 h) ?_
  intro p e s m args below meth c s₁ X0 hexec hbytes hml hret hlk hnm hown hh0 W hP
  obtain ⟨rfl, hx, s1, hz⟩ := hP
  have v31 := hx.2.2.2.1.2.2.2
  have c1 : Steps p.tables e below (s₁.setTop (entryFrame m #[.ref x] 1)) (s₁.setTop (mkF m 1 #[.val (.ref x)] [.ref x])) := Steps.trans (entry rfl) (by
    show Steps p.tables e below (s₁.setTop (mkF m 0 #[.val (.ref x)] [])) _
    refine XS.aloadN X0.here hexec rfl (hb hbytes d0) rfl rfl ?_
    exact Steps.refl _)
  obtain ⟨T2, X2, q2, st2⟩ := X0.hget hexec hown (wk W (.fieldLink "java/lang/String" 9 "java/lang/String" "value" "[B")) (hx.mv X0.warmed.alike hh0).2.1 (g := (mkF m 1 #[.val (.ref x)] [.ref x])) rfl (rest := []) rfl (hb hbytes d1)
  have hh2 := q2.trans hh0
  have hx2 := hx.mv X2.warmed.alike hh2
  have c3 : Steps p.tables e below (s₁.setTop (entryFrame m #[.ref x] 1)) (T2.setTop (mkF m 6 #[.val (.ref x)] [.ref x, .int (Int32.ofNat V.slots.size)])) := (c1.trans (st2 _ (Steps.refl _))).trans (by
    refine X2.alen hexec hx2.2.2.2.1 rfl rfl (hb hbytes d4) ?_
    refine XS.aloadN X2.here hexec rfl (hb hbytes d5) rfl rfl ?_
    exact Steps.refl _)
  obtain ⟨v4, T4, X4, E4, g4⟩ := X2.callV hexec (Cdr.law l x cd z) hown (wks W (virtW "java/lang/String" 335 "java/lang/String" Cdr.yN Cdr.yN)) rfl (by decide) (wk W Cdr.tab) (W := 1) (Nat.le_of_ble_eq_true rfl) (Nat.le_of_ble_eq_true rfl) (Nat.le_refl _) (Nat.le_refl _) (hx2.1.fc X2.warmed.alike) hx2.1.is (g := (mkF m 6 #[.val (.ref x)] [.ref x, .int (Int32.ofNat V.slots.size)])) rfl (by rw [hml]; rfl) c3 (argsL := []) (rest := [.int (Int32.ofNat V.slots.size)]) rfl rfl (by show 2 * 0 + (1 + 0) ≤ _; decide) (hb hbytes d6) (⟨rfl, hx2.2.2.1, hx.2.2.2.2.1.cd, s1.there X2.warmed.alike hh2, hz⟩)
  obtain ⟨rfl, q4⟩ := E4
  have c5 : Steps p.tables e below (s₁.setTop (entryFrame m #[.ref x] 1)) (T4.setTop (mkF m 10 #[.val (.ref x)] [.int (Int32.ofNat V.slots.size >>> (cd &&& 31))])) := Steps.trans g4 (by
    refine ishr X4.here hexec rfl (hb hbytes d9) rfl ?_
    exact Steps.refl _)
  rw [hx.2.2.2.2.1.len v31] at c5
  exact ⟨T4, some (.int (Int32.ofNat n)), _, _, _, X4, rfl, rfl, rfl, (fun h => by cases h), ⟨rfl, q4.trans hh2⟩, fun fs hl => c5.trans (X4.ireturnOut hexec hret rfl (Or.inl rfl) (hb hbytes d10) hl)⟩
theorem pays {l : Launch} {R : Room} {p : Program} {e : Env} {below : List Frame} {s : State} {sargs : Array Value} {len W : Nat} (x t : Addr) (V : Cell) (cd : Int32) (n : Nat) (f : Nat → Int32) (z : Int32) (htab : tab.before sargs s = true) (hfr : 2 ≤ R.frames) (hlo : W + 25 ≤ R.locals) :
    Back l R p e below s sargs yN len W (fun A₁ a₁ => A₁.cells + 0 ≤ R.cells ∧ A₁.slots + 0 ≤ R.slots ∧ P x t V cd n f z a₁ A₁.U) (fun A₁ _ v₁ B₁ => E n v₁ A₁.U B₁.U ∧ B₁.locs = A₁.locs ++ [] ∧ B₁.cells = A₁.cells + 0 ∧ B₁.slots = A₁.slots + 0) :=
  (law l x t V cd n f z).pays htab hfr (by omega)
end Len
namespace IsL
def yN : MethodName := ⟨"java/lang/String", "isLatin1", "()Z"⟩
abbrev yB : ByteArray := jdk_42_method_154_code
theorem d0 : decode yB 0 = .ok (.getstatic 38, 3) := by decide +kernel
theorem d3 : decode yB 3 = .ok (.ifCond (.eq) 14, 3) := by decide +kernel
theorem d6 : decode yB 6 = .ok (.aload_n 0, 1) := by decide +kernel
theorem d7 : decode yB 7 = .ok (.getfield 15, 3) := by decide +kernel
theorem d10 : decode yB 10 = .ok (.ifCond (.ne) 7, 3) := by decide +kernel
theorem d13 : decode yB 13 = .ok (.iconst 1, 1) := by decide +kernel
theorem d14 : decode yB 14 = .ok (.goto 4, 3) := by decide +kernel
theorem d17 : decode yB 17 = .ok (.iconst 0, 1) := by decide +kernel
theorem d18 : decode yB 18 = .ok (.ireturn, 1) := by decide +kernel
def site : List Cond := [.fieldLink "java/lang/String" 38 "java/lang/String" "COMPACT_STRINGS" "Z", .fieldLink "java/lang/String" 15 "java/lang/String" "coder" "B"]
def tab : Cond := tabOf yN yB 1 (some .boolean) site
def P (x : Addr) (cd z : Int32) (args : Array Value) (s : State) : Prop := args = #[.ref x] ∧ Has x "java/lang/String" "coder" "B" (.int cd) s ∧ (cd = 0 ∨ cd = 1) ∧ StaticIs s "java/lang/String" "COMPACT_STRINGS" "Z" (.int z) ∧ ¬ z = 0
def E (cd : Int32) (r : Option Value) (s u : State) : Prop := XT.PureE (some (.int (1 - cd))) r s u
theorem law (l : Launch) (x : Addr) (cd z : Int32) : Law l yN 1 0 0 0 yB 1 (some .boolean) site (P x cd z) (E cd) [] 0 0 := by
  refine Law.of_walk (plainFor_of_name (by decide +kernel)) (by decide +kernel) (by decide +kernel) (by decide) (fun _ _ h => by rw [h.1]; rfl) (fun _ U U' hal hh h => ⟨h.1, h.2.1.mv hal hh, h.2.2.1, h.2.2.2.1.there hal hh, h.2.2.2.2⟩) (fun r U U' V V' h1 hal h2 h => XT.PureE.mv r U U' V V' h1 hal h2 h) ?_
  intro p e s m args below meth c s₁ X0 hexec hbytes hml hret hlk hnm hown hh0 W hP
  obtain ⟨rfl, hx, hc, s1, hz⟩ := hP
  have c1 : Steps p.tables e below (s₁.setTop (entryFrame m #[.ref x] 1)) (s₁.setTop (mkF m 0 #[.val (.ref x)] [])) := entry rfl
  obtain ⟨T2, X2, q2, st2⟩ := X0.sget hexec hown (wk W (.fieldLink "java/lang/String" 38 "java/lang/String" "COMPACT_STRINGS" "Z")) s1 (fun _ _ h => by rw [hh0]; exact h) (g := (mkF m 0 #[.val (.ref x)] [])) rfl (hb hbytes d0)
  have hh2 := q2.trans hh0
  have c3 : Steps p.tables e below (s₁.setTop (entryFrame m #[.ref x] 1)) (T2.setTop (mkF m 7 #[.val (.ref x)] [.ref x])) := (c1.trans (st2 _ (Steps.refl _))).trans (by
    refine XS.ifNo X2.here hexec rfl (hb hbytes d3) rfl (i0_eq_f hz) ?_
    refine XS.aloadN X2.here hexec rfl (hb hbytes d6) rfl rfl ?_
    exact Steps.refl _)
  obtain ⟨T4, X4, q4, st4⟩ := X2.hget hexec hown (wk W (.fieldLink "java/lang/String" 15 "java/lang/String" "coder" "B")) (hx.mv X2.warmed.alike hh2) (g := (mkF m 7 #[.val (.ref x)] [.ref x])) rfl (rest := []) rfl (hb hbytes d7)
  have c5 : Steps p.tables e below (s₁.setTop (entryFrame m #[.ref x] 1)) (T4.setTop (mkF m 10 #[.val (.ref x)] [.int cd])) := c3.trans (st4 _ (Steps.refl _))
  have c6 : Steps p.tables e below (s₁.setTop (entryFrame m #[.ref x] 1)) (T4.setTop (mkF m 18 #[.val (.ref x)] [.int (1 - cd)])) := by
    rcases hc with rfl | rfl
    · exact c5.trans (by
        refine XS.ifNo X4.here hexec rfl (hb hbytes d10) rfl (i0_ne_f rfl) ?_
        refine iconstV X4.here hexec rfl 1 (hb hbytes d13) (by decide) ?_
        refine XS.goto X4.here hexec rfl (pc0 := 14) rfl (hb hbytes d14) (by decide) rfl ?_
        exact Steps.refl _)
    · exact c5.trans (by
        refine XS.ifYes X4.here hexec rfl (pc0 := 10) rfl (hb hbytes d10) rfl (i0_ne_t (by decide)) (by decide) rfl ?_
        refine iconstV X4.here hexec rfl 0 (hb hbytes d17) (by decide) ?_
        exact Steps.refl _)
  exact ⟨T4, some (.int (1 - cd)), _, _, _, X4, rfl, rfl, rfl, (fun h => by cases h), ⟨rfl, q4.trans hh2⟩, fun fs hl => c6.trans (X4.ireturnOut hexec hret (by rcases hc with rfl | rfl <;> rfl) (Or.inr (Or.inl rfl)) (hb hbytes d18) hl)⟩
end IsL
namespace LChA
def yN : MethodName := ⟨"java/lang/StringLatin1", "charAt", "([BI)C"⟩
abbrev yB : ByteArray := jdk_43_method_2_code
theorem d0 : decode yB 0 = .ok (.iload_n 1, 1) := by decide +kernel
theorem d1 : decode yB 1 = .ok (.aload_n 0, 1) := by decide +kernel
theorem d2 : decode yB 2 = .ok (.arraylength, 1) := by decide +kernel
theorem d3 : decode yB 3 = .ok (.invokestatic 9, 3) := by decide +kernel
theorem d6 : decode yB 6 = .ok (.aload_n 0, 1) := by decide +kernel
theorem d7 : decode yB 7 = .ok (.iload_n 1, 1) := by decide +kernel
theorem d8 : decode yB 8 = .ok (.baload, 1) := by decide +kernel
theorem d9 : decode yB 9 = .ok (.sipush 255, 3) := by decide +kernel
theorem d12 : decode yB 12 = .ok (.iand, 1) := by decide +kernel
theorem d13 : decode yB 13 = .ok (.i2c, 1) := by decide +kernel
theorem d14 : decode yB 14 = .ok (.ireturn, 1) := by decide +kernel
def site : List Cond := [JO.Str_checkIndex.tab] ++ staticW "java/lang/StringLatin1" 9 JO.Str_checkIndex.yN
def tab : Cond := tabOf yN yB 2 (some .char) site
def P (t : Addr) (V : Cell) (i : Nat) (u : Int32) (fm : Value) (args : Array Value) (s : State) : Prop := args = #[.ref t, .int (Int32.ofNat i)] ∧ XT.Arr .byte t V s ∧ V.slots[i]? = some (.int u) ∧ (StaticIs s "jdk/internal/util/Preconditions" "SIOOBE_FORMATTER" "Ljava/util/function/BiFunction;" fm ∧ fm.isRef = true)
def E (u : Int32) (r : Option Value) (s w : State) : Prop := XT.PureE (some (.int (chr8 u))) r s w
theorem law (l : Launch) (t : Addr) (V : Cell) (i : Nat) (u : Int32) (fm : Value) : Law l yN 2 2 2 27 yB 2 (some .char) site (P t V i u fm) (E u) [] 0 0 := by
  refine Law.of_walk (plainFor_of_name (by decide +kernel)) (by decide +kernel) (by decide +kernel) (by decide) (fun _ _ h => by rw [h.1]; rfl) (fun _ U U' hal hh h => ⟨h.1, h.2.1.mv hal hh, h.2.2.1, h.2.2.2.1.there hal hh, h.2.2.2.2⟩) (fun r U U' V V' h1 hal h2 h => XT.PureE.mv r U U' V V' h1 hal h2 h) ?_
  intro p e s m args below meth c s₁ X0 hexec hbytes hml hret hlk hnm hown hh0 W hP
  obtain ⟨rfl, hV, hu, s1, rf⟩ := hP
  have v31 := hV.2.2.2
  have hi : i < V.slots.size := (Array.getElem?_eq_some_iff.mp hu).1
  have c1 : Steps p.tables e below (s₁.setTop (entryFrame m #[.ref t, .int (Int32.ofNat i)] 2)) (s₁.setTop (mkF m 0 #[.val (.ref t), .val (.int (Int32.ofNat i))] [])) := entry rfl
  have c2 : Steps p.tables e below (s₁.setTop (entryFrame m #[.ref t, .int (Int32.ofNat i)] 2)) (s₁.setTop (mkF m 3 #[.val (.ref t), .val (.int (Int32.ofNat i))] [.int (Int32.ofNat V.slots.size), .int (Int32.ofNat i)])) := c1.trans (by
    refine XS.iloadN X0.here hexec rfl (hb hbytes d0) rfl ?_
    refine XS.aloadN X0.here hexec rfl (hb hbytes d1) rfl rfl ?_
    refine X0.alen hexec (hV.mv X0.warmed.alike hh0) rfl rfl (hb hbytes d2) ?_
    exact Steps.refl _)
  obtain ⟨v3, T3, X3, E3, g3⟩ := X0.callS hexec (JO.Str_checkIndex.law l (Int32.ofNat i) (Int32.ofNat V.slots.size) fm) hown (wks W (staticW "java/lang/StringLatin1" 9 JO.Str_checkIndex.yN)) (wk W JO.Str_checkIndex.tab) (W := 0) (Nat.le_of_ble_eq_true rfl) (Nat.le_of_ble_eq_true rfl) (Nat.le_refl _) (Nat.le_refl _) (g := (mkF m 3 #[.val (.ref t), .val (.int (Int32.ofNat i))] [.int (Int32.ofNat V.slots.size), .int (Int32.ofNat i)])) rfl (by rw [hml]; rfl) c2 (argsL := [.int (Int32.ofNat i), .int (Int32.ofNat V.slots.size)]) (rest := []) rfl rfl (by show 2 * 0 + 0 ≤ _; decide) (hb hbytes d3) (⟨rfl, rf, s1.there X0.warmed.alike hh0, Int32.ofNat_not_neg (by omega), lt32 v31 hi⟩)
  obtain ⟨rfl, q3⟩ := E3
  have hh3 := q3.trans hh0
  have c4 : Steps p.tables e below (s₁.setTop (entryFrame m #[.ref t, .int (Int32.ofNat i)] 2)) (T3.setTop (mkF m 14 #[.val (.ref t), .val (.int (Int32.ofNat i))] [.int (chr8 u)])) := Steps.trans g3 (by
    refine XS.aloadN X3.here hexec rfl (hb hbytes d6) rfl rfl ?_
    refine XS.iloadN X3.here hexec rfl (hb hbytes d7) rfl ?_
    refine X3.aget hexec (hV.mv X3.warmed.alike hh3) rfl hu rfl rfl (hb hbytes d8) ?_
    refine sipushV X3.here hexec rfl 255 (hb hbytes d9) (by decide) ?_
    refine XS.iand X3.here hexec rfl (hb hbytes d12) rfl ?_
    refine i2c X3.here hexec rfl (hb hbytes d13) rfl ?_
    exact Steps.refl _)
  exact ⟨T3, some (.int (chr8 u)), _, _, _, X3, rfl, rfl, rfl, (fun h => by cases h), ⟨rfl, hh3⟩, fun fs hl => c4.trans (X3.ireturnOut hexec hret (narrow_c _) (Or.inr (Or.inr (Or.inr (Or.inl rfl)))) (hb hbytes d14) hl)⟩
end LChA
end StrChars
namespace StrChars.Road
open Jvm Sem ClassFile Op Lib Jvm.Stand Jvm.Free Jvm.Free.XT
open Jvm.Lib.Cold (StaticIs)
theorem consq {a : Array Value} {s : State} {c : Jvm.Cond} {L : List Jvm.Cond} (h0 : c.before a s = true) (h : ∀ w ∈ L, w.before a s = true) : ∀ w ∈ c :: L, w.before a s = true := fun w hw => (List.mem_cons.mp hw).elim (fun e => e ▸ h0) (h w)
/-- the words of String.length(), either coding -/
abbrev wordsLen : List Jvm.Cond := [.code Len.yN Len.yB 1 (some .int), .initialized ST, .fieldLink ST 9 ST "value" "[B", .fieldLink ST 38 ST "COMPACT_STRINGS" "Z", .fieldLink ST 15 ST "coder" "B", .code Cdr.yN Cdr.yB 1 (some .byte), .methodLink ST 335 Cdr.yN, .declares Cdr.yN, .selects ST Cdr.yN Cdr.yN, .instanceMethod Cdr.yN]
theorem tabLen_of {a : Array Value} {s : State} (h : ∀ w ∈ wordsLen, w.before a s = true) : Len.tab.before a s = true := by
  have hc : Cdr.tab.before a s = true := unparts (wk h (.code Cdr.yN Cdr.yB 1 (some .byte))) (wks h (.initialized Cdr.yN.cls :: Cdr.site))
  have q := consq hc h
  exact unparts (wk q (.code Len.yN Len.yB 1 (some .int))) (wks q (.initialized Len.yN.cls :: Len.site))
theorem movedLen {Z s : State} {a0 args : Array Value} (hZ : Z.Warmed39 s.vm) (hw : ∀ d ∈ wordsLen, d.before a0 Z = true) : ∀ d ∈ wordsLen, d.before args s = true := fun d hd => by
  have q := hw d hd
  have t : ∀ d ∈ wordsLen, d = .arrayClass .byte ∨ (d.onTables && d.keepsFace) = true := by decide +kernel
  rcases t d hd with rfl | t
  · exact RoadKit.mvA hZ q
  · exact RoadKit.mv hZ q t
/-- the bytes of the chars cs, low before high -/
def wideBytes : List Int32 → List Value
  | [] => []
  | c :: cs => .int (lo8 c) :: .int (hi8 c) :: wideBytes cs
theorem wide_lo (d : Value) : ∀ (cs : List Int32) (j : Nat), j < cs.length → (wideBytes cs).getD (2 * j) d = .int (lo8 (cs.getD j 0))
  | [], j, h => absurd h (Nat.not_lt_zero j)
  | c :: cs, 0, _ => rfl
  | c :: cs, j + 1, h => by
    have q := wide_lo d cs j (by simpa using h)
    rw [show 2 * (j + 1) = 2 * j + 1 + 1 from by omega]
    simpa [wideBytes] using q
theorem wide_hi (d : Value) : ∀ (cs : List Int32) (j : Nat), j < cs.length → (wideBytes cs).getD (2 * j + 1) d = .int (hi8 (cs.getD j 0))
  | [], j, h => absurd h (Nat.not_lt_zero j)
  | c :: cs, 0, _ => rfl
  | c :: cs, j + 1, h => by
    have q := wide_hi d cs j (by simpa using h)
    rw [show 2 * (j + 1) + 1 = 2 * j + 1 + 1 + 1 from by omega]
    simpa [wideBytes] using q
theorem low_at (d : Value) (cs : List Int32) (j : Nat) (h : j < cs.length) : (cs.map fun c => Value.int (lo8 c)).getD j d = .int (lo8 (cs.getD j 0)) := by
  simp [List.getD_eq_getElem?_getD, h]
/-- an array of N2 bytes vs codes the chars cs by the coder cd -/
def CodA (cs : List Int32) (cd N2 : Int32) (vs : List Value) : Prop := (cd = 0 ∧ N2 = Int32.ofNat cs.length ∧ vs = (cs.map fun c => Value.int (lo8 c)) ∧ ∀ c ∈ cs, ¬ 255 < c) ∨ (cd = 1 ∧ N2 = Int32.ofNat (2 * cs.length) ∧ vs = wideBytes cs ∧ ∃ c ∈ cs, 255 < c)
theorem CodA.cod {cs : List Int32} {cd N2 : Int32} {vs : List Value} {V : Cell} (h : CodA cs cd N2 vs) (hn : 2 * cs.length < 2 ^ 31) (hs : V.slots.size = N2.toNatClampNeg) (hv : RoadKit.Has V vs (.int 0)) : Cod cd cs.length (fun j => cs.getD j 0) V := by
  rcases h with ⟨rfl, rfl, rfl, h⟩ | ⟨rfl, rfl, rfl, c, hc, hw⟩
  · rw [n32 (by omega)] at hs
    exact Or.inl ⟨rfl, hs, fun j hj => ⟨by rw [hv j (by omega), low_at _ _ _ hj], by
      have e : cs.getD j 0 = cs[j] := by simp [List.getD_eq_getElem?_getD, hj]
      show ¬ 255 < cs.getD j 0
      rw [e]; exact h _ (List.getElem_mem _)⟩⟩
  · rw [n32 (by omega)] at hs
    obtain ⟨j, hj, rfl⟩ := List.getElem_of_mem hc
    exact Or.inr ⟨rfl, hs, fun j hj => ⟨by rw [hv _ (by omega), wide_lo _ _ _ hj], by rw [hv _ (by omega), wide_hi _ _ _ hj]⟩, j, hj, by
      have e : cs.getD j 0 = cs[j] := by simp [List.getD_eq_getElem?_getD, hj]
      show 255 < cs.getD j 0
      rw [e]; exact hw⟩
/-- an object of exactly java/lang/String, its two fields found: as the laws ask it -/
theorem strObj {Z U : State} {a0 : Array Value} {kI : Nat} (wi : (Jvm.Cond.instantiable ST kI).before a0 Z = true) (al : Z.vm.Alike U.vm) {x : Addr} {v0 c0 : Value} (E : RoadKit.Exa Z U.heap x ST) (V : RoadKit.Fld Z U.heap x ST "value" "[B" v0) (C : RoadKit.Fld Z U.heap x ST "coder" "B" c0) :
    ∃ (D : Cell) (fV fC : Field), Blank ST x D U ∧ Found ST "value" "[B" fV U ∧ Found ST "coder" "B" fC U ∧ D.slots[fV.slot]? = some v0 ∧ D.slots[fC.slot]? = some c0 ∧ RoadKit.slotOf Z ST "value" "[B" = fV.slot ∧ RoadKit.slotOf Z ST "coder" "B" = fC.slot := by
  obtain ⟨D, cfV, kV, iV, fV, hD, gV, stV, knV, obV, asV, slV⟩ := V
  obtain ⟨D', cfC, kC, iC, fC, hD', gC, stC, -, -, asC, slC⟩ := C
  cases hD.symm.trans hD'
  obtain ⟨D2, kD, e1, e2, e3, e4, e5⟩ := E
  cases hD.symm.trans e1
  obtain ⟨c2, k2, i1, i2, i3, -⟩ := Cond.instantiable_spec wi
  cases e2.symm.trans i1
  cases e3.symm.trans i2
  obtain ⟨kU, u1, u2⟩ := al.2.2 _ _ e3
  exact ⟨D, fV, fC, ⟨hD, ⟨knV, fun q hq => by rw [hq] at obV; cases obV⟩, by rw [al.findClass]; exact e2, kU, u1, by rw [u2]; exact i3, by rw [u2]; exact e5 i3⟩, ⟨SBG.found_only al ⟨cfV, kV, iV, gV⟩, stV⟩, ⟨SBG.found_only al ⟨cfC, kC, iC, gC⟩, stC⟩, slV, slC, by simp [RoadKit.slotOf, gV], by simp [RoadKit.slotOf, gC]⟩
theorem sta_is {Z U : State} (al : Z.vm.Alike U.vm) {C n d : String} {v : Value} (S : RoadKit.Sta Z U.heap C n d v) : StaticIs U C n d v := by
  obtain ⟨cfS, iS, kS, fS, st, cS, t1, t2, t3, t4, t5, t6, t7⟩ := S
  exact StaticIs.there (s := { Z with heap := U.heap }) ⟨cfS, iS, kS, fS, st, cS, t1, t2, t3, t4, t5, (fun q => by rw [q] at t6; cases t6), t7⟩ al rfl
/-- **length() OF SUCH A STRING** -/
theorem lenW {p : Program} {l : Launch} {e : Env} {R : Room} {s : State} {args : Array Value} {below : List Frame} {len W : Nat} {Z : State} {a0 : Array Value} {h : Heap} (hZ : Z.Warmed39 s.vm) (hw : ∀ d ∈ wordsLen, d.before a0 Z = true) {kI : Nat} (wi : (Jvm.Cond.instantiable ST kI).before a0 Z = true)
    {x t : Addr} {kb : ClassId} {cs : List Int32} {cd N2 z : Int32} {vs : List Value} (E : RoadKit.Exa Z h x ST) (V : RoadKit.Fld Z h x ST "value" "[B" (.ref t)) (C : RoadKit.Fld Z h x ST "coder" "B" (.int cd)) (K : RoadKit.Arv Z h t kb .byte N2 vs (.int 0)) (hc : CodA cs cd N2 vs) (hb : ∀ c ∈ cs, ¬ c < 0 ∧ ¬ (65535 : Int32) < c)
    (S : RoadKit.Sta Z h ST "COMPACT_STRINGS" "Z" (.int z)) (hz : ¬ z = 0) (l2 : cs.length ≤ 4000) (hfr : 2 ≤ R.frames) (hlo : W + 25 ≤ R.locals) :
    Back l R p e below s args (⟨"java/lang/String", "length", "()I"⟩ : MethodName) len W (fun P a => a = #[.ref x] ∧ P.U.heap = h ∧ P.cells + 0 ≤ R.cells ∧ P.slots + 0 ≤ R.slots)
      (fun P _ v B => ∃ L, (v = some (.int (Int32.ofNat cs.length)) ∧ L = [] ∧ B.U.heap = h) ∧ B.locs = P.locs ++ L ∧ B.cells = P.cells + 0 ∧ B.slots = P.slots + 0) := by
  obtain ⟨A, K1, K2, K3, K4, K5, K6⟩ := K
  have hcod := hc.cod (by omega) K3 K5
  intro m meth c P g ig mk a X hg hsize hdg hW hn hp'
  obtain ⟨rfl, rfl, r1, r2⟩ := hp'
  have al : Z.vm.Alike P.U.vm := hZ.alike.trans X.warmed.alike
  obtain ⟨D, fV, fC, hB, F1, F2, g1, g2, -, -⟩ := strObj wi al E V C
  have hx : Txt x t A cd cs.length (fun j => cs.getD j 0) P.U := ⟨⟨_, hB.2.2.1, D, hB.1, rfl, by cases q : D.vm <;> first | rfl | exact absurd q (hB.2.1.2 _)⟩, Has.of hB F1 g1, Has.of hB F2 g2, ⟨K1.1, State.isArrayOf_alike al K1.2.1, K1.2.2, by rcases hcod with ⟨-, q, -⟩ | ⟨-, q, -⟩ <;> omega⟩, hcod, fun j hj => by
    have e : cs.getD j 0 = cs[j] := by simp [List.getD_eq_getElem?_getD, hj]
    show ¬ cs.getD j 0 < 0 ∧ ¬ 65535 < cs.getD j 0
    rw [e]; exact hb _ (List.getElem_mem _)⟩
  obtain ⟨v, B, X', ⟨⟨hv, hh⟩, hl, hk, hs⟩, st⟩ := Len.pays x t A cd cs.length (fun j => cs.getD j 0) z (tabLen_of (movedLen hZ hw)) hfr hlo m meth c P g ig mk _ X hg hsize hdg hW hn ⟨r1, r2, rfl, hx, sta_is al S, hz⟩
  exact ⟨v, B, X', ⟨[], ⟨hv, rfl, hh⟩, hl, hk, hs⟩, st⟩
end StrChars.Road
namespace StrChars.Road
open Jvm Sem ClassFile Op Lib Jvm.Stand Jvm.Free Jvm.Free.XT
open Jvm.Lib.Cold (StaticIs)
/-- the road's facts of a String, as the laws ask it -/
theorem txt_of {Z U : State} {a0 : Array Value} {kI : Nat} (wi : (Jvm.Cond.instantiable ST kI).before a0 Z = true) (al : Z.vm.Alike U.vm) {x t : Addr} {kb : ClassId} {cs : List Int32} {cd N2 : Int32} {vs : List Value} (E : RoadKit.Exa Z U.heap x ST) (V : RoadKit.Fld Z U.heap x ST "value" "[B" (.ref t)) (C : RoadKit.Fld Z U.heap x ST "coder" "B" (.int cd)) (K : RoadKit.Arv Z U.heap t kb .byte N2 vs (.int 0)) (hc : CodA cs cd N2 vs) (hb : ∀ c ∈ cs, ¬ c < 0 ∧ ¬ (65535 : Int32) < c) (l2 : cs.length ≤ 4000) :
    ∃ A, Txt x t A cd cs.length (fun j => cs.getD j 0) U := by
  obtain ⟨A, K1, K2, K3, K4, K5, K6⟩ := K
  have hcod := hc.cod (by omega) K3 K5
  obtain ⟨D, fV, fC, hB, F1, F2, g1, g2, -, -⟩ := strObj wi al E V C
  exact ⟨A, ⟨_, hB.2.2.1, D, hB.1, rfl, by cases q : D.vm <;> first | rfl | exact absurd q (hB.2.1.2 _)⟩, Has.of hB F1 g1, Has.of hB F2 g2, ⟨K1.1, State.isArrayOf_alike al K1.2.1, K1.2.2, by rcases hcod with ⟨-, q, -⟩ | ⟨-, q, -⟩ <;> omega⟩, hcod, fun j hj => by
    have e : cs.getD j 0 = cs[j] := by simp [List.getD_eq_getElem?_getD, hj]
    show ¬ cs.getD j 0 < 0 ∧ ¬ 65535 < cs.getD j 0
    rw [e]; exact hb _ (List.getElem_mem _)⟩
end StrChars.Road
namespace StrChars
open Jvm Sem ClassFile Op Lib Jvm.Stand Jvm.Free.XT Jvm.Free.ALB Jvm.Free.JM Jvm.Free
open Jvm.Lib.Cold (StaticIs)
namespace ChN
def yN : MethodName := ⟨"java/lang/String", "charAt", "(I)C"⟩
abbrev yB : ByteArray := jdk_42_method_56_code
theorem d0 : decode yB 0 = .ok (.aload_n 0, 1) := by decide +kernel
theorem d1 : decode yB 1 = .ok (.invokevirtual 492, 3) := by decide +kernel
theorem d4 : decode yB 4 = .ok (.ifCond (.eq) 12, 3) := by decide +kernel
theorem d7 : decode yB 7 = .ok (.aload_n 0, 1) := by decide +kernel
theorem d8 : decode yB 8 = .ok (.getfield 9, 3) := by decide +kernel
theorem d11 : decode yB 11 = .ok (.iload_n 1, 1) := by decide +kernel
theorem d12 : decode yB 12 = .ok (.invokestatic 495, 3) := by decide +kernel
theorem d15 : decode yB 15 = .ok (.ireturn, 1) := by decide +kernel
def site : List Cond := [.fieldLink "java/lang/String" 9 "java/lang/String" "value" "[B", IsL.tab, LChA.tab] ++ virtW "java/lang/String" 492 "java/lang/String" IsL.yN IsL.yN ++ staticW "java/lang/String" 495 LChA.yN
def tab : Cond := tabOf yN yB 2 (some .char) site
def P (x t : Addr) (V : Cell) (n : Nat) (f : Nat → Int32) (z : Int32) (fm : Value) (i : Nat) (args : Array Value) (s : State) : Prop := args = #[.ref x, .int (Int32.ofNat i)] ∧ Txt x t V 0 n f s ∧ i < n ∧ StaticIs s "java/lang/String" "COMPACT_STRINGS" "Z" (.int z) ∧ ¬ z = 0 ∧ StaticIs s "jdk/internal/util/Preconditions" "SIOOBE_FORMATTER" "Ljava/util/function/BiFunction;" fm ∧ fm.isRef = true
def E (f : Nat → Int32) (i : Nat) (r : Option Value) (s u : State) : Prop := XT.PureE (some (.int (f i))) r s u
/-- charAt(i) of a Latin-1 String of n chars, i < n: f i -/
theorem law (l : Launch) (x t : Addr) (V : Cell) (n : Nat) (f : Nat → Int32) (z : Int32) (fm : Value) (i : Nat) : Law l yN 2 1 3 40 yB 2 (some .char) site (P x t V n f z fm i) (E f i) [] 0 0 := by
  refine Law.of_walk (plainFor_of_name (by decide +kernel)) (by decide +kernel) (by decide +kernel) (by decide) (fun _ _ h => by rw [h.1]; rfl) (fun _ U U' hal hh h => ⟨h.1, h.2.1.mv hal hh, h.2.2.1, h.2.2.2.1.there hal hh, h.2.2.2.2.1, h.2.2.2.2.2.1.there hal hh, h.2.2.2.2.2.2⟩) (fun r U U' V V' h1 hal h2 h => XT.PureE.mv r U U' V V' h1 hal h2 h) ?_
  intro p e s m args below meth c s₁ X0 hexec hbytes hml hret hlk hnm hown hh0 W hP
  obtain ⟨rfl, hx, hi, s1, hz, s3, rf⟩ := hP
  have v31 := hx.2.2.2.1.2.2.2
  have hr := hx.2.2.2.2.2 i hi
  have hx0 := hx.mv X0.warmed.alike hh0
  have c1 : Steps p.tables e below (s₁.setTop (entryFrame m #[.ref x, .int (Int32.ofNat i)] 2)) (s₁.setTop (mkF m 1 #[.val (.ref x), .val (.int (Int32.ofNat i))] [.ref x])) := Steps.trans (entry rfl) (by
    show Steps p.tables e below (s₁.setTop (mkF m 0 #[.val (.ref x), .val (.int (Int32.ofNat i))] [])) _
    refine XS.aloadN X0.here hexec rfl (hb hbytes d0) rfl rfl ?_
    exact Steps.refl _)
  obtain ⟨v2, T2, X2, E2, g2⟩ := X0.callV hexec (IsL.law l x 0 z) hown (wks W (virtW "java/lang/String" 492 "java/lang/String" IsL.yN IsL.yN)) rfl (by decide) (wk W IsL.tab) (W := 0) (Nat.le_of_ble_eq_true rfl) (Nat.le_of_ble_eq_true rfl) (Nat.le_refl _) (Nat.le_refl _) (hx0.1.fc X0.warmed.alike) hx0.1.is (g := (mkF m 1 #[.val (.ref x), .val (.int (Int32.ofNat i))] [.ref x])) rfl (by rw [hml]; rfl) c1 (argsL := []) (rest := []) rfl rfl (by show 2 * 0 + 0 ≤ _; decide) (hb hbytes d1) (⟨rfl, hx0.2.2.1, hx.2.2.2.2.1.cd, s1.there X0.warmed.alike hh0, hz⟩)
  obtain ⟨rfl, q2⟩ := E2
  have hh2 := q2.trans hh0
  have hx2 := hx.mv X2.warmed.alike hh2
  obtain ⟨-, k1, k2⟩ | ⟨k0, -⟩ := hx.2.2.2.2.1
  · have c3 : Steps p.tables e below (s₁.setTop (entryFrame m #[.ref x, .int (Int32.ofNat i)] 2)) (T2.setTop (mkF m 8 #[.val (.ref x), .val (.int (Int32.ofNat i))] [.ref x])) := Steps.trans g2 (by
      refine XS.ifNo X2.here hexec rfl (hb hbytes d4) rfl (i0_eq_f (by decide)) ?_
      refine XS.aloadN X2.here hexec rfl (hb hbytes d7) rfl rfl ?_
      exact Steps.refl _)
    obtain ⟨T4, X4, q4, st4⟩ := X2.hget hexec hown (wk W (.fieldLink "java/lang/String" 9 "java/lang/String" "value" "[B")) hx2.2.1 (g := (mkF m 8 #[.val (.ref x), .val (.int (Int32.ofNat i))] [.ref x])) rfl (rest := []) rfl (hb hbytes d8)
    have hh4 := q4.trans hh2
    have c5 : Steps p.tables e below (s₁.setTop (entryFrame m #[.ref x, .int (Int32.ofNat i)] 2)) (T4.setTop (mkF m 12 #[.val (.ref x), .val (.int (Int32.ofNat i))] [.int (Int32.ofNat i), .ref t])) := (c3.trans (st4 _ (Steps.refl _))).trans (by
      refine XS.iloadN X4.here hexec rfl (hb hbytes d11) rfl ?_
      exact Steps.refl _)
    obtain ⟨v6, T6, X6, E6, g6⟩ := X4.callS hexec (LChA.law l t V i (lo8 (f i)) fm) hown (wks W (staticW "java/lang/String" 495 LChA.yN)) (wk W LChA.tab) (W := 0) (Nat.le_of_ble_eq_true rfl) (Nat.le_of_ble_eq_true rfl) (Nat.le_refl _) (Nat.le_refl _) (g := (mkF m 12 #[.val (.ref x), .val (.int (Int32.ofNat i))] [.int (Int32.ofNat i), .ref t])) rfl (by rw [hml]; rfl) c5 (argsL := [.ref t, .int (Int32.ofNat i)]) (rest := []) rfl rfl (by show 2 * 0 + 0 ≤ _; decide) (hb hbytes d12) (⟨rfl, hx.2.2.2.1.mv X4.warmed.alike hh4, (k2 i hi).1, s3.there X4.warmed.alike hh4, rf⟩)
    obtain ⟨rfl, q6⟩ := E6
    rw [chr8_lo8 hr.1 (k2 i hi).2] at g6
    exact ⟨T6, some (.int (f i)), _, _, _, X6, rfl, rfl, rfl, (fun h => by cases h), ⟨rfl, q6.trans hh4⟩, fun fs hl => Steps.trans g6 (X6.ireturnOut hexec hret (narrow_ch hr.1 hr.2) (Or.inr (Or.inr (Or.inr (Or.inl rfl)))) (hb hbytes d15) hl)⟩
  · exact absurd k0 (by decide)
theorem pays {l : Launch} {R : Room} {p : Program} {e : Env} {below : List Frame} {s : State} {sargs : Array Value} {len W : Nat} (x t : Addr) (V : Cell) (n : Nat) (f : Nat → Int32) (z : Int32) (fm : Value) (i : Nat) (htab : tab.before sargs s = true) (hfr : 4 ≤ R.frames) (hlo : W + 53 ≤ R.locals) :
    Back l R p e below s sargs yN len W (fun A₁ a₁ => A₁.cells + 0 ≤ R.cells ∧ A₁.slots + 0 ≤ R.slots ∧ P x t V n f z fm i a₁ A₁.U) (fun A₁ _ v₁ B₁ => E f i v₁ A₁.U B₁.U ∧ B₁.locs = A₁.locs ++ [] ∧ B₁.cells = A₁.cells + 0 ∧ B₁.slots = A₁.slots + 0) :=
  (law l x t V n f z fm i).pays htab hfr (by omega)
end ChN
end StrChars
namespace StrChars.Road
open Jvm Sem ClassFile Op Lib Jvm.Stand Jvm.Free Jvm.Free.XT
open Jvm.Lib.Cold (StaticIs)
/-- the words of String.charAt(int), the Latin-1 road alone -/
abbrev wordsChN : List Jvm.Cond := [.code ChN.yN ChN.yB 2 (some .char), .initialized ST, .fieldLink ST 9 ST "value" "[B", .fieldLink ST 38 ST "COMPACT_STRINGS" "Z", .fieldLink ST 15 ST "coder" "B", .code IsL.yN IsL.yB 1 (some .boolean), .methodLink ST 492 IsL.yN, .declares IsL.yN, .selects ST IsL.yN IsL.yN, .instanceMethod IsL.yN,
  .methodLink ST 495 LChA.yN, .static LChA.yN, .code LChA.yN LChA.yB 2 (some .char), .initialized "java/lang/StringLatin1", .methodLink "java/lang/StringLatin1" 9 JO.Str_checkIndex.yN, .static JO.Str_checkIndex.yN, .code JO.Str_checkIndex.yN JO.Str_checkIndex.yB 2 none,
  .fieldLink ST 1053 "jdk/internal/util/Preconditions" "SIOOBE_FORMATTER" "Ljava/util/function/BiFunction;", .methodLink ST 1059 JC.PreCheck.yN, .static JC.PreCheck.yN, .code JC.PreCheck.yN JC.PreCheck.yB 3 (some .int), .initialized "jdk/internal/util/Preconditions"]
theorem tabChN_of {a : Array Value} {s : State} (h : ∀ w ∈ wordsChN, w.before a s = true) : ChN.tab.before a s = true := by
  have hp : JC.PreCheck.tab.before a s = true := unparts (wk h (.code JC.PreCheck.yN JC.PreCheck.yB 3 (some .int))) (wks h (.initialized JC.PreCheck.yN.cls :: JC.PreCheck.site))
  have qk := consq hp h
  have hk : JO.Str_checkIndex.tab.before a s = true := unparts (wk qk (.code JO.Str_checkIndex.yN JO.Str_checkIndex.yB 2 none)) (wks qk (.initialized JO.Str_checkIndex.yN.cls :: JO.Str_checkIndex.site))
  have ql := consq hk h
  have hl : LChA.tab.before a s = true := unparts (wk ql (.code LChA.yN LChA.yB 2 (some .char))) (wks ql (.initialized LChA.yN.cls :: LChA.site))
  have hi : IsL.tab.before a s = true := unparts (wk h (.code IsL.yN IsL.yB 1 (some .boolean))) (wks h (.initialized IsL.yN.cls :: IsL.site))
  have q := consq hi (consq hl h)
  exact unparts (wk q (.code ChN.yN ChN.yB 2 (some .char))) (wks q (.initialized ChN.yN.cls :: ChN.site))
theorem movedChN {Z s : State} {a0 args : Array Value} (hZ : Z.Warmed39 s.vm) (hw : ∀ d ∈ wordsChN, d.before a0 Z = true) : ∀ d ∈ wordsChN, d.before args s = true := fun d hd => by
  have t : ∀ d ∈ wordsChN, (d.onTables && d.keepsFace) = true := by decide +kernel
  exact RoadKit.mv hZ (hw d hd) (t d hd)
/-- **charAt(i) OF A LATIN-1 STRING**, i < n: the char -/
theorem chN {p : Program} {l : Launch} {e : Env} {R : Room} {s : State} {args : Array Value} {below : List Frame} {len W : Nat} {Z : State} {a0 : Array Value} {h : Heap} (hZ : Z.Warmed39 s.vm) (hw : ∀ d ∈ wordsChN, d.before a0 Z = true) {kI : Nat} (wi : (Jvm.Cond.instantiable ST kI).before a0 Z = true)
    {x t : Addr} {kb : ClassId} {cs : List Int32} {N2 z : Int32} {vs : List Value} {fm : Value} {i : Nat} {j : Int32} (E : RoadKit.Exa Z h x ST) (V : RoadKit.Fld Z h x ST "value" "[B" (.ref t)) (C : RoadKit.Fld Z h x ST "coder" "B" (.int 0)) (K : RoadKit.Arv Z h t kb .byte N2 vs (.int 0)) (hc : CodA cs 0 N2 vs) (hb : ∀ c ∈ cs, ¬ c < 0 ∧ ¬ (65535 : Int32) < c)
    (S : RoadKit.Sta Z h ST "COMPACT_STRINGS" "Z" (.int z)) (hz : ¬ z = 0) (F : RoadKit.Sta Z h "jdk/internal/util/Preconditions" "SIOOBE_FORMATTER" "Ljava/util/function/BiFunction;" fm) (rf : fm.isRef = true) (l2 : cs.length ≤ 4000) (hi : i < cs.length) (hj : j = Int32.ofNat i) (hfr : 4 ≤ R.frames) (hlo : W + 53 ≤ R.locals) :
    Back l R p e below s args (⟨"java/lang/String", "charAt", "(I)C"⟩ : MethodName) len W (fun P a => a = #[.ref x, .int j] ∧ P.U.heap = h ∧ P.cells + 0 ≤ R.cells ∧ P.slots + 0 ≤ R.slots)
      (fun P _ v B => ∃ L, (v = some (.int (cs.getD i 0)) ∧ L = [] ∧ B.U.heap = h) ∧ B.locs = P.locs ++ L ∧ B.cells = P.cells + 0 ∧ B.slots = P.slots + 0) := by
  subst hj
  intro m meth c P g ig mk a X hg hsize hdg hW hn hp'
  obtain ⟨rfl, rfl, r1, r2⟩ := hp'
  have al : Z.vm.Alike P.U.vm := hZ.alike.trans X.warmed.alike
  obtain ⟨A, hx⟩ := txt_of wi al E V C K hc hb l2
  obtain ⟨v, B, X', ⟨⟨hv, hh⟩, hl, hk, hs⟩, st⟩ := ChN.pays x t A cs.length (fun j => cs.getD j 0) z fm i (tabChN_of (movedChN hZ hw)) hfr hlo m meth c P g ig mk _ X hg hsize hdg hW hn ⟨r1, r2, rfl, hx, hi, sta_is al S, hz, sta_is al F, rf⟩
  exact ⟨v, B, X', ⟨[], ⟨hv, rfl, hh⟩, hl, hk, hs⟩, st⟩
/-- what backV says of its String, as the contracts of this text ask it: cs's low bytes, coder 0 -/
theorem codOf {cs : List Int32} {n : Nat} (hn : cs.length = n) (hb : ∀ c ∈ cs, ¬ 255 < c) : CodA cs 0 (Int32.ofNat n) ((cs.map lo8).map Value.int) := Or.inl ⟨rfl, by rw [hn], by simp [List.map_map, Function.comp_def], hb⟩
end StrChars.Road
end Jvm.Pilot.@@N@@
namespace Jvm.Pilot.@@N@@
open Jvm Jvm.ClassFile Sem Op Lib Jvm.Free Jvm.Stand Jvm.LawKit Jvm.RoadKit Bundle Jvm.Pilot.@@N@@.Jvm.D
theorem tw {a0 : Array Value} {Z : State} (hw : ∀ d ∈ tables_1, d.before a0 Z = true) (i : Nat) {d : Jvm.Cond} (h : tables_1[i]? = some d) : d.before a0 Z = true := hw d (List.mem_of_getElem? h)
theorem strW {a0 : Array Value} {Z : State} (hw : ∀ d ∈ tables_1, d.before a0 Z = true) : ∀ a ∈ Bundle.stringAtoms, a.before a0 Z = true := fun d hd => hw d ((by decide +kernel : ∀ d ∈ Bundle.stringAtoms, d ∈ tables_1) d hd)
theorem pn_com_example_neighbor_keys_neighborkeys_model_Related : plainName "com/example/neighbor_keys/neighborkeys/model/Related" = true := by first | (simp [plainName, overriddenIn]; done) | decide +kernel
theorem pn_com_example_neighbor_keys_neighborkeys_model_RelatedColumnOfPinLaw : plainName "com/example/neighbor_keys/neighborkeys/model/RelatedColumnOfPinLaw" = true := by first | (simp [plainName, overriddenIn]; done) | decide +kernel
theorem pn_java_lang_String : plainName "java/lang/String" = true := by first | (simp [plainName, overriddenIn]; done) | decide +kernel
theorem pn_java_lang_StringLatin1 : plainName "java/lang/StringLatin1" = true := by first | (simp [plainName, overriddenIn]; done) | decide +kernel
theorem pn_java_util_Arrays : plainName "java/util/Arrays" = true := by first | (simp [plainName, overriddenIn]; done) | decide +kernel
theorem pn_jdk_internal_util_Preconditions : plainName "jdk/internal/util/Preconditions" = true := by first | (simp [plainName, overriddenIn]; done) | decide +kernel
theorem pd___CIILjava_lang_Void__V : parseMethodDescriptor "([CIILjava/lang/Void;)V" = some ⟨[(.array .char), .int, .int, (.object "java/lang/Void")], none⟩ := by decide +kernel
theorem pd__I_Z : parseMethodDescriptor "(I)Z" = some ⟨[.int], some .boolean⟩ := by decide +kernel
theorem pd__II_I : parseMethodDescriptor "(II)I" = some ⟨[.int, .int], some .int⟩ := by decide +kernel
theorem pd___BIII_I : parseMethodDescriptor "([BIII)I" = some ⟨[(.array .byte), .int, .int, .int], some .int⟩ := by decide +kernel
theorem pd___Z : parseMethodDescriptor "()Z" = some ⟨[], some .boolean⟩ := by decide +kernel
theorem pd___I : parseMethodDescriptor "()I" = some ⟨[], some .int⟩ := by decide +kernel
theorem pd__IIILjava_util_function_BiFunction__I : parseMethodDescriptor "(IIILjava/util/function/BiFunction;)I" = some ⟨[.int, .int, .int, (.object "java/util/function/BiFunction")], some .int⟩ := by decide +kernel
theorem pd__II_V : parseMethodDescriptor "(II)V" = some ⟨[.int, .int], none⟩ := by decide +kernel
theorem pd___BII__B : parseMethodDescriptor "([BII)[B" = some ⟨[(.array .byte), .int, .int], some (.array .byte)⟩ := by decide +kernel
theorem pd___BB_V : parseMethodDescriptor "([BB)V" = some ⟨[(.array .byte), .byte], none⟩ := by decide +kernel
theorem pd__III_V : parseMethodDescriptor "(III)V" = some ⟨[.int, .int, .int], none⟩ := by decide +kernel
theorem pd___BII_Ljava_lang_String_ : parseMethodDescriptor "([BII)Ljava/lang/String;" = some ⟨[(.array .byte), .int, .int], some (.object "java/lang/String")⟩ := by decide +kernel
theorem pd__II_Ljava_lang_String_ : parseMethodDescriptor "(II)Ljava/lang/String;" = some ⟨[.int, .int], some (.object "java/lang/String")⟩ := by decide +kernel
theorem pd___C_V : parseMethodDescriptor "([C)V" = some ⟨[(.array .char)], none⟩ := by decide +kernel
theorem pd__I_I : parseMethodDescriptor "(I)I" = some ⟨[.int], some .int⟩ := by decide +kernel
theorem pd__I_Ljava_lang_String_ : parseMethodDescriptor "(I)Ljava/lang/String;" = some ⟨[.int], some (.object "java/lang/String")⟩ := by decide +kernel
theorem pd__I_C : parseMethodDescriptor "(I)C" = some ⟨[.int], some .char⟩ := by decide +kernel
theorem pd__I_C_Ljava_lang_String_ : parseMethodDescriptor "(I[C)Ljava/lang/String;" = some ⟨[.int, (.array .char)], some (.object "java/lang/String")⟩ := by decide +kernel
theorem pd__Ljava_lang_String__Ljava_lang_String_ : parseMethodDescriptor "(Ljava/lang/String;)Ljava/lang/String;" = some ⟨[(.object "java/lang/String")], some (.object "java/lang/String")⟩ := by decide +kernel
theorem pd__Ljava_lang_String_I_CI_Z : parseMethodDescriptor "(Ljava/lang/String;I[CI)Z" = some ⟨[(.object "java/lang/String"), .int, (.array .char), .int], some .boolean⟩ := by decide +kernel
theorem litc_22 : (∀ c ∈ "".toList, c.toNat < 256) ∧ "".toList.map (fun c => Value.int (Jvm.Lit.byteI c.toNat.toUInt16)) = [] := ⟨by decide, by decide +kernel⟩
theorem litc_145 : (∀ c ∈ "".toList, c.toNat < 256) ∧ "".toList.map (fun c => Value.int (Jvm.Lit.byteI c.toNat.toUInt16)) = [] := ⟨by decide, by decide +kernel⟩
theorem elW {a0 : Array Value} {Z : State} (hw : ∀ d ∈ tables_1, d.before a0 Z = true) : EW Z a0 consts_1 := (EW.cons (tw hw 22 rfl) (by decide) (EW.cons (tw hw 145 rfl) (by decide) EW.nil))
theorem and255_lt (x : Int32) : (x &&& 255).toBitVec.toNat < 256 ∧ (x &&& 255) = Int32.ofNat (x &&& 255).toBitVec.toNat := by
  have h : (x &&& 255).toBitVec.toNat < 256 := by
    simp only [Int32.toBitVec_and, BitVec.toNat_and]
    exact Nat.lt_succ_of_le Nat.and_le_right
  refine ⟨h, ?_⟩
  apply Int32.toBitVec_inj.mp
  show _ = BitVec.ofNat 32 _
  rw [BitVec.ofNat_toNat]; simp
theorem and255_chars (x : Int32) : ¬ nar .char ((x &&& (255 : Int32)).toUInt32.toUInt16.toUInt32.toInt32) < 0 ∧ ¬ (255 : Int32) < nar .char ((x &&& (255 : Int32)).toUInt32.toUInt16.toUInt32.toInt32) := by
  have t : ∀ k : Fin 256, ¬ nar .char ((Int32.ofNat k.val).toUInt32.toUInt16.toUInt32.toInt32) < 0 ∧ ¬ (255 : Int32) < nar .char ((Int32.ofNat k.val).toUInt32.toUInt16.toUInt32.toInt32) := by decide +kernel
  obtain ⟨h, e⟩ := and255_lt x
  rw [e]
  exact t ⟨_, h⟩

theorem sm256 {c : Int32} (h0 : ¬ c < 0) (h1 : ¬ (255 : Int32) < c) : ∃ j : Fin 256, c = Int32.ofNat j.val := by
  rw [Int32.lt_iff_toInt_lt] at h0 h1
  have e0 : (0 : Int32).toInt = 0 := rfl
  have e1 : (255 : Int32).toInt = 255 := rfl
  refine ⟨⟨c.toInt.toNat, by omega⟩, ?_⟩
  apply Int32.toInt_inj.mp
  rw [Int32.toInt_ofNat_small (by show c.toInt.toNat < _; omega)]
  show c.toInt = ((c.toInt.toNat : Nat) : Int)
  omega
theorem nar_id {c : Int32} (h0 : ¬ c < 0) (h1 : ¬ (255 : Int32) < c) : nar .char c = c := by
  obtain ⟨j, rfl⟩ := sm256 h0 h1
  exact (by decide +kernel : ∀ j : Fin 256, nar .char (Int32.ofNat j.val) = Int32.ofNat j.val) j

theorem chr_dot : Chr (46 : Int32) := ⟨by decide, by decide⟩
theorem chr_and (x : Int32) : Chr (nar .char ((x &&& (255 : Int32)).toUInt32.toUInt16.toUInt32.toInt32)) := and255_chars x
def own_tk (n v1 v2 v3 v4 : Int32) : List Int32 := if n = 0 then [] else if n = 1 then [v1] else if n = 2 then [v1, v2] else if n = 3 then [v1, v2, v3] else [v1, v2, v3, v4]
def own_k5 (n : Int32) : Prop := n = 0 ∨ n = 1 ∨ n = 2 ∨ n = 3 ∨ n = 4
theorem k5_rem (x : Int32) : own_k5 ((x &&& (2147483647 : Int32)) % (5 : Int32)) := by
  have h0 : 0 ≤ (x &&& (2147483647 : Int32)).toInt := (c_and x 2147483647 (by decide)).1
  have h1 := (c_irem (x &&& (2147483647 : Int32)) 5 5 rfl).1 h0
  have e0 : (0 : Int32).toInt = 0 := rfl
  have e1 : (1 : Int32).toInt = 1 := rfl
  have e2 : (2 : Int32).toInt = 2 := rfl
  have e3 : (3 : Int32).toInt = 3 := rfl
  have e4 : (4 : Int32).toInt = 4 := rfl
  have h2 : ((x &&& (2147483647 : Int32)) % (5 : Int32)).toInt = 0 ∨ ((x &&& (2147483647 : Int32)) % (5 : Int32)).toInt = 1 ∨ ((x &&& (2147483647 : Int32)) % (5 : Int32)).toInt = 2 ∨ ((x &&& (2147483647 : Int32)) % (5 : Int32)).toInt = 3 ∨ ((x &&& (2147483647 : Int32)) % (5 : Int32)).toInt = 4 := by omega
  rcases h2 with h | h | h | h | h
  · exact Or.inl (Int32.toInt_inj.mp (h.trans e0.symm))
  · exact Or.inr (Or.inl (Int32.toInt_inj.mp (h.trans e1.symm)))
  · exact Or.inr (Or.inr (Or.inl (Int32.toInt_inj.mp (h.trans e2.symm))))
  · exact Or.inr (Or.inr (Or.inr (Or.inl (Int32.toInt_inj.mp (h.trans e3.symm)))))
  · exact Or.inr (Or.inr (Or.inr (Or.inr (Int32.toInt_inj.mp (h.trans e4.symm)))))
theorem own_le {a b n : Int32} (h : ¬ a < n) (hab : a < b) : ¬ b < n := by
  rw [Int32.lt_iff_toInt_lt] at h hab ⊢; omega
section Tk
variable {n v1 v2 v3 v4 : Int32}
theorem tk_nil (h : n = 0) : ([] : List Int32) = own_tk n v1 v2 v3 v4 := by rw [own_tk, if_pos h]
theorem tk_1 (h0 : ¬ (n = 0)) (h : n = 1) : [v1] = own_tk n v1 v2 v3 v4 := by rw [own_tk, if_neg h0, if_pos h]
theorem tk_2 (h0 : ¬ (n = 0)) (h1 : ¬ (n = 1)) (h : n = 2) : [v1, v2] = own_tk n v1 v2 v3 v4 := by rw [own_tk, if_neg h0, if_neg h1, if_pos h]
theorem tk_3 (h0 : ¬ (n = 0)) (h1 : ¬ (n = 1)) (h2 : ¬ (n = 2)) (h : n = 3) : [v1, v2, v3] = own_tk n v1 v2 v3 v4 := by rw [own_tk, if_neg h0, if_neg h1, if_neg h2, if_pos h]
theorem tk_4 (h0 : ¬ (n = 0)) (h1 : ¬ (n = 1)) (h2 : ¬ (n = 2)) (h3 : ¬ (n = 3)) : [v1, v2, v3, v4] = own_tk n v1 v2 v3 v4 := by rw [own_tk, if_neg h0, if_neg h1, if_neg h2, if_neg h3]
theorem tk_len (hk : own_k5 n) : n = Int32.ofNat (own_tk n v1 v2 v3 v4).length := by rcases hk with rfl | rfl | rfl | rfl | rfl <;> rfl
theorem tk_le (n v1 v2 v3 v4 : Int32) : (own_tk n v1 v2 v3 v4).length ≤ 4 := by
  unfold own_tk
  split
  · decide
  · split
    · simp
    · split
      · simp
      · split <;> simp
theorem tk_rng (h1 : Chr v1) (h2 : Chr v2) (h3 : Chr v3) (h4 : Chr v4) : Rng (own_tk n v1 v2 v3 v4) := by
  unfold own_tk
  split
  · exact alc0
  · split
    · exact alcS h1 alc0
    · split
      · exact alcS h1 (alcS h2 alc0)
      · split
        · exact alcS h1 (alcS h2 (alcS h3 alc0))
        · exact alcS h1 (alcS h2 (alcS h3 (alcS h4 alc0)))
theorem tk_get (k : Nat) (hk : k < (own_tk n v1 v2 v3 v4).length) : (own_tk n v1 v2 v3 v4).getD k 0 = ([v1, v2, v3, v4] : List Int32).getD k 0 := by
  unfold own_tk at hk ⊢
  by_cases q0 : n = 0
  · rw [if_pos q0] at hk; simp at hk
  · rw [if_neg q0] at hk ⊢
    by_cases q1 : n = 1
    · rw [if_pos q1] at hk ⊢
      match k, hk with
      | 0, _ => rfl
    · rw [if_neg q1] at hk ⊢
      by_cases q2 : n = 2
      · rw [if_pos q2] at hk ⊢
        match k, hk with
        | 0, _ => rfl
        | 1, _ => rfl
      · rw [if_neg q2] at hk ⊢
        by_cases q3 : n = 3
        · rw [if_pos q3] at hk ⊢
          match k, hk with
          | 0, _ => rfl
          | 1, _ => rfl
          | 2, _ => rfl
        · rw [if_neg q3]
/-- where the law's own search ends -/
def own_dot (dt : Int32) (cs : List Int32) : Prop := (dt = (-1 : Int32) ∧ Nowhere 46 cs 0) ∨ ∃ r : Nat, dt = Int32.ofNat r ∧ First 46 cs 0 r
theorem dot_n0 (hk : own_k5 n) (h : ¬ ((0 : Int32) < n)) : own_dot (-1) (own_tk n v1 v2 v3 v4) := by
  rcases hk with rfl | rfl | rfl | rfl | rfl
  · exact Or.inl ⟨rfl, nowhere_nil⟩
  all_goals exact absurd (by decide) h
theorem dot_n1 (hk : own_k5 n) (h : ¬ ((1 : Int32) < n)) (a1 : ¬ v1 = 46) : own_dot (-1) (own_tk n v1 v2 v3 v4) := by
  rcases hk with rfl | rfl | rfl | rfl | rfl
  · exact Or.inl ⟨rfl, nowhere_nil⟩
  · exact Or.inl ⟨rfl, nowhere_cons a1 nowhere_nil⟩
  all_goals exact absurd (by decide) h
theorem dot_n2 (hk : own_k5 n) (h : ¬ ((2 : Int32) < n)) (a1 : ¬ v1 = 46) (a2 : ¬ v2 = 46) : own_dot (-1) (own_tk n v1 v2 v3 v4) := by
  rcases hk with rfl | rfl | rfl | rfl | rfl
  · exact Or.inl ⟨rfl, nowhere_nil⟩
  · exact Or.inl ⟨rfl, nowhere_cons a1 nowhere_nil⟩
  · exact Or.inl ⟨rfl, nowhere_cons a1 (nowhere_cons a2 nowhere_nil)⟩
  all_goals exact absurd (by decide) h
theorem dot_n3 (hk : own_k5 n) (h : ¬ ((3 : Int32) < n)) (a1 : ¬ v1 = 46) (a2 : ¬ v2 = 46) (a3 : ¬ v3 = 46) : own_dot (-1) (own_tk n v1 v2 v3 v4) := by
  rcases hk with rfl | rfl | rfl | rfl | rfl
  · exact Or.inl ⟨rfl, nowhere_nil⟩
  · exact Or.inl ⟨rfl, nowhere_cons a1 nowhere_nil⟩
  · exact Or.inl ⟨rfl, nowhere_cons a1 (nowhere_cons a2 nowhere_nil)⟩
  · exact Or.inl ⟨rfl, nowhere_cons a1 (nowhere_cons a2 (nowhere_cons a3 nowhere_nil))⟩
  all_goals exact absurd (by decide) h
theorem dot_n4 (hk : own_k5 n) (a1 : ¬ v1 = 46) (a2 : ¬ v2 = 46) (a3 : ¬ v3 = 46) (a4 : ¬ v4 = 46) : own_dot (-1) (own_tk n v1 v2 v3 v4) := by
  rcases hk with rfl | rfl | rfl | rfl | rfl
  · exact Or.inl ⟨rfl, nowhere_nil⟩
  · exact Or.inl ⟨rfl, nowhere_cons a1 nowhere_nil⟩
  · exact Or.inl ⟨rfl, nowhere_cons a1 (nowhere_cons a2 nowhere_nil)⟩
  · exact Or.inl ⟨rfl, nowhere_cons a1 (nowhere_cons a2 (nowhere_cons a3 nowhere_nil))⟩
  · exact Or.inl ⟨rfl, nowhere_cons a1 (nowhere_cons a2 (nowhere_cons a3 (nowhere_cons a4 nowhere_nil)))⟩
theorem dot_0 (hk : own_k5 n) (h : (0 : Int32) < n) (b : v1 = 46) : own_dot 0 (own_tk n v1 v2 v3 v4) := by
  subst b
  rcases hk with rfl | rfl | rfl | rfl | rfl
  · exact absurd h (by decide)
  all_goals exact Or.inr ⟨0, rfl, first_here⟩
theorem dot_1 (hk : own_k5 n) (h : (1 : Int32) < n) (a1 : ¬ v1 = 46) (b : v2 = 46) : own_dot 1 (own_tk n v1 v2 v3 v4) := by
  subst b
  rcases hk with rfl | rfl | rfl | rfl | rfl
  · exact absurd h (by decide)
  · exact absurd h (by decide)
  all_goals exact Or.inr ⟨1, rfl, first_cons a1 first_here⟩
theorem dot_2 (hk : own_k5 n) (h : (2 : Int32) < n) (a1 : ¬ v1 = 46) (a2 : ¬ v2 = 46) (b : v3 = 46) : own_dot 2 (own_tk n v1 v2 v3 v4) := by
  subst b
  rcases hk with rfl | rfl | rfl | rfl | rfl
  · exact absurd h (by decide)
  · exact absurd h (by decide)
  · exact absurd h (by decide)
  all_goals exact Or.inr ⟨2, rfl, first_cons a1 (first_cons a2 first_here)⟩
theorem dot_3 (hk : own_k5 n) (h : (3 : Int32) < n) (a1 : ¬ v1 = 46) (a2 : ¬ v2 = 46) (a3 : ¬ v3 = 46) (b : v4 = 46) : own_dot 3 (own_tk n v1 v2 v3 v4) := by
  subst b
  rcases hk with rfl | rfl | rfl | rfl | rfl
  · exact absurd h (by decide)
  · exact absurd h (by decide)
  · exact absurd h (by decide)
  · exact absurd h (by decide)
  · exact Or.inr ⟨3, rfl, first_cons a1 (first_cons a2 (first_cons a3 first_here))⟩
theorem own_cm {cs ds : List Int32} {x : Nat} (hc : cs = own_tk n v1 v2 v3 v4) (hd : ds = (cs.drop x).take (cs.length - x)) : ∀ j, j < ds.length → ds.getD j 0 = ([v1, v2, v3, v4] : List Int32).getD (x + j) 0 := fun j hj => by
  have hl := ds_len hd
  rw [ds_get hd hj]
  subst hc
  exact tk_get _ (by omega)
theorem ld4 {k : Nat} (hk : k < 4) : ([.int v1, .int v2, .int v3, .int v4] : List Value).getD k (.int 0) = .int (([v1, v2, v3, v4] : List Int32).getD k 0) := by
  match k, hk with
  | 0, _ => rfl
  | 1, _ => rfl
  | 2, _ => rfl
  | 3, _ => rfl
end Tk
theorem wdNew {a0 : Array Value} {Z : State} (hw : ∀ d ∈ tables_1, d.before a0 Z = true) : ∀ d ∈ StrChars.Road.words, d.before a0 Z = true := fun d hd => hw d ((by decide +kernel : ∀ d ∈ StrChars.Road.words, d ∈ tables_1) d hd)
theorem wdLen {a0 : Array Value} {Z : State} (hw : ∀ d ∈ tables_1, d.before a0 Z = true) : ∀ d ∈ StrChars.Road.wordsLen, d.before a0 Z = true := fun d hd => hw d ((by decide +kernel : ∀ d ∈ StrChars.Road.wordsLen, d ∈ tables_1) d hd)
theorem wdCh {a0 : Array Value} {Z : State} (hw : ∀ d ∈ tables_1, d.before a0 Z = true) : ∀ d ∈ StrChars.Road.wordsChN, d.before a0 Z = true := fun d hd => hw d ((by decide +kernel : ∀ d ∈ StrChars.Road.wordsChN, d ∈ tables_1) d hd)
theorem d4_0 : decode jdk_42_method_149_code 0 = .ok (.aload_n 0, 1) := by decide +kernel
theorem d4_1 : decode jdk_42_method_149_code 1 = .ok (.invokespecial 1, 3) := by decide +kernel
theorem d4_4 : decode jdk_42_method_149_code 4 = .ok (.iload_n 3, 1) := by decide +kernel
theorem d4_5 : decode jdk_42_method_149_code 5 = .ok (.ifCond .ne 22, 3) := by decide +kernel
theorem d4_8 : decode jdk_42_method_149_code 8 = .ok (.aload_n 0, 1) := by decide +kernel
theorem d4_9 : decode jdk_42_method_149_code 9 = .ok (.ldc 7, 2) := by decide +kernel
theorem d4_11 : decode jdk_42_method_149_code 11 = .ok (.getfield 9, 3) := by decide +kernel
theorem d4_14 : decode jdk_42_method_149_code 14 = .ok (.putfield 9, 3) := by decide +kernel
theorem d4_17 : decode jdk_42_method_149_code 17 = .ok (.aload_n 0, 1) := by decide +kernel
theorem d4_18 : decode jdk_42_method_149_code 18 = .ok (.ldc 7, 2) := by decide +kernel
theorem d4_20 : decode jdk_42_method_149_code 20 = .ok (.getfield 15, 3) := by decide +kernel
theorem d4_23 : decode jdk_42_method_149_code 23 = .ok (.putfield 15, 3) := by decide +kernel
theorem d4_26 : decode jdk_42_method_149_code 26 = .ok (.return_, 1) := by decide +kernel
theorem ef_se4 (m : MethodId) (a : Addr) (b : Addr) : entryFrame m #[(.ref a), (.ref b), (.int 0), (.int 0), .null] 6 = mkF m 0 #[.val (.ref a), .val (.ref b), .val (.int 0), .val (.int 0), .val .null, .unset] [] := by first | (simp [entryFrame, mkF, argsToLocals, Value.category]; done) | rfl
def Q_se4 (Z : State) (a : Addr) (b : Addr) (o2 : Int32) (h0 : Heap) (n0 : Nat) (v : Option Value) (h : Heap) (L : List Loc) : Prop := (∃ t : Addr, ∃ k : ClassId, v = none ∧ Fr n0 L ∧ Keep h0 h [a] ∧ Exa Z h a "java/lang/String" ∧ Fld Z h a "java/lang/String" "coder" "B" (.int 0) ∧ Fld Z h a "java/lang/String" "value" "[B" (.ref t) ∧ Arv Z h t k .byte (Int32.ofNat ([] : List Int32).length) ((([] : List Int32).map (fun c => c.toInt8.toInt32)).map Value.int) (.int 0))
set_option maxRecDepth 65536 in
set_option maxHeartbeats 40000000 in
theorem rm_se4 (l : Launch) (Z : State) (a0 : Array Value) (hw : ∀ d ∈ tables_1, d.before a0 Z = true) (ws : List Jvm.Cond) (a : Addr) (b : Addr) (o2 : Int32) (h0 : Heap) (n0 : Nat) (Z0 : n0 ≤ h0.size) (pf0 : Exa Z h0 a "java/lang/String") (pf1 : Fld Z h0 a "java/lang/String" "value" "[B" .null) (pf2 : Fld Z h0 a "java/lang/String" "coder" "B" (.int o2)) (ga : n0 ≤ a) :
    MetFree l (⟨"java/lang/String", "<init>", "([CIILjava/lang/Void;)V"⟩ : MethodName) (head1 (Jvm.Cond.code (⟨"java/lang/String", "<init>", "([CIILjava/lang/Void;)V"⟩ : MethodName) jdk_42_method_149_code 6 none :: ws) ({ frames := 1, cells := 4, slots := 8, locals := 12 } : Room)) (fun aa U => aa = #[(.ref a), (.ref b), (.int 0), (.int 0), .null] ∧ Z.Warmed39 U.vm ∧ U.heap = h0 ∧ CHv Z consts_1 U.vm h0) (fun _ _ _ _ _ => True) (fun _ U o U' => ∃ v L, o = .returned v ∧ Q_se4 Z a b o2 h0 n0 v U'.heap L ∧ CHr Z consts_1 U.vm U.heap U'.vm U'.heap ∧ ReturnedEndW U o U' L ({ frames := 1, cells := 4, slots := 8, locals := 12 } : Room).cells ({ frames := 1, cells := 4, slots := 8, locals := 12 } : Room).slots) := by
  refine MetFree.of_bodySF (plainFor_of_name pn_java_lang_String) hisR ?_
  intro p e s m args below meth c s₁ Bd hml0 hP hK
  obtain ⟨rfl, hZ, hh, hH⟩ := hP
  have hx := Bd.exec
  have hby := Bd.bytes
  have hlk : meth.locks = false := BodyLoose.notSynchronized Bd
  have hml : c.maxLocals = 6 := hml0
  have hown : s.vm.findClass "java/lang/String" = some m.cls := findClass_of_methodNamed Bd.named
  have hnm := (name_of_methodNamed Bd.named Bd.method).1
  have X0 : Stand p l e ({ frames := 1, cells := 4, slots := 8, locals := 12 } : Room) (s.setVm s.vm) m #[(.ref a), (.ref b), (.int 0), (.int 0), .null] below meth c s₁ [] 0 0 := Stand.of_body Bd
  have e0 : s₁.heap = h0 := by rw [← hh, Bd.state]; rfl
  have N0 := Fr.nil n0
  show Gl p.tables e below (EndH s Z consts_1 (Q_se4 Z a b o2 h0 n0) ({ frames := 1, cells := 4, slots := 8, locals := 12 } : Room).cells ({ frames := 1, cells := 4, slots := 8, locals := 12 } : Room).slots) _
  refine Gl.cast (ef_se4 m a b) ?_
  show Gl p.tables e below _ (s₁.setTop (mkF m 0 #[.val (.ref a), .val (.ref b), .val (.int 0), .val (.int 0), .val .null, .unset] []))
  have hS0 : s.Since s.vm s₁.heap.size := (State.WarmedH.refl s).since _
  have C0 : CHr Z consts_1 s.vm h0 s.vm h0 := CHr.refl hH
  refine Gl.st (fun _ kq => XS.aloadN X0.here hx rfl (hb hby d4_0) rfl rfl kq) ?_
  show Gl p.tables e below _ (s₁.setTop (mkF m 1 #[.val (.ref a), .val (.ref b), .val (.int 0), .val (.int 0), .val .null, .unset] [(.ref a)]))
  obtain ⟨T1, X1, e1, st1⟩ := initO X0 hx hZ hown (tw hw 19 rfl) (tw hw 20 rfl) (tw hw 21 rfl) e0 (g := (mkF m 1 #[.val (.ref a), .val (.ref b), .val (.int 0), .val (.int 0), .val .null, .unset] [(.ref a)])) rfl (by rw [hml]; rfl) rfl (hb hby d4_1) (by decide) (W := 0) (by show 2 * 0 + _ ≤ _; exact Nat.le_of_eq rfl) (by decide)
  refine Gl.st st1 ?_
  show Gl p.tables e below _ (T1.setTop (mkF m 4 #[.val (.ref a), .val (.ref b), .val (.int 0), .val (.int 0), .val .null, .unset] []))
  refine Gl.st (fun _ kq => XS.iloadN X1.here hx rfl (hb hby d4_4) rfl kq) ?_
  show Gl p.tables e below _ (T1.setTop (mkF m 5 #[.val (.ref a), .val (.ref b), .val (.int 0), .val (.int 0), .val .null, .unset] [(.int 0)]))
  refine Gl.st (fun _ kq => XS.ifNo X1.here hx rfl (hb hby d4_5) rfl ((if0 _ _).trans (teq ((by decide) : (0 : Int32) = (0 : Int32))).2) kq) ?_
  show Gl p.tables e below _ (T1.setTop (mkF m 8 #[.val (.ref a), .val (.ref b), .val (.int 0), .val (.int 0), .val .null, .unset] []))
  refine Gl.st (fun _ kq => XS.aloadN X1.here hx rfl (hb hby d4_8) rfl rfl kq) ?_
  show Gl p.tables e below _ (T1.setTop (mkF m 9 #[.val (.ref a), .val (.ref b), .val (.int 0), .val (.int 0), .val .null, .unset] [(.ref a)]))
  obtain ⟨b2, T2, h2, k2, t2, kc2, X2, e2, E2, S2, q2, hZ2, ho2, A2, F2, G2, V2, la2, lb2, R2, L2, sa2, st2⟩ := ldcCH X1 hx hZ hown (tw hw 22 rfl) (strW hw) e1 hS0 (Nat.le_of_eq (congrArg Array.size e0)) (elW hw) (by decide) C0.1 (vs := []) (z := (0 : Int32)) (litc_22) (by decide) (by decide) (g := (mkF m 9 #[.val (.ref a), .val (.ref b), .val (.int 0), .val (.int 0), .val .null, .unset] [(.ref a)])) rfl (hb hby d4_9) (n := 0) (by decide) (by decide) (by decide) (by decide)
  refine Gl.st st2 ?_
  have C3 : CHr Z consts_1 s.vm h0 T2.vm h2 := C0.trans R2
  have V2 : Arv Z h2 t2 kc2 .byte (Int32.ofNat ([] : List Int32).length) ((([] : List Int32).map (fun c => c.toInt8.toInt32)).map Value.int) (.int 0) := V2
  have f4 : Exa Z h2 a "java/lang/String" := (pf0.ext E2)
  have f5 : Fld Z h2 a "java/lang/String" "value" "[B" .null := (pf1.ext E2)
  have Sf6 : Safe Z consts_1 T2.vm h2 a := (safe_nul hZ2.alike f4 f5)
  have d7 := sa2 a Sf6
  show Gl p.tables e below _ (T2.setTop (mkF m 11 #[.val (.ref a), .val (.ref b), .val (.int 0), .val (.int 0), .val .null, .unset] [(.ref b2), (.ref a)]))
  obtain ⟨T8, X8, e8, st8⟩ := getF X2 hx hZ2 ho2 (host := "") (Or.inl (tw hw 28 rfl)) Via.refl e2 G2 (g := (mkF m 11 #[.val (.ref a), .val (.ref b), .val (.int 0), .val (.int 0), .val .null, .unset] [(.ref b2), (.ref a)])) rfl rfl (hb hby d4_11)
  refine Gl.st st8 ?_
  show Gl p.tables e below _ (T8.setTop (mkF m 14 #[.val (.ref a), .val (.ref b), .val (.int 0), .val (.int 0), .val .null, .unset] [(.ref t2), (.ref a)]))
  obtain ⟨T9, h9, X9, e9, W9, st9⟩ := putF X8 hx hZ2 ho2 (host := "") (Or.inl (tw hw 28 rfl)) Via.refl e8 f5 f4 (Or.inr ⟨(tw hw 24 rfl), rfl, hnm⟩) (tw hw 10 rfl) (ty := (.array .byte)) (by decide) rfl rfl (g := (mkF m 14 #[.val (.ref a), .val (.ref b), .val (.int 0), .val (.int 0), .val .null, .unset] [(.ref t2), (.ref a)])) rfl rfl (hb hby d4_14)
  refine Gl.st st9 ?_
  have C10 : CHr Z consts_1 s.vm h0 T2.vm h9 := C3.trans (CHr.wr W9 Sf6 C3.1)
  have F9 : Fld Z h9 a "java/lang/String" "value" "[B" (.ref t2) := Fld.same W9 f5
  have N9 := Fr.snoc X9 N0 ga
  show Gl p.tables e below _ (T9.setTop (mkF m 17 #[.val (.ref a), .val (.ref b), .val (.int 0), .val (.int 0), .val .null, .unset] []))
  refine Gl.st (fun _ kq => XS.aloadN X9.here hx rfl (hb hby d4_17) rfl rfl kq) ?_
  show Gl p.tables e below _ (T9.setTop (mkF m 18 #[.val (.ref a), .val (.ref b), .val (.int 0), .val (.int 0), .val .null, .unset] [(.ref a)]))
  obtain ⟨b11, T11, h11, k11, t11, kc11, X11, e11, E11, S11, q11, hZ11, ho11, A11, F11, G11, V11, la11, lb11, R11, L11, sa11, st11⟩ := ldcCH X9 hx hZ2 ho2 (tw hw 22 rfl) (strW hw) e9 S2 (Nat.le_trans q2 (Keep.of_wr W9).1) (elW hw) (by decide) C10.1 (vs := []) (z := (0 : Int32)) (litc_22) (by decide) (by decide) (g := (mkF m 18 #[.val (.ref a), .val (.ref b), .val (.int 0), .val (.int 0), .val .null, .unset] [(.ref a)])) rfl (hb hby d4_18) (n := 0) (by decide) (by decide) (by decide) (by decide)
  refine Gl.st st11 ?_
  have C12 : CHr Z consts_1 s.vm h0 T11.vm h11 := C10.trans R11
  have V11 : Arv Z h11 t11 kc11 .byte (Int32.ofNat ([] : List Int32).length) ((([] : List Int32).map (fun c => c.toInt8.toInt32)).map Value.int) (.int 0) := V11
  have Sf13 : Safe Z consts_1 T11.vm h11 a := (CHr.safe R11 (Nat.lt_of_lt_of_le (Nat.lt_of_lt_of_le pf0.lt E2.1) (Keep.of_wr W9).1) (Safe.wr W9 Sf6 C3.1 Sf6))
  have d14 := sa11 a Sf13
  show Gl p.tables e below _ (T11.setTop (mkF m 20 #[.val (.ref a), .val (.ref b), .val (.int 0), .val (.int 0), .val .null, .unset] [(.ref b11), (.ref a)]))
  obtain ⟨T15, X15, e15, st15⟩ := getF X11 hx hZ11 ho11 (host := "") (Or.inl (tw hw 29 rfl)) Via.refl e11 F11 (g := (mkF m 20 #[.val (.ref a), .val (.ref b), .val (.int 0), .val (.int 0), .val .null, .unset] [(.ref b11), (.ref a)])) rfl rfl (hb hby d4_20)
  refine Gl.st st15 ?_
  show Gl p.tables e below _ (T15.setTop (mkF m 23 #[.val (.ref a), .val (.ref b), .val (.int 0), .val (.int 0), .val .null, .unset] [(.int 0), (.ref a)]))
  have f16 : Fld Z h11 a "java/lang/String" "coder" "B" (.int o2) := (((pf2.ext E2).other W9 (Or.inr (slot_ne (Or.inr (tw hw 25 rfl)) (Or.inr (tw hw 24 rfl)) (by decide) (t := .byte) (t' := (.array .byte)) (by decide) (by decide)))).ext E11)
  have f17 : Exa Z h11 a "java/lang/String" := ((f4.wr W9).ext E11)
  obtain ⟨T18, h18, X18, e18, W18, st18⟩ := putFN X15 hx hZ11 ho11 (tw hw 29 rfl) Via.refl e15 f16 f17 (Or.inr ⟨(tw hw 25 rfl), rfl, hnm⟩) (tw hw 10 rfl) (ty := .byte) (v' := (.int 0)) (by decide) rfl (by decide) (g := (mkF m 23 #[.val (.ref a), .val (.ref b), .val (.int 0), .val (.int 0), .val .null, .unset] [(.int 0), (.ref a)])) rfl rfl (hb hby d4_23)
  refine Gl.st st18 ?_
  have C19 : CHr Z consts_1 s.vm h0 T11.vm h18 := C12.trans (CHr.wr W18 Sf13 C12.1)
  have F18 : Fld Z h18 a "java/lang/String" "coder" "B" (.int 0) := Fld.same W18 f16
  have N18 := Fr.snoc X18 N9 ga
  show Gl p.tables e below _ (T18.setTop (mkF m 26 #[.val (.ref a), .val (.ref b), .val (.int 0), .val (.int 0), .val .null, .unset] []))
  have K20 : Keep h0 h18 [a] := (((((Keep.refl h0 [a]).ext E2).wr W9 (Or.inl (List.mem_of_getElem? (i := 0) rfl))).ext E11).wr W18 (Or.inl (List.mem_of_getElem? (i := 0) rfl)))
  have f21 : Exa Z h18 a "java/lang/String" := (f17.wr W18)
  have f22 : Fld Z h18 a "java/lang/String" "value" "[B" (.ref t2) := ((F9.ext E11).other W18 (Or.inr (slot_ne (Or.inr (tw hw 24 rfl)) (Or.inr (tw hw 25 rfl)) (by decide) (t := (.array .byte)) (t' := .byte) (by decide) (by decide))))
  have f23 : Arv Z h18 t2 kc2 .byte (Int32.ofNat ([] : List Int32).length) ((([] : List Int32).map (fun c => c.toInt8.toInt32)).map Value.int) (.int 0) := (((V2.other W9 (Ne.symm d7.2)).ext E11).other W18 (Ne.symm d7.2))
  exact Gl.ret0H X18 hx S11 (Nat.le_trans (Nat.le_trans q11 (Keep.of_wr W18).1) (Nat.le_of_eq (congrArg Array.size e18).symm)) (by rw [hh, e18]; exact C19.trans (CHv.at X18 hZ11 (elW hw) C19.1)) Bd.returns (hb hby d4_26) hlk (by decide) (by decide) (by rw [e18]; exact ⟨t2, kc2, rfl, N18, K20, f21, F18, f22, f23⟩)
theorem d3_0 : decode jdk_42_method_3_code 0 = .ok (.aload_n 0, 1) := by decide +kernel
theorem d3_1 : decode jdk_42_method_3_code 1 = .ok (.aload_n 1, 1) := by decide +kernel
theorem d3_2 : decode jdk_42_method_3_code 2 = .ok (.iconst 0, 1) := by decide +kernel
theorem d3_3 : decode jdk_42_method_3_code 3 = .ok (.aload_n 1, 1) := by decide +kernel
theorem d3_4 : decode jdk_42_method_3_code 4 = .ok (.arraylength, 1) := by decide +kernel
theorem d3_5 : decode jdk_42_method_3_code 5 = .ok (.aconst_null, 1) := by decide +kernel
theorem d3_6 : decode jdk_42_method_3_code 6 = .ok (.invokespecial 27, 3) := by decide +kernel
theorem d3_9 : decode jdk_42_method_3_code 9 = .ok (.return_, 1) := by decide +kernel
theorem ef_se1 (m : MethodId) (a : Addr) (b : Addr) : entryFrame m #[(.ref a), (.ref b)] 2 = mkF m 0 #[.val (.ref a), .val (.ref b)] [] := by first | (simp [entryFrame, mkF, argsToLocals, Value.category]; done) | rfl
def Q_se1 (Z : State) (a : Addr) (b : Addr) (o2 : Int32) (kb : ClassId) (h0 : Heap) (n0 : Nat) (v : Option Value) (h : Heap) (L : List Loc) : Prop := (∃ t : Addr, ∃ k : ClassId, v = none ∧ Fr n0 L ∧ Keep h0 h [a] ∧ Exa Z h a "java/lang/String" ∧ Fld Z h a "java/lang/String" "coder" "B" (.int 0) ∧ Fld Z h a "java/lang/String" "value" "[B" (.ref t) ∧ Arv Z h t k .byte (Int32.ofNat ([] : List Int32).length) ((([] : List Int32).map (fun c => c.toInt8.toInt32)).map Value.int) (.int 0))
set_option maxRecDepth 65536 in
set_option maxHeartbeats 40000000 in
theorem rm_se1 (l : Launch) (Z : State) (a0 : Array Value) (hw : ∀ d ∈ tables_1, d.before a0 Z = true) (ws : List Jvm.Cond) (a : Addr) (b : Addr) (o2 : Int32) (kb : ClassId) (h0 : Heap) (n0 : Nat) (Z0 : n0 ≤ h0.size) (pf0 : Exa Z h0 a "java/lang/String") (pf1 : Fld Z h0 a "java/lang/String" "value" "[B" .null) (pf2 : Fld Z h0 a "java/lang/String" "coder" "B" (.int o2)) (pf3 : Arv Z h0 b kb .char (0 : Int32) [] (.int 0)) (ga : n0 ≤ a) :
    MetFree l (⟨"java/lang/String", "<init>", "([C)V"⟩ : MethodName) (head1 (Jvm.Cond.code (⟨"java/lang/String", "<init>", "([C)V"⟩ : MethodName) jdk_42_method_3_code 2 none :: ws) ({ frames := 2, cells := 4, slots := 8, locals := 29 } : Room)) (fun aa U => aa = #[(.ref a), (.ref b)] ∧ Z.Warmed39 U.vm ∧ U.heap = h0 ∧ CHv Z consts_1 U.vm h0) (fun _ _ _ _ _ => True) (fun _ U o U' => ∃ v L, o = .returned v ∧ Q_se1 Z a b o2 kb h0 n0 v U'.heap L ∧ CHr Z consts_1 U.vm U.heap U'.vm U'.heap ∧ ReturnedEndW U o U' L ({ frames := 2, cells := 4, slots := 8, locals := 29 } : Room).cells ({ frames := 2, cells := 4, slots := 8, locals := 29 } : Room).slots) := by
  refine MetFree.of_bodySF (plainFor_of_name pn_java_lang_String) hisR ?_
  intro p e s m args below meth c s₁ Bd hml0 hP hK
  obtain ⟨rfl, hZ, hh, hH⟩ := hP
  have hx := Bd.exec
  have hby := Bd.bytes
  have hlk : meth.locks = false := BodyLoose.notSynchronized Bd
  have hml : c.maxLocals = 2 := hml0
  have hown : s.vm.findClass "java/lang/String" = some m.cls := findClass_of_methodNamed Bd.named
  have hnm := (name_of_methodNamed Bd.named Bd.method).1
  have X0 : Stand p l e ({ frames := 2, cells := 4, slots := 8, locals := 29 } : Room) (s.setVm s.vm) m #[(.ref a), (.ref b)] below meth c s₁ [] 0 0 := Stand.of_body Bd
  have e0 : s₁.heap = h0 := by rw [← hh, Bd.state]; rfl
  have N0 := Fr.nil n0
  show Gl p.tables e below (EndH s Z consts_1 (Q_se1 Z a b o2 kb h0 n0) ({ frames := 2, cells := 4, slots := 8, locals := 29 } : Room).cells ({ frames := 2, cells := 4, slots := 8, locals := 29 } : Room).slots) _
  refine Gl.cast (ef_se1 m a b) ?_
  show Gl p.tables e below _ (s₁.setTop (mkF m 0 #[.val (.ref a), .val (.ref b)] []))
  have hS0 : s.Since s.vm s₁.heap.size := (State.WarmedH.refl s).since _
  have C0 : CHr Z consts_1 s.vm h0 s.vm h0 := CHr.refl hH
  refine Gl.st (fun _ kq => XS.aloadN X0.here hx rfl (hb hby d3_0) rfl rfl kq) ?_
  show Gl p.tables e below _ (s₁.setTop (mkF m 1 #[.val (.ref a), .val (.ref b)] [(.ref a)]))
  refine Gl.st (fun _ kq => XS.aloadN X0.here hx rfl (hb hby d3_1) rfl rfl kq) ?_
  show Gl p.tables e below _ (s₁.setTop (mkF m 2 #[.val (.ref a), .val (.ref b)] [(.ref b), (.ref a)]))
  refine Gl.st (fun _ kq => XS.iconst X0.here hx rfl (hb hby d3_2) kq) ?_
  show Gl p.tables e below _ (s₁.setTop (mkF m 3 #[.val (.ref a), .val (.ref b)] [(.int 0), (.ref b), (.ref a)]))
  refine Gl.st (fun _ kq => XS.aloadN X0.here hx rfl (hb hby d3_3) rfl rfl kq) ?_
  show Gl p.tables e below _ (s₁.setTop (mkF m 4 #[.val (.ref a), .val (.ref b)] [(.ref b), (.int 0), (.ref b), (.ref a)]))
  obtain ⟨c1, a1, q1, S1, M1, H1, G1⟩ := id pf3
  refine Gl.st (fun _ kq => X0.arraylength hx (by rw [e0]; exact a1.1) (State.isArrayOf_alike hZ.alike a1.2.1) (g := (mkF m 4 #[.val (.ref a), .val (.ref b)] [(.ref b), (.int 0), (.ref b), (.ref a)])) rfl rfl (hb hby d3_4) _ kq) ?_
  rw [len_of S1 M1]
  show Gl p.tables e below _ (s₁.setTop (mkF m 5 #[.val (.ref a), .val (.ref b)] [(.int 0), (.int 0), (.ref b), (.ref a)]))
  refine Gl.st (fun _ kq => XS.aconstNull X0.here hx rfl (hb hby d3_5) kq) ?_
  show Gl p.tables e below _ (s₁.setTop (mkF m 6 #[.val (.ref a), .val (.ref b)] [.null, (.int 0), (.int 0), (.ref b), (.ref a)]))
  obtain ⟨_, _, ⟨T4, L4, k4, n4⟩, -, X4, S4, g4, ⟨Lc4, hQ4, l4, y4, z4, R4⟩, st4⟩ := X0.specialBackS hx (y := (⟨"java/lang/String", "<init>", "([CIILjava/lang/Void;)V"⟩ : MethodName)) rfl hown (mvT hZ (tw hw 15 rfl)) (mvT hZ (tw hw 16 rfl)) (mvT hZ (tw hw 18 rfl)) (by decide) (backOfSH (W := 0) (rm_se4 l Z a0 hw [] (a) (b) (o2) h0 n0 Z0 pf0 pf1 pf2 ga) hZ (tw hw 18 rfl) (tw hw 11 rfl) (by decide) (by decide) (elW hw) C0.1) (g := (mkF m 6 #[.val (.ref a), .val (.ref b)] [.null, (.int 0), (.int 0), (.ref b), (.ref a)])) rfl (by rw [hml]; rfl) (Steps.refl _) (a := a) (argsL := [(.ref b), (.int 0), (.int 0), .null]) (rest := []) (lenOf pd___CIILjava_lang_Void__V rfl) rfl (by show 2 * 0 + _ ≤ _; exact Nat.le_of_eq rfl) (hb hby d3_6) (fun _ _ => ⟨rfl, e0, (by decide : 0 + 4 ≤ _), (by decide : 0 + 8 ≤ _)⟩)
  dsimp only [Pt.U, Pt.locs, Pt.cells, Pt.slots] at X4 l4 y4 z4 st4 hQ4 R4
  subst l4 y4 z4
  obtain ⟨X4, S4, hZ4, ho4⟩ := rebS hS0 (Nat.le_trans (Nat.le_of_eq (congrArg Array.size e0)) (Nat.le_of_eq (congrArg Array.size e0).symm)) X4 S4 g4 hZ hown
  obtain ⟨v2, v3, rfl, N4, K4, q4_0, q4_1, q4_2, q4_3⟩ := hQ4
  have C5 : CHr Z consts_1 s.vm h0 T4.vm T4.heap := C0.trans R4
  have M4 := Fr.app N0 N4
  refine Gl.to st4 ?_
  show Gl p.tables e below _ (T4.setTop (mkF m 9 #[.val (.ref a), .val (.ref b)] []))
  show Gl p.tables e below _ (T4.setTop (mkF m 9 #[.val (.ref a), .val (.ref b)] []))
  have K6 : Keep h0 T4.heap [a] := ((Keep.refl h0 [a]).trans K4 (allS (Or.inl (List.mem_of_getElem? (i := 0) rfl)) all0))
  exact Gl.ret0H X4 hx S4 (Nat.le_refl _) (by rw [hh]; exact C5.trans (CHv.at X4 hZ4 (elW hw) C5.1)) Bd.returns (hb hby d3_9) hlk (by decide) (by decide) ⟨v2, v3, rfl, M4, K6, q4_0, q4_1, q4_2, q4_3⟩
theorem d9_0 : decode jdk_42_method_154_code 0 = .ok (.getstatic 38, 3) := by decide +kernel
theorem d9_3 : decode jdk_42_method_154_code 3 = .ok (.ifCond .eq 14, 3) := by decide +kernel
theorem d9_6 : decode jdk_42_method_154_code 6 = .ok (.aload_n 0, 1) := by decide +kernel
theorem d9_7 : decode jdk_42_method_154_code 7 = .ok (.getfield 15, 3) := by decide +kernel
theorem d9_10 : decode jdk_42_method_154_code 10 = .ok (.ifCond .ne 7, 3) := by decide +kernel
theorem d9_13 : decode jdk_42_method_154_code 13 = .ok (.iconst 1, 1) := by decide +kernel
theorem d9_14 : decode jdk_42_method_154_code 14 = .ok (.goto 4, 3) := by decide +kernel
theorem d9_18 : decode jdk_42_method_154_code 18 = .ok (.ireturn, 1) := by decide +kernel
theorem ef_isl (m : MethodId) (b : Addr) : entryFrame m #[(.ref b)] 1 = mkF m 0 #[.val (.ref b)] [] := by first | (simp [entryFrame, mkF, argsToLocals, Value.category]; done) | rfl
def Q_isl (Z : State) (b : Addr) (G1 : Int32) (h0 : Heap) (n0 : Nat) (v : Option Value) (h : Heap) (L : List Loc) : Prop := (v = some (.int 1) ∧ Fr n0 L ∧ h = h0)
set_option maxRecDepth 65536 in
set_option maxHeartbeats 40000000 in
theorem rm_isl (l : Launch) (Z : State) (a0 : Array Value) (hw : ∀ d ∈ tables_1, d.before a0 Z = true) (ws : List Jvm.Cond) (b : Addr) (G1 : Int32) (h0 : Heap) (n0 : Nat) (Z0 : n0 ≤ h0.size) (pf0 : Fld Z h0 b "java/lang/String" "coder" "B" (.int 0)) (pf1 : Old Z n0 h0) (O2 : Sta Z Z.heap "java/lang/String" "COMPACT_STRINGS" "Z" (.int G1)) (P5 : ¬ (G1 = (0 : Int32))) :
    MetFree l (⟨"java/lang/String", "isLatin1", "()Z"⟩ : MethodName) (head1 (Jvm.Cond.code (⟨"java/lang/String", "isLatin1", "()Z"⟩ : MethodName) jdk_42_method_154_code 1 (some .boolean) :: ws) ({ frames := 0, cells := 0, slots := 0, locals := 0 } : Room)) (fun aa U => aa = #[(.ref b)] ∧ Z.Warmed39 U.vm ∧ U.heap = h0) (fun _ _ _ _ _ => True) (fun _ U o U' => ∃ v L, o = .returned v ∧ Q_isl Z b G1 h0 n0 v U'.heap L ∧ FrameEnd U o U' L ({ frames := 0, cells := 0, slots := 0, locals := 0 } : Room).cells ({ frames := 0, cells := 0, slots := 0, locals := 0 } : Room).slots) := by
  refine MetFree.of_bodySF (plainFor_of_name pn_java_lang_String) hisR ?_
  intro p e s m args below meth c s₁ Bd hml0 hP hK
  obtain ⟨rfl, hZ, hh⟩ := hP
  have hx := Bd.exec
  have hby := Bd.bytes
  have hlk : meth.locks = false := BodyLoose.notSynchronized Bd
  have hml : c.maxLocals = 1 := hml0
  have hown : s.vm.findClass "java/lang/String" = some m.cls := findClass_of_methodNamed Bd.named
  have hnm := (name_of_methodNamed Bd.named Bd.method).1
  have X0 : Stand p l e ({ frames := 0, cells := 0, slots := 0, locals := 0 } : Room) s m #[(.ref b)] below meth c s₁ [] 0 0 := Stand.of_body Bd
  have e0 : s₁.heap = h0 := by rw [← hh, Bd.state]; rfl
  have N0 := Fr.nil n0
  show Gl p.tables e below (EndN s (Q_isl Z b G1 h0 n0) ({ frames := 0, cells := 0, slots := 0, locals := 0 } : Room).cells ({ frames := 0, cells := 0, slots := 0, locals := 0 } : Room).slots) _
  refine Gl.cast (ef_isl m b) ?_
  show Gl p.tables e below _ (s₁.setTop (mkF m 0 #[.val (.ref b)] []))
  obtain ⟨T1, X1, e1, st1⟩ := getS2 X0 hx hZ hown (host := "") (Or.inl (tw hw 49 rfl)) Via.refl e0 (O2.ext pf1.2) (g := (mkF m 0 #[.val (.ref b)] [])) rfl (hb hby d9_0)
  refine Gl.st st1 ?_
  show Gl p.tables e below _ (T1.setTop (mkF m 3 #[.val (.ref b)] [(.int G1)]))
  refine Gl.st (fun _ kq => XS.ifNo X1.here hx rfl (hb hby d9_3) rfl ((if0 _ _).trans (feq (P5 : ¬ (G1 = (0 : Int32)))).1) kq) ?_
  show Gl p.tables e below _ (T1.setTop (mkF m 6 #[.val (.ref b)] []))
  refine Gl.st (fun _ kq => XS.aloadN X1.here hx rfl (hb hby d9_6) rfl rfl kq) ?_
  show Gl p.tables e below _ (T1.setTop (mkF m 7 #[.val (.ref b)] [(.ref b)]))
  obtain ⟨T2, X2, e2, st2⟩ := getF X1 hx hZ hown (host := "") (Or.inl (tw hw 29 rfl)) Via.refl e1 pf0 (g := (mkF m 7 #[.val (.ref b)] [(.ref b)])) rfl rfl (hb hby d9_7)
  refine Gl.st st2 ?_
  show Gl p.tables e below _ (T2.setTop (mkF m 10 #[.val (.ref b)] [(.int 0)]))
  refine Gl.st (fun _ kq => XS.ifNo X2.here hx rfl (hb hby d9_10) rfl ((if0 _ _).trans (teq ((by decide) : (0 : Int32) = (0 : Int32))).2) kq) ?_
  show Gl p.tables e below _ (T2.setTop (mkF m 13 #[.val (.ref b)] []))
  refine Gl.st (fun _ kq => XS.iconst X2.here hx rfl (hb hby d9_13) kq) ?_
  show Gl p.tables e below _ (T2.setTop (mkF m 14 #[.val (.ref b)] [(.int 1)]))
  refine Gl.st (fun _ kq => XS.goto X2.here hx rfl (pc0 := 14) (pc' := 18) rfl (hb hby d9_14) (by decide) (by decide) kq) ?_
  show Gl p.tables e below _ (T2.setTop (mkF m 18 #[.val (.ref b)] [(.int 1)]))
  exact Gl.retN X2 hx (t := .boolean) Bd.returns (by simp) (hb hby d9_18) hlk (by decide) (by decide) (by rw [e2]; exact ⟨rfl, N0, rfl⟩)
theorem d13_0 : decode jdk_43_method_4_code 0 = .ok (.iload_n 0, 1) := by decide +kernel
theorem d13_1 : decode jdk_43_method_4_code 1 = .ok (.ifCond .lt 14, 3) := by decide +kernel
theorem d13_4 : decode jdk_43_method_4_code 4 = .ok (.iload_n 0, 1) := by decide +kernel
theorem d13_5 : decode jdk_43_method_4_code 5 = .ok (.sipush 255, 3) := by decide +kernel
theorem d13_8 : decode jdk_43_method_4_code 8 = .ok (.if_icmp .gt 7, 3) := by decide +kernel
theorem d13_11 : decode jdk_43_method_4_code 11 = .ok (.iconst 1, 1) := by decide +kernel
theorem d13_12 : decode jdk_43_method_4_code 12 = .ok (.goto 4, 3) := by decide +kernel
theorem d13_16 : decode jdk_43_method_4_code 16 = .ok (.ireturn, 1) := by decide +kernel
theorem ef_cei (m : MethodId) (q : Int32) : entryFrame m #[(.int q)] 1 = mkF m 0 #[.val (.int q)] [] := by first | (simp [entryFrame, mkF, argsToLocals, Value.category]; done) | rfl
def Q_cei (Z : State) (q : Int32) (h0 : Heap) (n0 : Nat) (v : Option Value) (h : Heap) (L : List Loc) : Prop := (v = some (.int 1) ∧ Fr n0 L ∧ h = h0)
set_option maxRecDepth 65536 in
set_option maxHeartbeats 40000000 in
theorem rm_cei (l : Launch) (Z : State) (a0 : Array Value) (hw : ∀ d ∈ tables_1, d.before a0 Z = true) (ws : List Jvm.Cond) (q : Int32) (h0 : Heap) (n0 : Nat) (Z0 : n0 ≤ h0.size) (hq0 : ¬ (q < (0 : Int32))) (hq1 : ¬ ((255 : Int32) < q)) :
    MetFree l (⟨"java/lang/StringLatin1", "canEncode", "(I)Z"⟩ : MethodName) (head1 (Jvm.Cond.code (⟨"java/lang/StringLatin1", "canEncode", "(I)Z"⟩ : MethodName) jdk_43_method_4_code 1 (some .boolean) :: ws) ({ frames := 0, cells := 0, slots := 0, locals := 0 } : Room)) (fun aa U => aa = #[(.int q)] ∧ Z.Warmed39 U.vm ∧ U.heap = h0) (fun _ _ _ _ _ => True) (fun _ U o U' => ∃ v L, o = .returned v ∧ Q_cei Z q h0 n0 v U'.heap L ∧ FrameEnd U o U' L ({ frames := 0, cells := 0, slots := 0, locals := 0 } : Room).cells ({ frames := 0, cells := 0, slots := 0, locals := 0 } : Room).slots) := by
  refine MetFree.of_bodySF (plainFor_of_name pn_java_lang_StringLatin1) hisR ?_
  intro p e s m args below meth c s₁ Bd hml0 hP hK
  obtain ⟨rfl, hZ, hh⟩ := hP
  have hx := Bd.exec
  have hby := Bd.bytes
  have hlk : meth.locks = false := BodyLoose.notSynchronized Bd
  have hml : c.maxLocals = 1 := hml0
  have hown : s.vm.findClass "java/lang/StringLatin1" = some m.cls := findClass_of_methodNamed Bd.named
  have hnm := (name_of_methodNamed Bd.named Bd.method).1
  have X0 : Stand p l e ({ frames := 0, cells := 0, slots := 0, locals := 0 } : Room) s m #[(.int q)] below meth c s₁ [] 0 0 := Stand.of_body Bd
  have e0 : s₁.heap = h0 := by rw [← hh, Bd.state]; rfl
  have N0 := Fr.nil n0
  show Gl p.tables e below (EndN s (Q_cei Z q h0 n0) ({ frames := 0, cells := 0, slots := 0, locals := 0 } : Room).cells ({ frames := 0, cells := 0, slots := 0, locals := 0 } : Room).slots) _
  refine Gl.cast (ef_cei m q) ?_
  show Gl p.tables e below _ (s₁.setTop (mkF m 0 #[.val (.int q)] []))
  refine Gl.st (fun _ kq => XS.iloadN X0.here hx rfl (hb hby d13_0) rfl kq) ?_
  show Gl p.tables e below _ (s₁.setTop (mkF m 1 #[.val (.int q)] [(.int q)]))
  refine Gl.st (fun _ kq => XS.ifNo X0.here hx rfl (hb hby d13_1) rfl ((if0 _ _).trans (flt (hq0 : ¬ (q < (0 : Int32)))).1) kq) ?_
  show Gl p.tables e below _ (s₁.setTop (mkF m 4 #[.val (.int q)] []))
  refine Gl.st (fun _ kq => XS.iloadN X0.here hx rfl (hb hby d13_4) rfl kq) ?_
  show Gl p.tables e below _ (s₁.setTop (mkF m 5 #[.val (.int q)] [(.int q)]))
  refine Gl.st (fun _ kq => XS.sipush X0.here hx rfl (hb hby d13_5) kq) ?_
  show Gl p.tables e below _ (s₁.setTop (mkF m 8 #[.val (.int q)] [(.int 255), (.int q)]))
  refine Gl.st (fun _ kq => XS.icmpNo X0.here hx rfl (hb hby d13_8) rfl (flt (hq1 : ¬ ((255 : Int32) < q))).2.2.1 kq) ?_
  show Gl p.tables e below _ (s₁.setTop (mkF m 11 #[.val (.int q)] []))
  refine Gl.st (fun _ kq => XS.iconst X0.here hx rfl (hb hby d13_11) kq) ?_
  show Gl p.tables e below _ (s₁.setTop (mkF m 12 #[.val (.int q)] [(.int 1)]))
  refine Gl.st (fun _ kq => XS.goto X0.here hx rfl (pc0 := 12) (pc' := 16) rfl (hb hby d13_12) (by decide) (by decide) kq) ?_
  show Gl p.tables e below _ (s₁.setTop (mkF m 16 #[.val (.int q)] [(.int 1)]))
  exact Gl.retN X0 hx (t := .boolean) Bd.returns (by simp) (hb hby d13_16) hlk (by decide) (by decide) (by rw [e0]; exact ⟨rfl, N0, rfl⟩)
theorem d14_0 : decode jdk_29_method_65_code 0 = .ok (.iload_n 0, 1) := by decide +kernel
theorem d14_1 : decode jdk_29_method_65_code 1 = .ok (.iload_n 1, 1) := by decide +kernel
theorem d14_2 : decode jdk_29_method_65_code 2 = .ok (.if_icmp .lt 7, 3) := by decide +kernel
theorem d14_5 : decode jdk_29_method_65_code 5 = .ok (.iload_n 0, 1) := by decide +kernel
theorem d14_6 : decode jdk_29_method_65_code 6 = .ok (.goto 4, 3) := by decide +kernel
theorem d14_9 : decode jdk_29_method_65_code 9 = .ok (.iload_n 1, 1) := by decide +kernel
theorem d14_10 : decode jdk_29_method_65_code 10 = .ok (.ireturn, 1) := by decide +kernel
theorem ef_mx (m : MethodId) (x : Int32) (y : Int32) : entryFrame m #[(.int x), (.int y)] 2 = mkF m 0 #[.val (.int x), .val (.int y)] [] := by first | (simp [entryFrame, mkF, argsToLocals, Value.category]; done) | rfl
def Q_mx (Z : State) (x : Int32) (y : Int32) (h0 : Heap) (n0 : Nat) (v : Option Value) (h : Heap) (L : List Loc) : Prop := (v = some (.int x) ∧ Fr n0 L ∧ h = h0 ∧ (¬ (x < y))) ∨ (v = some (.int y) ∧ Fr n0 L ∧ h = h0 ∧ (x < y))
set_option maxRecDepth 65536 in
set_option maxHeartbeats 40000000 in
theorem rm_mx (l : Launch) (Z : State) (a0 : Array Value) (hw : ∀ d ∈ tables_1, d.before a0 Z = true) (ws : List Jvm.Cond) (x : Int32) (y : Int32) (h0 : Heap) (n0 : Nat) (Z0 : n0 ≤ h0.size) :
    MetFree l (⟨"java/lang/Math", "max", "(II)I"⟩ : MethodName) (head1 (Jvm.Cond.code (⟨"java/lang/Math", "max", "(II)I"⟩ : MethodName) jdk_29_method_65_code 2 (some .int) :: ws) ({ frames := 0, cells := 0, slots := 0, locals := 0 } : Room)) (fun aa U => aa = #[(.int x), (.int y)] ∧ Z.Warmed39 U.vm ∧ U.heap = h0) (fun _ _ _ _ _ => True) (fun _ U o U' => ∃ v L, o = .returned v ∧ Q_mx Z x y h0 n0 v U'.heap L ∧ FrameEnd U o U' L ({ frames := 0, cells := 0, slots := 0, locals := 0 } : Room).cells ({ frames := 0, cells := 0, slots := 0, locals := 0 } : Room).slots) := by
  refine MetFree.of_bodySF (Jvm.Free.JP.mathPlain rfl (by decide +kernel)) hisR ?_
  intro p e s m args below meth c s₁ Bd hml0 hP hK
  obtain ⟨rfl, hZ, hh⟩ := hP
  have hx := Bd.exec
  have hby := Bd.bytes
  have hlk : meth.locks = false := BodyLoose.notSynchronized Bd
  have hml : c.maxLocals = 2 := hml0
  have hown : s.vm.findClass "java/lang/Math" = some m.cls := findClass_of_methodNamed Bd.named
  have hnm := (name_of_methodNamed Bd.named Bd.method).1
  have X0 : Stand p l e ({ frames := 0, cells := 0, slots := 0, locals := 0 } : Room) s m #[(.int x), (.int y)] below meth c s₁ [] 0 0 := Stand.of_body Bd
  have e0 : s₁.heap = h0 := by rw [← hh, Bd.state]; rfl
  have N0 := Fr.nil n0
  show Gl p.tables e below (EndN s (Q_mx Z x y h0 n0) ({ frames := 0, cells := 0, slots := 0, locals := 0 } : Room).cells ({ frames := 0, cells := 0, slots := 0, locals := 0 } : Room).slots) _
  refine Gl.cast (ef_mx m x y) ?_
  show Gl p.tables e below _ (s₁.setTop (mkF m 0 #[.val (.int x), .val (.int y)] []))
  refine Gl.st (fun _ kq => XS.iloadN X0.here hx rfl (hb hby d14_0) rfl kq) ?_
  show Gl p.tables e below _ (s₁.setTop (mkF m 1 #[.val (.int x), .val (.int y)] [(.int x)]))
  refine Gl.st (fun _ kq => XS.iloadN X0.here hx rfl (hb hby d14_1) rfl kq) ?_
  show Gl p.tables e below _ (s₁.setTop (mkF m 2 #[.val (.int x), .val (.int y)] [(.int y), (.int x)]))
  by_cases hc1 : x < y
  · refine Gl.st (fun _ kq => XS.icmpYes X0.here hx rfl (pc0 := 2) (pc' := 9) rfl (hb hby d14_2) rfl (tlt (hc1 : x < y)).1 (by decide) (by decide) kq) ?_
    show Gl p.tables e below _ (s₁.setTop (mkF m 9 #[.val (.int x), .val (.int y)] []))
    refine Gl.st (fun _ kq => XS.iloadN X0.here hx rfl (hb hby d14_9) rfl kq) ?_
    show Gl p.tables e below _ (s₁.setTop (mkF m 10 #[.val (.int x), .val (.int y)] [(.int y)]))
    exact Gl.retI X0 hx Bd.returns (hb hby d14_10) hlk (by decide) (by decide) (by rw [e0]; exact (Or.inr (⟨rfl, N0, rfl, hc1⟩)))
  · refine Gl.st (fun _ kq => XS.icmpNo X0.here hx rfl (hb hby d14_2) rfl (flt (hc1 : ¬ (x < y))).1 kq) ?_
    show Gl p.tables e below _ (s₁.setTop (mkF m 5 #[.val (.int x), .val (.int y)] []))
    refine Gl.st (fun _ kq => XS.iloadN X0.here hx rfl (hb hby d14_5) rfl kq) ?_
    show Gl p.tables e below _ (s₁.setTop (mkF m 6 #[.val (.int x), .val (.int y)] [(.int x)]))
    refine Gl.st (fun _ kq => XS.goto X0.here hx rfl (pc0 := 6) (pc' := 10) rfl (hb hby d14_6) (by decide) (by decide) kq) ?_
    show Gl p.tables e below _ (s₁.setTop (mkF m 10 #[.val (.int x), .val (.int y)] [(.int x)]))
    exact Gl.retI X0 hx Bd.returns (hb hby d14_10) hlk (by decide) (by decide) (by rw [e0]; exact (Or.inl ⟨rfl, N0, rfl, hc1⟩))
theorem d15_0 : decode jdk_29_method_69_code 0 = .ok (.iload_n 0, 1) := by decide +kernel
theorem d15_1 : decode jdk_29_method_69_code 1 = .ok (.iload_n 1, 1) := by decide +kernel
theorem d15_2 : decode jdk_29_method_69_code 2 = .ok (.if_icmp .gt 7, 3) := by decide +kernel
theorem d15_5 : decode jdk_29_method_69_code 5 = .ok (.iload_n 0, 1) := by decide +kernel
theorem d15_6 : decode jdk_29_method_69_code 6 = .ok (.goto 4, 3) := by decide +kernel
theorem d15_9 : decode jdk_29_method_69_code 9 = .ok (.iload_n 1, 1) := by decide +kernel
theorem d15_10 : decode jdk_29_method_69_code 10 = .ok (.ireturn, 1) := by decide +kernel
theorem ef_mi (m : MethodId) (x : Int32) (y : Int32) : entryFrame m #[(.int x), (.int y)] 2 = mkF m 0 #[.val (.int x), .val (.int y)] [] := by first | (simp [entryFrame, mkF, argsToLocals, Value.category]; done) | rfl
def Q_mi (Z : State) (x : Int32) (y : Int32) (h0 : Heap) (n0 : Nat) (v : Option Value) (h : Heap) (L : List Loc) : Prop := (v = some (.int x) ∧ Fr n0 L ∧ h = h0 ∧ (¬ (y < x))) ∨ (v = some (.int y) ∧ Fr n0 L ∧ h = h0 ∧ (y < x))
set_option maxRecDepth 65536 in
set_option maxHeartbeats 40000000 in
theorem rm_mi (l : Launch) (Z : State) (a0 : Array Value) (hw : ∀ d ∈ tables_1, d.before a0 Z = true) (ws : List Jvm.Cond) (x : Int32) (y : Int32) (h0 : Heap) (n0 : Nat) (Z0 : n0 ≤ h0.size) :
    MetFree l (⟨"java/lang/Math", "min", "(II)I"⟩ : MethodName) (head1 (Jvm.Cond.code (⟨"java/lang/Math", "min", "(II)I"⟩ : MethodName) jdk_29_method_69_code 2 (some .int) :: ws) ({ frames := 0, cells := 0, slots := 0, locals := 0 } : Room)) (fun aa U => aa = #[(.int x), (.int y)] ∧ Z.Warmed39 U.vm ∧ U.heap = h0) (fun _ _ _ _ _ => True) (fun _ U o U' => ∃ v L, o = .returned v ∧ Q_mi Z x y h0 n0 v U'.heap L ∧ FrameEnd U o U' L ({ frames := 0, cells := 0, slots := 0, locals := 0 } : Room).cells ({ frames := 0, cells := 0, slots := 0, locals := 0 } : Room).slots) := by
  refine MetFree.of_bodySF (Jvm.Free.JP.mathPlain rfl (by decide +kernel)) hisR ?_
  intro p e s m args below meth c s₁ Bd hml0 hP hK
  obtain ⟨rfl, hZ, hh⟩ := hP
  have hx := Bd.exec
  have hby := Bd.bytes
  have hlk : meth.locks = false := BodyLoose.notSynchronized Bd
  have hml : c.maxLocals = 2 := hml0
  have hown : s.vm.findClass "java/lang/Math" = some m.cls := findClass_of_methodNamed Bd.named
  have hnm := (name_of_methodNamed Bd.named Bd.method).1
  have X0 : Stand p l e ({ frames := 0, cells := 0, slots := 0, locals := 0 } : Room) s m #[(.int x), (.int y)] below meth c s₁ [] 0 0 := Stand.of_body Bd
  have e0 : s₁.heap = h0 := by rw [← hh, Bd.state]; rfl
  have N0 := Fr.nil n0
  show Gl p.tables e below (EndN s (Q_mi Z x y h0 n0) ({ frames := 0, cells := 0, slots := 0, locals := 0 } : Room).cells ({ frames := 0, cells := 0, slots := 0, locals := 0 } : Room).slots) _
  refine Gl.cast (ef_mi m x y) ?_
  show Gl p.tables e below _ (s₁.setTop (mkF m 0 #[.val (.int x), .val (.int y)] []))
  refine Gl.st (fun _ kq => XS.iloadN X0.here hx rfl (hb hby d15_0) rfl kq) ?_
  show Gl p.tables e below _ (s₁.setTop (mkF m 1 #[.val (.int x), .val (.int y)] [(.int x)]))
  refine Gl.st (fun _ kq => XS.iloadN X0.here hx rfl (hb hby d15_1) rfl kq) ?_
  show Gl p.tables e below _ (s₁.setTop (mkF m 2 #[.val (.int x), .val (.int y)] [(.int y), (.int x)]))
  by_cases hc1 : y < x
  · refine Gl.st (fun _ kq => XS.icmpYes X0.here hx rfl (pc0 := 2) (pc' := 9) rfl (hb hby d15_2) rfl (tlt (hc1 : y < x)).2.2.1 (by decide) (by decide) kq) ?_
    show Gl p.tables e below _ (s₁.setTop (mkF m 9 #[.val (.int x), .val (.int y)] []))
    refine Gl.st (fun _ kq => XS.iloadN X0.here hx rfl (hb hby d15_9) rfl kq) ?_
    show Gl p.tables e below _ (s₁.setTop (mkF m 10 #[.val (.int x), .val (.int y)] [(.int y)]))
    exact Gl.retI X0 hx Bd.returns (hb hby d15_10) hlk (by decide) (by decide) (by rw [e0]; exact (Or.inr (⟨rfl, N0, rfl, hc1⟩)))
  · refine Gl.st (fun _ kq => XS.icmpNo X0.here hx rfl (hb hby d15_2) rfl (flt (hc1 : ¬ (y < x))).2.2.1 kq) ?_
    show Gl p.tables e below _ (s₁.setTop (mkF m 5 #[.val (.int x), .val (.int y)] []))
    refine Gl.st (fun _ kq => XS.iloadN X0.here hx rfl (hb hby d15_5) rfl kq) ?_
    show Gl p.tables e below _ (s₁.setTop (mkF m 6 #[.val (.int x), .val (.int y)] [(.int x)]))
    refine Gl.st (fun _ kq => XS.goto X0.here hx rfl (pc0 := 6) (pc' := 10) rfl (hb hby d15_6) (by decide) (by decide) kq) ?_
    show Gl p.tables e below _ (s₁.setTop (mkF m 10 #[.val (.int x), .val (.int y)] [(.int x)]))
    exact Gl.retI X0 hx Bd.returns (hb hby d15_10) hlk (by decide) (by decide) (by rw [e0]; exact (Or.inl ⟨rfl, N0, rfl, hc1⟩))
theorem d24_0 : decode jdk_43_method_23_code 0 = .ok (.iload_n 1, 1) := by decide +kernel
theorem d24_1 : decode jdk_43_method_23_code 1 = .ok (.i2b, 1) := by decide +kernel
theorem d24_2 : decode jdk_43_method_23_code 2 = .ok (.istore 4, 2) := by decide +kernel
theorem d24_4 : decode jdk_43_method_23_code 4 = .ok (.iload_n 2, 1) := by decide +kernel
theorem d24_5 : decode jdk_43_method_23_code 5 = .ok (.istore 5, 2) := by decide +kernel
theorem d24_7 : decode jdk_43_method_23_code 7 = .ok (.iload 5, 2) := by decide +kernel
theorem d24_9 : decode jdk_43_method_23_code 9 = .ok (.iload_n 3, 1) := by decide +kernel
theorem d24_10 : decode jdk_43_method_23_code 10 = .ok (.if_icmp .ge 21, 3) := by decide +kernel
theorem d24_13 : decode jdk_43_method_23_code 13 = .ok (.aload_n 0, 1) := by decide +kernel
theorem d24_14 : decode jdk_43_method_23_code 14 = .ok (.iload 5, 2) := by decide +kernel
theorem d24_16 : decode jdk_43_method_23_code 16 = .ok (.baload, 1) := by decide +kernel
theorem d24_17 : decode jdk_43_method_23_code 17 = .ok (.iload 4, 2) := by decide +kernel
theorem d24_19 : decode jdk_43_method_23_code 19 = .ok (.if_icmp .ne 6, 3) := by decide +kernel
theorem d24_22 : decode jdk_43_method_23_code 22 = .ok (.iload 5, 2) := by decide +kernel
theorem d24_24 : decode jdk_43_method_23_code 24 = .ok (.ireturn, 1) := by decide +kernel
theorem d24_25 : decode jdk_43_method_23_code 25 = .ok (.iinc 5 1, 3) := by decide +kernel
theorem d24_28 : decode jdk_43_method_23_code 28 = .ok (.goto (-21), 3) := by decide +kernel
theorem d24_31 : decode jdk_43_method_23_code 31 = .ok (.iconst (-1), 1) := by decide +kernel
theorem d24_32 : decode jdk_43_method_23_code 32 = .ok (.ireturn, 1) := by decide +kernel
theorem ef_ioc (m : MethodId) (t : Addr) (cs : List Int32) (q : Int32) (i : Nat) : entryFrame m #[(.ref t), (.int q), (.int (Int32.ofNat i)), (.int (Int32.ofNat cs.length))] 6 = mkF m 0 #[.val (.ref t), .val (.int q), .val (.int (Int32.ofNat i)), .val (.int (Int32.ofNat cs.length)), .unset, .unset] [] := by first | (simp [entryFrame, mkF, argsToLocals, Value.category]; done) | rfl
def Q_ioc (Z : State) (t : Addr) (k : ClassId) (cs : List Int32) (q : Int32) (i : Nat) (h0 : Heap) (n0 : Nat) (v : Option Value) (h : Heap) (L : List Loc) : Prop := (∃ r : Nat, v = some (.int (Int32.ofNat r)) ∧ Fr n0 L ∧ h = h0 ∧ (First q cs i r)) ∨ (v = some (.int (-1)) ∧ Fr n0 L ∧ h = h0 ∧ (Nowhere q cs i))
set_option maxRecDepth 65536 in
set_option maxHeartbeats 40000000 in
theorem rm_ioc (l : Launch) (Z : State) (a0 : Array Value) (hw : ∀ d ∈ tables_1, d.before a0 Z = true) (ws : List Jvm.Cond) (t : Addr) (k : ClassId) (cs : List Int32) (q : Int32) (i : Nat) (h0 : Heap) (n0 : Nat) (Z0 : n0 ≤ h0.size) (pf0 : Arv Z h0 t k .byte (Int32.ofNat cs.length) ((cs.map (fun c => c.toInt8.toInt32)).map Value.int) (.int 0)) (hr : Rng cs) (hl : cs.length ≤ 4) (hq0 : ¬ (q < (0 : Int32))) (hq1 : ¬ ((255 : Int32) < q)) (hi : i ≤ cs.length) :
    MetFree l (⟨"java/lang/StringLatin1", "indexOfChar", "([BIII)I"⟩ : MethodName) (head1 (Jvm.Cond.code (⟨"java/lang/StringLatin1", "indexOfChar", "([BIII)I"⟩ : MethodName) jdk_43_method_23_code 6 (some .int) :: ws) ({ frames := 0, cells := 0, slots := 0, locals := 0 } : Room)) (fun aa U => aa = #[(.ref t), (.int q), (.int (Int32.ofNat i)), (.int (Int32.ofNat cs.length))] ∧ Z.Warmed39 U.vm ∧ U.heap = h0) (fun _ _ _ _ _ => True) (fun _ U o U' => ∃ v L, o = .returned v ∧ Q_ioc Z t k cs q i h0 n0 v U'.heap L ∧ FrameEnd U o U' L ({ frames := 0, cells := 0, slots := 0, locals := 0 } : Room).cells ({ frames := 0, cells := 0, slots := 0, locals := 0 } : Room).slots) := by
  refine MetFree.of_bodySF (plainFor_of_name pn_java_lang_StringLatin1) hisR ?_
  intro p e s m args below meth c s₁ Bd hml0 hP hK
  obtain ⟨rfl, hZ, hh⟩ := hP
  have hx := Bd.exec
  have hby := Bd.bytes
  have hlk : meth.locks = false := BodyLoose.notSynchronized Bd
  have hml : c.maxLocals = 6 := hml0
  have hown : s.vm.findClass "java/lang/StringLatin1" = some m.cls := findClass_of_methodNamed Bd.named
  have hnm := (name_of_methodNamed Bd.named Bd.method).1
  have X0 : Stand p l e ({ frames := 0, cells := 0, slots := 0, locals := 0 } : Room) s m #[(.ref t), (.int q), (.int (Int32.ofNat i)), (.int (Int32.ofNat cs.length))] below meth c s₁ [] 0 0 := Stand.of_body Bd
  have e0 : s₁.heap = h0 := by rw [← hh, Bd.state]; rfl
  have N0 := Fr.nil n0
  show Gl p.tables e below (EndN s (Q_ioc Z t k cs q i h0 n0) ({ frames := 0, cells := 0, slots := 0, locals := 0 } : Room).cells ({ frames := 0, cells := 0, slots := 0, locals := 0 } : Room).slots) _
  refine Gl.cast (ef_ioc m t cs q i) ?_
  show Gl p.tables e below _ (s₁.setTop (mkF m 0 #[.val (.ref t), .val (.int q), .val (.int (Int32.ofNat i)), .val (.int (Int32.ofNat cs.length)), .unset, .unset] []))
  refine Gl.st (fun _ kq => XS.iloadN X0.here hx rfl (hb hby d24_0) rfl kq) ?_
  show Gl p.tables e below _ (s₁.setTop (mkF m 1 #[.val (.ref t), .val (.int q), .val (.int (Int32.ofNat i)), .val (.int (Int32.ofNat cs.length)), .unset, .unset] [(.int q)]))
  refine Gl.st (fun _ kq => XS.i2b X0.here hx rfl (hb hby d24_1) rfl kq) ?_
  show Gl p.tables e below _ (s₁.setTop (mkF m 2 #[.val (.ref t), .val (.int q), .val (.int (Int32.ofNat i)), .val (.int (Int32.ofNat cs.length)), .unset, .unset] [(.int (q.toInt8.toInt32))]))
  refine Gl.st (fun _ kq => XS.istore X0.here hx rfl (hb hby d24_2) rfl (l' := #[.val (.ref t), .val (.int q), .val (.int (Int32.ofNat i)), .val (.int (Int32.ofNat cs.length)), .val (.int (q.toInt8.toInt32)), .unset]) rfl kq) ?_
  show Gl p.tables e below _ (s₁.setTop (mkF m 4 #[.val (.ref t), .val (.int q), .val (.int (Int32.ofNat i)), .val (.int (Int32.ofNat cs.length)), .val (.int (q.toInt8.toInt32)), .unset] []))
  refine Gl.st (fun _ kq => XS.iloadN X0.here hx rfl (hb hby d24_4) rfl kq) ?_
  show Gl p.tables e below _ (s₁.setTop (mkF m 5 #[.val (.ref t), .val (.int q), .val (.int (Int32.ofNat i)), .val (.int (Int32.ofNat cs.length)), .val (.int (q.toInt8.toInt32)), .unset] [(.int (Int32.ofNat i))]))
  refine Gl.st (fun _ kq => XS.istore X0.here hx rfl (hb hby d24_5) rfl (l' := #[.val (.ref t), .val (.int q), .val (.int (Int32.ofNat i)), .val (.int (Int32.ofNat cs.length)), .val (.int (q.toInt8.toInt32)), .val (.int (Int32.ofNat i))]) rfl kq) ?_
  show Gl p.tables e below _ (s₁.setTop (mkF m 7 #[.val (.ref t), .val (.int q), .val (.int (Int32.ofNat i)), .val (.int (Int32.ofNat cs.length)), .val (.int (q.toInt8.toInt32)), .val (.int (Int32.ofNat i))] []))
  have loop : ∀ (d j : Nat) (Ti : State) (Li : List Loc) (Xi : Stand p l e ({ frames := 0, cells := 0, slots := 0, locals := 0 } : Room) s m #[(.ref t), (.int q), (.int (Int32.ofNat i)), (.int (Int32.ofNat cs.length))] below meth c Ti Li 0 0) (ei : Ti.heap = h0) (Ni : Fr n0 Li) (hj : j + d = cs.length) (hij : i ≤ j) (hb4 : ∀ k, i ≤ k → k < j → ¬ cs.getD k 0 = q), Gl p.tables e below (EndN s (Q_ioc Z t k cs q i h0 n0) ({ frames := 0, cells := 0, slots := 0, locals := 0 } : Room).cells ({ frames := 0, cells := 0, slots := 0, locals := 0 } : Room).slots) (Ti.setTop (mkF m 7 #[.val (.ref t), .val (.int q), .val (.int (Int32.ofNat i)), .val (.int (Int32.ofNat cs.length)), .val (.int (q.toInt8.toInt32)), .val (.int (Int32.ofNat j))] [])) := by
    intro d
    induction d with
    | zero =>
      intro j Ti Li Xi ei Ni hj hij hb4
      have hlt := n32_nlt (i := j) (j := cs.length) (by omega) (by omega) (by omega)
      have hno : Nowhere q cs i := fun k h1 h2 => hb4 k h1 (by omega)
      show Gl p.tables e below _ (Ti.setTop (mkF m 7 #[.val (.ref t), .val (.int q), .val (.int (Int32.ofNat i)), .val (.int (Int32.ofNat cs.length)), .val (.int (q.toInt8.toInt32)), .val (.int (Int32.ofNat j))] []))
      refine Gl.st (fun _ kq => XS.iload Xi.here hx rfl (hb hby d24_7) rfl kq) ?_
      show Gl p.tables e below _ (Ti.setTop (mkF m 9 #[.val (.ref t), .val (.int q), .val (.int (Int32.ofNat i)), .val (.int (Int32.ofNat cs.length)), .val (.int (q.toInt8.toInt32)), .val (.int (Int32.ofNat j))] [(.int (Int32.ofNat j))]))
      refine Gl.st (fun _ kq => XS.iloadN Xi.here hx rfl (hb hby d24_9) rfl kq) ?_
      show Gl p.tables e below _ (Ti.setTop (mkF m 10 #[.val (.ref t), .val (.int q), .val (.int (Int32.ofNat i)), .val (.int (Int32.ofNat cs.length)), .val (.int (q.toInt8.toInt32)), .val (.int (Int32.ofNat j))] [(.int (Int32.ofNat cs.length)), (.int (Int32.ofNat j))]))
      refine Gl.st (fun _ kq => XS.icmpYes Xi.here hx rfl (pc0 := 10) (pc' := 31) rfl (hb hby d24_10) rfl (flt (hlt : ¬ ((Int32.ofNat j) < (Int32.ofNat cs.length)))).2.1 (by decide) (by decide) kq) ?_
      show Gl p.tables e below _ (Ti.setTop (mkF m 31 #[.val (.ref t), .val (.int q), .val (.int (Int32.ofNat i)), .val (.int (Int32.ofNat cs.length)), .val (.int (q.toInt8.toInt32)), .val (.int (Int32.ofNat j))] []))
      refine Gl.st (fun _ kq => XS.iconst Xi.here hx rfl (hb hby d24_31) kq) ?_
      show Gl p.tables e below _ (Ti.setTop (mkF m 32 #[.val (.ref t), .val (.int q), .val (.int (Int32.ofNat i)), .val (.int (Int32.ofNat cs.length)), .val (.int (q.toInt8.toInt32)), .val (.int (Int32.ofNat j))] [(.int (-1))]))
      exact Gl.retI Xi hx Bd.returns (hb hby d24_32) hlk (by decide) (by decide) (by rw [ei]; exact (Or.inr (⟨rfl, Ni, rfl, hno⟩)))
    | succ d ih =>
      intro j Ti Li Xi ei Ni hj hij hb4
      have hjl : j < cs.length := by omega
      have hlt := n32_plt (i := j) (j := cs.length) (by omega) (by omega)
      show Gl p.tables e below _ (Ti.setTop (mkF m 7 #[.val (.ref t), .val (.int q), .val (.int (Int32.ofNat i)), .val (.int (Int32.ofNat cs.length)), .val (.int (q.toInt8.toInt32)), .val (.int (Int32.ofNat j))] []))
      refine Gl.st (fun _ kq => XS.iload Xi.here hx rfl (hb hby d24_7) rfl kq) ?_
      show Gl p.tables e below _ (Ti.setTop (mkF m 9 #[.val (.ref t), .val (.int q), .val (.int (Int32.ofNat i)), .val (.int (Int32.ofNat cs.length)), .val (.int (q.toInt8.toInt32)), .val (.int (Int32.ofNat j))] [(.int (Int32.ofNat j))]))
      refine Gl.st (fun _ kq => XS.iloadN Xi.here hx rfl (hb hby d24_9) rfl kq) ?_
      show Gl p.tables e below _ (Ti.setTop (mkF m 10 #[.val (.ref t), .val (.int q), .val (.int (Int32.ofNat i)), .val (.int (Int32.ofNat cs.length)), .val (.int (q.toInt8.toInt32)), .val (.int (Int32.ofNat j))] [(.int (Int32.ofNat cs.length)), (.int (Int32.ofNat j))]))
      refine Gl.st (fun _ kq => XS.icmpNo Xi.here hx rfl (hb hby d24_10) rfl (tlt (hlt : (Int32.ofNat j) < (Int32.ofNat cs.length))).2.1 kq) ?_
      show Gl p.tables e below _ (Ti.setTop (mkF m 13 #[.val (.ref t), .val (.int q), .val (.int (Int32.ofNat i)), .val (.int (Int32.ofNat cs.length)), .val (.int (q.toInt8.toInt32)), .val (.int (Int32.ofNat j))] []))
      refine Gl.st (fun _ kq => XS.aloadN Xi.here hx rfl (hb hby d24_13) rfl rfl kq) ?_
      show Gl p.tables e below _ (Ti.setTop (mkF m 14 #[.val (.ref t), .val (.int q), .val (.int (Int32.ofNat i)), .val (.int (Int32.ofNat cs.length)), .val (.int (q.toInt8.toInt32)), .val (.int (Int32.ofNat j))] [(.ref t)]))
      refine Gl.st (fun _ kq => XS.iload Xi.here hx rfl (hb hby d24_14) rfl kq) ?_
      show Gl p.tables e below _ (Ti.setTop (mkF m 16 #[.val (.ref t), .val (.int q), .val (.int (Int32.ofNat i)), .val (.int (Int32.ofNat cs.length)), .val (.int (q.toInt8.toInt32)), .val (.int (Int32.ofNat j))] [(.int (Int32.ofNat j)), (.ref t)]))
      obtain ⟨c1, a1, q1, S1, M1, H1, G1⟩ := id pf0
      refine Gl.st (fun _ kq => Xi.baloadBytes hx (j := (Int32.ofNat j)) (v := (.int ((cs.getD j 0).toInt8.toInt32))) (by rw [ei]; exact a1.1) (State.isArrayOf_alike hZ.alike a1.2.1) a1.2.2 (inb_of S1 ⟨n32_nn (by omega), n32_plt hjl (by omega)⟩) (Has.at H1 (inb_of S1 ⟨n32_nn (by omega), n32_plt hjl (by omega)⟩) (by rw [n32_cl (by omega)]; exact lo_get hjl)) (g := (mkF m 16 #[.val (.ref t), .val (.int q), .val (.int (Int32.ofNat i)), .val (.int (Int32.ofNat cs.length)), .val (.int (q.toInt8.toInt32)), .val (.int (Int32.ofNat j))] [(.int (Int32.ofNat j)), (.ref t)])) rfl rfl (hb hby d24_16) _ kq) ?_
      show Gl p.tables e below _ (Ti.setTop (mkF m 17 #[.val (.ref t), .val (.int q), .val (.int (Int32.ofNat i)), .val (.int (Int32.ofNat cs.length)), .val (.int (q.toInt8.toInt32)), .val (.int (Int32.ofNat j))] [(.int ((cs.getD j 0).toInt8.toInt32))]))
      refine Gl.st (fun _ kq => XS.iload Xi.here hx rfl (hb hby d24_17) rfl kq) ?_
      show Gl p.tables e below _ (Ti.setTop (mkF m 19 #[.val (.ref t), .val (.int q), .val (.int (Int32.ofNat i)), .val (.int (Int32.ofNat cs.length)), .val (.int (q.toInt8.toInt32)), .val (.int (Int32.ofNat j))] [(.int (q.toInt8.toInt32)), (.int ((cs.getD j 0).toInt8.toInt32))]))
      by_cases hc2 : ((cs.getD j 0).toInt8.toInt32) = (q.toInt8.toInt32)
      · have heq : cs.getD j 0 = q := lo_inj (mem_get hr hjl).1 (mem_get hr hjl).2 hq0 hq1 hc2
        refine Gl.st (fun _ kq => XS.icmpNo Xi.here hx rfl (hb hby d24_19) rfl (teq (hc2 : ((cs.getD j 0).toInt8.toInt32) = (q.toInt8.toInt32))).2 kq) ?_
        show Gl p.tables e below _ (Ti.setTop (mkF m 22 #[.val (.ref t), .val (.int q), .val (.int (Int32.ofNat i)), .val (.int (Int32.ofNat cs.length)), .val (.int (q.toInt8.toInt32)), .val (.int (Int32.ofNat j))] []))
        refine Gl.st (fun _ kq => XS.iload Xi.here hx rfl (hb hby d24_22) rfl kq) ?_
        show Gl p.tables e below _ (Ti.setTop (mkF m 24 #[.val (.ref t), .val (.int q), .val (.int (Int32.ofNat i)), .val (.int (Int32.ofNat cs.length)), .val (.int (q.toInt8.toInt32)), .val (.int (Int32.ofNat j))] [(.int (Int32.ofNat j))]))
        exact Gl.retI Xi hx Bd.returns (hb hby d24_24) hlk (by decide) (by decide) (by rw [ei]; exact (Or.inl ⟨j, rfl, Ni, rfl, ⟨hij, hjl, heq, hb4⟩⟩))
      · have hne : ¬ cs.getD j 0 = q := fun e => hc2 (e ▸ rfl)
        refine Gl.st (fun _ kq => XS.icmpYes Xi.here hx rfl (pc0 := 19) (pc' := 25) rfl (hb hby d24_19) rfl (feq (hc2 : ¬ (((cs.getD j 0).toInt8.toInt32) = (q.toInt8.toInt32)))).2 (by decide) (by decide) kq) ?_
        show Gl p.tables e below _ (Ti.setTop (mkF m 25 #[.val (.ref t), .val (.int q), .val (.int (Int32.ofNat i)), .val (.int (Int32.ofNat cs.length)), .val (.int (q.toInt8.toInt32)), .val (.int (Int32.ofNat j))] []))
        refine Gl.st (fun _ kq => XS.iinc Xi.here hx rfl (hb hby d24_25) rfl (l' := #[.val (.ref t), .val (.int q), .val (.int (Int32.ofNat i)), .val (.int (Int32.ofNat cs.length)), .val (.int (q.toInt8.toInt32)), .val (.int ((Int32.ofNat j) + (1 : Int32)))]) rfl kq) ?_
        show Gl p.tables e below _ (Ti.setTop (mkF m 28 #[.val (.ref t), .val (.int q), .val (.int (Int32.ofNat i)), .val (.int (Int32.ofNat cs.length)), .val (.int (q.toInt8.toInt32)), .val (.int ((Int32.ofNat j) + (1 : Int32)))] []))
        refine Gl.st (fun _ kq => XS.goto Xi.here hx rfl (pc0 := 28) (pc' := 7) rfl (hb hby d24_28) (by decide) (by decide) kq) ?_
        show Gl p.tables e below _ (Ti.setTop (mkF m 7 #[.val (.ref t), .val (.int q), .val (.int (Int32.ofNat i)), .val (.int (Int32.ofNat cs.length)), .val (.int (q.toInt8.toInt32)), .val (.int ((Int32.ofNat j) + (1 : Int32)))] []))
        rw [n32_inc j]
        exact ih (j + 1) _ _ Xi ei Ni (by omega) (by omega) (fun k h1 h2 => by by_cases e : k = j; exact e ▸ hne; exact hb4 k h1 (by omega))
  exact loop (cs.length - i) i _ _ (X0.more (by decide) (by decide)) e0 N0 (by omega) (Nat.le_refl _) (fun k h1 h2 => absurd h2 (by omega))
theorem d12_0 : decode jdk_43_method_22_code 0 = .ok (.iload_n 1, 1) := by decide +kernel
theorem d12_1 : decode jdk_43_method_22_code 1 = .ok (.invokestatic 88, 3) := by decide +kernel
theorem d12_4 : decode jdk_43_method_22_code 4 = .ok (.ifCond .ne 5, 3) := by decide +kernel
theorem d12_9 : decode jdk_43_method_22_code 9 = .ok (.iload_n 2, 1) := by decide +kernel
theorem d12_10 : decode jdk_43_method_22_code 10 = .ok (.iconst 0, 1) := by decide +kernel
theorem d12_11 : decode jdk_43_method_22_code 11 = .ok (.invokestatic 92, 3) := by decide +kernel
theorem d12_14 : decode jdk_43_method_22_code 14 = .ok (.istore_n 2, 1) := by decide +kernel
theorem d12_15 : decode jdk_43_method_22_code 15 = .ok (.iload_n 3, 1) := by decide +kernel
theorem d12_16 : decode jdk_43_method_22_code 16 = .ok (.aload_n 0, 1) := by decide +kernel
theorem d12_17 : decode jdk_43_method_22_code 17 = .ok (.arraylength, 1) := by decide +kernel
theorem d12_18 : decode jdk_43_method_22_code 18 = .ok (.invokestatic 38, 3) := by decide +kernel
theorem d12_21 : decode jdk_43_method_22_code 21 = .ok (.istore_n 3, 1) := by decide +kernel
theorem d12_22 : decode jdk_43_method_22_code 22 = .ok (.iload_n 2, 1) := by decide +kernel
theorem d12_23 : decode jdk_43_method_22_code 23 = .ok (.iload_n 3, 1) := by decide +kernel
theorem d12_24 : decode jdk_43_method_22_code 24 = .ok (.if_icmp .lt 5, 3) := by decide +kernel
theorem d12_27 : decode jdk_43_method_22_code 27 = .ok (.iconst (-1), 1) := by decide +kernel
theorem d12_28 : decode jdk_43_method_22_code 28 = .ok (.ireturn, 1) := by decide +kernel
theorem d12_29 : decode jdk_43_method_22_code 29 = .ok (.aload_n 0, 1) := by decide +kernel
theorem d12_30 : decode jdk_43_method_22_code 30 = .ok (.iload_n 1, 1) := by decide +kernel
theorem d12_31 : decode jdk_43_method_22_code 31 = .ok (.iload_n 2, 1) := by decide +kernel
theorem d12_32 : decode jdk_43_method_22_code 32 = .ok (.iload_n 3, 1) := by decide +kernel
theorem d12_33 : decode jdk_43_method_22_code 33 = .ok (.invokestatic 95, 3) := by decide +kernel
theorem d12_36 : decode jdk_43_method_22_code 36 = .ok (.ireturn, 1) := by decide +kernel
theorem ef_lio (m : MethodId) (t : Addr) (cs : List Int32) (q : Int32) (i : Nat) : entryFrame m #[(.ref t), (.int q), (.int (Int32.ofNat i)), (.int (Int32.ofNat cs.length))] 4 = mkF m 0 #[.val (.ref t), .val (.int q), .val (.int (Int32.ofNat i)), .val (.int (Int32.ofNat cs.length))] [] := by first | (simp [entryFrame, mkF, argsToLocals, Value.category]; done) | rfl
def Q_lio (Z : State) (t : Addr) (k : ClassId) (cs : List Int32) (q : Int32) (i : Nat) (h0 : Heap) (n0 : Nat) (v : Option Value) (h : Heap) (L : List Loc) : Prop := (∃ r : Nat, v = some (.int (Int32.ofNat r)) ∧ Fr n0 L ∧ h = h0 ∧ (First q cs i r)) ∨ (v = some (.int (-1)) ∧ Fr n0 L ∧ h = h0 ∧ (Nowhere q cs i))
set_option maxRecDepth 65536 in
set_option maxHeartbeats 40000000 in
theorem rm_lio (l : Launch) (Z : State) (a0 : Array Value) (hw : ∀ d ∈ tables_1, d.before a0 Z = true) (ws : List Jvm.Cond) (t : Addr) (k : ClassId) (cs : List Int32) (q : Int32) (i : Nat) (h0 : Heap) (n0 : Nat) (Z0 : n0 ≤ h0.size) (pf0 : Arv Z h0 t k .byte (Int32.ofNat cs.length) ((cs.map (fun c => c.toInt8.toInt32)).map Value.int) (.int 0)) (hr : Rng cs) (hl : cs.length ≤ 4) (hq0 : ¬ (q < (0 : Int32))) (hq1 : ¬ ((255 : Int32) < q)) (hi : i ≤ cs.length) :
    MetFree l (⟨"java/lang/StringLatin1", "indexOf", "([BIII)I"⟩ : MethodName) (head1 (Jvm.Cond.code (⟨"java/lang/StringLatin1", "indexOf", "([BIII)I"⟩ : MethodName) jdk_43_method_22_code 4 (some .int) :: ws) ({ frames := 1, cells := 0, slots := 0, locals := 17 } : Room)) (fun aa U => aa = #[(.ref t), (.int q), (.int (Int32.ofNat i)), (.int (Int32.ofNat cs.length))] ∧ Z.Warmed39 U.vm ∧ U.heap = h0) (fun _ _ _ _ _ => True) (fun _ U o U' => ∃ v L, o = .returned v ∧ Q_lio Z t k cs q i h0 n0 v U'.heap L ∧ FrameEnd U o U' L ({ frames := 1, cells := 0, slots := 0, locals := 17 } : Room).cells ({ frames := 1, cells := 0, slots := 0, locals := 17 } : Room).slots) := by
  refine MetFree.of_bodySF (plainFor_of_name pn_java_lang_StringLatin1) hisR ?_
  intro p e s m args below meth c s₁ Bd hml0 hP hK
  obtain ⟨rfl, hZ, hh⟩ := hP
  have hx := Bd.exec
  have hby := Bd.bytes
  have hlk : meth.locks = false := BodyLoose.notSynchronized Bd
  have hml : c.maxLocals = 4 := hml0
  have hown : s.vm.findClass "java/lang/StringLatin1" = some m.cls := findClass_of_methodNamed Bd.named
  have hnm := (name_of_methodNamed Bd.named Bd.method).1
  have X0 : Stand p l e ({ frames := 1, cells := 0, slots := 0, locals := 17 } : Room) s m #[(.ref t), (.int q), (.int (Int32.ofNat i)), (.int (Int32.ofNat cs.length))] below meth c s₁ [] 0 0 := Stand.of_body Bd
  have e0 : s₁.heap = h0 := by rw [← hh, Bd.state]; rfl
  have N0 := Fr.nil n0
  show Gl p.tables e below (EndN s (Q_lio Z t k cs q i h0 n0) ({ frames := 1, cells := 0, slots := 0, locals := 17 } : Room).cells ({ frames := 1, cells := 0, slots := 0, locals := 17 } : Room).slots) _
  refine Gl.cast (ef_lio m t cs q i) ?_
  show Gl p.tables e below _ (s₁.setTop (mkF m 0 #[.val (.ref t), .val (.int q), .val (.int (Int32.ofNat i)), .val (.int (Int32.ofNat cs.length))] []))
  refine Gl.st (fun _ kq => XS.iloadN X0.here hx rfl (hb hby d12_0) rfl kq) ?_
  show Gl p.tables e below _ (s₁.setTop (mkF m 1 #[.val (.ref t), .val (.int q), .val (.int (Int32.ofNat i)), .val (.int (Int32.ofNat cs.length))] [(.int q)]))
  obtain ⟨_, _, ⟨T1, L1, k1, n1⟩, -, X1, ⟨Lc1, hQ1, l1, y1, z1⟩, st1⟩ := Jvm.LawKit.callS X0 hx (y := (⟨"java/lang/StringLatin1", "canEncode", "(I)Z"⟩ : MethodName)) hown (mvT hZ (tw hw 64 rfl)) (mvT hZ (tw hw 65 rfl)) (mvT hZ (tw hw 62 rfl)) (mvT hZ (tw hw 66 rfl)) (by decide) (backOf (W := 0) (rm_cei l Z a0 hw [] (q) h0 n0 Z0 hq0 hq1) hZ (tw hw 66 rfl) (tw hw 62 rfl) (by decide) (by decide)) (g := (mkF m 1 #[.val (.ref t), .val (.int q), .val (.int (Int32.ofNat i)), .val (.int (Int32.ofNat cs.length))] [(.int q)])) rfl (by rw [hml]; rfl) (argsL := [(.int q)]) (rest := []) (lenOf pd__I_Z rfl) rfl (by show 2 * 0 + _ ≤ _; exact Nat.le_of_eq rfl) (hb hby d12_1) (fun _ _ => ⟨rfl, e0, (by decide : 0 + 0 ≤ _), (by decide : 0 + 0 ≤ _)⟩)
  dsimp only [Pt.U, Pt.locs, Pt.cells, Pt.slots] at X1 l1 y1 z1 st1 hQ1
  subst l1 y1 z1
  obtain ⟨rfl, N1, e1⟩ := hQ1
  have M1 := Fr.app N0 N1
  refine Gl.st st1 ?_
  show Gl p.tables e below _ (T1.setTop (mkF m 4 #[.val (.ref t), .val (.int q), .val (.int (Int32.ofNat i)), .val (.int (Int32.ofNat cs.length))] [(.int 1)]))
  show Gl p.tables e below _ (T1.setTop (mkF m 4 #[.val (.ref t), .val (.int q), .val (.int (Int32.ofNat i)), .val (.int (Int32.ofNat cs.length))] [(.int 1)]))
  refine Gl.st (fun _ kq => XS.ifYes X1.here hx rfl (pc0 := 4) (pc' := 9) rfl (hb hby d12_4) rfl ((if0 _ _).trans (feq ((by decide) : ¬ ((1 : Int32) = (0 : Int32)))).2) (by decide) (by decide) kq) ?_
  show Gl p.tables e below _ (T1.setTop (mkF m 9 #[.val (.ref t), .val (.int q), .val (.int (Int32.ofNat i)), .val (.int (Int32.ofNat cs.length))] []))
  refine Gl.st (fun _ kq => XS.iloadN X1.here hx rfl (hb hby d12_9) rfl kq) ?_
  show Gl p.tables e below _ (T1.setTop (mkF m 10 #[.val (.ref t), .val (.int q), .val (.int (Int32.ofNat i)), .val (.int (Int32.ofNat cs.length))] [(.int (Int32.ofNat i))]))
  refine Gl.st (fun _ kq => XS.iconst X1.here hx rfl (hb hby d12_10) kq) ?_
  show Gl p.tables e below _ (T1.setTop (mkF m 11 #[.val (.ref t), .val (.int q), .val (.int (Int32.ofNat i)), .val (.int (Int32.ofNat cs.length))] [(.int 0), (.int (Int32.ofNat i))]))
  obtain ⟨_, _, ⟨T2, L2, k2, n2⟩, -, X2, ⟨Lc2, hQ2, l2, y2, z2⟩, st2⟩ := Jvm.LawKit.callS X1 hx (y := (⟨"java/lang/Math", "max", "(II)I"⟩ : MethodName)) hown (mvT hZ (tw hw 67 rfl)) (mvT hZ (tw hw 68 rfl)) (mvT hZ (tw hw 69 rfl)) (mvT hZ (tw hw 70 rfl)) (by decide) (backOf (W := 0) (rm_mx l Z a0 hw [] ((Int32.ofNat i)) ((0 : Int32)) h0 n0 Z0 ) hZ (tw hw 70 rfl) (tw hw 69 rfl) (by decide) (by decide)) (g := (mkF m 11 #[.val (.ref t), .val (.int q), .val (.int (Int32.ofNat i)), .val (.int (Int32.ofNat cs.length))] [(.int 0), (.int (Int32.ofNat i))])) rfl (by rw [hml]; rfl) (argsL := [(.int (Int32.ofNat i)), (.int 0)]) (rest := []) (lenOf pd__II_I rfl) rfl (by show 2 * 0 + _ ≤ _; exact Nat.le_of_eq rfl) (hb hby d12_11) (fun _ _ => ⟨rfl, e1, (by decide : 0 + 0 ≤ _), (by decide : 0 + 0 ≤ _)⟩)
  dsimp only [Pt.U, Pt.locs, Pt.cells, Pt.slots] at X2 l2 y2 z2 st2 hQ2
  subst l2 y2 z2
  rcases hQ2 with ⟨rfl, N2, e2, y2_0⟩ | ⟨rfl, N2, e2, y2_0⟩
  · have M2 := Fr.app M1 N2
    refine Gl.st st2 ?_
    show Gl p.tables e below _ (T2.setTop (mkF m 14 #[.val (.ref t), .val (.int q), .val (.int (Int32.ofNat i)), .val (.int (Int32.ofNat cs.length))] [(.int (Int32.ofNat i))]))
    refine Gl.st (fun _ kq => XS.istoreN X2.here hx rfl (hb hby d12_14) rfl (l' := #[.val (.ref t), .val (.int q), .val (.int (Int32.ofNat i)), .val (.int (Int32.ofNat cs.length))]) rfl kq) ?_
    show Gl p.tables e below _ (T2.setTop (mkF m 15 #[.val (.ref t), .val (.int q), .val (.int (Int32.ofNat i)), .val (.int (Int32.ofNat cs.length))] []))
    refine Gl.st (fun _ kq => XS.iloadN X2.here hx rfl (hb hby d12_15) rfl kq) ?_
    show Gl p.tables e below _ (T2.setTop (mkF m 16 #[.val (.ref t), .val (.int q), .val (.int (Int32.ofNat i)), .val (.int (Int32.ofNat cs.length))] [(.int (Int32.ofNat cs.length))]))
    refine Gl.st (fun _ kq => XS.aloadN X2.here hx rfl (hb hby d12_16) rfl rfl kq) ?_
    show Gl p.tables e below _ (T2.setTop (mkF m 17 #[.val (.ref t), .val (.int q), .val (.int (Int32.ofNat i)), .val (.int (Int32.ofNat cs.length))] [(.ref t), (.int (Int32.ofNat cs.length))]))
    obtain ⟨c3, a3, q3, S3, M3, H3, G3⟩ := id pf0
    refine Gl.st (fun _ kq => X2.arraylength hx (by rw [e2]; exact a3.1) (State.isArrayOf_alike hZ.alike a3.2.1) (g := (mkF m 17 #[.val (.ref t), .val (.int q), .val (.int (Int32.ofNat i)), .val (.int (Int32.ofNat cs.length))] [(.ref t), (.int (Int32.ofNat cs.length))])) rfl rfl (hb hby d12_17) _ kq) ?_
    rw [len_of S3 M3]
    show Gl p.tables e below _ (T2.setTop (mkF m 18 #[.val (.ref t), .val (.int q), .val (.int (Int32.ofNat i)), .val (.int (Int32.ofNat cs.length))] [(.int (Int32.ofNat cs.length)), (.int (Int32.ofNat cs.length))]))
    obtain ⟨_, _, ⟨T4, L4, k4, n4⟩, -, X4, ⟨Lc4, hQ4, l4, y4, z4⟩, st4⟩ := Jvm.LawKit.callS X2 hx (y := (⟨"java/lang/Math", "min", "(II)I"⟩ : MethodName)) hown (mvT hZ (tw hw 71 rfl)) (mvT hZ (tw hw 72 rfl)) (mvT hZ (tw hw 69 rfl)) (mvT hZ (tw hw 73 rfl)) (by decide) (backOf (W := 0) (rm_mi l Z a0 hw [] ((Int32.ofNat cs.length)) ((Int32.ofNat cs.length)) h0 n0 Z0 ) hZ (tw hw 73 rfl) (tw hw 69 rfl) (by decide) (by decide)) (g := (mkF m 18 #[.val (.ref t), .val (.int q), .val (.int (Int32.ofNat i)), .val (.int (Int32.ofNat cs.length))] [(.int (Int32.ofNat cs.length)), (.int (Int32.ofNat cs.length))])) rfl (by rw [hml]; rfl) (argsL := [(.int (Int32.ofNat cs.length)), (.int (Int32.ofNat cs.length))]) (rest := []) (lenOf pd__II_I rfl) rfl (by show 2 * 0 + _ ≤ _; exact Nat.le_of_eq rfl) (hb hby d12_18) (fun _ _ => ⟨rfl, e2, (by decide : 0 + 0 ≤ _), (by decide : 0 + 0 ≤ _)⟩)
    dsimp only [Pt.U, Pt.locs, Pt.cells, Pt.slots] at X4 l4 y4 z4 st4 hQ4
    subst l4 y4 z4
    rcases hQ4 with ⟨rfl, N4, e4, y4_0⟩ | ⟨rfl, N4, e4, y4_0⟩
    · have M4 := Fr.app M2 N4
      refine Gl.st st4 ?_
      show Gl p.tables e below _ (T4.setTop (mkF m 21 #[.val (.ref t), .val (.int q), .val (.int (Int32.ofNat i)), .val (.int (Int32.ofNat cs.length))] [(.int (Int32.ofNat cs.length))]))
      refine Gl.st (fun _ kq => XS.istoreN X4.here hx rfl (hb hby d12_21) rfl (l' := #[.val (.ref t), .val (.int q), .val (.int (Int32.ofNat i)), .val (.int (Int32.ofNat cs.length))]) rfl kq) ?_
      show Gl p.tables e below _ (T4.setTop (mkF m 22 #[.val (.ref t), .val (.int q), .val (.int (Int32.ofNat i)), .val (.int (Int32.ofNat cs.length))] []))
      refine Gl.st (fun _ kq => XS.iloadN X4.here hx rfl (hb hby d12_22) rfl kq) ?_
      show Gl p.tables e below _ (T4.setTop (mkF m 23 #[.val (.ref t), .val (.int q), .val (.int (Int32.ofNat i)), .val (.int (Int32.ofNat cs.length))] [(.int (Int32.ofNat i))]))
      refine Gl.st (fun _ kq => XS.iloadN X4.here hx rfl (hb hby d12_23) rfl kq) ?_
      show Gl p.tables e below _ (T4.setTop (mkF m 24 #[.val (.ref t), .val (.int q), .val (.int (Int32.ofNat i)), .val (.int (Int32.ofNat cs.length))] [(.int (Int32.ofNat cs.length)), (.int (Int32.ofNat i))]))
      by_cases hc5 : (Int32.ofNat i) < (Int32.ofNat cs.length)
      · refine Gl.st (fun _ kq => XS.icmpYes X4.here hx rfl (pc0 := 24) (pc' := 29) rfl (hb hby d12_24) rfl (tlt (hc5 : (Int32.ofNat i) < (Int32.ofNat cs.length))).1 (by decide) (by decide) kq) ?_
        show Gl p.tables e below _ (T4.setTop (mkF m 29 #[.val (.ref t), .val (.int q), .val (.int (Int32.ofNat i)), .val (.int (Int32.ofNat cs.length))] []))
        refine Gl.st (fun _ kq => XS.aloadN X4.here hx rfl (hb hby d12_29) rfl rfl kq) ?_
        show Gl p.tables e below _ (T4.setTop (mkF m 30 #[.val (.ref t), .val (.int q), .val (.int (Int32.ofNat i)), .val (.int (Int32.ofNat cs.length))] [(.ref t)]))
        refine Gl.st (fun _ kq => XS.iloadN X4.here hx rfl (hb hby d12_30) rfl kq) ?_
        show Gl p.tables e below _ (T4.setTop (mkF m 31 #[.val (.ref t), .val (.int q), .val (.int (Int32.ofNat i)), .val (.int (Int32.ofNat cs.length))] [(.int q), (.ref t)]))
        refine Gl.st (fun _ kq => XS.iloadN X4.here hx rfl (hb hby d12_31) rfl kq) ?_
        show Gl p.tables e below _ (T4.setTop (mkF m 32 #[.val (.ref t), .val (.int q), .val (.int (Int32.ofNat i)), .val (.int (Int32.ofNat cs.length))] [(.int (Int32.ofNat i)), (.int q), (.ref t)]))
        refine Gl.st (fun _ kq => XS.iloadN X4.here hx rfl (hb hby d12_32) rfl kq) ?_
        show Gl p.tables e below _ (T4.setTop (mkF m 33 #[.val (.ref t), .val (.int q), .val (.int (Int32.ofNat i)), .val (.int (Int32.ofNat cs.length))] [(.int (Int32.ofNat cs.length)), (.int (Int32.ofNat i)), (.int q), (.ref t)]))
        obtain ⟨_, _, ⟨T7, L7, k7, n7⟩, -, X7, ⟨Lc7, hQ7, l7, y7, z7⟩, st7⟩ := Jvm.LawKit.callS X4 hx (y := (⟨"java/lang/StringLatin1", "indexOfChar", "([BIII)I"⟩ : MethodName)) hown (mvT hZ (tw hw 106 rfl)) (mvT hZ (tw hw 107 rfl)) (mvT hZ (tw hw 62 rfl)) (mvT hZ (tw hw 108 rfl)) (by decide) (backOf (W := 0) (rm_ioc l Z a0 hw [] (t) (k) (cs) (q) (i) h0 n0 Z0 pf0 hr hl hq0 hq1 hi) hZ (tw hw 108 rfl) (tw hw 62 rfl) (by decide) (by decide)) (g := (mkF m 33 #[.val (.ref t), .val (.int q), .val (.int (Int32.ofNat i)), .val (.int (Int32.ofNat cs.length))] [(.int (Int32.ofNat cs.length)), (.int (Int32.ofNat i)), (.int q), (.ref t)])) rfl (by rw [hml]; rfl) (argsL := [(.ref t), (.int q), (.int (Int32.ofNat i)), (.int (Int32.ofNat cs.length))]) (rest := []) (lenOf pd___BIII_I rfl) rfl (by show 2 * 0 + _ ≤ _; exact Nat.le_of_eq rfl) (hb hby d12_33) (fun _ _ => ⟨rfl, e4, (by decide : 0 + 0 ≤ _), (by decide : 0 + 0 ≤ _)⟩)
        dsimp only [Pt.U, Pt.locs, Pt.cells, Pt.slots] at X7 l7 y7 z7 st7 hQ7
        subst l7 y7 z7
        rcases hQ7 with ⟨v6, rfl, N7, e7, y7_0⟩ | ⟨rfl, N7, e7, y7_0⟩
        · have M7 := Fr.app M4 N7
          refine Gl.st st7 ?_
          show Gl p.tables e below _ (T7.setTop (mkF m 36 #[.val (.ref t), .val (.int q), .val (.int (Int32.ofNat i)), .val (.int (Int32.ofNat cs.length))] [(.int (Int32.ofNat v6))]))
          exact Gl.retI X7 hx Bd.returns (hb hby d12_36) hlk (by decide) (by decide) (by rw [e7]; exact (Or.inl ⟨v6, rfl, M7, rfl, y7_0⟩))
        · have M7 := Fr.app M4 N7
          refine Gl.st st7 ?_
          show Gl p.tables e below _ (T7.setTop (mkF m 36 #[.val (.ref t), .val (.int q), .val (.int (Int32.ofNat i)), .val (.int (Int32.ofNat cs.length))] [(.int (-1))]))
          exact Gl.retI X7 hx Bd.returns (hb hby d12_36) hlk (by decide) (by decide) (by rw [e7]; exact (Or.inr (⟨rfl, M7, rfl, y7_0⟩)))
      · have hno : Nowhere q cs i := fun k h1 h2 => absurd (n32_plt (i := i) (j := cs.length) (by omega) (by omega)) hc5
        refine Gl.st (fun _ kq => XS.icmpNo X4.here hx rfl (hb hby d12_24) rfl (flt (hc5 : ¬ ((Int32.ofNat i) < (Int32.ofNat cs.length)))).1 kq) ?_
        show Gl p.tables e below _ (T4.setTop (mkF m 27 #[.val (.ref t), .val (.int q), .val (.int (Int32.ofNat i)), .val (.int (Int32.ofNat cs.length))] []))
        refine Gl.st (fun _ kq => XS.iconst X4.here hx rfl (hb hby d12_27) kq) ?_
        show Gl p.tables e below _ (T4.setTop (mkF m 28 #[.val (.ref t), .val (.int q), .val (.int (Int32.ofNat i)), .val (.int (Int32.ofNat cs.length))] [(.int (-1))]))
        exact Gl.retI X4 hx Bd.returns (hb hby d12_28) hlk (by decide) (by decide) (by rw [e4]; exact (Or.inr (⟨rfl, M4, rfl, hno⟩)))
    · exact absurd y4_0 Int32.lt_irrefl
  · exact absurd y2_0 (n32_nn (by omega))
theorem d8_0 : decode jdk_42_method_80_code 0 = .ok (.aload_n 0, 1) := by decide +kernel
theorem d8_1 : decode jdk_42_method_80_code 1 = .ok (.invokevirtual 492, 3) := by decide +kernel
theorem d8_4 : decode jdk_42_method_80_code 4 = .ok (.ifCond .eq 19, 3) := by decide +kernel
theorem d8_7 : decode jdk_42_method_80_code 7 = .ok (.aload_n 0, 1) := by decide +kernel
theorem d8_8 : decode jdk_42_method_80_code 8 = .ok (.getfield 9, 3) := by decide +kernel
theorem d8_11 : decode jdk_42_method_80_code 11 = .ok (.iload_n 1, 1) := by decide +kernel
theorem d8_12 : decode jdk_42_method_80_code 12 = .ok (.iload_n 2, 1) := by decide +kernel
theorem d8_13 : decode jdk_42_method_80_code 13 = .ok (.aload_n 0, 1) := by decide +kernel
theorem d8_14 : decode jdk_42_method_80_code 14 = .ok (.invokevirtual 505, 3) := by decide +kernel
theorem d8_17 : decode jdk_42_method_80_code 17 = .ok (.invokestatic 637, 3) := by decide +kernel
theorem d8_20 : decode jdk_42_method_80_code 20 = .ok (.goto 16, 3) := by decide +kernel
theorem d8_36 : decode jdk_42_method_80_code 36 = .ok (.ireturn, 1) := by decide +kernel
theorem ef_sio (m : MethodId) (b : Addr) (q : Int32) (i : Nat) : entryFrame m #[(.ref b), (.int q), (.int (Int32.ofNat i))] 3 = mkF m 0 #[.val (.ref b), .val (.int q), .val (.int (Int32.ofNat i))] [] := by first | (simp [entryFrame, mkF, argsToLocals, Value.category]; done) | rfl
def Q_sio (Z : State) (b : Addr) (t : Addr) (k : ClassId) (cs : List Int32) (q : Int32) (i : Nat) (G1 : Int32) (h0 : Heap) (n0 : Nat) (v : Option Value) (h : Heap) (L : List Loc) : Prop := (∃ r : Nat, v = some (.int (Int32.ofNat r)) ∧ Fr n0 L ∧ h = h0 ∧ (First q cs i r)) ∨ (v = some (.int (-1)) ∧ Fr n0 L ∧ h = h0 ∧ (Nowhere q cs i))
set_option maxRecDepth 65536 in
set_option maxHeartbeats 40000000 in
theorem rm_sio (l : Launch) (Z : State) (a0 : Array Value) (hw : ∀ d ∈ tables_1, d.before a0 Z = true) (ws : List Jvm.Cond) (b : Addr) (t : Addr) (k : ClassId) (cs : List Int32) (q : Int32) (i : Nat) (G1 : Int32) (h0 : Heap) (n0 : Nat) (Z0 : n0 ≤ h0.size) (pf0 : Exa Z h0 b "java/lang/String") (pf1 : Fld Z h0 b "java/lang/String" "coder" "B" (.int 0)) (pf2 : Fld Z h0 b "java/lang/String" "value" "[B" (.ref t)) (pf3 : Arv Z h0 t k .byte (Int32.ofNat cs.length) ((cs.map (fun c => c.toInt8.toInt32)).map Value.int) (.int 0)) (pf4 : Old Z n0 h0) (hr : Rng cs) (hl : cs.length ≤ 4) (hq0 : ¬ (q < (0 : Int32))) (hq1 : ¬ ((255 : Int32) < q)) (hi : i ≤ cs.length) (O2 : Sta Z Z.heap "java/lang/String" "COMPACT_STRINGS" "Z" (.int G1)) (P5 : ¬ (G1 = (0 : Int32))) :
    MetFree l (⟨"java/lang/String", "indexOf", "(II)I"⟩ : MethodName) (head1 (Jvm.Cond.code (⟨"java/lang/String", "indexOf", "(II)I"⟩ : MethodName) jdk_42_method_80_code 3 (some .int) :: ws) ({ frames := 2, cells := 0, slots := 0, locals := 32 } : Room)) (fun aa U => aa = #[(.ref b), (.int q), (.int (Int32.ofNat i))] ∧ Z.Warmed39 U.vm ∧ U.heap = h0) (fun _ _ _ _ _ => True) (fun _ U o U' => ∃ v L, o = .returned v ∧ Q_sio Z b t k cs q i G1 h0 n0 v U'.heap L ∧ FrameEnd U o U' L ({ frames := 2, cells := 0, slots := 0, locals := 32 } : Room).cells ({ frames := 2, cells := 0, slots := 0, locals := 32 } : Room).slots) := by
  refine MetFree.of_bodySF (plainFor_of_name pn_java_lang_String) hisR ?_
  intro p e s m args below meth c s₁ Bd hml0 hP hK
  obtain ⟨rfl, hZ, hh⟩ := hP
  have hx := Bd.exec
  have hby := Bd.bytes
  have hlk : meth.locks = false := BodyLoose.notSynchronized Bd
  have hml : c.maxLocals = 3 := hml0
  have hown : s.vm.findClass "java/lang/String" = some m.cls := findClass_of_methodNamed Bd.named
  have hnm := (name_of_methodNamed Bd.named Bd.method).1
  have X0 : Stand p l e ({ frames := 2, cells := 0, slots := 0, locals := 32 } : Room) s m #[(.ref b), (.int q), (.int (Int32.ofNat i))] below meth c s₁ [] 0 0 := Stand.of_body Bd
  have e0 : s₁.heap = h0 := by rw [← hh, Bd.state]; rfl
  have N0 := Fr.nil n0
  show Gl p.tables e below (EndN s (Q_sio Z b t k cs q i G1 h0 n0) ({ frames := 2, cells := 0, slots := 0, locals := 32 } : Room).cells ({ frames := 2, cells := 0, slots := 0, locals := 32 } : Room).slots) _
  refine Gl.cast (ef_sio m b q i) ?_
  show Gl p.tables e below _ (s₁.setTop (mkF m 0 #[.val (.ref b), .val (.int q), .val (.int (Int32.ofNat i))] []))
  refine Gl.st (fun _ kq => XS.aloadN X0.here hx rfl (hb hby d8_0) rfl rfl kq) ?_
  show Gl p.tables e below _ (s₁.setTop (mkF m 1 #[.val (.ref b), .val (.int q), .val (.int (Int32.ofNat i))] [(.ref b)]))
  obtain ⟨cq1, kq1, q1a, q1b, q1c⟩ := isOf hZ e0 pf0
  obtain ⟨_, _, ⟨T1, L1, k1, n1⟩, -, X1, ⟨Lc1, hQ1, l1, y1, z1⟩, st1⟩ := X0.virtualBack hx (y := (⟨"java/lang/String", "isLatin1", "()Z"⟩ : MethodName)) (z := (⟨"java/lang/String", "isLatin1", "()Z"⟩ : MethodName)) hown (mvT hZ (tw hw 44 rfl)) (mvT hZ (tw hw 45 rfl)) (notFace_of_selects (args := #[]) (mvT hZ (tw hw 47 rfl))) (mvT hZ (tw hw 47 rfl)) (mvT hZ (tw hw 46 rfl)) (by decide) (backOf (W := 0) (rm_isl l Z a0 hw [] (b) (G1) h0 n0 Z0 pf1 pf4 O2 P5) hZ (tw hw 48 rfl) (tw hw 11 rfl) (by decide) (by decide)) q1a q1c (g := (mkF m 1 #[.val (.ref b), .val (.int q), .val (.int (Int32.ofNat i))] [(.ref b)])) rfl (by rw [hml]; rfl) (Steps.refl _) (argsL := []) (rest := []) (lenOf pd___Z rfl) rfl (by show 2 * 0 + _ ≤ _; exact Nat.le_of_eq rfl) (hb hby d8_1) (fun _ _ => ⟨rfl, e0, (by decide : 0 + 0 ≤ _), (by decide : 0 + 0 ≤ _)⟩)
  dsimp only [Pt.U, Pt.locs, Pt.cells, Pt.slots] at X1 l1 y1 z1 st1 hQ1
  subst l1 y1 z1
  obtain ⟨rfl, N1, e1⟩ := hQ1
  have M1 := Fr.app N0 N1
  refine Gl.to st1 ?_
  show Gl p.tables e below _ (T1.setTop (mkF m 4 #[.val (.ref b), .val (.int q), .val (.int (Int32.ofNat i))] [(.int 1)]))
  show Gl p.tables e below _ (T1.setTop (mkF m 4 #[.val (.ref b), .val (.int q), .val (.int (Int32.ofNat i))] [(.int 1)]))
  refine Gl.st (fun _ kq => XS.ifNo X1.here hx rfl (hb hby d8_4) rfl ((if0 _ _).trans (feq ((by decide) : ¬ ((1 : Int32) = (0 : Int32)))).1) kq) ?_
  show Gl p.tables e below _ (T1.setTop (mkF m 7 #[.val (.ref b), .val (.int q), .val (.int (Int32.ofNat i))] []))
  refine Gl.st (fun _ kq => XS.aloadN X1.here hx rfl (hb hby d8_7) rfl rfl kq) ?_
  show Gl p.tables e below _ (T1.setTop (mkF m 8 #[.val (.ref b), .val (.int q), .val (.int (Int32.ofNat i))] [(.ref b)]))
  obtain ⟨T2, X2, e2, st2⟩ := getF X1 hx hZ hown (host := "") (Or.inl (tw hw 28 rfl)) Via.refl e1 pf2 (g := (mkF m 8 #[.val (.ref b), .val (.int q), .val (.int (Int32.ofNat i))] [(.ref b)])) rfl rfl (hb hby d8_8)
  refine Gl.st st2 ?_
  show Gl p.tables e below _ (T2.setTop (mkF m 11 #[.val (.ref b), .val (.int q), .val (.int (Int32.ofNat i))] [(.ref t)]))
  refine Gl.st (fun _ kq => XS.iloadN X2.here hx rfl (hb hby d8_11) rfl kq) ?_
  show Gl p.tables e below _ (T2.setTop (mkF m 12 #[.val (.ref b), .val (.int q), .val (.int (Int32.ofNat i))] [(.int q), (.ref t)]))
  refine Gl.st (fun _ kq => XS.iloadN X2.here hx rfl (hb hby d8_12) rfl kq) ?_
  show Gl p.tables e below _ (T2.setTop (mkF m 13 #[.val (.ref b), .val (.int q), .val (.int (Int32.ofNat i))] [(.int (Int32.ofNat i)), (.int q), (.ref t)]))
  refine Gl.st (fun _ kq => XS.aloadN X2.here hx rfl (hb hby d8_13) rfl rfl kq) ?_
  show Gl p.tables e below _ (T2.setTop (mkF m 14 #[.val (.ref b), .val (.int q), .val (.int (Int32.ofNat i))] [(.ref b), (.int (Int32.ofNat i)), (.int q), (.ref t)]))
  obtain ⟨cq3, kq3, q3a, q3b, q3c⟩ := isOf hZ e2 pf0
  obtain ⟨_, _, ⟨T3, L3, k3, n3⟩, -, X3, ⟨Lc3, hQ3, l3, y3, z3⟩, st3⟩ := X2.virtualBack hx (y := (⟨"java/lang/String", "length", "()I"⟩ : MethodName)) (z := (⟨"java/lang/String", "length", "()I"⟩ : MethodName)) hown (mvT hZ (tw hw 50 rfl)) (mvT hZ (tw hw 51 rfl)) (notFace_of_selects (args := #[]) (mvT hZ (tw hw 53 rfl))) (mvT hZ (tw hw 53 rfl)) (mvT hZ (tw hw 52 rfl)) (by decide) (StrChars.Road.lenW (W := 3) hZ (wdLen hw) (kI := 4) (tw hw 10 rfl) pf0 pf2 pf1 pf3 (StrChars.Road.codOf (cs := cs) rfl (fun x hx => (hr x hx).2)) (up255 _ hr) (O2.ext pf4.2) P5 (Nat.le_trans hl (by decide)) (by decide) (by decide)) q3a q3c (g := (mkF m 14 #[.val (.ref b), .val (.int q), .val (.int (Int32.ofNat i))] [(.ref b), (.int (Int32.ofNat i)), (.int q), (.ref t)])) rfl (by rw [hml]; rfl) (Steps.refl _) (argsL := []) (rest := [(.int (Int32.ofNat i)), (.int q), (.ref t)]) (lenOf pd___I rfl) rfl (by show 2 * 0 + _ ≤ _; exact Nat.le_of_eq rfl) (hb hby d8_14) (fun _ _ => ⟨rfl, e2, (by decide : 0 + 0 ≤ _), (by decide : 0 + 0 ≤ _)⟩)
  dsimp only [Pt.U, Pt.locs, Pt.cells, Pt.slots] at X3 l3 y3 z3 st3 hQ3
  subst l3 y3 z3
  obtain ⟨rfl, rfl, e3⟩ := hQ3
  have N3 : Fr n0 ([] : List Loc) := Fr.nil n0
  have M3 := Fr.app M1 N3
  refine Gl.to st3 ?_
  show Gl p.tables e below _ (T3.setTop (mkF m 17 #[.val (.ref b), .val (.int q), .val (.int (Int32.ofNat i))] [(.int (Int32.ofNat cs.length)), (.int (Int32.ofNat i)), (.int q), (.ref t)]))
  show Gl p.tables e below _ (T3.setTop (mkF m 17 #[.val (.ref b), .val (.int q), .val (.int (Int32.ofNat i))] [(.int (Int32.ofNat cs.length)), (.int (Int32.ofNat i)), (.int q), (.ref t)]))
  obtain ⟨_, _, ⟨T5, L5, k5, n5⟩, -, X5, ⟨Lc5, hQ5, l5, y5, z5⟩, st5⟩ := Jvm.LawKit.callS X3 hx (y := (⟨"java/lang/StringLatin1", "indexOf", "([BIII)I"⟩ : MethodName)) hown (mvT hZ (tw hw 60 rfl)) (mvT hZ (tw hw 61 rfl)) (mvT hZ (tw hw 62 rfl)) (mvT hZ (tw hw 63 rfl)) (by decide) (backOf (W := 0) (rm_lio l Z a0 hw [] (t) (k) (cs) (q) (i) h0 n0 Z0 pf3 hr hl hq0 hq1 hi) hZ (tw hw 63 rfl) (tw hw 62 rfl) (by decide) (by decide)) (g := (mkF m 17 #[.val (.ref b), .val (.int q), .val (.int (Int32.ofNat i))] [(.int (Int32.ofNat cs.length)), (.int (Int32.ofNat i)), (.int q), (.ref t)])) rfl (by rw [hml]; rfl) (argsL := [(.ref t), (.int q), (.int (Int32.ofNat i)), (.int (Int32.ofNat cs.length))]) (rest := []) (lenOf pd___BIII_I rfl) rfl (by show 2 * 0 + _ ≤ _; exact Nat.le_of_eq rfl) (hb hby d8_17) (fun _ _ => ⟨rfl, e3, (by decide : 0 + 0 ≤ _), (by decide : 0 + 0 ≤ _)⟩)
  dsimp only [Pt.U, Pt.locs, Pt.cells, Pt.slots] at X5 l5 y5 z5 st5 hQ5
  subst l5 y5 z5
  rcases hQ5 with ⟨v4, rfl, N5, e5, y5_0⟩ | ⟨rfl, N5, e5, y5_0⟩
  · have M5 := Fr.app M3 N5
    refine Gl.st st5 ?_
    show Gl p.tables e below _ (T5.setTop (mkF m 20 #[.val (.ref b), .val (.int q), .val (.int (Int32.ofNat i))] [(.int (Int32.ofNat v4))]))
    refine Gl.st (fun _ kq => XS.goto X5.here hx rfl (pc0 := 20) (pc' := 36) rfl (hb hby d8_20) (by decide) (by decide) kq) ?_
    show Gl p.tables e below _ (T5.setTop (mkF m 36 #[.val (.ref b), .val (.int q), .val (.int (Int32.ofNat i))] [(.int (Int32.ofNat v4))]))
    exact Gl.retI X5 hx Bd.returns (hb hby d8_36) hlk (by decide) (by decide) (by rw [e5]; exact (Or.inl ⟨v4, rfl, M5, rfl, y5_0⟩))
  · have M5 := Fr.app M3 N5
    refine Gl.st st5 ?_
    show Gl p.tables e below _ (T5.setTop (mkF m 20 #[.val (.ref b), .val (.int q), .val (.int (Int32.ofNat i))] [(.int (-1))]))
    refine Gl.st (fun _ kq => XS.goto X5.here hx rfl (pc0 := 20) (pc' := 36) rfl (hb hby d8_20) (by decide) (by decide) kq) ?_
    show Gl p.tables e below _ (T5.setTop (mkF m 36 #[.val (.ref b), .val (.int q), .val (.int (Int32.ofNat i))] [(.int (-1))]))
    exact Gl.retI X5 hx Bd.returns (hb hby d8_36) hlk (by decide) (by decide) (by rw [e5]; exact (Or.inr (⟨rfl, M5, rfl, y5_0⟩)))
theorem d7_0 : decode jdk_42_method_79_code 0 = .ok (.aload_n 0, 1) := by decide +kernel
theorem d7_1 : decode jdk_42_method_79_code 1 = .ok (.iload_n 1, 1) := by decide +kernel
theorem d7_2 : decode jdk_42_method_79_code 2 = .ok (.iconst 0, 1) := by decide +kernel
theorem d7_3 : decode jdk_42_method_79_code 3 = .ok (.invokevirtual 633, 3) := by decide +kernel
theorem d7_6 : decode jdk_42_method_79_code 6 = .ok (.ireturn, 1) := by decide +kernel
theorem ef_sio1 (m : MethodId) (b : Addr) (q : Int32) : entryFrame m #[(.ref b), (.int q)] 2 = mkF m 0 #[.val (.ref b), .val (.int q)] [] := by first | (simp [entryFrame, mkF, argsToLocals, Value.category]; done) | rfl
def Q_sio1 (Z : State) (b : Addr) (t : Addr) (k : ClassId) (cs : List Int32) (q : Int32) (G1 : Int32) (h0 : Heap) (n0 : Nat) (v : Option Value) (h : Heap) (L : List Loc) : Prop := (∃ r : Nat, v = some (.int (Int32.ofNat r)) ∧ Fr n0 L ∧ h = h0 ∧ (First q cs 0 r)) ∨ (v = some (.int (-1)) ∧ Fr n0 L ∧ h = h0 ∧ (Nowhere q cs 0))
set_option maxRecDepth 65536 in
set_option maxHeartbeats 40000000 in
theorem rm_sio1 (l : Launch) (Z : State) (a0 : Array Value) (hw : ∀ d ∈ tables_1, d.before a0 Z = true) (ws : List Jvm.Cond) (b : Addr) (t : Addr) (k : ClassId) (cs : List Int32) (q : Int32) (G1 : Int32) (h0 : Heap) (n0 : Nat) (Z0 : n0 ≤ h0.size) (pf0 : Exa Z h0 b "java/lang/String") (pf1 : Fld Z h0 b "java/lang/String" "coder" "B" (.int 0)) (pf2 : Fld Z h0 b "java/lang/String" "value" "[B" (.ref t)) (pf3 : Arv Z h0 t k .byte (Int32.ofNat cs.length) ((cs.map (fun c => c.toInt8.toInt32)).map Value.int) (.int 0)) (pf4 : Old Z n0 h0) (hr : Rng cs) (hl : cs.length ≤ 4) (hq0 : ¬ (q < (0 : Int32))) (hq1 : ¬ ((255 : Int32) < q)) (O2 : Sta Z Z.heap "java/lang/String" "COMPACT_STRINGS" "Z" (.int G1)) (P5 : ¬ (G1 = (0 : Int32))) :
    MetFree l (⟨"java/lang/String", "indexOf", "(I)I"⟩ : MethodName) (head1 (Jvm.Cond.code (⟨"java/lang/String", "indexOf", "(I)I"⟩ : MethodName) jdk_42_method_79_code 2 (some .int) :: ws) ({ frames := 3, cells := 0, slots := 0, locals := 46 } : Room)) (fun aa U => aa = #[(.ref b), (.int q)] ∧ Z.Warmed39 U.vm ∧ U.heap = h0) (fun _ _ _ _ _ => True) (fun _ U o U' => ∃ v L, o = .returned v ∧ Q_sio1 Z b t k cs q G1 h0 n0 v U'.heap L ∧ FrameEnd U o U' L ({ frames := 3, cells := 0, slots := 0, locals := 46 } : Room).cells ({ frames := 3, cells := 0, slots := 0, locals := 46 } : Room).slots) := by
  refine MetFree.of_bodySF (plainFor_of_name pn_java_lang_String) hisR ?_
  intro p e s m args below meth c s₁ Bd hml0 hP hK
  obtain ⟨rfl, hZ, hh⟩ := hP
  have hx := Bd.exec
  have hby := Bd.bytes
  have hlk : meth.locks = false := BodyLoose.notSynchronized Bd
  have hml : c.maxLocals = 2 := hml0
  have hown : s.vm.findClass "java/lang/String" = some m.cls := findClass_of_methodNamed Bd.named
  have hnm := (name_of_methodNamed Bd.named Bd.method).1
  have X0 : Stand p l e ({ frames := 3, cells := 0, slots := 0, locals := 46 } : Room) s m #[(.ref b), (.int q)] below meth c s₁ [] 0 0 := Stand.of_body Bd
  have e0 : s₁.heap = h0 := by rw [← hh, Bd.state]; rfl
  have N0 := Fr.nil n0
  show Gl p.tables e below (EndN s (Q_sio1 Z b t k cs q G1 h0 n0) ({ frames := 3, cells := 0, slots := 0, locals := 46 } : Room).cells ({ frames := 3, cells := 0, slots := 0, locals := 46 } : Room).slots) _
  refine Gl.cast (ef_sio1 m b q) ?_
  show Gl p.tables e below _ (s₁.setTop (mkF m 0 #[.val (.ref b), .val (.int q)] []))
  refine Gl.st (fun _ kq => XS.aloadN X0.here hx rfl (hb hby d7_0) rfl rfl kq) ?_
  show Gl p.tables e below _ (s₁.setTop (mkF m 1 #[.val (.ref b), .val (.int q)] [(.ref b)]))
  refine Gl.st (fun _ kq => XS.iloadN X0.here hx rfl (hb hby d7_1) rfl kq) ?_
  show Gl p.tables e below _ (s₁.setTop (mkF m 2 #[.val (.ref b), .val (.int q)] [(.int q), (.ref b)]))
  refine Gl.st (fun _ kq => XS.iconst X0.here hx rfl (hb hby d7_2) kq) ?_
  show Gl p.tables e below _ (s₁.setTop (mkF m 3 #[.val (.ref b), .val (.int q)] [(.int 0), (.int q), (.ref b)]))
  obtain ⟨cq2, kq2, q2a, q2b, q2c⟩ := isOf hZ e0 pf0
  obtain ⟨_, _, ⟨T2, L2, k2, n2⟩, -, X2, ⟨Lc2, hQ2, l2, y2, z2⟩, st2⟩ := X0.virtualBack hx (y := (⟨"java/lang/String", "indexOf", "(II)I"⟩ : MethodName)) (z := (⟨"java/lang/String", "indexOf", "(II)I"⟩ : MethodName)) hown (mvT hZ (tw hw 39 rfl)) (mvT hZ (tw hw 40 rfl)) (notFace_of_selects (args := #[]) (mvT hZ (tw hw 42 rfl))) (mvT hZ (tw hw 42 rfl)) (mvT hZ (tw hw 41 rfl)) (by decide) (backOf (W := 0) (rm_sio l Z a0 hw [] (b) (t) (k) (cs) (q) (0) (G1) h0 n0 Z0 pf0 pf1 pf2 pf3 pf4 hr hl hq0 hq1 (by omega) O2 P5) hZ (tw hw 43 rfl) (tw hw 11 rfl) (by decide) (by decide)) q2a q2c (g := (mkF m 3 #[.val (.ref b), .val (.int q)] [(.int 0), (.int q), (.ref b)])) rfl (by rw [hml]; rfl) (Steps.refl _) (argsL := [(.int q), (.int 0)]) (rest := []) (lenOf pd__II_I rfl) rfl (by show 2 * 0 + _ ≤ _; exact Nat.le_of_eq rfl) (hb hby d7_3) (fun _ _ => ⟨rfl, e0, (by decide : 0 + 0 ≤ _), (by decide : 0 + 0 ≤ _)⟩)
  dsimp only [Pt.U, Pt.locs, Pt.cells, Pt.slots] at X2 l2 y2 z2 st2 hQ2
  subst l2 y2 z2
  rcases hQ2 with ⟨v1, rfl, N2, e2, y2_0⟩ | ⟨rfl, N2, e2, y2_0⟩
  · have M2 := Fr.app N0 N2
    refine Gl.to st2 ?_
    show Gl p.tables e below _ (T2.setTop (mkF m 6 #[.val (.ref b), .val (.int q)] [(.int (Int32.ofNat v1))]))
    exact Gl.retI X2 hx Bd.returns (hb hby d7_6) hlk (by decide) (by decide) (by rw [e2]; exact (Or.inl ⟨v1, rfl, M2, rfl, y2_0⟩))
  · have M2 := Fr.app N0 N2
    refine Gl.to st2 ?_
    show Gl p.tables e below _ (T2.setTop (mkF m 6 #[.val (.ref b), .val (.int q)] [(.int (-1))]))
    exact Gl.retI X2 hx Bd.returns (hb hby d7_6) hlk (by decide) (by decide) (by rw [e2]; exact (Or.inr (⟨rfl, M2, rfl, y2_0⟩)))
theorem d19_0 : decode jdk_41_method_12_code 0 = .ok (.iload_n 0, 1) := by decide +kernel
theorem d19_1 : decode jdk_41_method_12_code 1 = .ok (.ifCond .lt 13, 3) := by decide +kernel
theorem d19_4 : decode jdk_41_method_12_code 4 = .ok (.iload_n 0, 1) := by decide +kernel
theorem d19_5 : decode jdk_41_method_12_code 5 = .ok (.iload_n 1, 1) := by decide +kernel
theorem d19_6 : decode jdk_41_method_12_code 6 = .ok (.if_icmp .gt 8, 3) := by decide +kernel
theorem d19_9 : decode jdk_41_method_12_code 9 = .ok (.iload_n 1, 1) := by decide +kernel
theorem d19_10 : decode jdk_41_method_12_code 10 = .ok (.iload_n 2, 1) := by decide +kernel
theorem d19_11 : decode jdk_41_method_12_code 11 = .ok (.if_icmp .le 11, 3) := by decide +kernel
theorem d19_22 : decode jdk_41_method_12_code 22 = .ok (.iload_n 0, 1) := by decide +kernel
theorem d19_23 : decode jdk_41_method_12_code 23 = .ok (.ireturn, 1) := by decide +kernel
theorem ef_cft (m : MethodId) (x : Nat) (y : Nat) (n : Nat) (fm : Value) (hfm : fm.isRef = true) : entryFrame m #[(.int (Int32.ofNat x)), (.int (Int32.ofNat y)), (.int (Int32.ofNat n)), fm] 4 = mkF m 0 #[.val (.int (Int32.ofNat x)), .val (.int (Int32.ofNat y)), .val (.int (Int32.ofNat n)), .val fm] [] := by simp [entryFrame, mkF, argsToLocals, refc hfm, show ∀ a, (Value.ref a).category = 1 from fun _ => rfl, show ∀ a, (Value.int a).category = 1 from fun _ => rfl]
def Q_cft (Z : State) (x : Nat) (y : Nat) (n : Nat) (fm : Value) (h0 : Heap) (n0 : Nat) (v : Option Value) (h : Heap) (L : List Loc) : Prop := (v = some (.int (Int32.ofNat x)) ∧ Fr n0 L ∧ h = h0)
set_option maxRecDepth 65536 in
set_option maxHeartbeats 40000000 in
theorem rm_cft (l : Launch) (Z : State) (a0 : Array Value) (hw : ∀ d ∈ tables_1, d.before a0 Z = true) (ws : List Jvm.Cond) (x : Nat) (y : Nat) (n : Nat) (fm : Value) (h0 : Heap) (n0 : Nat) (Z0 : n0 ≤ h0.size) (h1 : ¬ ((Int32.ofNat x) < (0 : Int32))) (h2 : ¬ ((Int32.ofNat y) < (Int32.ofNat x))) (h3 : ¬ ((Int32.ofNat n) < (Int32.ofNat y))) (hf : fm.isRef = true) :
    MetFree l (⟨"jdk/internal/util/Preconditions", "checkFromToIndex", "(IIILjava/util/function/BiFunction;)I"⟩ : MethodName) (head1 (Jvm.Cond.code (⟨"jdk/internal/util/Preconditions", "checkFromToIndex", "(IIILjava/util/function/BiFunction;)I"⟩ : MethodName) jdk_41_method_12_code 4 (some .int) :: ws) ({ frames := 0, cells := 0, slots := 0, locals := 0 } : Room)) (fun aa U => aa = #[(.int (Int32.ofNat x)), (.int (Int32.ofNat y)), (.int (Int32.ofNat n)), fm] ∧ Z.Warmed39 U.vm ∧ U.heap = h0) (fun _ _ _ _ _ => True) (fun _ U o U' => ∃ v L, o = .returned v ∧ Q_cft Z x y n fm h0 n0 v U'.heap L ∧ FrameEnd U o U' L ({ frames := 0, cells := 0, slots := 0, locals := 0 } : Room).cells ({ frames := 0, cells := 0, slots := 0, locals := 0 } : Room).slots) := by
  refine MetFree.of_bodySF (plainFor_of_name pn_jdk_internal_util_Preconditions) hisR ?_
  intro p e s m args below meth c s₁ Bd hml0 hP hK
  obtain ⟨rfl, hZ, hh⟩ := hP
  have hx := Bd.exec
  have hby := Bd.bytes
  have hlk : meth.locks = false := BodyLoose.notSynchronized Bd
  have hml : c.maxLocals = 4 := hml0
  have hown : s.vm.findClass "jdk/internal/util/Preconditions" = some m.cls := findClass_of_methodNamed Bd.named
  have hnm := (name_of_methodNamed Bd.named Bd.method).1
  have X0 : Stand p l e ({ frames := 0, cells := 0, slots := 0, locals := 0 } : Room) s m #[(.int (Int32.ofNat x)), (.int (Int32.ofNat y)), (.int (Int32.ofNat n)), fm] below meth c s₁ [] 0 0 := Stand.of_body Bd
  have e0 : s₁.heap = h0 := by rw [← hh, Bd.state]; rfl
  have N0 := Fr.nil n0
  show Gl p.tables e below (EndN s (Q_cft Z x y n fm h0 n0) ({ frames := 0, cells := 0, slots := 0, locals := 0 } : Room).cells ({ frames := 0, cells := 0, slots := 0, locals := 0 } : Room).slots) _
  refine Gl.cast (ef_cft m x y n fm hf) ?_
  show Gl p.tables e below _ (s₁.setTop (mkF m 0 #[.val (.int (Int32.ofNat x)), .val (.int (Int32.ofNat y)), .val (.int (Int32.ofNat n)), .val fm] []))
  refine Gl.st (fun _ kq => XS.iloadN X0.here hx rfl (hb hby d19_0) rfl kq) ?_
  show Gl p.tables e below _ (s₁.setTop (mkF m 1 #[.val (.int (Int32.ofNat x)), .val (.int (Int32.ofNat y)), .val (.int (Int32.ofNat n)), .val fm] [(.int (Int32.ofNat x))]))
  refine Gl.st (fun _ kq => XS.ifNo X0.here hx rfl (hb hby d19_1) rfl ((if0 _ _).trans (flt (h1 : ¬ ((Int32.ofNat x) < (0 : Int32)))).1) kq) ?_
  show Gl p.tables e below _ (s₁.setTop (mkF m 4 #[.val (.int (Int32.ofNat x)), .val (.int (Int32.ofNat y)), .val (.int (Int32.ofNat n)), .val fm] []))
  refine Gl.st (fun _ kq => XS.iloadN X0.here hx rfl (hb hby d19_4) rfl kq) ?_
  show Gl p.tables e below _ (s₁.setTop (mkF m 5 #[.val (.int (Int32.ofNat x)), .val (.int (Int32.ofNat y)), .val (.int (Int32.ofNat n)), .val fm] [(.int (Int32.ofNat x))]))
  refine Gl.st (fun _ kq => XS.iloadN X0.here hx rfl (hb hby d19_5) rfl kq) ?_
  show Gl p.tables e below _ (s₁.setTop (mkF m 6 #[.val (.int (Int32.ofNat x)), .val (.int (Int32.ofNat y)), .val (.int (Int32.ofNat n)), .val fm] [(.int (Int32.ofNat y)), (.int (Int32.ofNat x))]))
  refine Gl.st (fun _ kq => XS.icmpNo X0.here hx rfl (hb hby d19_6) rfl (flt (h2 : ¬ ((Int32.ofNat y) < (Int32.ofNat x)))).2.2.1 kq) ?_
  show Gl p.tables e below _ (s₁.setTop (mkF m 9 #[.val (.int (Int32.ofNat x)), .val (.int (Int32.ofNat y)), .val (.int (Int32.ofNat n)), .val fm] []))
  refine Gl.st (fun _ kq => XS.iloadN X0.here hx rfl (hb hby d19_9) rfl kq) ?_
  show Gl p.tables e below _ (s₁.setTop (mkF m 10 #[.val (.int (Int32.ofNat x)), .val (.int (Int32.ofNat y)), .val (.int (Int32.ofNat n)), .val fm] [(.int (Int32.ofNat y))]))
  refine Gl.st (fun _ kq => XS.iloadN X0.here hx rfl (hb hby d19_10) rfl kq) ?_
  show Gl p.tables e below _ (s₁.setTop (mkF m 11 #[.val (.int (Int32.ofNat x)), .val (.int (Int32.ofNat y)), .val (.int (Int32.ofNat n)), .val fm] [(.int (Int32.ofNat n)), (.int (Int32.ofNat y))]))
  refine Gl.st (fun _ kq => XS.icmpYes X0.here hx rfl (pc0 := 11) (pc' := 22) rfl (hb hby d19_11) rfl (flt (h3 : ¬ ((Int32.ofNat n) < (Int32.ofNat y)))).2.2.2 (by decide) (by decide) kq) ?_
  show Gl p.tables e below _ (s₁.setTop (mkF m 22 #[.val (.int (Int32.ofNat x)), .val (.int (Int32.ofNat y)), .val (.int (Int32.ofNat n)), .val fm] []))
  refine Gl.st (fun _ kq => XS.iloadN X0.here hx rfl (hb hby d19_22) rfl kq) ?_
  show Gl p.tables e below _ (s₁.setTop (mkF m 23 #[.val (.int (Int32.ofNat x)), .val (.int (Int32.ofNat y)), .val (.int (Int32.ofNat n)), .val fm] [(.int (Int32.ofNat x))]))
  exact Gl.retI X0 hx Bd.returns (hb hby d19_23) hlk (by decide) (by decide) (by rw [e0]; exact ⟨rfl, N0, rfl⟩)
theorem d18_0 : decode jdk_42_method_158_code 0 = .ok (.iload_n 0, 1) := by decide +kernel
theorem d18_1 : decode jdk_42_method_158_code 1 = .ok (.iload_n 1, 1) := by decide +kernel
theorem d18_2 : decode jdk_42_method_158_code 2 = .ok (.iload_n 2, 1) := by decide +kernel
theorem d18_3 : decode jdk_42_method_158_code 3 = .ok (.getstatic 1053, 3) := by decide +kernel
theorem d18_6 : decode jdk_42_method_158_code 6 = .ok (.invokestatic 1062, 3) := by decide +kernel
theorem d18_9 : decode jdk_42_method_158_code 9 = .ok (.pop, 1) := by decide +kernel
theorem d18_10 : decode jdk_42_method_158_code 10 = .ok (.return_, 1) := by decide +kernel
theorem ef_cbe (m : MethodId) (x : Nat) (y : Nat) (n : Nat) : entryFrame m #[(.int (Int32.ofNat x)), (.int (Int32.ofNat y)), (.int (Int32.ofNat n))] 3 = mkF m 0 #[.val (.int (Int32.ofNat x)), .val (.int (Int32.ofNat y)), .val (.int (Int32.ofNat n))] [] := by first | (simp [entryFrame, mkF, argsToLocals, Value.category]; done) | rfl
def Q_cbe (Z : State) (x : Nat) (y : Nat) (n : Nat) (G3 : Value) (h0 : Heap) (n0 : Nat) (v : Option Value) (h : Heap) (L : List Loc) : Prop := (v = none ∧ Fr n0 L ∧ h = h0)
set_option maxRecDepth 65536 in
set_option maxHeartbeats 40000000 in
theorem rm_cbe (l : Launch) (Z : State) (a0 : Array Value) (hw : ∀ d ∈ tables_1, d.before a0 Z = true) (ws : List Jvm.Cond) (x : Nat) (y : Nat) (n : Nat) (G3 : Value) (h0 : Heap) (n0 : Nat) (Z0 : n0 ≤ h0.size) (pf0 : Old Z n0 h0) (h1 : ¬ ((Int32.ofNat x) < (0 : Int32))) (h2 : ¬ ((Int32.ofNat y) < (Int32.ofNat x))) (h3 : ¬ ((Int32.ofNat n) < (Int32.ofNat y))) (O4 : Sta Z Z.heap "jdk/internal/util/Preconditions" "SIOOBE_FORMATTER" "Ljava/util/function/BiFunction;" G3) (rG3 : G3.isRef = true) :
    MetFree l (⟨"java/lang/String", "checkBoundsBeginEnd", "(III)V"⟩ : MethodName) (head1 (Jvm.Cond.code (⟨"java/lang/String", "checkBoundsBeginEnd", "(III)V"⟩ : MethodName) jdk_42_method_158_code 3 none :: ws) ({ frames := 1, cells := 0, slots := 0, locals := 15 } : Room)) (fun aa U => aa = #[(.int (Int32.ofNat x)), (.int (Int32.ofNat y)), (.int (Int32.ofNat n))] ∧ Z.Warmed39 U.vm ∧ U.heap = h0) (fun _ _ _ _ _ => True) (fun _ U o U' => ∃ v L, o = .returned v ∧ Q_cbe Z x y n G3 h0 n0 v U'.heap L ∧ FrameEnd U o U' L ({ frames := 1, cells := 0, slots := 0, locals := 15 } : Room).cells ({ frames := 1, cells := 0, slots := 0, locals := 15 } : Room).slots) := by
  refine MetFree.of_bodySF (plainFor_of_name pn_java_lang_String) hisR ?_
  intro p e s m args below meth c s₁ Bd hml0 hP hK
  obtain ⟨rfl, hZ, hh⟩ := hP
  have hx := Bd.exec
  have hby := Bd.bytes
  have hlk : meth.locks = false := BodyLoose.notSynchronized Bd
  have hml : c.maxLocals = 3 := hml0
  have hown : s.vm.findClass "java/lang/String" = some m.cls := findClass_of_methodNamed Bd.named
  have hnm := (name_of_methodNamed Bd.named Bd.method).1
  have X0 : Stand p l e ({ frames := 1, cells := 0, slots := 0, locals := 15 } : Room) s m #[(.int (Int32.ofNat x)), (.int (Int32.ofNat y)), (.int (Int32.ofNat n))] below meth c s₁ [] 0 0 := Stand.of_body Bd
  have e0 : s₁.heap = h0 := by rw [← hh, Bd.state]; rfl
  have N0 := Fr.nil n0
  show Gl p.tables e below (EndN s (Q_cbe Z x y n G3 h0 n0) ({ frames := 1, cells := 0, slots := 0, locals := 15 } : Room).cells ({ frames := 1, cells := 0, slots := 0, locals := 15 } : Room).slots) _
  refine Gl.cast (ef_cbe m x y n) ?_
  show Gl p.tables e below _ (s₁.setTop (mkF m 0 #[.val (.int (Int32.ofNat x)), .val (.int (Int32.ofNat y)), .val (.int (Int32.ofNat n))] []))
  refine Gl.st (fun _ kq => XS.iloadN X0.here hx rfl (hb hby d18_0) rfl kq) ?_
  show Gl p.tables e below _ (s₁.setTop (mkF m 1 #[.val (.int (Int32.ofNat x)), .val (.int (Int32.ofNat y)), .val (.int (Int32.ofNat n))] [(.int (Int32.ofNat x))]))
  refine Gl.st (fun _ kq => XS.iloadN X0.here hx rfl (hb hby d18_1) rfl kq) ?_
  show Gl p.tables e below _ (s₁.setTop (mkF m 2 #[.val (.int (Int32.ofNat x)), .val (.int (Int32.ofNat y)), .val (.int (Int32.ofNat n))] [(.int (Int32.ofNat y)), (.int (Int32.ofNat x))]))
  refine Gl.st (fun _ kq => XS.iloadN X0.here hx rfl (hb hby d18_2) rfl kq) ?_
  show Gl p.tables e below _ (s₁.setTop (mkF m 3 #[.val (.int (Int32.ofNat x)), .val (.int (Int32.ofNat y)), .val (.int (Int32.ofNat n))] [(.int (Int32.ofNat n)), (.int (Int32.ofNat y)), (.int (Int32.ofNat x))]))
  obtain ⟨T1, X1, e1, st1⟩ := getS2 X0 hx hZ hown (host := "") (Or.inl (tw hw 87 rfl)) Via.refl e0 (O4.ext pf0.2) (g := (mkF m 3 #[.val (.int (Int32.ofNat x)), .val (.int (Int32.ofNat y)), .val (.int (Int32.ofNat n))] [(.int (Int32.ofNat n)), (.int (Int32.ofNat y)), (.int (Int32.ofNat x))])) rfl (hb hby d18_3)
  refine Gl.st st1 ?_
  show Gl p.tables e below _ (T1.setTop (mkF m 6 #[.val (.int (Int32.ofNat x)), .val (.int (Int32.ofNat y)), .val (.int (Int32.ofNat n))] [G3, (.int (Int32.ofNat n)), (.int (Int32.ofNat y)), (.int (Int32.ofNat x))]))
  obtain ⟨_, _, ⟨T2, L2, k2, n2⟩, -, X2, ⟨Lc2, hQ2, l2, y2, z2⟩, st2⟩ := Jvm.LawKit.callS X1 hx (y := (⟨"jdk/internal/util/Preconditions", "checkFromToIndex", "(IIILjava/util/function/BiFunction;)I"⟩ : MethodName)) hown (mvT hZ (tw hw 89 rfl)) (mvT hZ (tw hw 90 rfl)) (mvT hZ (tw hw 88 rfl)) (mvT hZ (tw hw 91 rfl)) (by decide) (backOf (W := 0) (rm_cft l Z a0 hw [] (x) (y) (n) (G3) h0 n0 Z0 h1 h2 h3 rG3) hZ (tw hw 91 rfl) (tw hw 88 rfl) (by decide) (by decide)) (g := (mkF m 6 #[.val (.int (Int32.ofNat x)), .val (.int (Int32.ofNat y)), .val (.int (Int32.ofNat n))] [G3, (.int (Int32.ofNat n)), (.int (Int32.ofNat y)), (.int (Int32.ofNat x))])) rfl (by rw [hml]; rfl) (argsL := [(.int (Int32.ofNat x)), (.int (Int32.ofNat y)), (.int (Int32.ofNat n)), G3]) (rest := []) (lenOf pd__IIILjava_util_function_BiFunction__I rfl) rfl (by show 2 * 0 + _ ≤ _; exact Nat.le_of_eq rfl) (hb hby d18_6) (fun _ _ => ⟨rfl, e1, (by decide : 0 + 0 ≤ _), (by decide : 0 + 0 ≤ _)⟩)
  dsimp only [Pt.U, Pt.locs, Pt.cells, Pt.slots] at X2 l2 y2 z2 st2 hQ2
  subst l2 y2 z2
  obtain ⟨rfl, N2, e2⟩ := hQ2
  have M2 := Fr.app N0 N2
  refine Gl.st st2 ?_
  show Gl p.tables e below _ (T2.setTop (mkF m 9 #[.val (.int (Int32.ofNat x)), .val (.int (Int32.ofNat y)), .val (.int (Int32.ofNat n))] [(.int (Int32.ofNat x))]))
  show Gl p.tables e below _ (T2.setTop (mkF m 9 #[.val (.int (Int32.ofNat x)), .val (.int (Int32.ofNat y)), .val (.int (Int32.ofNat n))] [(.int (Int32.ofNat x))]))
  refine Gl.st (fun _ kq => XS.pop X2.here hx rfl (hb hby d18_9) rfl rfl kq) ?_
  show Gl p.tables e below _ (T2.setTop (mkF m 10 #[.val (.int (Int32.ofNat x)), .val (.int (Int32.ofNat y)), .val (.int (Int32.ofNat n))] []))
  exact Gl.ret0 X2 hx Bd.returns (hb hby d18_10) hlk (by decide) (by decide) (by rw [e2]; exact ⟨rfl, M2, rfl⟩)
theorem d28_0 : decode jdk_65_method_131_code 0 = .ok (.iload_n 1, 1) := by decide +kernel
theorem d28_1 : decode jdk_65_method_131_code 1 = .ok (.iload_n 0, 1) := by decide +kernel
theorem d28_2 : decode jdk_65_method_131_code 2 = .ok (.if_icmp .ge 35, 3) := by decide +kernel
theorem d28_37 : decode jdk_65_method_131_code 37 = .ok (.return_, 1) := by decide +kernel
theorem ef_ckl (m : MethodId) (x : Nat) (y : Nat) : entryFrame m #[(.int (Int32.ofNat x)), (.int (Int32.ofNat y))] 2 = mkF m 0 #[.val (.int (Int32.ofNat x)), .val (.int (Int32.ofNat y))] [] := by first | (simp [entryFrame, mkF, argsToLocals, Value.category]; done) | rfl
def Q_ckl (Z : State) (x : Nat) (y : Nat) (h0 : Heap) (n0 : Nat) (v : Option Value) (h : Heap) (L : List Loc) : Prop := (v = none ∧ Fr n0 L ∧ h = h0)
set_option maxRecDepth 65536 in
set_option maxHeartbeats 40000000 in
theorem rm_ckl (l : Launch) (Z : State) (a0 : Array Value) (hw : ∀ d ∈ tables_1, d.before a0 Z = true) (ws : List Jvm.Cond) (x : Nat) (y : Nat) (h0 : Heap) (n0 : Nat) (Z0 : n0 ≤ h0.size) (h1 : ¬ ((Int32.ofNat y) < (Int32.ofNat x))) :
    MetFree l (⟨"java/util/Arrays", "checkLength", "(II)V"⟩ : MethodName) (head1 (Jvm.Cond.code (⟨"java/util/Arrays", "checkLength", "(II)V"⟩ : MethodName) jdk_65_method_131_code 2 none :: ws) ({ frames := 0, cells := 0, slots := 0, locals := 0 } : Room)) (fun aa U => aa = #[(.int (Int32.ofNat x)), (.int (Int32.ofNat y))] ∧ Z.Warmed39 U.vm ∧ U.heap = h0) (fun _ _ _ _ _ => True) (fun _ U o U' => ∃ v L, o = .returned v ∧ Q_ckl Z x y h0 n0 v U'.heap L ∧ FrameEnd U o U' L ({ frames := 0, cells := 0, slots := 0, locals := 0 } : Room).cells ({ frames := 0, cells := 0, slots := 0, locals := 0 } : Room).slots) := by
  refine MetFree.of_bodySF (plainFor_of_name pn_java_util_Arrays) hisR ?_
  intro p e s m args below meth c s₁ Bd hml0 hP hK
  obtain ⟨rfl, hZ, hh⟩ := hP
  have hx := Bd.exec
  have hby := Bd.bytes
  have hlk : meth.locks = false := BodyLoose.notSynchronized Bd
  have hml : c.maxLocals = 2 := hml0
  have hown : s.vm.findClass "java/util/Arrays" = some m.cls := findClass_of_methodNamed Bd.named
  have hnm := (name_of_methodNamed Bd.named Bd.method).1
  have X0 : Stand p l e ({ frames := 0, cells := 0, slots := 0, locals := 0 } : Room) s m #[(.int (Int32.ofNat x)), (.int (Int32.ofNat y))] below meth c s₁ [] 0 0 := Stand.of_body Bd
  have e0 : s₁.heap = h0 := by rw [← hh, Bd.state]; rfl
  have N0 := Fr.nil n0
  show Gl p.tables e below (EndN s (Q_ckl Z x y h0 n0) ({ frames := 0, cells := 0, slots := 0, locals := 0 } : Room).cells ({ frames := 0, cells := 0, slots := 0, locals := 0 } : Room).slots) _
  refine Gl.cast (ef_ckl m x y) ?_
  show Gl p.tables e below _ (s₁.setTop (mkF m 0 #[.val (.int (Int32.ofNat x)), .val (.int (Int32.ofNat y))] []))
  refine Gl.st (fun _ kq => XS.iloadN X0.here hx rfl (hb hby d28_0) rfl kq) ?_
  show Gl p.tables e below _ (s₁.setTop (mkF m 1 #[.val (.int (Int32.ofNat x)), .val (.int (Int32.ofNat y))] [(.int (Int32.ofNat y))]))
  refine Gl.st (fun _ kq => XS.iloadN X0.here hx rfl (hb hby d28_1) rfl kq) ?_
  show Gl p.tables e below _ (s₁.setTop (mkF m 2 #[.val (.int (Int32.ofNat x)), .val (.int (Int32.ofNat y))] [(.int (Int32.ofNat x)), (.int (Int32.ofNat y))]))
  refine Gl.st (fun _ kq => XS.icmpYes X0.here hx rfl (pc0 := 2) (pc' := 37) rfl (hb hby d28_2) rfl (flt (h1 : ¬ ((Int32.ofNat y) < (Int32.ofNat x)))).2.1 (by decide) (by decide) kq) ?_
  show Gl p.tables e below _ (s₁.setTop (mkF m 37 #[.val (.int (Int32.ofNat x)), .val (.int (Int32.ofNat y))] []))
  exact Gl.ret0 X0 hx Bd.returns (hb hby d28_37) hlk (by decide) (by decide) (by rw [e0]; exact ⟨rfl, N0, rfl⟩)
theorem d27_0 : decode jdk_65_method_133_code 0 = .ok (.iload_n 1, 1) := by decide +kernel
theorem d27_1 : decode jdk_65_method_133_code 1 = .ok (.iload_n 2, 1) := by decide +kernel
theorem d27_2 : decode jdk_65_method_133_code 2 = .ok (.invokestatic 343, 3) := by decide +kernel
theorem d27_5 : decode jdk_65_method_133_code 5 = .ok (.iload_n 2, 1) := by decide +kernel
theorem d27_6 : decode jdk_65_method_133_code 6 = .ok (.iload_n 1, 1) := by decide +kernel
theorem d27_7 : decode jdk_65_method_133_code 7 = .ok (.isub, 1) := by decide +kernel
theorem d27_8 : decode jdk_65_method_133_code 8 = .ok (.istore_n 3, 1) := by decide +kernel
theorem d27_9 : decode jdk_65_method_133_code 9 = .ok (.iload_n 3, 1) := by decide +kernel
theorem d27_10 : decode jdk_65_method_133_code 10 = .ok (.newarray .byte, 2) := by decide +kernel
theorem d27_12 : decode jdk_65_method_133_code 12 = .ok (.astore 4, 2) := by decide +kernel
theorem d27_14 : decode jdk_65_method_133_code 14 = .ok (.aload_n 0, 1) := by decide +kernel
theorem d27_15 : decode jdk_65_method_133_code 15 = .ok (.iload_n 1, 1) := by decide +kernel
theorem d27_16 : decode jdk_65_method_133_code 16 = .ok (.aload 4, 2) := by decide +kernel
theorem d27_18 : decode jdk_65_method_133_code 18 = .ok (.iconst 0, 1) := by decide +kernel
theorem d27_19 : decode jdk_65_method_133_code 19 = .ok (.aload_n 0, 1) := by decide +kernel
theorem d27_20 : decode jdk_65_method_133_code 20 = .ok (.arraylength, 1) := by decide +kernel
theorem d27_21 : decode jdk_65_method_133_code 21 = .ok (.iload_n 1, 1) := by decide +kernel
theorem d27_22 : decode jdk_65_method_133_code 22 = .ok (.isub, 1) := by decide +kernel
theorem d27_23 : decode jdk_65_method_133_code 23 = .ok (.iload_n 3, 1) := by decide +kernel
theorem d27_24 : decode jdk_65_method_133_code 24 = .ok (.invokestatic 304, 3) := by decide +kernel
theorem d27_27 : decode jdk_65_method_133_code 27 = .ok (.invokestatic 150, 3) := by decide +kernel
theorem d27_30 : decode jdk_65_method_133_code 30 = .ok (.aload 4, 2) := by decide +kernel
theorem d27_32 : decode jdk_65_method_133_code 32 = .ok (.areturn, 1) := by decide +kernel
theorem ef_crb (m : MethodId) (t : Addr) (x : Nat) (d : Nat) : entryFrame m #[(.ref t), (.int (Int32.ofNat x)), (.int (Int32.ofNat (x + d)))] 5 = mkF m 0 #[.val (.ref t), .val (.int (Int32.ofNat x)), .val (.int (Int32.ofNat (x + d))), .unset, .unset] [] := by first | (simp [entryFrame, mkF, argsToLocals, Value.category]; done) | rfl
def Q_crb (Z : State) (t : Addr) (k : ClassId) (cs : List Int32) (x : Nat) (d : Nat) (h0 : Heap) (n0 : Nat) (v : Option Value) (h : Heap) (L : List Loc) : Prop := (∃ t2 : Addr, ∃ k2 : ClassId, v = some (.ref t2) ∧ Fr n0 L ∧ Keep h0 h [] ∧ Arv Z h t2 k2 .byte (Int32.ofNat d) ((((cs.drop x).take d).map (fun c => c.toInt8.toInt32)).map Value.int) (.int 0) ∧ (h0.size ≤ t2))
set_option maxRecDepth 65536 in
set_option maxHeartbeats 40000000 in
theorem rm_crb (l : Launch) (Z : State) (a0 : Array Value) (hw : ∀ d ∈ tables_1, d.before a0 Z = true) (ws : List Jvm.Cond) (t : Addr) (k : ClassId) (cs : List Int32) (x : Nat) (d : Nat) (h0 : Heap) (n0 : Nat) (Z0 : n0 ≤ h0.size) (pf0 : Arv Z h0 t k .byte (Int32.ofNat cs.length) ((cs.map (fun c => c.toInt8.toInt32)).map Value.int) (.int 0)) (hl : cs.length ≤ 4) (hx1 : x + d ≤ cs.length) :
    MetFree l (⟨"java/util/Arrays", "copyOfRangeByte", "([BII)[B"⟩ : MethodName) (head1 (Jvm.Cond.code (⟨"java/util/Arrays", "copyOfRangeByte", "([BII)[B"⟩ : MethodName) jdk_65_method_133_code 5 (some (.array .byte)) :: ws) ({ frames := 1, cells := 1, slots := 4, locals := 18 } : Room)) (fun aa U => aa = #[(.ref t), (.int (Int32.ofNat x)), (.int (Int32.ofNat (x + d)))] ∧ Z.Warmed39 U.vm ∧ U.heap = h0) (fun _ _ _ _ _ => True) (fun _ U o U' => ∃ v L, o = .returned v ∧ Q_crb Z t k cs x d h0 n0 v U'.heap L ∧ FrameEnd U o U' L ({ frames := 1, cells := 1, slots := 4, locals := 18 } : Room).cells ({ frames := 1, cells := 1, slots := 4, locals := 18 } : Room).slots) := by
  refine MetFree.of_bodySF (plainFor_of_name pn_java_util_Arrays) hisR ?_
  intro p e s m args below meth c s₁ Bd hml0 hP hK
  obtain ⟨rfl, hZ, hh⟩ := hP
  have hx := Bd.exec
  have hby := Bd.bytes
  have hlk : meth.locks = false := BodyLoose.notSynchronized Bd
  have hml : c.maxLocals = 5 := hml0
  have hown : s.vm.findClass "java/util/Arrays" = some m.cls := findClass_of_methodNamed Bd.named
  have hnm := (name_of_methodNamed Bd.named Bd.method).1
  have X0 : Stand p l e ({ frames := 1, cells := 1, slots := 4, locals := 18 } : Room) s m #[(.ref t), (.int (Int32.ofNat x)), (.int (Int32.ofNat (x + d)))] below meth c s₁ [] 0 0 := Stand.of_body Bd
  have e0 : s₁.heap = h0 := by rw [← hh, Bd.state]; rfl
  have N0 := Fr.nil n0
  show Gl p.tables e below (EndN s (Q_crb Z t k cs x d h0 n0) ({ frames := 1, cells := 1, slots := 4, locals := 18 } : Room).cells ({ frames := 1, cells := 1, slots := 4, locals := 18 } : Room).slots) _
  refine Gl.cast (ef_crb m t x d) ?_
  show Gl p.tables e below _ (s₁.setTop (mkF m 0 #[.val (.ref t), .val (.int (Int32.ofNat x)), .val (.int (Int32.ofNat (x + d))), .unset, .unset] []))
  refine Gl.st (fun _ kq => XS.iloadN X0.here hx rfl (hb hby d27_0) rfl kq) ?_
  show Gl p.tables e below _ (s₁.setTop (mkF m 1 #[.val (.ref t), .val (.int (Int32.ofNat x)), .val (.int (Int32.ofNat (x + d))), .unset, .unset] [(.int (Int32.ofNat x))]))
  refine Gl.st (fun _ kq => XS.iloadN X0.here hx rfl (hb hby d27_1) rfl kq) ?_
  show Gl p.tables e below _ (s₁.setTop (mkF m 2 #[.val (.ref t), .val (.int (Int32.ofNat x)), .val (.int (Int32.ofNat (x + d))), .unset, .unset] [(.int (Int32.ofNat (x + d))), (.int (Int32.ofNat x))]))
  obtain ⟨_, _, ⟨T1, L1, k1, n1⟩, -, X1, ⟨Lc1, hQ1, l1, y1, z1⟩, st1⟩ := Jvm.LawKit.callS X0 hx (y := (⟨"java/util/Arrays", "checkLength", "(II)V"⟩ : MethodName)) hown (mvT hZ (tw hw 120 rfl)) (mvT hZ (tw hw 121 rfl)) (mvT hZ (tw hw 115 rfl)) (mvT hZ (tw hw 122 rfl)) (by decide) (backOf (W := 0) (rm_ckl l Z a0 hw [] (x) ((x + d)) h0 n0 Z0 (n32_nlt (i := (x + d)) (j := x) (by omega) (by omega) (by omega))) hZ (tw hw 122 rfl) (tw hw 115 rfl) (by decide) (by decide)) (g := (mkF m 2 #[.val (.ref t), .val (.int (Int32.ofNat x)), .val (.int (Int32.ofNat (x + d))), .unset, .unset] [(.int (Int32.ofNat (x + d))), (.int (Int32.ofNat x))])) rfl (by rw [hml]; rfl) (argsL := [(.int (Int32.ofNat x)), (.int (Int32.ofNat (x + d)))]) (rest := []) (lenOf pd__II_V rfl) rfl (by show 2 * 0 + _ ≤ _; exact Nat.le_of_eq rfl) (hb hby d27_2) (fun _ _ => ⟨rfl, e0, (by decide : 0 + 0 ≤ _), (by decide : 0 + 0 ≤ _)⟩)
  dsimp only [Pt.U, Pt.locs, Pt.cells, Pt.slots] at X1 l1 y1 z1 st1 hQ1
  subst l1 y1 z1
  obtain ⟨rfl, N1, e1⟩ := hQ1
  have M1 := Fr.app N0 N1
  refine Gl.st st1 ?_
  show Gl p.tables e below _ (T1.setTop (mkF m 5 #[.val (.ref t), .val (.int (Int32.ofNat x)), .val (.int (Int32.ofNat (x + d))), .unset, .unset] []))
  show Gl p.tables e below _ (T1.setTop (mkF m 5 #[.val (.ref t), .val (.int (Int32.ofNat x)), .val (.int (Int32.ofNat (x + d))), .unset, .unset] []))
  refine Gl.st (fun _ kq => XS.iloadN X1.here hx rfl (hb hby d27_5) rfl kq) ?_
  show Gl p.tables e below _ (T1.setTop (mkF m 6 #[.val (.ref t), .val (.int (Int32.ofNat x)), .val (.int (Int32.ofNat (x + d))), .unset, .unset] [(.int (Int32.ofNat (x + d)))]))
  refine Gl.st (fun _ kq => XS.iloadN X1.here hx rfl (hb hby d27_6) rfl kq) ?_
  show Gl p.tables e below _ (T1.setTop (mkF m 7 #[.val (.ref t), .val (.int (Int32.ofNat x)), .val (.int (Int32.ofNat (x + d))), .unset, .unset] [(.int (Int32.ofNat x)), (.int (Int32.ofNat (x + d)))]))
  refine Gl.st (fun _ kq => XS.isub X1.here hx rfl (hb hby d27_7) rfl kq) ?_
  show Gl p.tables e below _ (T1.setTop (mkF m 8 #[.val (.ref t), .val (.int (Int32.ofNat x)), .val (.int (Int32.ofNat (x + d))), .unset, .unset] [(.int ((Int32.ofNat (x + d)) - (Int32.ofNat x)))]))
  rw [show Int32.ofNat (x + d) - Int32.ofNat x = Int32.ofNat d from by rw [n32_sub (by omega)]; congr 1; omega]
  show Gl p.tables e below _ (T1.setTop (mkF m 8 #[.val (.ref t), .val (.int (Int32.ofNat x)), .val (.int (Int32.ofNat (x + d))), .unset, .unset] [(.int (Int32.ofNat d))]))
  refine Gl.st (fun _ kq => XS.istoreN X1.here hx rfl (hb hby d27_8) rfl (l' := #[.val (.ref t), .val (.int (Int32.ofNat x)), .val (.int (Int32.ofNat (x + d))), .val (.int (Int32.ofNat d)), .unset]) rfl kq) ?_
  show Gl p.tables e below _ (T1.setTop (mkF m 9 #[.val (.ref t), .val (.int (Int32.ofNat x)), .val (.int (Int32.ofNat (x + d))), .val (.int (Int32.ofNat d)), .unset] []))
  refine Gl.st (fun _ kq => XS.iloadN X1.here hx rfl (hb hby d27_9) rfl kq) ?_
  show Gl p.tables e below _ (T1.setTop (mkF m 10 #[.val (.ref t), .val (.int (Int32.ofNat x)), .val (.int (Int32.ofNat (x + d))), .val (.int (Int32.ofNat d)), .unset] [(.int (Int32.ofNat d))]))
  obtain ⟨T2, h2, k2, X2, e2, E2, A2, st2⟩ := newP X1 hx hZ (tw hw 23 rfl) e1 (g := (mkF m 10 #[.val (.ref t), .val (.int (Int32.ofNat x)), .val (.int (Int32.ofNat (x + d))), .val (.int (Int32.ofNat d)), .unset] [(.int (Int32.ofNat d))])) rfl (hb hby d27_10) rfl (n32_nn (by omega)) (cap := 4) (by rw [n32_cl (by omega)]; omega) (by decide) (by decide) (by decide)
  obtain ⟨b2, g2⟩ : ∃ z, z = h0.size := ⟨_, rfl⟩
  rw [← g2] at A2 st2
  refine Gl.st st2 ?_
  have g3 : n0 ≤ b2 := Nat.le_trans Z0 (Nat.le_of_eq g2.symm)
  have s4 : h0.size ≤ b2 := Nat.le_trans (Nat.le_refl _) (Nat.le_of_eq g2.symm)
  have V2 : Arv Z h2 b2 k2 .byte (Int32.ofNat d) ([] ++ List.replicate d (.int 0)) (.int 0) := (Arv.new A2 (n32_nn (by omega))).pad (pad_rep [] (.int 0) d)
  show Gl p.tables e below _ (T2.setTop (mkF m 12 #[.val (.ref t), .val (.int (Int32.ofNat x)), .val (.int (Int32.ofNat (x + d))), .val (.int (Int32.ofNat d)), .unset] [(.ref b2)]))
  refine Gl.st (fun _ kq => XS.astore X2.here hx rfl (hb hby d27_12) rfl rfl (l' := #[.val (.ref t), .val (.int (Int32.ofNat x)), .val (.int (Int32.ofNat (x + d))), .val (.int (Int32.ofNat d)), .val (.ref b2)]) rfl kq) ?_
  show Gl p.tables e below _ (T2.setTop (mkF m 14 #[.val (.ref t), .val (.int (Int32.ofNat x)), .val (.int (Int32.ofNat (x + d))), .val (.int (Int32.ofNat d)), .val (.ref b2)] []))
  refine Gl.st (fun _ kq => XS.aloadN X2.here hx rfl (hb hby d27_14) rfl rfl kq) ?_
  show Gl p.tables e below _ (T2.setTop (mkF m 15 #[.val (.ref t), .val (.int (Int32.ofNat x)), .val (.int (Int32.ofNat (x + d))), .val (.int (Int32.ofNat d)), .val (.ref b2)] [(.ref t)]))
  refine Gl.st (fun _ kq => XS.iloadN X2.here hx rfl (hb hby d27_15) rfl kq) ?_
  show Gl p.tables e below _ (T2.setTop (mkF m 16 #[.val (.ref t), .val (.int (Int32.ofNat x)), .val (.int (Int32.ofNat (x + d))), .val (.int (Int32.ofNat d)), .val (.ref b2)] [(.int (Int32.ofNat x)), (.ref t)]))
  refine Gl.st (fun _ kq => XS.aload X2.here hx rfl (hb hby d27_16) rfl rfl kq) ?_
  show Gl p.tables e below _ (T2.setTop (mkF m 18 #[.val (.ref t), .val (.int (Int32.ofNat x)), .val (.int (Int32.ofNat (x + d))), .val (.int (Int32.ofNat d)), .val (.ref b2)] [(.ref b2), (.int (Int32.ofNat x)), (.ref t)]))
  refine Gl.st (fun _ kq => XS.iconst X2.here hx rfl (hb hby d27_18) kq) ?_
  show Gl p.tables e below _ (T2.setTop (mkF m 19 #[.val (.ref t), .val (.int (Int32.ofNat x)), .val (.int (Int32.ofNat (x + d))), .val (.int (Int32.ofNat d)), .val (.ref b2)] [(.int 0), (.ref b2), (.int (Int32.ofNat x)), (.ref t)]))
  refine Gl.st (fun _ kq => XS.aloadN X2.here hx rfl (hb hby d27_19) rfl rfl kq) ?_
  show Gl p.tables e below _ (T2.setTop (mkF m 20 #[.val (.ref t), .val (.int (Int32.ofNat x)), .val (.int (Int32.ofNat (x + d))), .val (.int (Int32.ofNat d)), .val (.ref b2)] [(.ref t), (.int 0), (.ref b2), (.int (Int32.ofNat x)), (.ref t)]))
  have f5 : Arv Z h2 t k .byte (Int32.ofNat cs.length) ((cs.map (fun c => c.toInt8.toInt32)).map Value.int) (.int 0) := (pf0.ext E2)
  obtain ⟨c6, a6, q6, S6, M6, H6, G6⟩ := id f5
  refine Gl.st (fun _ kq => X2.arraylength hx (by rw [e2]; exact a6.1) (State.isArrayOf_alike hZ.alike a6.2.1) (g := (mkF m 20 #[.val (.ref t), .val (.int (Int32.ofNat x)), .val (.int (Int32.ofNat (x + d))), .val (.int (Int32.ofNat d)), .val (.ref b2)] [(.ref t), (.int 0), (.ref b2), (.int (Int32.ofNat x)), (.ref t)])) rfl rfl (hb hby d27_20) _ kq) ?_
  rw [len_of S6 M6]
  show Gl p.tables e below _ (T2.setTop (mkF m 21 #[.val (.ref t), .val (.int (Int32.ofNat x)), .val (.int (Int32.ofNat (x + d))), .val (.int (Int32.ofNat d)), .val (.ref b2)] [(.int (Int32.ofNat cs.length)), (.int 0), (.ref b2), (.int (Int32.ofNat x)), (.ref t)]))
  refine Gl.st (fun _ kq => XS.iloadN X2.here hx rfl (hb hby d27_21) rfl kq) ?_
  show Gl p.tables e below _ (T2.setTop (mkF m 22 #[.val (.ref t), .val (.int (Int32.ofNat x)), .val (.int (Int32.ofNat (x + d))), .val (.int (Int32.ofNat d)), .val (.ref b2)] [(.int (Int32.ofNat x)), (.int (Int32.ofNat cs.length)), (.int 0), (.ref b2), (.int (Int32.ofNat x)), (.ref t)]))
  refine Gl.st (fun _ kq => XS.isub X2.here hx rfl (hb hby d27_22) rfl kq) ?_
  show Gl p.tables e below _ (T2.setTop (mkF m 23 #[.val (.ref t), .val (.int (Int32.ofNat x)), .val (.int (Int32.ofNat (x + d))), .val (.int (Int32.ofNat d)), .val (.ref b2)] [(.int ((Int32.ofNat cs.length) - (Int32.ofNat x))), (.int 0), (.ref b2), (.int (Int32.ofNat x)), (.ref t)]))
  rw [n32_sub (i := cs.length) (j := x) (by omega)]
  show Gl p.tables e below _ (T2.setTop (mkF m 23 #[.val (.ref t), .val (.int (Int32.ofNat x)), .val (.int (Int32.ofNat (x + d))), .val (.int (Int32.ofNat d)), .val (.ref b2)] [(.int (Int32.ofNat (cs.length - x))), (.int 0), (.ref b2), (.int (Int32.ofNat x)), (.ref t)]))
  refine Gl.st (fun _ kq => XS.iloadN X2.here hx rfl (hb hby d27_23) rfl kq) ?_
  show Gl p.tables e below _ (T2.setTop (mkF m 24 #[.val (.ref t), .val (.int (Int32.ofNat x)), .val (.int (Int32.ofNat (x + d))), .val (.int (Int32.ofNat d)), .val (.ref b2)] [(.int (Int32.ofNat d)), (.int (Int32.ofNat (cs.length - x))), (.int 0), (.ref b2), (.int (Int32.ofNat x)), (.ref t)]))
  obtain ⟨_, _, ⟨T7, L7, k7, n7⟩, -, X7, ⟨Lc7, hQ7, l7, y7, z7⟩, st7⟩ := Jvm.LawKit.callS X2 hx (y := (⟨"java/lang/Math", "min", "(II)I"⟩ : MethodName)) hown (mvT hZ (tw hw 123 rfl)) (mvT hZ (tw hw 72 rfl)) (mvT hZ (tw hw 69 rfl)) (mvT hZ (tw hw 73 rfl)) (by decide) (backOf (W := 4) (rm_mi l Z a0 hw [] ((Int32.ofNat (cs.length - x))) ((Int32.ofNat d)) h2 n0 (Nat.le_trans Z0 E2.1) ) hZ (tw hw 73 rfl) (tw hw 69 rfl) (by decide) (by decide)) (g := (mkF m 24 #[.val (.ref t), .val (.int (Int32.ofNat x)), .val (.int (Int32.ofNat (x + d))), .val (.int (Int32.ofNat d)), .val (.ref b2)] [(.int (Int32.ofNat d)), (.int (Int32.ofNat (cs.length - x))), (.int 0), (.ref b2), (.int (Int32.ofNat x)), (.ref t)])) rfl (by rw [hml]; rfl) (argsL := [(.int (Int32.ofNat (cs.length - x))), (.int (Int32.ofNat d))]) (rest := [(.int 0), (.ref b2), (.int (Int32.ofNat x)), (.ref t)]) (lenOf pd__II_I rfl) rfl (by show 2 * 0 + _ ≤ _; exact Nat.le_of_eq rfl) (hb hby d27_24) (fun _ _ => ⟨rfl, e2, (by decide : 1 + 0 ≤ _), (by decide : 4 + 0 ≤ _)⟩)
  dsimp only [Pt.U, Pt.locs, Pt.cells, Pt.slots] at X7 l7 y7 z7 st7 hQ7
  subst l7 y7 z7
  rcases hQ7 with ⟨rfl, N7, e7, y7_0⟩ | ⟨rfl, N7, e7, y7_0⟩
  · have M7 := Fr.app M1 N7
    refine Gl.st st7 ?_
    show Gl p.tables e below _ (T7.setTop (mkF m 27 #[.val (.ref t), .val (.int (Int32.ofNat x)), .val (.int (Int32.ofNat (x + d))), .val (.int (Int32.ofNat d)), .val (.ref b2)] [(.int (Int32.ofNat (cs.length - x))), (.int 0), (.ref b2), (.int (Int32.ofNat x)), (.ref t)]))
    have hd : cs.length - x = d := by have q1 := y7_0; by_cases q2 : d < cs.length - x; exact absurd (n32_plt q2 (by omega)) q1; omega
    rw [hd]
    show Gl p.tables e below _ (T7.setTop (mkF m 27 #[.val (.ref t), .val (.int (Int32.ofNat x)), .val (.int (Int32.ofNat (x + d))), .val (.int (Int32.ofNat d)), .val (.ref b2)] [(.int (Int32.ofNat d)), (.int 0), (.ref b2), (.int (Int32.ofNat x)), (.ref t)]))
    obtain ⟨T8, h8, L8, X8, e8, N8, K8, V8, st8⟩ := cpA X7 hx hZ hown (tw hw 124 rfl) (tw hw 127 rfl) (tw hw 125 rfl) (tw hw 126 rfl) e7 f5 V2 (us := (List.range d).map fun i => (((cs.map (fun c => c.toInt8.toInt32)).map Value.int).getD (x + i) (.int 0))) (sp := (Int32.ofNat x)) (dp := (0 : Int32)) (nn := (Int32.ofNat d)) (Or.inl ⟨rfl, rfl⟩) (n32_nn (by omega)) (by decide) (n32_nn (by omega)) (by rw [n32_cl (by omega), n32_cl (by omega), n32_cl (by omega)]; omega) (by rw [n32_cl (i := d) (by omega)]; show 0 + d ≤ d; omega) (by rw [n32_cl (by omega), n32_cl (by omega)]) (by rw [n32_cl (i := d) (by omega)]; show 0 + d ≤ _; simp) M7 g3 (g := (mkF m 27 #[.val (.ref t), .val (.int (Int32.ofNat x)), .val (.int (Int32.ofNat (x + d))), .val (.int (Int32.ofNat d)), .val (.ref b2)] [(.int (Int32.ofNat d)), (.int 0), (.ref b2), (.int (Int32.ofNat x)), (.ref t)])) rfl (by rw [hml]; rfl) rfl (hb hby d27_27) (by decide) (W := 0) (by show 2 * 0 + _ ≤ _; exact Nat.le_of_eq rfl) (by decide)
    refine Gl.st st8 ?_
    rw [n32_cl (i := d) (by omega)] at V8
    have V8 : Arv Z h8 b2 k2 .byte (Int32.ofNat d) ((((cs.drop x).take d).map (fun c => c.toInt8.toInt32)).map Value.int) (.int 0) := V8.pad (by rw [show (0 : Int32).toNatClampNeg = 0 from by decide]; exact own_copied (by omega))
    show Gl p.tables e below _ (T8.setTop (mkF m 30 #[.val (.ref t), .val (.int (Int32.ofNat x)), .val (.int (Int32.ofNat (x + d))), .val (.int (Int32.ofNat d)), .val (.ref b2)] []))
    refine Gl.st (fun _ kq => XS.aload X8.here hx rfl (hb hby d27_30) rfl rfl kq) ?_
    show Gl p.tables e below _ (T8.setTop (mkF m 32 #[.val (.ref t), .val (.int (Int32.ofNat x)), .val (.int (Int32.ofNat (x + d))), .val (.int (Int32.ofNat d)), .val (.ref b2)] [(.ref b2)]))
    have K9 : Keep h0 h8 [] := (((Keep.refl h0 []).ext E2).trans K8 (allS (Or.inr s4) all0))
    exact Gl.retA X8 hx Bd.returns rfl rfl (hb hby d27_32) hlk (by decide) (by decide) (by rw [e8]; exact ⟨b2, k2, rfl, N8, K9, V8, s4⟩)
  · have M7 := Fr.app M1 N7
    refine Gl.st st7 ?_
    show Gl p.tables e below _ (T7.setTop (mkF m 27 #[.val (.ref t), .val (.int (Int32.ofNat x)), .val (.int (Int32.ofNat (x + d))), .val (.int (Int32.ofNat d)), .val (.ref b2)] [(.int (Int32.ofNat d)), (.int 0), (.ref b2), (.int (Int32.ofNat x)), (.ref t)]))
    obtain ⟨T10, h10, L10, X10, e10, N10, K10, V10, st10⟩ := cpA X7 hx hZ hown (tw hw 124 rfl) (tw hw 127 rfl) (tw hw 125 rfl) (tw hw 126 rfl) e7 f5 V2 (us := (List.range d).map fun i => (((cs.map (fun c => c.toInt8.toInt32)).map Value.int).getD (x + i) (.int 0))) (sp := (Int32.ofNat x)) (dp := (0 : Int32)) (nn := (Int32.ofNat d)) (Or.inl ⟨rfl, rfl⟩) (n32_nn (by omega)) (by decide) (n32_nn (by omega)) (by rw [n32_cl (by omega), n32_cl (by omega), n32_cl (by omega)]; omega) (by rw [n32_cl (i := d) (by omega)]; show 0 + d ≤ d; omega) (by rw [n32_cl (by omega), n32_cl (by omega)]) (by rw [n32_cl (i := d) (by omega)]; show 0 + d ≤ _; simp) M7 g3 (g := (mkF m 27 #[.val (.ref t), .val (.int (Int32.ofNat x)), .val (.int (Int32.ofNat (x + d))), .val (.int (Int32.ofNat d)), .val (.ref b2)] [(.int (Int32.ofNat d)), (.int 0), (.ref b2), (.int (Int32.ofNat x)), (.ref t)])) rfl (by rw [hml]; rfl) rfl (hb hby d27_27) (by decide) (W := 0) (by show 2 * 0 + _ ≤ _; exact Nat.le_of_eq rfl) (by decide)
    refine Gl.st st10 ?_
    rw [n32_cl (i := d) (by omega)] at V10
    have V10 : Arv Z h10 b2 k2 .byte (Int32.ofNat d) ((((cs.drop x).take d).map (fun c => c.toInt8.toInt32)).map Value.int) (.int 0) := V10.pad (by rw [show (0 : Int32).toNatClampNeg = 0 from by decide]; exact own_copied (by omega))
    show Gl p.tables e below _ (T10.setTop (mkF m 30 #[.val (.ref t), .val (.int (Int32.ofNat x)), .val (.int (Int32.ofNat (x + d))), .val (.int (Int32.ofNat d)), .val (.ref b2)] []))
    refine Gl.st (fun _ kq => XS.aload X10.here hx rfl (hb hby d27_30) rfl rfl kq) ?_
    show Gl p.tables e below _ (T10.setTop (mkF m 32 #[.val (.ref t), .val (.int (Int32.ofNat x)), .val (.int (Int32.ofNat (x + d))), .val (.int (Int32.ofNat d)), .val (.ref b2)] [(.ref b2)]))
    have K11 : Keep h0 h10 [] := (((Keep.refl h0 []).ext E2).trans K10 (allS (Or.inr s4) all0))
    exact Gl.retA X10 hx Bd.returns rfl rfl (hb hby d27_32) hlk (by decide) (by decide) (by rw [e10]; exact ⟨b2, k2, rfl, N10, K11, V10, s4⟩)
theorem d26_0 : decode jdk_65_method_132_code 0 = .ok (.iload_n 1, 1) := by decide +kernel
theorem d26_1 : decode jdk_65_method_132_code 1 = .ok (.ifCond .ne 9, 3) := by decide +kernel
theorem d26_4 : decode jdk_65_method_132_code 4 = .ok (.iload_n 2, 1) := by decide +kernel
theorem d26_5 : decode jdk_65_method_132_code 5 = .ok (.aload_n 0, 1) := by decide +kernel
theorem d26_6 : decode jdk_65_method_132_code 6 = .ok (.arraylength, 1) := by decide +kernel
theorem d26_7 : decode jdk_65_method_132_code 7 = .ok (.if_icmp .eq 10, 3) := by decide +kernel
theorem d26_10 : decode jdk_65_method_132_code 10 = .ok (.aload_n 0, 1) := by decide +kernel
theorem d26_11 : decode jdk_65_method_132_code 11 = .ok (.iload_n 1, 1) := by decide +kernel
theorem d26_12 : decode jdk_65_method_132_code 12 = .ok (.iload_n 2, 1) := by decide +kernel
theorem d26_13 : decode jdk_65_method_132_code 13 = .ok (.invokestatic 339, 3) := by decide +kernel
theorem d26_16 : decode jdk_65_method_132_code 16 = .ok (.areturn, 1) := by decide +kernel
theorem ef_cor (m : MethodId) (t : Addr) (x : Nat) (d : Nat) : entryFrame m #[(.ref t), (.int (Int32.ofNat x)), (.int (Int32.ofNat (x + d)))] 3 = mkF m 0 #[.val (.ref t), .val (.int (Int32.ofNat x)), .val (.int (Int32.ofNat (x + d)))] [] := by first | (simp [entryFrame, mkF, argsToLocals, Value.category]; done) | rfl
def Q_cor (Z : State) (t : Addr) (k : ClassId) (cs : List Int32) (x : Nat) (d : Nat) (h0 : Heap) (n0 : Nat) (v : Option Value) (h : Heap) (L : List Loc) : Prop := (∃ t2 : Addr, ∃ k2 : ClassId, v = some (.ref t2) ∧ Fr n0 L ∧ Keep h0 h [] ∧ Arv Z h t2 k2 .byte (Int32.ofNat d) ((((cs.drop x).take d).map (fun c => c.toInt8.toInt32)).map Value.int) (.int 0) ∧ (h0.size ≤ t2))
set_option maxRecDepth 65536 in
set_option maxHeartbeats 40000000 in
theorem rm_cor (l : Launch) (Z : State) (a0 : Array Value) (hw : ∀ d ∈ tables_1, d.before a0 Z = true) (ws : List Jvm.Cond) (t : Addr) (k : ClassId) (cs : List Int32) (x : Nat) (d : Nat) (h0 : Heap) (n0 : Nat) (Z0 : n0 ≤ h0.size) (pf0 : Arv Z h0 t k .byte (Int32.ofNat cs.length) ((cs.map (fun c => c.toInt8.toInt32)).map Value.int) (.int 0)) (hl : cs.length ≤ 4) (hx1 : x + d ≤ cs.length) (hnw : ¬ (x = 0 ∧ x + d = cs.length)) :
    MetFree l (⟨"java/util/Arrays", "copyOfRange", "([BII)[B"⟩ : MethodName) (head1 (Jvm.Cond.code (⟨"java/util/Arrays", "copyOfRange", "([BII)[B"⟩ : MethodName) jdk_65_method_132_code 3 (some (.array .byte)) :: ws) ({ frames := 2, cells := 1, slots := 4, locals := 34 } : Room)) (fun aa U => aa = #[(.ref t), (.int (Int32.ofNat x)), (.int (Int32.ofNat (x + d)))] ∧ Z.Warmed39 U.vm ∧ U.heap = h0) (fun _ _ _ _ _ => True) (fun _ U o U' => ∃ v L, o = .returned v ∧ Q_cor Z t k cs x d h0 n0 v U'.heap L ∧ FrameEnd U o U' L ({ frames := 2, cells := 1, slots := 4, locals := 34 } : Room).cells ({ frames := 2, cells := 1, slots := 4, locals := 34 } : Room).slots) := by
  refine MetFree.of_bodySF (plainFor_of_name pn_java_util_Arrays) hisR ?_
  intro p e s m args below meth c s₁ Bd hml0 hP hK
  obtain ⟨rfl, hZ, hh⟩ := hP
  have hx := Bd.exec
  have hby := Bd.bytes
  have hlk : meth.locks = false := BodyLoose.notSynchronized Bd
  have hml : c.maxLocals = 3 := hml0
  have hown : s.vm.findClass "java/util/Arrays" = some m.cls := findClass_of_methodNamed Bd.named
  have hnm := (name_of_methodNamed Bd.named Bd.method).1
  have X0 : Stand p l e ({ frames := 2, cells := 1, slots := 4, locals := 34 } : Room) s m #[(.ref t), (.int (Int32.ofNat x)), (.int (Int32.ofNat (x + d)))] below meth c s₁ [] 0 0 := Stand.of_body Bd
  have e0 : s₁.heap = h0 := by rw [← hh, Bd.state]; rfl
  have N0 := Fr.nil n0
  show Gl p.tables e below (EndN s (Q_cor Z t k cs x d h0 n0) ({ frames := 2, cells := 1, slots := 4, locals := 34 } : Room).cells ({ frames := 2, cells := 1, slots := 4, locals := 34 } : Room).slots) _
  refine Gl.cast (ef_cor m t x d) ?_
  show Gl p.tables e below _ (s₁.setTop (mkF m 0 #[.val (.ref t), .val (.int (Int32.ofNat x)), .val (.int (Int32.ofNat (x + d)))] []))
  refine Gl.st (fun _ kq => XS.iloadN X0.here hx rfl (hb hby d26_0) rfl kq) ?_
  show Gl p.tables e below _ (s₁.setTop (mkF m 1 #[.val (.ref t), .val (.int (Int32.ofNat x)), .val (.int (Int32.ofNat (x + d)))] [(.int (Int32.ofNat x))]))
  by_cases hc1 : (Int32.ofNat x) = (0 : Int32)
  · refine Gl.st (fun _ kq => XS.ifNo X0.here hx rfl (hb hby d26_1) rfl ((if0 _ _).trans (teq (hc1 : (Int32.ofNat x) = (0 : Int32))).2) kq) ?_
    show Gl p.tables e below _ (s₁.setTop (mkF m 4 #[.val (.ref t), .val (.int (Int32.ofNat x)), .val (.int (Int32.ofNat (x + d)))] []))
    refine Gl.st (fun _ kq => XS.iloadN X0.here hx rfl (hb hby d26_4) rfl kq) ?_
    show Gl p.tables e below _ (s₁.setTop (mkF m 5 #[.val (.ref t), .val (.int (Int32.ofNat x)), .val (.int (Int32.ofNat (x + d)))] [(.int (Int32.ofNat (x + d)))]))
    refine Gl.st (fun _ kq => XS.aloadN X0.here hx rfl (hb hby d26_5) rfl rfl kq) ?_
    show Gl p.tables e below _ (s₁.setTop (mkF m 6 #[.val (.ref t), .val (.int (Int32.ofNat x)), .val (.int (Int32.ofNat (x + d)))] [(.ref t), (.int (Int32.ofNat (x + d)))]))
    obtain ⟨c2, a2, q2, S2, M2, H2, G2⟩ := id pf0
    refine Gl.st (fun _ kq => X0.arraylength hx (by rw [e0]; exact a2.1) (State.isArrayOf_alike hZ.alike a2.2.1) (g := (mkF m 6 #[.val (.ref t), .val (.int (Int32.ofNat x)), .val (.int (Int32.ofNat (x + d)))] [(.ref t), (.int (Int32.ofNat (x + d)))])) rfl rfl (hb hby d26_6) _ kq) ?_
    rw [len_of S2 M2]
    show Gl p.tables e below _ (s₁.setTop (mkF m 7 #[.val (.ref t), .val (.int (Int32.ofNat x)), .val (.int (Int32.ofNat (x + d)))] [(.int (Int32.ofNat cs.length)), (.int (Int32.ofNat (x + d)))]))
    refine Gl.st (fun _ kq => XS.icmpNo X0.here hx rfl (hb hby d26_7) rfl (feq ((fun q => hnw ⟨(n32_eq0 (by omega)).mp hc1, (n32_eq (by omega) (by omega)).mp q⟩) : ¬ ((Int32.ofNat (x + d)) = (Int32.ofNat cs.length)))).1 kq) ?_
    show Gl p.tables e below _ (s₁.setTop (mkF m 10 #[.val (.ref t), .val (.int (Int32.ofNat x)), .val (.int (Int32.ofNat (x + d)))] []))
    refine Gl.st (fun _ kq => XS.aloadN X0.here hx rfl (hb hby d26_10) rfl rfl kq) ?_
    show Gl p.tables e below _ (s₁.setTop (mkF m 11 #[.val (.ref t), .val (.int (Int32.ofNat x)), .val (.int (Int32.ofNat (x + d)))] [(.ref t)]))
    refine Gl.st (fun _ kq => XS.iloadN X0.here hx rfl (hb hby d26_11) rfl kq) ?_
    show Gl p.tables e below _ (s₁.setTop (mkF m 12 #[.val (.ref t), .val (.int (Int32.ofNat x)), .val (.int (Int32.ofNat (x + d)))] [(.int (Int32.ofNat x)), (.ref t)]))
    refine Gl.st (fun _ kq => XS.iloadN X0.here hx rfl (hb hby d26_12) rfl kq) ?_
    show Gl p.tables e below _ (s₁.setTop (mkF m 13 #[.val (.ref t), .val (.int (Int32.ofNat x)), .val (.int (Int32.ofNat (x + d)))] [(.int (Int32.ofNat (x + d))), (.int (Int32.ofNat x)), (.ref t)]))
    obtain ⟨_, _, ⟨T5, L5, k5, n5⟩, -, X5, ⟨Lc5, hQ5, l5, y5, z5⟩, st5⟩ := Jvm.LawKit.callS X0 hx (y := (⟨"java/util/Arrays", "copyOfRangeByte", "([BII)[B"⟩ : MethodName)) hown (mvT hZ (tw hw 117 rfl)) (mvT hZ (tw hw 118 rfl)) (mvT hZ (tw hw 115 rfl)) (mvT hZ (tw hw 119 rfl)) (by decide) (backOf (W := 0) (rm_crb l Z a0 hw [] (t) (k) (cs) (x) (d) h0 n0 Z0 pf0 hl hx1) hZ (tw hw 119 rfl) (tw hw 115 rfl) (by decide) (by decide)) (g := (mkF m 13 #[.val (.ref t), .val (.int (Int32.ofNat x)), .val (.int (Int32.ofNat (x + d)))] [(.int (Int32.ofNat (x + d))), (.int (Int32.ofNat x)), (.ref t)])) rfl (by rw [hml]; rfl) (argsL := [(.ref t), (.int (Int32.ofNat x)), (.int (Int32.ofNat (x + d)))]) (rest := []) (lenOf pd___BII__B rfl) rfl (by show 2 * 0 + _ ≤ _; exact Nat.le_of_eq rfl) (hb hby d26_13) (fun _ _ => ⟨rfl, e0, (by decide : 0 + 1 ≤ _), (by decide : 0 + 4 ≤ _)⟩)
    dsimp only [Pt.U, Pt.locs, Pt.cells, Pt.slots] at X5 l5 y5 z5 st5 hQ5
    subst l5 y5 z5
    obtain ⟨v3, v4, rfl, N5, K5, q5_0, y5_0⟩ := hQ5
    have M5 := Fr.app N0 N5
    have g6 : n0 ≤ v3 := Nat.le_trans Z0 y5_0
    have s7 : h0.size ≤ v3 := Nat.le_trans (Nat.le_refl _) y5_0
    refine Gl.st st5 ?_
    show Gl p.tables e below _ (T5.setTop (mkF m 16 #[.val (.ref t), .val (.int (Int32.ofNat x)), .val (.int (Int32.ofNat (x + d)))] [(.ref v3)]))
    show Gl p.tables e below _ (T5.setTop (mkF m 16 #[.val (.ref t), .val (.int (Int32.ofNat x)), .val (.int (Int32.ofNat (x + d)))] [(.ref v3)]))
    have K8 : Keep h0 T5.heap [] := ((Keep.refl h0 []).trans K5 all0)
    exact Gl.retA X5 hx Bd.returns rfl rfl (hb hby d26_16) hlk (by decide) (by decide) ⟨v3, v4, rfl, M5, K8, q5_0, s7⟩
  · refine Gl.st (fun _ kq => XS.ifYes X0.here hx rfl (pc0 := 1) (pc' := 10) rfl (hb hby d26_1) rfl ((if0 _ _).trans (feq (hc1 : ¬ ((Int32.ofNat x) = (0 : Int32)))).2) (by decide) (by decide) kq) ?_
    show Gl p.tables e below _ (s₁.setTop (mkF m 10 #[.val (.ref t), .val (.int (Int32.ofNat x)), .val (.int (Int32.ofNat (x + d)))] []))
    refine Gl.st (fun _ kq => XS.aloadN X0.here hx rfl (hb hby d26_10) rfl rfl kq) ?_
    show Gl p.tables e below _ (s₁.setTop (mkF m 11 #[.val (.ref t), .val (.int (Int32.ofNat x)), .val (.int (Int32.ofNat (x + d)))] [(.ref t)]))
    refine Gl.st (fun _ kq => XS.iloadN X0.here hx rfl (hb hby d26_11) rfl kq) ?_
    show Gl p.tables e below _ (s₁.setTop (mkF m 12 #[.val (.ref t), .val (.int (Int32.ofNat x)), .val (.int (Int32.ofNat (x + d)))] [(.int (Int32.ofNat x)), (.ref t)]))
    refine Gl.st (fun _ kq => XS.iloadN X0.here hx rfl (hb hby d26_12) rfl kq) ?_
    show Gl p.tables e below _ (s₁.setTop (mkF m 13 #[.val (.ref t), .val (.int (Int32.ofNat x)), .val (.int (Int32.ofNat (x + d)))] [(.int (Int32.ofNat (x + d))), (.int (Int32.ofNat x)), (.ref t)]))
    obtain ⟨_, _, ⟨T11, L11, k11, n11⟩, -, X11, ⟨Lc11, hQ11, l11, y11, z11⟩, st11⟩ := Jvm.LawKit.callS X0 hx (y := (⟨"java/util/Arrays", "copyOfRangeByte", "([BII)[B"⟩ : MethodName)) hown (mvT hZ (tw hw 117 rfl)) (mvT hZ (tw hw 118 rfl)) (mvT hZ (tw hw 115 rfl)) (mvT hZ (tw hw 119 rfl)) (by decide) (backOf (W := 0) (rm_crb l Z a0 hw [] (t) (k) (cs) (x) (d) h0 n0 Z0 pf0 hl hx1) hZ (tw hw 119 rfl) (tw hw 115 rfl) (by decide) (by decide)) (g := (mkF m 13 #[.val (.ref t), .val (.int (Int32.ofNat x)), .val (.int (Int32.ofNat (x + d)))] [(.int (Int32.ofNat (x + d))), (.int (Int32.ofNat x)), (.ref t)])) rfl (by rw [hml]; rfl) (argsL := [(.ref t), (.int (Int32.ofNat x)), (.int (Int32.ofNat (x + d)))]) (rest := []) (lenOf pd___BII__B rfl) rfl (by show 2 * 0 + _ ≤ _; exact Nat.le_of_eq rfl) (hb hby d26_13) (fun _ _ => ⟨rfl, e0, (by decide : 0 + 1 ≤ _), (by decide : 0 + 4 ≤ _)⟩)
    dsimp only [Pt.U, Pt.locs, Pt.cells, Pt.slots] at X11 l11 y11 z11 st11 hQ11
    subst l11 y11 z11
    obtain ⟨v9, v10, rfl, N11, K11, q11_0, y11_0⟩ := hQ11
    have M11 := Fr.app N0 N11
    have g12 : n0 ≤ v9 := Nat.le_trans Z0 y11_0
    have s13 : h0.size ≤ v9 := Nat.le_trans (Nat.le_refl _) y11_0
    refine Gl.st st11 ?_
    show Gl p.tables e below _ (T11.setTop (mkF m 16 #[.val (.ref t), .val (.int (Int32.ofNat x)), .val (.int (Int32.ofNat (x + d)))] [(.ref v9)]))
    show Gl p.tables e below _ (T11.setTop (mkF m 16 #[.val (.ref t), .val (.int (Int32.ofNat x)), .val (.int (Int32.ofNat (x + d)))] [(.ref v9)]))
    have K14 : Keep h0 T11.heap [] := ((Keep.refl h0 []).trans K11 all0)
    exact Gl.retA X11 hx Bd.returns rfl rfl (hb hby d26_16) hlk (by decide) (by decide) ⟨v9, v10, rfl, M11, K14, q11_0, s13⟩
theorem d29_0 : decode jdk_42_method_151_code 0 = .ok (.aload_n 0, 1) := by decide +kernel
theorem d29_1 : decode jdk_42_method_151_code 1 = .ok (.invokespecial 1, 3) := by decide +kernel
theorem d29_4 : decode jdk_42_method_151_code 4 = .ok (.aload_n 0, 1) := by decide +kernel
theorem d29_5 : decode jdk_42_method_151_code 5 = .ok (.aload_n 1, 1) := by decide +kernel
theorem d29_6 : decode jdk_42_method_151_code 6 = .ok (.putfield 9, 3) := by decide +kernel
theorem d29_9 : decode jdk_42_method_151_code 9 = .ok (.aload_n 0, 1) := by decide +kernel
theorem d29_10 : decode jdk_42_method_151_code 10 = .ok (.iload_n 2, 1) := by decide +kernel
theorem d29_11 : decode jdk_42_method_151_code 11 = .ok (.putfield 15, 3) := by decide +kernel
theorem d29_14 : decode jdk_42_method_151_code 14 = .ok (.return_, 1) := by decide +kernel
theorem ef_si (m : MethodId) (a : Addr) (t : Addr) : entryFrame m #[(.ref a), (.ref t), (.int 0)] 3 = mkF m 0 #[.val (.ref a), .val (.ref t), .val (.int 0)] [] := by first | (simp [entryFrame, mkF, argsToLocals, Value.category]; done) | rfl
def Q_si (Z : State) (a : Addr) (t : Addr) (o1 : Value) (o2 : Int32) (h0 : Heap) (n0 : Nat) (v : Option Value) (h : Heap) (L : List Loc) : Prop := (v = none ∧ Fr n0 L ∧ Keep h0 h [a] ∧ Exa Z h a "java/lang/String" ∧ Fld Z h a "java/lang/String" "value" "[B" (.ref t) ∧ Fld Z h a "java/lang/String" "coder" "B" (.int 0))
set_option maxRecDepth 65536 in
set_option maxHeartbeats 40000000 in
theorem rm_si (l : Launch) (Z : State) (a0 : Array Value) (hw : ∀ d ∈ tables_1, d.before a0 Z = true) (ws : List Jvm.Cond) (a : Addr) (t : Addr) (o1 : Value) (o2 : Int32) (h0 : Heap) (n0 : Nat) (Z0 : n0 ≤ h0.size) (pf0 : Exa Z h0 a "java/lang/String") (pf1 : Fld Z h0 a "java/lang/String" "value" "[B" o1) (pf2 : Fld Z h0 a "java/lang/String" "coder" "B" (.int o2)) (ga : n0 ≤ a) :
    MetFree l (⟨"java/lang/String", "<init>", "([BB)V"⟩ : MethodName) (head1 (Jvm.Cond.code (⟨"java/lang/String", "<init>", "([BB)V"⟩ : MethodName) jdk_42_method_151_code 3 none :: ws) ({ frames := 1, cells := 0, slots := 0, locals := 12 } : Room)) (fun aa U => aa = #[(.ref a), (.ref t), (.int 0)] ∧ Z.Warmed39 U.vm ∧ U.heap = h0) (fun _ _ _ _ _ => True) (fun _ U o U' => ∃ v L, o = .returned v ∧ Q_si Z a t o1 o2 h0 n0 v U'.heap L ∧ FrameEnd U o U' L ({ frames := 1, cells := 0, slots := 0, locals := 12 } : Room).cells ({ frames := 1, cells := 0, slots := 0, locals := 12 } : Room).slots) := by
  refine MetFree.of_bodySF (plainFor_of_name pn_java_lang_String) hisR ?_
  intro p e s m args below meth c s₁ Bd hml0 hP hK
  obtain ⟨rfl, hZ, hh⟩ := hP
  have hx := Bd.exec
  have hby := Bd.bytes
  have hlk : meth.locks = false := BodyLoose.notSynchronized Bd
  have hml : c.maxLocals = 3 := hml0
  have hown : s.vm.findClass "java/lang/String" = some m.cls := findClass_of_methodNamed Bd.named
  have hnm := (name_of_methodNamed Bd.named Bd.method).1
  have X0 : Stand p l e ({ frames := 1, cells := 0, slots := 0, locals := 12 } : Room) s m #[(.ref a), (.ref t), (.int 0)] below meth c s₁ [] 0 0 := Stand.of_body Bd
  have e0 : s₁.heap = h0 := by rw [← hh, Bd.state]; rfl
  have N0 := Fr.nil n0
  show Gl p.tables e below (EndN s (Q_si Z a t o1 o2 h0 n0) ({ frames := 1, cells := 0, slots := 0, locals := 12 } : Room).cells ({ frames := 1, cells := 0, slots := 0, locals := 12 } : Room).slots) _
  refine Gl.cast (ef_si m a t) ?_
  show Gl p.tables e below _ (s₁.setTop (mkF m 0 #[.val (.ref a), .val (.ref t), .val (.int 0)] []))
  refine Gl.st (fun _ kq => XS.aloadN X0.here hx rfl (hb hby d29_0) rfl rfl kq) ?_
  show Gl p.tables e below _ (s₁.setTop (mkF m 1 #[.val (.ref a), .val (.ref t), .val (.int 0)] [(.ref a)]))
  obtain ⟨T1, X1, e1, st1⟩ := initO X0 hx hZ hown (tw hw 19 rfl) (tw hw 20 rfl) (tw hw 21 rfl) e0 (g := (mkF m 1 #[.val (.ref a), .val (.ref t), .val (.int 0)] [(.ref a)])) rfl (by rw [hml]; rfl) rfl (hb hby d29_1) (by decide) (W := 0) (by show 2 * 0 + _ ≤ _; exact Nat.le_of_eq rfl) (by decide)
  refine Gl.st st1 ?_
  show Gl p.tables e below _ (T1.setTop (mkF m 4 #[.val (.ref a), .val (.ref t), .val (.int 0)] []))
  refine Gl.st (fun _ kq => XS.aloadN X1.here hx rfl (hb hby d29_4) rfl rfl kq) ?_
  show Gl p.tables e below _ (T1.setTop (mkF m 5 #[.val (.ref a), .val (.ref t), .val (.int 0)] [(.ref a)]))
  refine Gl.st (fun _ kq => XS.aloadN X1.here hx rfl (hb hby d29_5) rfl rfl kq) ?_
  show Gl p.tables e below _ (T1.setTop (mkF m 6 #[.val (.ref a), .val (.ref t), .val (.int 0)] [(.ref t), (.ref a)]))
  obtain ⟨T2, h2, X2, e2, W2, st2⟩ := putF X1 hx hZ hown (host := "") (Or.inl (tw hw 28 rfl)) Via.refl e1 pf1 pf0 (Or.inr ⟨(tw hw 24 rfl), rfl, hnm⟩) (tw hw 10 rfl) (ty := (.array .byte)) (by decide) rfl rfl (g := (mkF m 6 #[.val (.ref a), .val (.ref t), .val (.int 0)] [(.ref t), (.ref a)])) rfl rfl (hb hby d29_6)
  refine Gl.st st2 ?_
  have F2 : Fld Z h2 a "java/lang/String" "value" "[B" (.ref t) := Fld.same W2 pf1
  have N2 := Fr.snoc X2 N0 ga
  show Gl p.tables e below _ (T2.setTop (mkF m 9 #[.val (.ref a), .val (.ref t), .val (.int 0)] []))
  refine Gl.st (fun _ kq => XS.aloadN X2.here hx rfl (hb hby d29_9) rfl rfl kq) ?_
  show Gl p.tables e below _ (T2.setTop (mkF m 10 #[.val (.ref a), .val (.ref t), .val (.int 0)] [(.ref a)]))
  refine Gl.st (fun _ kq => XS.iloadN X2.here hx rfl (hb hby d29_10) rfl kq) ?_
  show Gl p.tables e below _ (T2.setTop (mkF m 11 #[.val (.ref a), .val (.ref t), .val (.int 0)] [(.int 0), (.ref a)]))
  have f3 : Fld Z h2 a "java/lang/String" "coder" "B" (.int o2) := (pf2.other W2 (Or.inr (slot_ne (Or.inr (tw hw 25 rfl)) (Or.inr (tw hw 24 rfl)) (by decide) (t := .byte) (t' := (.array .byte)) (by decide) (by decide))))
  have f4 : Exa Z h2 a "java/lang/String" := (pf0.wr W2)
  obtain ⟨T5, h5, X5, e5, W5, st5⟩ := putFN X2 hx hZ hown (tw hw 29 rfl) Via.refl e2 f3 f4 (Or.inr ⟨(tw hw 25 rfl), rfl, hnm⟩) (tw hw 10 rfl) (ty := .byte) (v' := (.int 0)) (by decide) rfl (by decide) (g := (mkF m 11 #[.val (.ref a), .val (.ref t), .val (.int 0)] [(.int 0), (.ref a)])) rfl rfl (hb hby d29_11)
  refine Gl.st st5 ?_
  have F5 : Fld Z h5 a "java/lang/String" "coder" "B" (.int 0) := Fld.same W5 f3
  have N5 := Fr.snoc X5 N2 ga
  show Gl p.tables e below _ (T5.setTop (mkF m 14 #[.val (.ref a), .val (.ref t), .val (.int 0)] []))
  have K6 : Keep h0 h5 [a] := (((Keep.refl h0 [a]).wr W2 (Or.inl (List.mem_of_getElem? (i := 0) rfl))).wr W5 (Or.inl (List.mem_of_getElem? (i := 0) rfl)))
  have f7 : Exa Z h5 a "java/lang/String" := (f4.wr W5)
  have f8 : Fld Z h5 a "java/lang/String" "value" "[B" (.ref t) := (F2.other W5 (Or.inr (slot_ne (Or.inr (tw hw 24 rfl)) (Or.inr (tw hw 25 rfl)) (by decide) (t := (.array .byte)) (t' := .byte) (by decide) (by decide))))
  exact Gl.ret0 X5 hx Bd.returns (hb hby d29_14) hlk (by decide) (by decide) (by rw [e5]; exact ⟨rfl, N5, K6, f7, f8, F5⟩)
theorem d25_0 : decode jdk_43_method_47_code 0 = .ok (.iload_n 2, 1) := by decide +kernel
theorem d25_1 : decode jdk_43_method_47_code 1 = .ok (.ifCond .ne 6, 3) := by decide +kernel
theorem d25_4 : decode jdk_43_method_47_code 4 = .ok (.ldc 151, 2) := by decide +kernel
theorem d25_6 : decode jdk_43_method_47_code 6 = .ok (.areturn, 1) := by decide +kernel
theorem d25_7 : decode jdk_43_method_47_code 7 = .ok (.new 1, 3) := by decide +kernel
theorem d25_10 : decode jdk_43_method_47_code 10 = .ok (.dup, 1) := by decide +kernel
theorem d25_11 : decode jdk_43_method_47_code 11 = .ok (.aload_n 0, 1) := by decide +kernel
theorem d25_12 : decode jdk_43_method_47_code 12 = .ok (.iload_n 1, 1) := by decide +kernel
theorem d25_13 : decode jdk_43_method_47_code 13 = .ok (.iload_n 1, 1) := by decide +kernel
theorem d25_14 : decode jdk_43_method_47_code 14 = .ok (.iload_n 2, 1) := by decide +kernel
theorem d25_15 : decode jdk_43_method_47_code 15 = .ok (.iadd, 1) := by decide +kernel
theorem d25_16 : decode jdk_43_method_47_code 16 = .ok (.invokestatic 232, 3) := by decide +kernel
theorem d25_19 : decode jdk_43_method_47_code 19 = .ok (.iconst 0, 1) := by decide +kernel
theorem d25_20 : decode jdk_43_method_47_code 20 = .ok (.invokespecial 112, 3) := by decide +kernel
theorem d25_23 : decode jdk_43_method_47_code 23 = .ok (.areturn, 1) := by decide +kernel
theorem ef_nst (m : MethodId) (t : Addr) (x : Nat) (d : Nat) : entryFrame m #[(.ref t), (.int (Int32.ofNat x)), (.int (Int32.ofNat d))] 3 = mkF m 0 #[.val (.ref t), .val (.int (Int32.ofNat x)), .val (.int (Int32.ofNat d))] [] := by first | (simp [entryFrame, mkF, argsToLocals, Value.category]; done) | rfl
def Q_nst (Z : State) (t : Addr) (k : ClassId) (cs : List Int32) (x : Nat) (d : Nat) (h0 : Heap) (n0 : Nat) (v : Option Value) (h : Heap) (L : List Loc) : Prop := (∃ r : Addr, ∃ t2 : Addr, ∃ k2 : ClassId, ∃ ds : List Int32, v = some (.ref r) ∧ Fr n0 L ∧ Keep h0 h [] ∧ Exa Z h r "java/lang/String" ∧ Fld Z h r "java/lang/String" "coder" "B" (.int 0) ∧ Fld Z h r "java/lang/String" "value" "[B" (.ref t2) ∧ Arv Z h t2 k2 .byte (Int32.ofNat ds.length) ((ds.map (fun c => c.toInt8.toInt32)).map Value.int) (.int 0) ∧ (ds = (cs.drop x).take d))
set_option maxRecDepth 65536 in
set_option maxHeartbeats 40000000 in
theorem rm_nst (l : Launch) (Z : State) (a0 : Array Value) (hw : ∀ d ∈ tables_1, d.before a0 Z = true) (ws : List Jvm.Cond) (t : Addr) (k : ClassId) (cs : List Int32) (x : Nat) (d : Nat) (h0 : Heap) (n0 : Nat) (Z0 : n0 ≤ h0.size) (pf0 : Arv Z h0 t k .byte (Int32.ofNat cs.length) ((cs.map (fun c => c.toInt8.toInt32)).map Value.int) (.int 0)) (hl : cs.length ≤ 4) (hx1 : x + d ≤ cs.length) (hnw : ¬ (x = 0 ∧ x + d = cs.length)) :
    MetFree l (⟨"java/lang/StringLatin1", "newString", "([BII)Ljava/lang/String;"⟩ : MethodName) (head1 (Jvm.Cond.code (⟨"java/lang/StringLatin1", "newString", "([BII)Ljava/lang/String;"⟩ : MethodName) jdk_43_method_47_code 3 (some (.object "java/lang/String")) :: ws) ({ frames := 3, cells := 2, slots := 8, locals := 50 } : Room)) (fun aa U => aa = #[(.ref t), (.int (Int32.ofNat x)), (.int (Int32.ofNat d))] ∧ Z.Warmed39 U.vm ∧ U.heap = h0 ∧ CHv Z consts_1 U.vm h0) (fun _ _ _ _ _ => True) (fun _ U o U' => ∃ v L, o = .returned v ∧ Q_nst Z t k cs x d h0 n0 v U'.heap L ∧ CHr Z consts_1 U.vm U.heap U'.vm U'.heap ∧ ReturnedEndW U o U' L ({ frames := 3, cells := 2, slots := 8, locals := 50 } : Room).cells ({ frames := 3, cells := 2, slots := 8, locals := 50 } : Room).slots) := by
  refine MetFree.of_bodySF (plainFor_of_name pn_java_lang_StringLatin1) hisR ?_
  intro p e s m args below meth c s₁ Bd hml0 hP hK
  obtain ⟨rfl, hZ, hh, hH⟩ := hP
  have hx := Bd.exec
  have hby := Bd.bytes
  have hlk : meth.locks = false := BodyLoose.notSynchronized Bd
  have hml : c.maxLocals = 3 := hml0
  have hown : s.vm.findClass "java/lang/StringLatin1" = some m.cls := findClass_of_methodNamed Bd.named
  have hnm := (name_of_methodNamed Bd.named Bd.method).1
  have X0 : Stand p l e ({ frames := 3, cells := 2, slots := 8, locals := 50 } : Room) (s.setVm s.vm) m #[(.ref t), (.int (Int32.ofNat x)), (.int (Int32.ofNat d))] below meth c s₁ [] 0 0 := Stand.of_body Bd
  have e0 : s₁.heap = h0 := by rw [← hh, Bd.state]; rfl
  have N0 := Fr.nil n0
  show Gl p.tables e below (EndH s Z consts_1 (Q_nst Z t k cs x d h0 n0) ({ frames := 3, cells := 2, slots := 8, locals := 50 } : Room).cells ({ frames := 3, cells := 2, slots := 8, locals := 50 } : Room).slots) _
  refine Gl.cast (ef_nst m t x d) ?_
  show Gl p.tables e below _ (s₁.setTop (mkF m 0 #[.val (.ref t), .val (.int (Int32.ofNat x)), .val (.int (Int32.ofNat d))] []))
  have hS0 : s.Since s.vm s₁.heap.size := (State.WarmedH.refl s).since _
  have C0 : CHr Z consts_1 s.vm h0 s.vm h0 := CHr.refl hH
  refine Gl.st (fun _ kq => XS.iloadN X0.here hx rfl (hb hby d25_0) rfl kq) ?_
  show Gl p.tables e below _ (s₁.setTop (mkF m 1 #[.val (.ref t), .val (.int (Int32.ofNat x)), .val (.int (Int32.ofNat d))] [(.int (Int32.ofNat d))]))
  by_cases hc1 : (Int32.ofNat d) = (0 : Int32)
  · refine Gl.st (fun _ kq => XS.ifNo X0.here hx rfl (hb hby d25_1) rfl ((if0 _ _).trans (teq (hc1 : (Int32.ofNat d) = (0 : Int32))).2) kq) ?_
    show Gl p.tables e below _ (s₁.setTop (mkF m 4 #[.val (.ref t), .val (.int (Int32.ofNat x)), .val (.int (Int32.ofNat d))] []))
    obtain ⟨b2, T2, h2, k2, t2, kc2, X2, e2, E2, S2, q2, hZ2, ho2, A2, F2, G2, V2, la2, lb2, R2, L2, sa2, st2⟩ := ldcCH X0 hx hZ hown (tw hw 145 rfl) (strW hw) e0 hS0 (Nat.le_of_eq (congrArg Array.size e0)) (elW hw) (by decide) C0.1 (vs := []) (z := (0 : Int32)) (litc_145) (by decide) (by decide) (g := (mkF m 4 #[.val (.ref t), .val (.int (Int32.ofNat x)), .val (.int (Int32.ofNat d))] [])) rfl (hb hby d25_4) (n := 0) (by decide) (by decide) (by decide) (by decide)
    refine Gl.st st2 ?_
    have C3 : CHr Z consts_1 s.vm h0 T2.vm h2 := C0.trans R2
    have V2 : Arv Z h2 t2 kc2 .byte (Int32.ofNat ([] : List Int32).length) ((([] : List Int32).map (fun c => c.toInt8.toInt32)).map Value.int) (.int 0) := V2
    show Gl p.tables e below _ (T2.setTop (mkF m 6 #[.val (.ref t), .val (.int (Int32.ofNat x)), .val (.int (Int32.ofNat d))] [(.ref b2)]))
    have K4 : Keep h0 h2 [] := ((Keep.refl h0 []).ext E2)
    exact Gl.retAH X2 hx S2 (Nat.le_trans q2 (Nat.le_of_eq (congrArg Array.size e2).symm)) (by rw [hh, e2]; exact C3.trans (CHv.at X2 hZ2 (elW hw) C3.1)) Bd.returns rfl rfl (hb hby d25_6) hlk (by decide) (by decide) (by rw [e2]; exact ⟨b2, t2, kc2, ([] : List Int32), rfl, N0, K4, A2, F2, G2, V2, (by rw [(n32_eq0 (i := d) (by omega)).mp hc1]; simp)⟩)
  · refine Gl.st (fun _ kq => XS.ifYes X0.here hx rfl (pc0 := 1) (pc' := 7) rfl (hb hby d25_1) rfl ((if0 _ _).trans (feq (hc1 : ¬ ((Int32.ofNat d) = (0 : Int32)))).2) (by decide) (by decide) kq) ?_
    show Gl p.tables e below _ (s₁.setTop (mkF m 7 #[.val (.ref t), .val (.int (Int32.ofNat x)), .val (.int (Int32.ofNat d))] []))
    obtain ⟨T5, h5, X5, e5, E5, A5, D5, U5, st5⟩ := newO X0 hx hZ hown (tw hw 112 rfl) (tw hw 10 rfl) (tw hw 11 rfl) e0 (g := (mkF m 7 #[.val (.ref t), .val (.int (Int32.ofNat x)), .val (.int (Int32.ofNat d))] [])) rfl (hb hby d25_7) (by decide) (by decide)
    obtain ⟨b5, g5⟩ : ∃ z, z = h0.size := ⟨_, rfl⟩
    rw [← g5] at A5 D5 U5 st5
    refine Gl.st st5 ?_
    have g6 : n0 ≤ b5 := Nat.le_trans Z0 (Nat.le_of_eq g5.symm)
    have s7 : h0.size ≤ b5 := Nat.le_trans (Nat.le_refl _) (Nat.le_of_eq g5.symm)
    have C8 : CHr Z consts_1 s.vm h0 s.vm h5 := C0.trans (CHr.ext E5 C0.1)
    have F5_24 : Fld Z h5 b5 "java/lang/String" "value" "[B" .null := D5 (Or.inr (tw hw 24 rfl)) (ty := (.array .byte)) (by decide)
    have F5_25 : Fld Z h5 b5 "java/lang/String" "coder" "B" (.int 0) := D5 (Or.inr (tw hw 25 rfl)) (ty := .byte) (by decide)
    show Gl p.tables e below _ (T5.setTop (mkF m 10 #[.val (.ref t), .val (.int (Int32.ofNat x)), .val (.int (Int32.ofNat d))] [(.ref b5)]))
    refine Gl.st (fun _ kq => XS.dup X5.here hx rfl (hb hby d25_10) rfl rfl kq) ?_
    show Gl p.tables e below _ (T5.setTop (mkF m 11 #[.val (.ref t), .val (.int (Int32.ofNat x)), .val (.int (Int32.ofNat d))] [(.ref b5), (.ref b5)]))
    refine Gl.st (fun _ kq => XS.aloadN X5.here hx rfl (hb hby d25_11) rfl rfl kq) ?_
    show Gl p.tables e below _ (T5.setTop (mkF m 12 #[.val (.ref t), .val (.int (Int32.ofNat x)), .val (.int (Int32.ofNat d))] [(.ref t), (.ref b5), (.ref b5)]))
    refine Gl.st (fun _ kq => XS.iloadN X5.here hx rfl (hb hby d25_12) rfl kq) ?_
    show Gl p.tables e below _ (T5.setTop (mkF m 13 #[.val (.ref t), .val (.int (Int32.ofNat x)), .val (.int (Int32.ofNat d))] [(.int (Int32.ofNat x)), (.ref t), (.ref b5), (.ref b5)]))
    refine Gl.st (fun _ kq => XS.iloadN X5.here hx rfl (hb hby d25_13) rfl kq) ?_
    show Gl p.tables e below _ (T5.setTop (mkF m 14 #[.val (.ref t), .val (.int (Int32.ofNat x)), .val (.int (Int32.ofNat d))] [(.int (Int32.ofNat x)), (.int (Int32.ofNat x)), (.ref t), (.ref b5), (.ref b5)]))
    refine Gl.st (fun _ kq => XS.iloadN X5.here hx rfl (hb hby d25_14) rfl kq) ?_
    show Gl p.tables e below _ (T5.setTop (mkF m 15 #[.val (.ref t), .val (.int (Int32.ofNat x)), .val (.int (Int32.ofNat d))] [(.int (Int32.ofNat d)), (.int (Int32.ofNat x)), (.int (Int32.ofNat x)), (.ref t), (.ref b5), (.ref b5)]))
    refine Gl.st (fun _ kq => XS.iadd X5.here hx rfl (hb hby d25_15) rfl kq) ?_
    show Gl p.tables e below _ (T5.setTop (mkF m 16 #[.val (.ref t), .val (.int (Int32.ofNat x)), .val (.int (Int32.ofNat d))] [(.int ((Int32.ofNat x) + (Int32.ofNat d))), (.int (Int32.ofNat x)), (.ref t), (.ref b5), (.ref b5)]))
    rw [n32_add x d]
    show Gl p.tables e below _ (T5.setTop (mkF m 16 #[.val (.ref t), .val (.int (Int32.ofNat x)), .val (.int (Int32.ofNat d))] [(.int (Int32.ofNat (x + d))), (.int (Int32.ofNat x)), (.ref t), (.ref b5), (.ref b5)]))
    have f9 : Arv Z h5 t k .byte (Int32.ofNat cs.length) ((cs.map (fun c => c.toInt8.toInt32)).map Value.int) (.int 0) := (pf0.ext E5)
    obtain ⟨_, _, ⟨T12, L12, k12, n12⟩, -, X12, ⟨Lc12, hQ12, l12, y12, z12⟩, st12⟩ := Jvm.LawKit.callS X5 hx (y := (⟨"java/util/Arrays", "copyOfRange", "([BII)[B"⟩ : MethodName)) hown (mvT hZ (tw hw 113 rfl)) (mvT hZ (tw hw 114 rfl)) (mvT hZ (tw hw 115 rfl)) (mvT hZ (tw hw 116 rfl)) (by decide) (backOf (W := 2) (rm_cor l Z a0 hw [] (t) (k) (cs) (x) (d) h5 n0 (Nat.le_trans Z0 E5.1) f9 hl hx1 hnw) hZ (tw hw 116 rfl) (tw hw 115 rfl) (by decide) (by decide)) (g := (mkF m 16 #[.val (.ref t), .val (.int (Int32.ofNat x)), .val (.int (Int32.ofNat d))] [(.int (Int32.ofNat (x + d))), (.int (Int32.ofNat x)), (.ref t), (.ref b5), (.ref b5)])) rfl (by rw [hml]; rfl) (argsL := [(.ref t), (.int (Int32.ofNat x)), (.int (Int32.ofNat (x + d)))]) (rest := [(.ref b5), (.ref b5)]) (lenOf pd___BII__B rfl) rfl (by show 2 * 0 + _ ≤ _; exact Nat.le_of_eq rfl) (hb hby d25_16) (fun _ _ => ⟨rfl, e5, (by decide : 1 + 1 ≤ _), (by decide : 4 + 4 ≤ _)⟩)
    dsimp only [Pt.U, Pt.locs, Pt.cells, Pt.slots] at X12 l12 y12 z12 st12 hQ12
    subst l12 y12 z12
    obtain ⟨v10, v11, rfl, N12, K12, q12_0, y12_0⟩ := hQ12
    have C13 : CHr Z consts_1 s.vm h0 s.vm T12.heap := C8.trans (CHr.keep K12 sf0 C8.1)
    have M12 := Fr.app N0 N12
    have g14 : n0 ≤ v10 := Nat.le_trans (Nat.le_trans Z0 E5.1) y12_0
    have s15 : h0.size ≤ v10 := Nat.le_trans (Nat.le_trans (Nat.le_refl _) E5.1) y12_0
    refine Gl.st st12 ?_
    show Gl p.tables e below _ (T12.setTop (mkF m 19 #[.val (.ref t), .val (.int (Int32.ofNat x)), .val (.int (Int32.ofNat d))] [(.ref v10), (.ref b5), (.ref b5)]))
    show Gl p.tables e below _ (T12.setTop (mkF m 19 #[.val (.ref t), .val (.int (Int32.ofNat x)), .val (.int (Int32.ofNat d))] [(.ref v10), (.ref b5), (.ref b5)]))
    refine Gl.st (fun _ kq => XS.iconst X12.here hx rfl (hb hby d25_19) kq) ?_
    show Gl p.tables e below _ (T12.setTop (mkF m 20 #[.val (.ref t), .val (.int (Int32.ofNat x)), .val (.int (Int32.ofNat d))] [(.int 0), (.ref v10), (.ref b5), (.ref b5)]))
    have f16 : Exa Z T12.heap b5 "java/lang/String" := (A5.keep K12)
    have f17 : Fld Z T12.heap b5 "java/lang/String" "value" "[B" .null := (F5_24.keep K12 nin0)
    have f18 : Fld Z T12.heap b5 "java/lang/String" "coder" "B" (.int 0) := (F5_25.keep K12 nin0)
    have Sf20 : Safe Z consts_1 s.vm T12.heap b5 := (Safe.keep K12 sf0 C8.1 (Safe.ext E5 C0.1 (Safe.new (EL := consts_1) (vm := s.vm) (Nat.le_of_eq g5.symm))))
    obtain ⟨_, _, ⟨T19, L19, k19, n19⟩, -, X19, ⟨Lc19, hQ19, l19, y19, z19⟩, st19⟩ := X12.specialBack hx (y := (⟨"java/lang/String", "<init>", "([BB)V"⟩ : MethodName)) rfl hown (mvT hZ (tw hw 128 rfl)) (mvT hZ (tw hw 129 rfl)) (mvT hZ (tw hw 130 rfl)) (by decide) (backOf (W := 1) (rm_si l Z a0 hw [] (b5) (v10) (.null) ((0 : Int32)) T12.heap n0 (Nat.le_trans (Nat.le_trans Z0 E5.1) K12.1) f16 f17 f18 g6) hZ (tw hw 130 rfl) (tw hw 11 rfl) (by decide) (by decide)) (g := (mkF m 20 #[.val (.ref t), .val (.int (Int32.ofNat x)), .val (.int (Int32.ofNat d))] [(.int 0), (.ref v10), (.ref b5), (.ref b5)])) rfl (by rw [hml]; rfl) (Steps.refl _) (a := b5) (argsL := [(.ref v10), (.int 0)]) (rest := [(.ref b5)]) (lenOf pd___BB_V rfl) rfl (by show 2 * 0 + _ ≤ _; exact Nat.le_of_eq rfl) (hb hby d25_20) (fun _ _ => ⟨rfl, rfl, (by decide : 2 + 0 ≤ _), (by decide : 8 + 0 ≤ _)⟩)
    dsimp only [Pt.U, Pt.locs, Pt.cells, Pt.slots] at X19 l19 y19 z19 st19 hQ19
    subst l19 y19 z19
    obtain ⟨rfl, N19, K19, q19_0, q19_1, q19_2⟩ := hQ19
    have C21 : CHr Z consts_1 s.vm h0 s.vm T19.heap := C13.trans (CHr.keep K19 (sfS Sf20 sf0) C13.1)
    have M19 := Fr.app M12 N19
    refine Gl.to st19 ?_
    show Gl p.tables e below _ (T19.setTop (mkF m 23 #[.val (.ref t), .val (.int (Int32.ofNat x)), .val (.int (Int32.ofNat d))] [(.ref b5)]))
    show Gl p.tables e below _ (T19.setTop (mkF m 23 #[.val (.ref t), .val (.int (Int32.ofNat x)), .val (.int (Int32.ofNat d))] [(.ref b5)]))
    have K22 : Keep h0 T19.heap [] := ((((Keep.refl h0 []).ext E5).trans K12 all0).trans K19 (allS (Or.inr s7) all0))
    have ne23 : v10 ≠ b5 := Ne.symm (Nat.ne_of_lt (Nat.lt_of_lt_of_le A5.lt y12_0))
    have f24 : Arv Z T19.heap v10 v11 .byte (Int32.ofNat d) ((((cs.drop x).take d).map (fun c => c.toInt8.toInt32)).map Value.int) (.int 0) := (q12_0.keep K19 (ninS ne23 nin0))
    exact Gl.retAH X19 hx hS0 (Nat.le_trans (Nat.le_trans (Nat.le_trans (Nat.le_of_eq (congrArg Array.size e0)) E5.1) K12.1) K19.1) (by rw [hh]; exact C21.trans (CHv.at X19 hZ (elW hw) C21.1)) Bd.returns rfl rfl (hb hby d25_23) hlk (by decide) (by decide) ⟨b5, v10, v11, ((cs.drop x).take d), rfl, M19, K22, q19_0, q19_2, q19_1, (by rw [show ((cs.drop x).take d).length = d from by simp; omega]; exact f24), rfl⟩
theorem d17_0 : decode jdk_42_method_92_code 0 = .ok (.aload_n 0, 1) := by decide +kernel
theorem d17_1 : decode jdk_42_method_92_code 1 = .ok (.invokevirtual 505, 3) := by decide +kernel
theorem d17_4 : decode jdk_42_method_92_code 4 = .ok (.istore_n 3, 1) := by decide +kernel
theorem d17_5 : decode jdk_42_method_92_code 5 = .ok (.iload_n 1, 1) := by decide +kernel
theorem d17_6 : decode jdk_42_method_92_code 6 = .ok (.iload_n 2, 1) := by decide +kernel
theorem d17_7 : decode jdk_42_method_92_code 7 = .ok (.iload_n 3, 1) := by decide +kernel
theorem d17_8 : decode jdk_42_method_92_code 8 = .ok (.invokestatic 521, 3) := by decide +kernel
theorem d17_11 : decode jdk_42_method_92_code 11 = .ok (.iload_n 1, 1) := by decide +kernel
theorem d17_12 : decode jdk_42_method_92_code 12 = .ok (.ifCond .ne 10, 3) := by decide +kernel
theorem d17_15 : decode jdk_42_method_92_code 15 = .ok (.iload_n 2, 1) := by decide +kernel
theorem d17_16 : decode jdk_42_method_92_code 16 = .ok (.iload_n 3, 1) := by decide +kernel
theorem d17_17 : decode jdk_42_method_92_code 17 = .ok (.if_icmp .ne 5, 3) := by decide +kernel
theorem d17_20 : decode jdk_42_method_92_code 20 = .ok (.aload_n 0, 1) := by decide +kernel
theorem d17_21 : decode jdk_42_method_92_code 21 = .ok (.areturn, 1) := by decide +kernel
theorem d17_22 : decode jdk_42_method_92_code 22 = .ok (.iload_n 2, 1) := by decide +kernel
theorem d17_23 : decode jdk_42_method_92_code 23 = .ok (.iload_n 1, 1) := by decide +kernel
theorem d17_24 : decode jdk_42_method_92_code 24 = .ok (.isub, 1) := by decide +kernel
theorem d17_25 : decode jdk_42_method_92_code 25 = .ok (.istore 4, 2) := by decide +kernel
theorem d17_27 : decode jdk_42_method_92_code 27 = .ok (.aload_n 0, 1) := by decide +kernel
theorem d17_28 : decode jdk_42_method_92_code 28 = .ok (.invokevirtual 492, 3) := by decide +kernel
theorem d17_31 : decode jdk_42_method_92_code 31 = .ok (.ifCond .eq 16, 3) := by decide +kernel
theorem d17_34 : decode jdk_42_method_92_code 34 = .ok (.aload_n 0, 1) := by decide +kernel
theorem d17_35 : decode jdk_42_method_92_code 35 = .ok (.getfield 9, 3) := by decide +kernel
theorem d17_38 : decode jdk_42_method_92_code 38 = .ok (.iload_n 1, 1) := by decide +kernel
theorem d17_39 : decode jdk_42_method_92_code 39 = .ok (.iload 4, 2) := by decide +kernel
theorem d17_41 : decode jdk_42_method_92_code 41 = .ok (.invokestatic 685, 3) := by decide +kernel
theorem d17_44 : decode jdk_42_method_92_code 44 = .ok (.goto 13, 3) := by decide +kernel
theorem d17_57 : decode jdk_42_method_92_code 57 = .ok (.areturn, 1) := by decide +kernel
theorem ef_ss2 (m : MethodId) (b : Addr) (x : Nat) (y : Nat) : entryFrame m #[(.ref b), (.int (Int32.ofNat x)), (.int (Int32.ofNat y))] 5 = mkF m 0 #[.val (.ref b), .val (.int (Int32.ofNat x)), .val (.int (Int32.ofNat y)), .unset, .unset] [] := by first | (simp [entryFrame, mkF, argsToLocals, Value.category]; done) | rfl
def Q_ss2 (Z : State) (b : Addr) (t : Addr) (k : ClassId) (cs : List Int32) (x : Nat) (y : Nat) (G1 : Int32) (G3 : Value) (h0 : Heap) (n0 : Nat) (v : Option Value) (h : Heap) (L : List Loc) : Prop := (∃ r : Addr, ∃ t2 : Addr, ∃ k2 : ClassId, ∃ ds : List Int32, v = some (.ref r) ∧ Fr n0 L ∧ Keep h0 h [] ∧ Exa Z h r "java/lang/String" ∧ Fld Z h r "java/lang/String" "coder" "B" (.int 0) ∧ Fld Z h r "java/lang/String" "value" "[B" (.ref t2) ∧ Arv Z h t2 k2 .byte (Int32.ofNat ds.length) ((ds.map (fun c => c.toInt8.toInt32)).map Value.int) (.int 0) ∧ (ds = (cs.drop x).take (y - x)))
set_option maxRecDepth 65536 in
set_option maxHeartbeats 40000000 in
theorem rm_ss2 (l : Launch) (Z : State) (a0 : Array Value) (hw : ∀ d ∈ tables_1, d.before a0 Z = true) (ws : List Jvm.Cond) (b : Addr) (t : Addr) (k : ClassId) (cs : List Int32) (x : Nat) (y : Nat) (G1 : Int32) (G3 : Value) (h0 : Heap) (n0 : Nat) (Z0 : n0 ≤ h0.size) (pf0 : Exa Z h0 b "java/lang/String") (pf1 : Fld Z h0 b "java/lang/String" "coder" "B" (.int 0)) (pf2 : Fld Z h0 b "java/lang/String" "value" "[B" (.ref t)) (pf3 : Arv Z h0 t k .byte (Int32.ofNat cs.length) ((cs.map (fun c => c.toInt8.toInt32)).map Value.int) (.int 0)) (pf4 : Old Z n0 h0) (hr : Rng cs) (hl : cs.length ≤ 4) (hxy : x ≤ y) (hyn : y ≤ cs.length) (O2 : Sta Z Z.heap "java/lang/String" "COMPACT_STRINGS" "Z" (.int G1)) (P5 : ¬ (G1 = (0 : Int32))) (O4 : Sta Z Z.heap "jdk/internal/util/Preconditions" "SIOOBE_FORMATTER" "Ljava/util/function/BiFunction;" G3) (rG3 : G3.isRef = true) :
    MetFree l (⟨"java/lang/String", "substring", "(II)Ljava/lang/String;"⟩ : MethodName) (head1 (Jvm.Cond.code (⟨"java/lang/String", "substring", "(II)Ljava/lang/String;"⟩ : MethodName) jdk_42_method_92_code 5 (some (.object "java/lang/String")) :: ws) ({ frames := 4, cells := 2, slots := 8, locals := 64 } : Room)) (fun aa U => aa = #[(.ref b), (.int (Int32.ofNat x)), (.int (Int32.ofNat y))] ∧ Z.Warmed39 U.vm ∧ U.heap = h0 ∧ CHv Z consts_1 U.vm h0) (fun _ _ _ _ _ => True) (fun _ U o U' => ∃ v L, o = .returned v ∧ Q_ss2 Z b t k cs x y G1 G3 h0 n0 v U'.heap L ∧ CHr Z consts_1 U.vm U.heap U'.vm U'.heap ∧ ReturnedEndW U o U' L ({ frames := 4, cells := 2, slots := 8, locals := 64 } : Room).cells ({ frames := 4, cells := 2, slots := 8, locals := 64 } : Room).slots) := by
  refine MetFree.of_bodySF (plainFor_of_name pn_java_lang_String) hisR ?_
  intro p e s m args below meth c s₁ Bd hml0 hP hK
  obtain ⟨rfl, hZ, hh, hH⟩ := hP
  have hx := Bd.exec
  have hby := Bd.bytes
  have hlk : meth.locks = false := BodyLoose.notSynchronized Bd
  have hml : c.maxLocals = 5 := hml0
  have hown : s.vm.findClass "java/lang/String" = some m.cls := findClass_of_methodNamed Bd.named
  have hnm := (name_of_methodNamed Bd.named Bd.method).1
  have X0 : Stand p l e ({ frames := 4, cells := 2, slots := 8, locals := 64 } : Room) (s.setVm s.vm) m #[(.ref b), (.int (Int32.ofNat x)), (.int (Int32.ofNat y))] below meth c s₁ [] 0 0 := Stand.of_body Bd
  have e0 : s₁.heap = h0 := by rw [← hh, Bd.state]; rfl
  have N0 := Fr.nil n0
  show Gl p.tables e below (EndH s Z consts_1 (Q_ss2 Z b t k cs x y G1 G3 h0 n0) ({ frames := 4, cells := 2, slots := 8, locals := 64 } : Room).cells ({ frames := 4, cells := 2, slots := 8, locals := 64 } : Room).slots) _
  refine Gl.cast (ef_ss2 m b x y) ?_
  show Gl p.tables e below _ (s₁.setTop (mkF m 0 #[.val (.ref b), .val (.int (Int32.ofNat x)), .val (.int (Int32.ofNat y)), .unset, .unset] []))
  have hS0 : s.Since s.vm s₁.heap.size := (State.WarmedH.refl s).since _
  have C0 : CHr Z consts_1 s.vm h0 s.vm h0 := CHr.refl hH
  refine Gl.st (fun _ kq => XS.aloadN X0.here hx rfl (hb hby d17_0) rfl rfl kq) ?_
  show Gl p.tables e below _ (s₁.setTop (mkF m 1 #[.val (.ref b), .val (.int (Int32.ofNat x)), .val (.int (Int32.ofNat y)), .unset, .unset] [(.ref b)]))
  obtain ⟨cq1, kq1, q1a, q1b, q1c⟩ := isOf hZ e0 pf0
  obtain ⟨_, _, ⟨T1, L1, k1, n1⟩, -, X1, ⟨Lc1, hQ1, l1, y1, z1⟩, st1⟩ := X0.virtualBack hx (y := (⟨"java/lang/String", "length", "()I"⟩ : MethodName)) (z := (⟨"java/lang/String", "length", "()I"⟩ : MethodName)) hown (mvT hZ (tw hw 50 rfl)) (mvT hZ (tw hw 51 rfl)) (notFace_of_selects (args := #[]) (mvT hZ (tw hw 53 rfl))) (mvT hZ (tw hw 53 rfl)) (mvT hZ (tw hw 52 rfl)) (by decide) (StrChars.Road.lenW (W := 0) hZ (wdLen hw) (kI := 4) (tw hw 10 rfl) pf0 pf2 pf1 pf3 (StrChars.Road.codOf (cs := cs) rfl (fun x hx => (hr x hx).2)) (up255 _ hr) (O2.ext pf4.2) P5 (Nat.le_trans hl (by decide)) (by decide) (by decide)) q1a q1c (g := (mkF m 1 #[.val (.ref b), .val (.int (Int32.ofNat x)), .val (.int (Int32.ofNat y)), .unset, .unset] [(.ref b)])) rfl (by rw [hml]; rfl) (Steps.refl _) (argsL := []) (rest := []) (lenOf pd___I rfl) rfl (by show 2 * 0 + _ ≤ _; exact Nat.le_of_eq rfl) (hb hby d17_1) (fun _ _ => ⟨rfl, e0, (by decide : 0 + 0 ≤ _), (by decide : 0 + 0 ≤ _)⟩)
  dsimp only [Pt.U, Pt.locs, Pt.cells, Pt.slots] at X1 l1 y1 z1 st1 hQ1
  subst l1 y1 z1
  obtain ⟨rfl, rfl, e1⟩ := hQ1
  have N1 : Fr n0 ([] : List Loc) := Fr.nil n0
  have M1 := Fr.app N0 N1
  refine Gl.to st1 ?_
  show Gl p.tables e below _ (T1.setTop (mkF m 4 #[.val (.ref b), .val (.int (Int32.ofNat x)), .val (.int (Int32.ofNat y)), .unset, .unset] [(.int (Int32.ofNat cs.length))]))
  show Gl p.tables e below _ (T1.setTop (mkF m 4 #[.val (.ref b), .val (.int (Int32.ofNat x)), .val (.int (Int32.ofNat y)), .unset, .unset] [(.int (Int32.ofNat cs.length))]))
  refine Gl.st (fun _ kq => XS.istoreN X1.here hx rfl (hb hby d17_4) rfl (l' := #[.val (.ref b), .val (.int (Int32.ofNat x)), .val (.int (Int32.ofNat y)), .val (.int (Int32.ofNat cs.length)), .unset]) rfl kq) ?_
  show Gl p.tables e below _ (T1.setTop (mkF m 5 #[.val (.ref b), .val (.int (Int32.ofNat x)), .val (.int (Int32.ofNat y)), .val (.int (Int32.ofNat cs.length)), .unset] []))
  refine Gl.st (fun _ kq => XS.iloadN X1.here hx rfl (hb hby d17_5) rfl kq) ?_
  show Gl p.tables e below _ (T1.setTop (mkF m 6 #[.val (.ref b), .val (.int (Int32.ofNat x)), .val (.int (Int32.ofNat y)), .val (.int (Int32.ofNat cs.length)), .unset] [(.int (Int32.ofNat x))]))
  refine Gl.st (fun _ kq => XS.iloadN X1.here hx rfl (hb hby d17_6) rfl kq) ?_
  show Gl p.tables e below _ (T1.setTop (mkF m 7 #[.val (.ref b), .val (.int (Int32.ofNat x)), .val (.int (Int32.ofNat y)), .val (.int (Int32.ofNat cs.length)), .unset] [(.int (Int32.ofNat y)), (.int (Int32.ofNat x))]))
  refine Gl.st (fun _ kq => XS.iloadN X1.here hx rfl (hb hby d17_7) rfl kq) ?_
  show Gl p.tables e below _ (T1.setTop (mkF m 8 #[.val (.ref b), .val (.int (Int32.ofNat x)), .val (.int (Int32.ofNat y)), .val (.int (Int32.ofNat cs.length)), .unset] [(.int (Int32.ofNat cs.length)), (.int (Int32.ofNat y)), (.int (Int32.ofNat x))]))
  obtain ⟨_, _, ⟨T2, L2, k2, n2⟩, -, X2, ⟨Lc2, hQ2, l2, y2, z2⟩, st2⟩ := Jvm.LawKit.callS X1 hx (y := (⟨"java/lang/String", "checkBoundsBeginEnd", "(III)V"⟩ : MethodName)) hown (mvT hZ (tw hw 84 rfl)) (mvT hZ (tw hw 85 rfl)) (mvT hZ (tw hw 11 rfl)) (mvT hZ (tw hw 86 rfl)) (by decide) (backOf (W := 0) (rm_cbe l Z a0 hw [] (x) (y) (cs.length) (G3) h0 n0 Z0 pf4 (n32_nn (i := x) (by omega)) (n32_nlt (i := y) (j := x) (by omega) (by omega) (by omega)) (n32_nlt (i := cs.length) (j := y) (by omega) (by omega) (by omega)) O4 rG3) hZ (tw hw 86 rfl) (tw hw 11 rfl) (by decide) (by decide)) (g := (mkF m 8 #[.val (.ref b), .val (.int (Int32.ofNat x)), .val (.int (Int32.ofNat y)), .val (.int (Int32.ofNat cs.length)), .unset] [(.int (Int32.ofNat cs.length)), (.int (Int32.ofNat y)), (.int (Int32.ofNat x))])) rfl (by rw [hml]; rfl) (argsL := [(.int (Int32.ofNat x)), (.int (Int32.ofNat y)), (.int (Int32.ofNat cs.length))]) (rest := []) (lenOf pd__III_V rfl) rfl (by show 2 * 0 + _ ≤ _; exact Nat.le_of_eq rfl) (hb hby d17_8) (fun _ _ => ⟨rfl, e1, (by decide : 0 + 0 ≤ _), (by decide : 0 + 0 ≤ _)⟩)
  dsimp only [Pt.U, Pt.locs, Pt.cells, Pt.slots] at X2 l2 y2 z2 st2 hQ2
  subst l2 y2 z2
  obtain ⟨rfl, N2, e2⟩ := hQ2
  have M2 := Fr.app M1 N2
  refine Gl.st st2 ?_
  show Gl p.tables e below _ (T2.setTop (mkF m 11 #[.val (.ref b), .val (.int (Int32.ofNat x)), .val (.int (Int32.ofNat y)), .val (.int (Int32.ofNat cs.length)), .unset] []))
  show Gl p.tables e below _ (T2.setTop (mkF m 11 #[.val (.ref b), .val (.int (Int32.ofNat x)), .val (.int (Int32.ofNat y)), .val (.int (Int32.ofNat cs.length)), .unset] []))
  refine Gl.st (fun _ kq => XS.iloadN X2.here hx rfl (hb hby d17_11) rfl kq) ?_
  show Gl p.tables e below _ (T2.setTop (mkF m 12 #[.val (.ref b), .val (.int (Int32.ofNat x)), .val (.int (Int32.ofNat y)), .val (.int (Int32.ofNat cs.length)), .unset] [(.int (Int32.ofNat x))]))
  by_cases hc3 : (Int32.ofNat x) = (0 : Int32)
  · refine Gl.st (fun _ kq => XS.ifNo X2.here hx rfl (hb hby d17_12) rfl ((if0 _ _).trans (teq (hc3 : (Int32.ofNat x) = (0 : Int32))).2) kq) ?_
    show Gl p.tables e below _ (T2.setTop (mkF m 15 #[.val (.ref b), .val (.int (Int32.ofNat x)), .val (.int (Int32.ofNat y)), .val (.int (Int32.ofNat cs.length)), .unset] []))
    refine Gl.st (fun _ kq => XS.iloadN X2.here hx rfl (hb hby d17_15) rfl kq) ?_
    show Gl p.tables e below _ (T2.setTop (mkF m 16 #[.val (.ref b), .val (.int (Int32.ofNat x)), .val (.int (Int32.ofNat y)), .val (.int (Int32.ofNat cs.length)), .unset] [(.int (Int32.ofNat y))]))
    refine Gl.st (fun _ kq => XS.iloadN X2.here hx rfl (hb hby d17_16) rfl kq) ?_
    show Gl p.tables e below _ (T2.setTop (mkF m 17 #[.val (.ref b), .val (.int (Int32.ofNat x)), .val (.int (Int32.ofNat y)), .val (.int (Int32.ofNat cs.length)), .unset] [(.int (Int32.ofNat cs.length)), (.int (Int32.ofNat y))]))
    by_cases hc4 : (Int32.ofNat y) = (Int32.ofNat cs.length)
    · refine Gl.st (fun _ kq => XS.icmpNo X2.here hx rfl (hb hby d17_17) rfl (teq (hc4 : (Int32.ofNat y) = (Int32.ofNat cs.length))).2 kq) ?_
      show Gl p.tables e below _ (T2.setTop (mkF m 20 #[.val (.ref b), .val (.int (Int32.ofNat x)), .val (.int (Int32.ofNat y)), .val (.int (Int32.ofNat cs.length)), .unset] []))
      refine Gl.st (fun _ kq => XS.aloadN X2.here hx rfl (hb hby d17_20) rfl rfl kq) ?_
      show Gl p.tables e below _ (T2.setTop (mkF m 21 #[.val (.ref b), .val (.int (Int32.ofNat x)), .val (.int (Int32.ofNat y)), .val (.int (Int32.ofNat cs.length)), .unset] [(.ref b)]))
      exact Gl.retAH X2 hx hS0 (Nat.le_trans (Nat.le_of_eq (congrArg Array.size e0)) (Nat.le_of_eq (congrArg Array.size e2).symm)) (by rw [hh, e2]; exact C0.trans (CHv.at X2 hZ (elW hw) C0.1)) Bd.returns rfl rfl (hb hby d17_21) hlk (by decide) (by decide) (by rw [e2]; exact ⟨b, t, k, cs, rfl, M2, (Keep.refl h0 []), pf0, pf1, pf2, pf3, (by rw [(n32_eq0 (i := x) (by omega)).mp hc3, (n32_eq (i := y) (by omega) (by omega)).mp hc4]; simp)⟩)
    · refine Gl.st (fun _ kq => XS.icmpYes X2.here hx rfl (pc0 := 17) (pc' := 22) rfl (hb hby d17_17) rfl (feq (hc4 : ¬ ((Int32.ofNat y) = (Int32.ofNat cs.length)))).2 (by decide) (by decide) kq) ?_
      show Gl p.tables e below _ (T2.setTop (mkF m 22 #[.val (.ref b), .val (.int (Int32.ofNat x)), .val (.int (Int32.ofNat y)), .val (.int (Int32.ofNat cs.length)), .unset] []))
      refine Gl.st (fun _ kq => XS.iloadN X2.here hx rfl (hb hby d17_22) rfl kq) ?_
      show Gl p.tables e below _ (T2.setTop (mkF m 23 #[.val (.ref b), .val (.int (Int32.ofNat x)), .val (.int (Int32.ofNat y)), .val (.int (Int32.ofNat cs.length)), .unset] [(.int (Int32.ofNat y))]))
      refine Gl.st (fun _ kq => XS.iloadN X2.here hx rfl (hb hby d17_23) rfl kq) ?_
      show Gl p.tables e below _ (T2.setTop (mkF m 24 #[.val (.ref b), .val (.int (Int32.ofNat x)), .val (.int (Int32.ofNat y)), .val (.int (Int32.ofNat cs.length)), .unset] [(.int (Int32.ofNat x)), (.int (Int32.ofNat y))]))
      refine Gl.st (fun _ kq => XS.isub X2.here hx rfl (hb hby d17_24) rfl kq) ?_
      show Gl p.tables e below _ (T2.setTop (mkF m 25 #[.val (.ref b), .val (.int (Int32.ofNat x)), .val (.int (Int32.ofNat y)), .val (.int (Int32.ofNat cs.length)), .unset] [(.int ((Int32.ofNat y) - (Int32.ofNat x)))]))
      rw [n32_sub (i := y) (j := x) hxy]
      show Gl p.tables e below _ (T2.setTop (mkF m 25 #[.val (.ref b), .val (.int (Int32.ofNat x)), .val (.int (Int32.ofNat y)), .val (.int (Int32.ofNat cs.length)), .unset] [(.int (Int32.ofNat (y - x)))]))
      refine Gl.st (fun _ kq => XS.istore X2.here hx rfl (hb hby d17_25) rfl (l' := #[.val (.ref b), .val (.int (Int32.ofNat x)), .val (.int (Int32.ofNat y)), .val (.int (Int32.ofNat cs.length)), .val (.int (Int32.ofNat (y - x)))]) rfl kq) ?_
      show Gl p.tables e below _ (T2.setTop (mkF m 27 #[.val (.ref b), .val (.int (Int32.ofNat x)), .val (.int (Int32.ofNat y)), .val (.int (Int32.ofNat cs.length)), .val (.int (Int32.ofNat (y - x)))] []))
      refine Gl.st (fun _ kq => XS.aloadN X2.here hx rfl (hb hby d17_27) rfl rfl kq) ?_
      show Gl p.tables e below _ (T2.setTop (mkF m 28 #[.val (.ref b), .val (.int (Int32.ofNat x)), .val (.int (Int32.ofNat y)), .val (.int (Int32.ofNat cs.length)), .val (.int (Int32.ofNat (y - x)))] [(.ref b)]))
      obtain ⟨cq5, kq5, q5a, q5b, q5c⟩ := isOf hZ e2 pf0
      obtain ⟨_, _, ⟨T5, L5, k5, n5⟩, -, X5, ⟨Lc5, hQ5, l5, y5, z5⟩, st5⟩ := X2.virtualBack hx (y := (⟨"java/lang/String", "isLatin1", "()Z"⟩ : MethodName)) (z := (⟨"java/lang/String", "isLatin1", "()Z"⟩ : MethodName)) hown (mvT hZ (tw hw 44 rfl)) (mvT hZ (tw hw 45 rfl)) (notFace_of_selects (args := #[]) (mvT hZ (tw hw 47 rfl))) (mvT hZ (tw hw 47 rfl)) (mvT hZ (tw hw 46 rfl)) (by decide) (backOf (W := 0) (rm_isl l Z a0 hw [] (b) (G1) h0 n0 Z0 pf1 pf4 O2 P5) hZ (tw hw 48 rfl) (tw hw 11 rfl) (by decide) (by decide)) q5a q5c (g := (mkF m 28 #[.val (.ref b), .val (.int (Int32.ofNat x)), .val (.int (Int32.ofNat y)), .val (.int (Int32.ofNat cs.length)), .val (.int (Int32.ofNat (y - x)))] [(.ref b)])) rfl (by rw [hml]; rfl) (Steps.refl _) (argsL := []) (rest := []) (lenOf pd___Z rfl) rfl (by show 2 * 0 + _ ≤ _; exact Nat.le_of_eq rfl) (hb hby d17_28) (fun _ _ => ⟨rfl, e2, (by decide : 0 + 0 ≤ _), (by decide : 0 + 0 ≤ _)⟩)
      dsimp only [Pt.U, Pt.locs, Pt.cells, Pt.slots] at X5 l5 y5 z5 st5 hQ5
      subst l5 y5 z5
      obtain ⟨rfl, N5, e5⟩ := hQ5
      have M5 := Fr.app M2 N5
      refine Gl.to st5 ?_
      show Gl p.tables e below _ (T5.setTop (mkF m 31 #[.val (.ref b), .val (.int (Int32.ofNat x)), .val (.int (Int32.ofNat y)), .val (.int (Int32.ofNat cs.length)), .val (.int (Int32.ofNat (y - x)))] [(.int 1)]))
      show Gl p.tables e below _ (T5.setTop (mkF m 31 #[.val (.ref b), .val (.int (Int32.ofNat x)), .val (.int (Int32.ofNat y)), .val (.int (Int32.ofNat cs.length)), .val (.int (Int32.ofNat (y - x)))] [(.int 1)]))
      refine Gl.st (fun _ kq => XS.ifNo X5.here hx rfl (hb hby d17_31) rfl ((if0 _ _).trans (feq ((by decide) : ¬ ((1 : Int32) = (0 : Int32)))).1) kq) ?_
      show Gl p.tables e below _ (T5.setTop (mkF m 34 #[.val (.ref b), .val (.int (Int32.ofNat x)), .val (.int (Int32.ofNat y)), .val (.int (Int32.ofNat cs.length)), .val (.int (Int32.ofNat (y - x)))] []))
      refine Gl.st (fun _ kq => XS.aloadN X5.here hx rfl (hb hby d17_34) rfl rfl kq) ?_
      show Gl p.tables e below _ (T5.setTop (mkF m 35 #[.val (.ref b), .val (.int (Int32.ofNat x)), .val (.int (Int32.ofNat y)), .val (.int (Int32.ofNat cs.length)), .val (.int (Int32.ofNat (y - x)))] [(.ref b)]))
      obtain ⟨T6, X6, e6, st6⟩ := getF X5 hx hZ hown (host := "") (Or.inl (tw hw 28 rfl)) Via.refl e5 pf2 (g := (mkF m 35 #[.val (.ref b), .val (.int (Int32.ofNat x)), .val (.int (Int32.ofNat y)), .val (.int (Int32.ofNat cs.length)), .val (.int (Int32.ofNat (y - x)))] [(.ref b)])) rfl rfl (hb hby d17_35)
      refine Gl.st st6 ?_
      show Gl p.tables e below _ (T6.setTop (mkF m 38 #[.val (.ref b), .val (.int (Int32.ofNat x)), .val (.int (Int32.ofNat y)), .val (.int (Int32.ofNat cs.length)), .val (.int (Int32.ofNat (y - x)))] [(.ref t)]))
      refine Gl.st (fun _ kq => XS.iloadN X6.here hx rfl (hb hby d17_38) rfl kq) ?_
      show Gl p.tables e below _ (T6.setTop (mkF m 39 #[.val (.ref b), .val (.int (Int32.ofNat x)), .val (.int (Int32.ofNat y)), .val (.int (Int32.ofNat cs.length)), .val (.int (Int32.ofNat (y - x)))] [(.int (Int32.ofNat x)), (.ref t)]))
      refine Gl.st (fun _ kq => XS.iload X6.here hx rfl (hb hby d17_39) rfl kq) ?_
      show Gl p.tables e below _ (T6.setTop (mkF m 41 #[.val (.ref b), .val (.int (Int32.ofNat x)), .val (.int (Int32.ofNat y)), .val (.int (Int32.ofNat cs.length)), .val (.int (Int32.ofNat (y - x)))] [(.int (Int32.ofNat (y - x))), (.int (Int32.ofNat x)), (.ref t)]))
      obtain ⟨_, _, ⟨T11, L11, k11, n11⟩, -, X11, S11, g11, ⟨Lc11, hQ11, l11, y11, z11, R11⟩, st11⟩ := callSS X6 hx (y := (⟨"java/lang/StringLatin1", "newString", "([BII)Ljava/lang/String;"⟩ : MethodName)) hown (mvT hZ (tw hw 109 rfl)) (mvT hZ (tw hw 110 rfl)) (mvT hZ (tw hw 62 rfl)) (mvT hZ (tw hw 111 rfl)) (by decide) (backOfSH (W := 0) (rm_nst l Z a0 hw [] (t) (k) (cs) (x) ((y - x)) h0 n0 Z0 pf3 hl (by omega) (fun q => hc4 ((n32_eq (by omega) (by omega)).mpr (by omega)))) hZ (tw hw 111 rfl) (tw hw 62 rfl) (by decide) (by decide) (elW hw) C0.1) (g := (mkF m 41 #[.val (.ref b), .val (.int (Int32.ofNat x)), .val (.int (Int32.ofNat y)), .val (.int (Int32.ofNat cs.length)), .val (.int (Int32.ofNat (y - x)))] [(.int (Int32.ofNat (y - x))), (.int (Int32.ofNat x)), (.ref t)])) rfl (by rw [hml]; rfl) (argsL := [(.ref t), (.int (Int32.ofNat x)), (.int (Int32.ofNat (y - x)))]) (rest := []) (lenOf pd___BII_Ljava_lang_String_ rfl) rfl (by show 2 * 0 + _ ≤ _; exact Nat.le_of_eq rfl) (hb hby d17_41) (fun _ _ => ⟨rfl, e6, (by decide : 0 + 2 ≤ _), (by decide : 0 + 8 ≤ _)⟩)
      dsimp only [Pt.U, Pt.locs, Pt.cells, Pt.slots] at X11 l11 y11 z11 st11 hQ11 R11
      subst l11 y11 z11
      obtain ⟨X11, S11, hZ11, ho11⟩ := rebS hS0 (Nat.le_trans (Nat.le_of_eq (congrArg Array.size e0)) (Nat.le_of_eq (congrArg Array.size e6).symm)) X11 S11 g11 hZ hown
      obtain ⟨v7, v8, v9, v10, rfl, N11, K11, q11_0, q11_1, q11_2, q11_3, y11_0⟩ := hQ11
      have C12 : CHr Z consts_1 s.vm h0 T11.vm T11.heap := C0.trans R11
      have M11 := Fr.app M5 N11
      refine Gl.to st11 ?_
      show Gl p.tables e below _ (T11.setTop (mkF m 44 #[.val (.ref b), .val (.int (Int32.ofNat x)), .val (.int (Int32.ofNat y)), .val (.int (Int32.ofNat cs.length)), .val (.int (Int32.ofNat (y - x)))] [(.ref v7)]))
      show Gl p.tables e below _ (T11.setTop (mkF m 44 #[.val (.ref b), .val (.int (Int32.ofNat x)), .val (.int (Int32.ofNat y)), .val (.int (Int32.ofNat cs.length)), .val (.int (Int32.ofNat (y - x)))] [(.ref v7)]))
      refine Gl.st (fun _ kq => XS.goto X11.here hx rfl (pc0 := 44) (pc' := 57) rfl (hb hby d17_44) (by decide) (by decide) kq) ?_
      show Gl p.tables e below _ (T11.setTop (mkF m 57 #[.val (.ref b), .val (.int (Int32.ofNat x)), .val (.int (Int32.ofNat y)), .val (.int (Int32.ofNat cs.length)), .val (.int (Int32.ofNat (y - x)))] [(.ref v7)]))
      have K13 : Keep h0 T11.heap [] := ((Keep.refl h0 []).trans K11 all0)
      exact Gl.retAH X11 hx S11 (Nat.le_refl _) (by rw [hh]; exact C12.trans (CHv.at X11 hZ11 (elW hw) C12.1)) Bd.returns rfl rfl (hb hby d17_57) hlk (by decide) (by decide) ⟨v7, v8, v9, v10, rfl, M11, K13, q11_0, q11_1, q11_2, q11_3, y11_0⟩
  · refine Gl.st (fun _ kq => XS.ifYes X2.here hx rfl (pc0 := 12) (pc' := 22) rfl (hb hby d17_12) rfl ((if0 _ _).trans (feq (hc3 : ¬ ((Int32.ofNat x) = (0 : Int32)))).2) (by decide) (by decide) kq) ?_
    show Gl p.tables e below _ (T2.setTop (mkF m 22 #[.val (.ref b), .val (.int (Int32.ofNat x)), .val (.int (Int32.ofNat y)), .val (.int (Int32.ofNat cs.length)), .unset] []))
    refine Gl.st (fun _ kq => XS.iloadN X2.here hx rfl (hb hby d17_22) rfl kq) ?_
    show Gl p.tables e below _ (T2.setTop (mkF m 23 #[.val (.ref b), .val (.int (Int32.ofNat x)), .val (.int (Int32.ofNat y)), .val (.int (Int32.ofNat cs.length)), .unset] [(.int (Int32.ofNat y))]))
    refine Gl.st (fun _ kq => XS.iloadN X2.here hx rfl (hb hby d17_23) rfl kq) ?_
    show Gl p.tables e below _ (T2.setTop (mkF m 24 #[.val (.ref b), .val (.int (Int32.ofNat x)), .val (.int (Int32.ofNat y)), .val (.int (Int32.ofNat cs.length)), .unset] [(.int (Int32.ofNat x)), (.int (Int32.ofNat y))]))
    refine Gl.st (fun _ kq => XS.isub X2.here hx rfl (hb hby d17_24) rfl kq) ?_
    show Gl p.tables e below _ (T2.setTop (mkF m 25 #[.val (.ref b), .val (.int (Int32.ofNat x)), .val (.int (Int32.ofNat y)), .val (.int (Int32.ofNat cs.length)), .unset] [(.int ((Int32.ofNat y) - (Int32.ofNat x)))]))
    rw [n32_sub (i := y) (j := x) hxy]
    show Gl p.tables e below _ (T2.setTop (mkF m 25 #[.val (.ref b), .val (.int (Int32.ofNat x)), .val (.int (Int32.ofNat y)), .val (.int (Int32.ofNat cs.length)), .unset] [(.int (Int32.ofNat (y - x)))]))
    refine Gl.st (fun _ kq => XS.istore X2.here hx rfl (hb hby d17_25) rfl (l' := #[.val (.ref b), .val (.int (Int32.ofNat x)), .val (.int (Int32.ofNat y)), .val (.int (Int32.ofNat cs.length)), .val (.int (Int32.ofNat (y - x)))]) rfl kq) ?_
    show Gl p.tables e below _ (T2.setTop (mkF m 27 #[.val (.ref b), .val (.int (Int32.ofNat x)), .val (.int (Int32.ofNat y)), .val (.int (Int32.ofNat cs.length)), .val (.int (Int32.ofNat (y - x)))] []))
    refine Gl.st (fun _ kq => XS.aloadN X2.here hx rfl (hb hby d17_27) rfl rfl kq) ?_
    show Gl p.tables e below _ (T2.setTop (mkF m 28 #[.val (.ref b), .val (.int (Int32.ofNat x)), .val (.int (Int32.ofNat y)), .val (.int (Int32.ofNat cs.length)), .val (.int (Int32.ofNat (y - x)))] [(.ref b)]))
    obtain ⟨cq14, kq14, q14a, q14b, q14c⟩ := isOf hZ e2 pf0
    obtain ⟨_, _, ⟨T14, L14, k14, n14⟩, -, X14, ⟨Lc14, hQ14, l14, y14, z14⟩, st14⟩ := X2.virtualBack hx (y := (⟨"java/lang/String", "isLatin1", "()Z"⟩ : MethodName)) (z := (⟨"java/lang/String", "isLatin1", "()Z"⟩ : MethodName)) hown (mvT hZ (tw hw 44 rfl)) (mvT hZ (tw hw 45 rfl)) (notFace_of_selects (args := #[]) (mvT hZ (tw hw 47 rfl))) (mvT hZ (tw hw 47 rfl)) (mvT hZ (tw hw 46 rfl)) (by decide) (backOf (W := 0) (rm_isl l Z a0 hw [] (b) (G1) h0 n0 Z0 pf1 pf4 O2 P5) hZ (tw hw 48 rfl) (tw hw 11 rfl) (by decide) (by decide)) q14a q14c (g := (mkF m 28 #[.val (.ref b), .val (.int (Int32.ofNat x)), .val (.int (Int32.ofNat y)), .val (.int (Int32.ofNat cs.length)), .val (.int (Int32.ofNat (y - x)))] [(.ref b)])) rfl (by rw [hml]; rfl) (Steps.refl _) (argsL := []) (rest := []) (lenOf pd___Z rfl) rfl (by show 2 * 0 + _ ≤ _; exact Nat.le_of_eq rfl) (hb hby d17_28) (fun _ _ => ⟨rfl, e2, (by decide : 0 + 0 ≤ _), (by decide : 0 + 0 ≤ _)⟩)
    dsimp only [Pt.U, Pt.locs, Pt.cells, Pt.slots] at X14 l14 y14 z14 st14 hQ14
    subst l14 y14 z14
    obtain ⟨rfl, N14, e14⟩ := hQ14
    have M14 := Fr.app M2 N14
    refine Gl.to st14 ?_
    show Gl p.tables e below _ (T14.setTop (mkF m 31 #[.val (.ref b), .val (.int (Int32.ofNat x)), .val (.int (Int32.ofNat y)), .val (.int (Int32.ofNat cs.length)), .val (.int (Int32.ofNat (y - x)))] [(.int 1)]))
    show Gl p.tables e below _ (T14.setTop (mkF m 31 #[.val (.ref b), .val (.int (Int32.ofNat x)), .val (.int (Int32.ofNat y)), .val (.int (Int32.ofNat cs.length)), .val (.int (Int32.ofNat (y - x)))] [(.int 1)]))
    refine Gl.st (fun _ kq => XS.ifNo X14.here hx rfl (hb hby d17_31) rfl ((if0 _ _).trans (feq ((by decide) : ¬ ((1 : Int32) = (0 : Int32)))).1) kq) ?_
    show Gl p.tables e below _ (T14.setTop (mkF m 34 #[.val (.ref b), .val (.int (Int32.ofNat x)), .val (.int (Int32.ofNat y)), .val (.int (Int32.ofNat cs.length)), .val (.int (Int32.ofNat (y - x)))] []))
    refine Gl.st (fun _ kq => XS.aloadN X14.here hx rfl (hb hby d17_34) rfl rfl kq) ?_
    show Gl p.tables e below _ (T14.setTop (mkF m 35 #[.val (.ref b), .val (.int (Int32.ofNat x)), .val (.int (Int32.ofNat y)), .val (.int (Int32.ofNat cs.length)), .val (.int (Int32.ofNat (y - x)))] [(.ref b)]))
    obtain ⟨T15, X15, e15, st15⟩ := getF X14 hx hZ hown (host := "") (Or.inl (tw hw 28 rfl)) Via.refl e14 pf2 (g := (mkF m 35 #[.val (.ref b), .val (.int (Int32.ofNat x)), .val (.int (Int32.ofNat y)), .val (.int (Int32.ofNat cs.length)), .val (.int (Int32.ofNat (y - x)))] [(.ref b)])) rfl rfl (hb hby d17_35)
    refine Gl.st st15 ?_
    show Gl p.tables e below _ (T15.setTop (mkF m 38 #[.val (.ref b), .val (.int (Int32.ofNat x)), .val (.int (Int32.ofNat y)), .val (.int (Int32.ofNat cs.length)), .val (.int (Int32.ofNat (y - x)))] [(.ref t)]))
    refine Gl.st (fun _ kq => XS.iloadN X15.here hx rfl (hb hby d17_38) rfl kq) ?_
    show Gl p.tables e below _ (T15.setTop (mkF m 39 #[.val (.ref b), .val (.int (Int32.ofNat x)), .val (.int (Int32.ofNat y)), .val (.int (Int32.ofNat cs.length)), .val (.int (Int32.ofNat (y - x)))] [(.int (Int32.ofNat x)), (.ref t)]))
    refine Gl.st (fun _ kq => XS.iload X15.here hx rfl (hb hby d17_39) rfl kq) ?_
    show Gl p.tables e below _ (T15.setTop (mkF m 41 #[.val (.ref b), .val (.int (Int32.ofNat x)), .val (.int (Int32.ofNat y)), .val (.int (Int32.ofNat cs.length)), .val (.int (Int32.ofNat (y - x)))] [(.int (Int32.ofNat (y - x))), (.int (Int32.ofNat x)), (.ref t)]))
    obtain ⟨_, _, ⟨T20, L20, k20, n20⟩, -, X20, S20, g20, ⟨Lc20, hQ20, l20, y20, z20, R20⟩, st20⟩ := callSS X15 hx (y := (⟨"java/lang/StringLatin1", "newString", "([BII)Ljava/lang/String;"⟩ : MethodName)) hown (mvT hZ (tw hw 109 rfl)) (mvT hZ (tw hw 110 rfl)) (mvT hZ (tw hw 62 rfl)) (mvT hZ (tw hw 111 rfl)) (by decide) (backOfSH (W := 0) (rm_nst l Z a0 hw [] (t) (k) (cs) (x) ((y - x)) h0 n0 Z0 pf3 hl (by omega) (fun q => hc3 ((n32_eq0 (by omega)).mpr q.1))) hZ (tw hw 111 rfl) (tw hw 62 rfl) (by decide) (by decide) (elW hw) C0.1) (g := (mkF m 41 #[.val (.ref b), .val (.int (Int32.ofNat x)), .val (.int (Int32.ofNat y)), .val (.int (Int32.ofNat cs.length)), .val (.int (Int32.ofNat (y - x)))] [(.int (Int32.ofNat (y - x))), (.int (Int32.ofNat x)), (.ref t)])) rfl (by rw [hml]; rfl) (argsL := [(.ref t), (.int (Int32.ofNat x)), (.int (Int32.ofNat (y - x)))]) (rest := []) (lenOf pd___BII_Ljava_lang_String_ rfl) rfl (by show 2 * 0 + _ ≤ _; exact Nat.le_of_eq rfl) (hb hby d17_41) (fun _ _ => ⟨rfl, e15, (by decide : 0 + 2 ≤ _), (by decide : 0 + 8 ≤ _)⟩)
    dsimp only [Pt.U, Pt.locs, Pt.cells, Pt.slots] at X20 l20 y20 z20 st20 hQ20 R20
    subst l20 y20 z20
    obtain ⟨X20, S20, hZ20, ho20⟩ := rebS hS0 (Nat.le_trans (Nat.le_of_eq (congrArg Array.size e0)) (Nat.le_of_eq (congrArg Array.size e15).symm)) X20 S20 g20 hZ hown
    obtain ⟨v16, v17, v18, v19, rfl, N20, K20, q20_0, q20_1, q20_2, q20_3, y20_0⟩ := hQ20
    have C21 : CHr Z consts_1 s.vm h0 T20.vm T20.heap := C0.trans R20
    have M20 := Fr.app M14 N20
    refine Gl.to st20 ?_
    show Gl p.tables e below _ (T20.setTop (mkF m 44 #[.val (.ref b), .val (.int (Int32.ofNat x)), .val (.int (Int32.ofNat y)), .val (.int (Int32.ofNat cs.length)), .val (.int (Int32.ofNat (y - x)))] [(.ref v16)]))
    show Gl p.tables e below _ (T20.setTop (mkF m 44 #[.val (.ref b), .val (.int (Int32.ofNat x)), .val (.int (Int32.ofNat y)), .val (.int (Int32.ofNat cs.length)), .val (.int (Int32.ofNat (y - x)))] [(.ref v16)]))
    refine Gl.st (fun _ kq => XS.goto X20.here hx rfl (pc0 := 44) (pc' := 57) rfl (hb hby d17_44) (by decide) (by decide) kq) ?_
    show Gl p.tables e below _ (T20.setTop (mkF m 57 #[.val (.ref b), .val (.int (Int32.ofNat x)), .val (.int (Int32.ofNat y)), .val (.int (Int32.ofNat cs.length)), .val (.int (Int32.ofNat (y - x)))] [(.ref v16)]))
    have K22 : Keep h0 T20.heap [] := ((Keep.refl h0 []).trans K20 all0)
    exact Gl.retAH X20 hx S20 (Nat.le_refl _) (by rw [hh]; exact C21.trans (CHv.at X20 hZ20 (elW hw) C21.1)) Bd.returns rfl rfl (hb hby d17_57) hlk (by decide) (by decide) ⟨v16, v17, v18, v19, rfl, M20, K22, q20_0, q20_1, q20_2, q20_3, y20_0⟩
theorem d16_0 : decode jdk_42_method_91_code 0 = .ok (.aload_n 0, 1) := by decide +kernel
theorem d16_1 : decode jdk_42_method_91_code 1 = .ok (.iload_n 1, 1) := by decide +kernel
theorem d16_2 : decode jdk_42_method_91_code 2 = .ok (.aload_n 0, 1) := by decide +kernel
theorem d16_3 : decode jdk_42_method_91_code 3 = .ok (.invokevirtual 505, 3) := by decide +kernel
theorem d16_6 : decode jdk_42_method_91_code 6 = .ok (.invokevirtual 681, 3) := by decide +kernel
theorem d16_9 : decode jdk_42_method_91_code 9 = .ok (.areturn, 1) := by decide +kernel
theorem ef_ss1 (m : MethodId) (b : Addr) (x : Nat) : entryFrame m #[(.ref b), (.int (Int32.ofNat x))] 2 = mkF m 0 #[.val (.ref b), .val (.int (Int32.ofNat x))] [] := by first | (simp [entryFrame, mkF, argsToLocals, Value.category]; done) | rfl
def Q_ss1 (Z : State) (b : Addr) (t : Addr) (k : ClassId) (cs : List Int32) (x : Nat) (G1 : Int32) (G3 : Value) (h0 : Heap) (n0 : Nat) (v : Option Value) (h : Heap) (L : List Loc) : Prop := (∃ r : Addr, ∃ t2 : Addr, ∃ k2 : ClassId, ∃ ds : List Int32, v = some (.ref r) ∧ Fr n0 L ∧ Keep h0 h [] ∧ Exa Z h r "java/lang/String" ∧ Fld Z h r "java/lang/String" "coder" "B" (.int 0) ∧ Fld Z h r "java/lang/String" "value" "[B" (.ref t2) ∧ Arv Z h t2 k2 .byte (Int32.ofNat ds.length) ((ds.map (fun c => c.toInt8.toInt32)).map Value.int) (.int 0) ∧ (ds = (cs.drop x).take (cs.length - x)))
set_option maxRecDepth 65536 in
set_option maxHeartbeats 40000000 in
theorem rm_ss1 (l : Launch) (Z : State) (a0 : Array Value) (hw : ∀ d ∈ tables_1, d.before a0 Z = true) (ws : List Jvm.Cond) (b : Addr) (t : Addr) (k : ClassId) (cs : List Int32) (x : Nat) (G1 : Int32) (G3 : Value) (h0 : Heap) (n0 : Nat) (Z0 : n0 ≤ h0.size) (pf0 : Exa Z h0 b "java/lang/String") (pf1 : Fld Z h0 b "java/lang/String" "coder" "B" (.int 0)) (pf2 : Fld Z h0 b "java/lang/String" "value" "[B" (.ref t)) (pf3 : Arv Z h0 t k .byte (Int32.ofNat cs.length) ((cs.map (fun c => c.toInt8.toInt32)).map Value.int) (.int 0)) (pf4 : Old Z n0 h0) (hr : Rng cs) (hl : cs.length ≤ 4) (hxn : x ≤ cs.length) (O2 : Sta Z Z.heap "java/lang/String" "COMPACT_STRINGS" "Z" (.int G1)) (P5 : ¬ (G1 = (0 : Int32))) (O4 : Sta Z Z.heap "jdk/internal/util/Preconditions" "SIOOBE_FORMATTER" "Ljava/util/function/BiFunction;" G3) (rG3 : G3.isRef = true) :
    MetFree l (⟨"java/lang/String", "substring", "(I)Ljava/lang/String;"⟩ : MethodName) (head1 (Jvm.Cond.code (⟨"java/lang/String", "substring", "(I)Ljava/lang/String;"⟩ : MethodName) jdk_42_method_91_code 2 (some (.object "java/lang/String")) :: ws) ({ frames := 5, cells := 2, slots := 8, locals := 80 } : Room)) (fun aa U => aa = #[(.ref b), (.int (Int32.ofNat x))] ∧ Z.Warmed39 U.vm ∧ U.heap = h0 ∧ CHv Z consts_1 U.vm h0) (fun _ _ _ _ _ => True) (fun _ U o U' => ∃ v L, o = .returned v ∧ Q_ss1 Z b t k cs x G1 G3 h0 n0 v U'.heap L ∧ CHr Z consts_1 U.vm U.heap U'.vm U'.heap ∧ ReturnedEndW U o U' L ({ frames := 5, cells := 2, slots := 8, locals := 80 } : Room).cells ({ frames := 5, cells := 2, slots := 8, locals := 80 } : Room).slots) := by
  refine MetFree.of_bodySF (plainFor_of_name pn_java_lang_String) hisR ?_
  intro p e s m args below meth c s₁ Bd hml0 hP hK
  obtain ⟨rfl, hZ, hh, hH⟩ := hP
  have hx := Bd.exec
  have hby := Bd.bytes
  have hlk : meth.locks = false := BodyLoose.notSynchronized Bd
  have hml : c.maxLocals = 2 := hml0
  have hown : s.vm.findClass "java/lang/String" = some m.cls := findClass_of_methodNamed Bd.named
  have hnm := (name_of_methodNamed Bd.named Bd.method).1
  have X0 : Stand p l e ({ frames := 5, cells := 2, slots := 8, locals := 80 } : Room) (s.setVm s.vm) m #[(.ref b), (.int (Int32.ofNat x))] below meth c s₁ [] 0 0 := Stand.of_body Bd
  have e0 : s₁.heap = h0 := by rw [← hh, Bd.state]; rfl
  have N0 := Fr.nil n0
  show Gl p.tables e below (EndH s Z consts_1 (Q_ss1 Z b t k cs x G1 G3 h0 n0) ({ frames := 5, cells := 2, slots := 8, locals := 80 } : Room).cells ({ frames := 5, cells := 2, slots := 8, locals := 80 } : Room).slots) _
  refine Gl.cast (ef_ss1 m b x) ?_
  show Gl p.tables e below _ (s₁.setTop (mkF m 0 #[.val (.ref b), .val (.int (Int32.ofNat x))] []))
  have hS0 : s.Since s.vm s₁.heap.size := (State.WarmedH.refl s).since _
  have C0 : CHr Z consts_1 s.vm h0 s.vm h0 := CHr.refl hH
  refine Gl.st (fun _ kq => XS.aloadN X0.here hx rfl (hb hby d16_0) rfl rfl kq) ?_
  show Gl p.tables e below _ (s₁.setTop (mkF m 1 #[.val (.ref b), .val (.int (Int32.ofNat x))] [(.ref b)]))
  refine Gl.st (fun _ kq => XS.iloadN X0.here hx rfl (hb hby d16_1) rfl kq) ?_
  show Gl p.tables e below _ (s₁.setTop (mkF m 2 #[.val (.ref b), .val (.int (Int32.ofNat x))] [(.int (Int32.ofNat x)), (.ref b)]))
  refine Gl.st (fun _ kq => XS.aloadN X0.here hx rfl (hb hby d16_2) rfl rfl kq) ?_
  show Gl p.tables e below _ (s₁.setTop (mkF m 3 #[.val (.ref b), .val (.int (Int32.ofNat x))] [(.ref b), (.int (Int32.ofNat x)), (.ref b)]))
  obtain ⟨cq1, kq1, q1a, q1b, q1c⟩ := isOf hZ e0 pf0
  obtain ⟨_, _, ⟨T1, L1, k1, n1⟩, -, X1, ⟨Lc1, hQ1, l1, y1, z1⟩, st1⟩ := X0.virtualBack hx (y := (⟨"java/lang/String", "length", "()I"⟩ : MethodName)) (z := (⟨"java/lang/String", "length", "()I"⟩ : MethodName)) hown (mvT hZ (tw hw 50 rfl)) (mvT hZ (tw hw 51 rfl)) (notFace_of_selects (args := #[]) (mvT hZ (tw hw 53 rfl))) (mvT hZ (tw hw 53 rfl)) (mvT hZ (tw hw 52 rfl)) (by decide) (StrChars.Road.lenW (W := 2) hZ (wdLen hw) (kI := 4) (tw hw 10 rfl) pf0 pf2 pf1 pf3 (StrChars.Road.codOf (cs := cs) rfl (fun x hx => (hr x hx).2)) (up255 _ hr) (O2.ext pf4.2) P5 (Nat.le_trans hl (by decide)) (by decide) (by decide)) q1a q1c (g := (mkF m 3 #[.val (.ref b), .val (.int (Int32.ofNat x))] [(.ref b), (.int (Int32.ofNat x)), (.ref b)])) rfl (by rw [hml]; rfl) (Steps.refl _) (argsL := []) (rest := [(.int (Int32.ofNat x)), (.ref b)]) (lenOf pd___I rfl) rfl (by show 2 * 0 + _ ≤ _; exact Nat.le_of_eq rfl) (hb hby d16_3) (fun _ _ => ⟨rfl, e0, (by decide : 0 + 0 ≤ _), (by decide : 0 + 0 ≤ _)⟩)
  dsimp only [Pt.U, Pt.locs, Pt.cells, Pt.slots] at X1 l1 y1 z1 st1 hQ1
  subst l1 y1 z1
  obtain ⟨rfl, rfl, e1⟩ := hQ1
  have N1 : Fr n0 ([] : List Loc) := Fr.nil n0
  have M1 := Fr.app N0 N1
  refine Gl.to st1 ?_
  show Gl p.tables e below _ (T1.setTop (mkF m 6 #[.val (.ref b), .val (.int (Int32.ofNat x))] [(.int (Int32.ofNat cs.length)), (.int (Int32.ofNat x)), (.ref b)]))
  show Gl p.tables e below _ (T1.setTop (mkF m 6 #[.val (.ref b), .val (.int (Int32.ofNat x))] [(.int (Int32.ofNat cs.length)), (.int (Int32.ofNat x)), (.ref b)]))
  obtain ⟨cq6, kq6, q6a, q6b, q6c⟩ := isOf hZ e1 pf0
  obtain ⟨_, _, ⟨T6, L6, k6, n6⟩, -, X6, S6, g6, ⟨Lc6, hQ6, l6, y6, z6, R6⟩, st6⟩ := X1.virtualBackS hx (y := (⟨"java/lang/String", "substring", "(II)Ljava/lang/String;"⟩ : MethodName)) (z := (⟨"java/lang/String", "substring", "(II)Ljava/lang/String;"⟩ : MethodName)) hown (mvT hZ (tw hw 79 rfl)) (mvT hZ (tw hw 80 rfl)) (notFace_of_selects (args := #[]) (mvT hZ (tw hw 82 rfl))) (mvT hZ (tw hw 82 rfl)) (mvT hZ (tw hw 81 rfl)) (by decide) (backOfSH (W := 0) (rm_ss2 l Z a0 hw [] (b) (t) (k) (cs) (x) (cs.length) (G1) (G3) h0 n0 Z0 pf0 pf1 pf2 pf3 pf4 hr hl hxn (by omega) O2 P5 O4 rG3) hZ (tw hw 83 rfl) (tw hw 11 rfl) (by decide) (by decide) (elW hw) C0.1) q6a q6c (g := (mkF m 6 #[.val (.ref b), .val (.int (Int32.ofNat x))] [(.int (Int32.ofNat cs.length)), (.int (Int32.ofNat x)), (.ref b)])) rfl (by rw [hml]; rfl) (Steps.refl _) (argsL := [(.int (Int32.ofNat x)), (.int (Int32.ofNat cs.length))]) (rest := []) (lenOf pd__II_Ljava_lang_String_ rfl) rfl (by show 2 * 0 + _ ≤ _; exact Nat.le_of_eq rfl) (hb hby d16_6) (fun _ _ => ⟨rfl, e1, (by decide : 0 + 2 ≤ _), (by decide : 0 + 8 ≤ _)⟩)
  dsimp only [Pt.U, Pt.locs, Pt.cells, Pt.slots] at X6 l6 y6 z6 st6 hQ6 R6
  subst l6 y6 z6
  obtain ⟨X6, S6, hZ6, ho6⟩ := rebS hS0 (Nat.le_trans (Nat.le_of_eq (congrArg Array.size e0)) (Nat.le_of_eq (congrArg Array.size e1).symm)) X6 S6 g6 hZ hown
  obtain ⟨v2, v3, v4, v5, rfl, N6, K6, q6_0, q6_1, q6_2, q6_3, y6_0⟩ := hQ6
  have C7 : CHr Z consts_1 s.vm h0 T6.vm T6.heap := C0.trans R6
  have M6 := Fr.app M1 N6
  refine Gl.to st6 ?_
  show Gl p.tables e below _ (T6.setTop (mkF m 9 #[.val (.ref b), .val (.int (Int32.ofNat x))] [(.ref v2)]))
  show Gl p.tables e below _ (T6.setTop (mkF m 9 #[.val (.ref b), .val (.int (Int32.ofNat x))] [(.ref v2)]))
  have K8 : Keep h0 T6.heap [] := ((Keep.refl h0 []).trans K6 all0)
  exact Gl.retAH X6 hx S6 (Nat.le_refl _) (by rw [hh]; exact C7.trans (CHv.at X6 hZ6 (elW hw) C7.1)) Bd.returns rfl rfl (hb hby d16_9) hlk (by decide) (by decide) ⟨v2, v3, v4, v5, rfl, M6, K8, q6_0, q6_1, q6_2, q6_3, y6_0⟩
theorem d1_0 : decode method_2_code 0 = .ok (.iload_n 0, 1) := by decide +kernel
theorem d1_1 : decode method_2_code 1 = .ok (.bipush 8, 2) := by decide +kernel
theorem d1_3 : decode method_2_code 3 = .ok (.iushr, 1) := by decide +kernel
theorem d1_4 : decode method_2_code 4 = .ok (.iconst 3, 1) := by decide +kernel
theorem d1_5 : decode method_2_code 5 = .ok (.iand, 1) := by decide +kernel
theorem d1_6 : decode method_2_code 6 = .ok (.ifCond .ne 6, 3) := by decide +kernel
theorem d1_9 : decode method_2_code 9 = .ok (.bipush 46, 2) := by decide +kernel
theorem d1_11 : decode method_2_code 11 = .ok (.ireturn, 1) := by decide +kernel
theorem d1_12 : decode method_2_code 12 = .ok (.iload_n 0, 1) := by decide +kernel
theorem d1_13 : decode method_2_code 13 = .ok (.sipush 255, 3) := by decide +kernel
theorem d1_16 : decode method_2_code 16 = .ok (.iand, 1) := by decide +kernel
theorem d1_17 : decode method_2_code 17 = .ok (.i2c, 1) := by decide +kernel
theorem d1_18 : decode method_2_code 18 = .ok (.ireturn, 1) := by decide +kernel
theorem ef_ch (m : MethodId) (x : Int32) : entryFrame m #[(.int x)] 1 = mkF m 0 #[.val (.int x)] [] := by first | (simp [entryFrame, mkF, argsToLocals, Value.category]; done) | rfl
def Q_ch (Z : State) (x : Int32) (h0 : Heap) (n0 : Nat) (v : Option Value) (h : Heap) (L : List Loc) : Prop := (∃ r : Int32, v = some (.int r) ∧ Fr n0 L ∧ h = h0 ∧ (Chr r))
set_option maxRecDepth 65536 in
set_option maxHeartbeats 40000000 in
theorem rm_ch (l : Launch) (Z : State) (a0 : Array Value) (hw : ∀ d ∈ tables_1, d.before a0 Z = true) (ws : List Jvm.Cond) (x : Int32) (h0 : Heap) (n0 : Nat) (Z0 : n0 ≤ h0.size) :
    MetFree l (⟨"com/example/neighbor_keys/neighborkeys/model/RelatedColumnOfPinLaw", "ch", "(I)C"⟩ : MethodName) (head1 (Jvm.Cond.code (⟨"com/example/neighbor_keys/neighborkeys/model/RelatedColumnOfPinLaw", "ch", "(I)C"⟩ : MethodName) method_2_code 1 (some .char) :: ws) ({ frames := 0, cells := 0, slots := 0, locals := 0 } : Room)) (fun aa U => aa = #[(.int x)] ∧ Z.Warmed39 U.vm ∧ U.heap = h0) (fun _ _ _ _ _ => True) (fun _ U o U' => ∃ v L, o = .returned v ∧ Q_ch Z x h0 n0 v U'.heap L ∧ FrameEnd U o U' L ({ frames := 0, cells := 0, slots := 0, locals := 0 } : Room).cells ({ frames := 0, cells := 0, slots := 0, locals := 0 } : Room).slots) := by
  refine MetFree.of_bodySF (plainFor_of_name pn_com_example_neighbor_keys_neighborkeys_model_RelatedColumnOfPinLaw) hisR ?_
  intro p e s m args below meth c s₁ Bd hml0 hP hK
  obtain ⟨rfl, hZ, hh⟩ := hP
  have hx := Bd.exec
  have hby := Bd.bytes
  have hlk : meth.locks = false := BodyLoose.notSynchronized Bd
  have hml : c.maxLocals = 1 := hml0
  have hown : s.vm.findClass "com/example/neighbor_keys/neighborkeys/model/RelatedColumnOfPinLaw" = some m.cls := findClass_of_methodNamed Bd.named
  have hnm := (name_of_methodNamed Bd.named Bd.method).1
  have X0 : Stand p l e ({ frames := 0, cells := 0, slots := 0, locals := 0 } : Room) s m #[(.int x)] below meth c s₁ [] 0 0 := Stand.of_body Bd
  have e0 : s₁.heap = h0 := by rw [← hh, Bd.state]; rfl
  have N0 := Fr.nil n0
  show Gl p.tables e below (EndN s (Q_ch Z x h0 n0) ({ frames := 0, cells := 0, slots := 0, locals := 0 } : Room).cells ({ frames := 0, cells := 0, slots := 0, locals := 0 } : Room).slots) _
  refine Gl.cast (ef_ch m x) ?_
  show Gl p.tables e below _ (s₁.setTop (mkF m 0 #[.val (.int x)] []))
  refine Gl.st (fun _ kq => XS.iloadN X0.here hx rfl (hb hby d1_0) rfl kq) ?_
  show Gl p.tables e below _ (s₁.setTop (mkF m 1 #[.val (.int x)] [(.int x)]))
  refine Gl.st (fun _ kq => XS.bipush X0.here hx rfl (hb hby d1_1) kq) ?_
  show Gl p.tables e below _ (s₁.setTop (mkF m 3 #[.val (.int x)] [(.int 8), (.int x)]))
  refine Gl.st (fun _ kq => XS.iushr X0.here hx rfl (hb hby d1_3) rfl kq) ?_
  show Gl p.tables e below _ (s₁.setTop (mkF m 4 #[.val (.int x)] [(.int ((x.toUInt32 >>> ((8 : Int32) &&& 31).toUInt32).toInt32))]))
  refine Gl.st (fun _ kq => XS.iconst X0.here hx rfl (hb hby d1_4) kq) ?_
  show Gl p.tables e below _ (s₁.setTop (mkF m 5 #[.val (.int x)] [(.int 3), (.int ((x.toUInt32 >>> ((8 : Int32) &&& 31).toUInt32).toInt32))]))
  refine Gl.st (fun _ kq => XS.iand X0.here hx rfl (hb hby d1_5) rfl kq) ?_
  show Gl p.tables e below _ (s₁.setTop (mkF m 6 #[.val (.int x)] [(.int (((x.toUInt32 >>> ((8 : Int32) &&& 31).toUInt32).toInt32) &&& (3 : Int32)))]))
  by_cases hc1 : (((x.toUInt32 >>> ((8 : Int32) &&& 31).toUInt32).toInt32) &&& (3 : Int32)) = (0 : Int32)
  · refine Gl.st (fun _ kq => XS.ifNo X0.here hx rfl (hb hby d1_6) rfl ((if0 _ _).trans (teq (hc1 : (((x.toUInt32 >>> ((8 : Int32) &&& 31).toUInt32).toInt32) &&& (3 : Int32)) = (0 : Int32))).2) kq) ?_
    show Gl p.tables e below _ (s₁.setTop (mkF m 9 #[.val (.int x)] []))
    refine Gl.st (fun _ kq => XS.bipush X0.here hx rfl (hb hby d1_9) kq) ?_
    show Gl p.tables e below _ (s₁.setTop (mkF m 11 #[.val (.int x)] [(.int 46)]))
    exact Gl.retN X0 hx (t := .char) Bd.returns (by simp) (hb hby d1_11) hlk (by decide) (by decide) (by rw [e0]; exact ⟨(46 : Int32), rfl, N0, rfl, chr_dot⟩)
  · refine Gl.st (fun _ kq => XS.ifYes X0.here hx rfl (pc0 := 6) (pc' := 12) rfl (hb hby d1_6) rfl ((if0 _ _).trans (feq (hc1 : ¬ ((((x.toUInt32 >>> ((8 : Int32) &&& 31).toUInt32).toInt32) &&& (3 : Int32)) = (0 : Int32)))).2) (by decide) (by decide) kq) ?_
    show Gl p.tables e below _ (s₁.setTop (mkF m 12 #[.val (.int x)] []))
    refine Gl.st (fun _ kq => XS.iloadN X0.here hx rfl (hb hby d1_12) rfl kq) ?_
    show Gl p.tables e below _ (s₁.setTop (mkF m 13 #[.val (.int x)] [(.int x)]))
    refine Gl.st (fun _ kq => XS.sipush X0.here hx rfl (hb hby d1_13) kq) ?_
    show Gl p.tables e below _ (s₁.setTop (mkF m 16 #[.val (.int x)] [(.int 255), (.int x)]))
    refine Gl.st (fun _ kq => XS.iand X0.here hx rfl (hb hby d1_16) rfl kq) ?_
    show Gl p.tables e below _ (s₁.setTop (mkF m 17 #[.val (.int x)] [(.int (x &&& (255 : Int32)))]))
    refine Gl.st (fun _ kq => XS.i2c X0.here hx rfl (hb hby d1_17) rfl kq) ?_
    show Gl p.tables e below _ (s₁.setTop (mkF m 18 #[.val (.int x)] [(.int ((x &&& (255 : Int32)).toUInt32.toUInt16.toUInt32.toInt32))]))
    exact Gl.retN X0 hx (t := .char) Bd.returns (by simp) (hb hby d1_18) hlk (by decide) (by decide) (by rw [e0]; exact ⟨(nar .char ((x &&& (255 : Int32)).toUInt32.toUInt16.toUInt32.toInt32)), rfl, N0, rfl, (chr_and _)⟩)
theorem d2_0 : decode method_3_code 0 = .ok (.iload_n 0, 1) := by decide +kernel
theorem d2_1 : decode method_3_code 1 = .ok (.ifCond .ne 14, 3) := by decide +kernel
theorem d2_4 : decode method_3_code 4 = .ok (.new 7, 3) := by decide +kernel
theorem d2_7 : decode method_3_code 7 = .ok (.dup, 1) := by decide +kernel
theorem d2_8 : decode method_3_code 8 = .ok (.iconst 0, 1) := by decide +kernel
theorem d2_9 : decode method_3_code 9 = .ok (.newarray .char, 2) := by decide +kernel
theorem d2_11 : decode method_3_code 11 = .ok (.invokespecial 9, 3) := by decide +kernel
theorem d2_14 : decode method_3_code 14 = .ok (.areturn, 1) := by decide +kernel
theorem d2_15 : decode method_3_code 15 = .ok (.iload_n 0, 1) := by decide +kernel
theorem d2_16 : decode method_3_code 16 = .ok (.iconst 1, 1) := by decide +kernel
theorem d2_17 : decode method_3_code 17 = .ok (.if_icmp .ne 20, 3) := by decide +kernel
theorem d2_20 : decode method_3_code 20 = .ok (.new 7, 3) := by decide +kernel
theorem d2_23 : decode method_3_code 23 = .ok (.dup, 1) := by decide +kernel
theorem d2_24 : decode method_3_code 24 = .ok (.iconst 1, 1) := by decide +kernel
theorem d2_25 : decode method_3_code 25 = .ok (.newarray .char, 2) := by decide +kernel
theorem d2_27 : decode method_3_code 27 = .ok (.dup, 1) := by decide +kernel
theorem d2_28 : decode method_3_code 28 = .ok (.iconst 0, 1) := by decide +kernel
theorem d2_29 : decode method_3_code 29 = .ok (.aload_n 1, 1) := by decide +kernel
theorem d2_30 : decode method_3_code 30 = .ok (.iconst 0, 1) := by decide +kernel
theorem d2_31 : decode method_3_code 31 = .ok (.caload, 1) := by decide +kernel
theorem d2_32 : decode method_3_code 32 = .ok (.castore, 1) := by decide +kernel
theorem d2_33 : decode method_3_code 33 = .ok (.invokespecial 9, 3) := by decide +kernel
theorem d2_36 : decode method_3_code 36 = .ok (.areturn, 1) := by decide +kernel
theorem d2_37 : decode method_3_code 37 = .ok (.iload_n 0, 1) := by decide +kernel
theorem d2_38 : decode method_3_code 38 = .ok (.iconst 2, 1) := by decide +kernel
theorem d2_39 : decode method_3_code 39 = .ok (.if_icmp .ne 26, 3) := by decide +kernel
theorem d2_42 : decode method_3_code 42 = .ok (.new 7, 3) := by decide +kernel
theorem d2_45 : decode method_3_code 45 = .ok (.dup, 1) := by decide +kernel
theorem d2_46 : decode method_3_code 46 = .ok (.iconst 2, 1) := by decide +kernel
theorem d2_47 : decode method_3_code 47 = .ok (.newarray .char, 2) := by decide +kernel
theorem d2_49 : decode method_3_code 49 = .ok (.dup, 1) := by decide +kernel
theorem d2_50 : decode method_3_code 50 = .ok (.iconst 0, 1) := by decide +kernel
theorem d2_51 : decode method_3_code 51 = .ok (.aload_n 1, 1) := by decide +kernel
theorem d2_52 : decode method_3_code 52 = .ok (.iconst 0, 1) := by decide +kernel
theorem d2_53 : decode method_3_code 53 = .ok (.caload, 1) := by decide +kernel
theorem d2_54 : decode method_3_code 54 = .ok (.castore, 1) := by decide +kernel
theorem d2_55 : decode method_3_code 55 = .ok (.dup, 1) := by decide +kernel
theorem d2_56 : decode method_3_code 56 = .ok (.iconst 1, 1) := by decide +kernel
theorem d2_57 : decode method_3_code 57 = .ok (.aload_n 1, 1) := by decide +kernel
theorem d2_58 : decode method_3_code 58 = .ok (.iconst 1, 1) := by decide +kernel
theorem d2_59 : decode method_3_code 59 = .ok (.caload, 1) := by decide +kernel
theorem d2_60 : decode method_3_code 60 = .ok (.castore, 1) := by decide +kernel
theorem d2_61 : decode method_3_code 61 = .ok (.invokespecial 9, 3) := by decide +kernel
theorem d2_64 : decode method_3_code 64 = .ok (.areturn, 1) := by decide +kernel
theorem d2_65 : decode method_3_code 65 = .ok (.iload_n 0, 1) := by decide +kernel
theorem d2_66 : decode method_3_code 66 = .ok (.iconst 3, 1) := by decide +kernel
theorem d2_67 : decode method_3_code 67 = .ok (.if_icmp .ne 32, 3) := by decide +kernel
theorem d2_70 : decode method_3_code 70 = .ok (.new 7, 3) := by decide +kernel
theorem d2_73 : decode method_3_code 73 = .ok (.dup, 1) := by decide +kernel
theorem d2_74 : decode method_3_code 74 = .ok (.iconst 3, 1) := by decide +kernel
theorem d2_75 : decode method_3_code 75 = .ok (.newarray .char, 2) := by decide +kernel
theorem d2_77 : decode method_3_code 77 = .ok (.dup, 1) := by decide +kernel
theorem d2_78 : decode method_3_code 78 = .ok (.iconst 0, 1) := by decide +kernel
theorem d2_79 : decode method_3_code 79 = .ok (.aload_n 1, 1) := by decide +kernel
theorem d2_80 : decode method_3_code 80 = .ok (.iconst 0, 1) := by decide +kernel
theorem d2_81 : decode method_3_code 81 = .ok (.caload, 1) := by decide +kernel
theorem d2_82 : decode method_3_code 82 = .ok (.castore, 1) := by decide +kernel
theorem d2_83 : decode method_3_code 83 = .ok (.dup, 1) := by decide +kernel
theorem d2_84 : decode method_3_code 84 = .ok (.iconst 1, 1) := by decide +kernel
theorem d2_85 : decode method_3_code 85 = .ok (.aload_n 1, 1) := by decide +kernel
theorem d2_86 : decode method_3_code 86 = .ok (.iconst 1, 1) := by decide +kernel
theorem d2_87 : decode method_3_code 87 = .ok (.caload, 1) := by decide +kernel
theorem d2_88 : decode method_3_code 88 = .ok (.castore, 1) := by decide +kernel
theorem d2_89 : decode method_3_code 89 = .ok (.dup, 1) := by decide +kernel
theorem d2_90 : decode method_3_code 90 = .ok (.iconst 2, 1) := by decide +kernel
theorem d2_91 : decode method_3_code 91 = .ok (.aload_n 1, 1) := by decide +kernel
theorem d2_92 : decode method_3_code 92 = .ok (.iconst 2, 1) := by decide +kernel
theorem d2_93 : decode method_3_code 93 = .ok (.caload, 1) := by decide +kernel
theorem d2_94 : decode method_3_code 94 = .ok (.castore, 1) := by decide +kernel
theorem d2_95 : decode method_3_code 95 = .ok (.invokespecial 9, 3) := by decide +kernel
theorem d2_98 : decode method_3_code 98 = .ok (.areturn, 1) := by decide +kernel
theorem d2_99 : decode method_3_code 99 = .ok (.new 7, 3) := by decide +kernel
theorem d2_102 : decode method_3_code 102 = .ok (.dup, 1) := by decide +kernel
theorem d2_103 : decode method_3_code 103 = .ok (.iconst 4, 1) := by decide +kernel
theorem d2_104 : decode method_3_code 104 = .ok (.newarray .char, 2) := by decide +kernel
theorem d2_106 : decode method_3_code 106 = .ok (.dup, 1) := by decide +kernel
theorem d2_107 : decode method_3_code 107 = .ok (.iconst 0, 1) := by decide +kernel
theorem d2_108 : decode method_3_code 108 = .ok (.aload_n 1, 1) := by decide +kernel
theorem d2_109 : decode method_3_code 109 = .ok (.iconst 0, 1) := by decide +kernel
theorem d2_110 : decode method_3_code 110 = .ok (.caload, 1) := by decide +kernel
theorem d2_111 : decode method_3_code 111 = .ok (.castore, 1) := by decide +kernel
theorem d2_112 : decode method_3_code 112 = .ok (.dup, 1) := by decide +kernel
theorem d2_113 : decode method_3_code 113 = .ok (.iconst 1, 1) := by decide +kernel
theorem d2_114 : decode method_3_code 114 = .ok (.aload_n 1, 1) := by decide +kernel
theorem d2_115 : decode method_3_code 115 = .ok (.iconst 1, 1) := by decide +kernel
theorem d2_116 : decode method_3_code 116 = .ok (.caload, 1) := by decide +kernel
theorem d2_117 : decode method_3_code 117 = .ok (.castore, 1) := by decide +kernel
theorem d2_118 : decode method_3_code 118 = .ok (.dup, 1) := by decide +kernel
theorem d2_119 : decode method_3_code 119 = .ok (.iconst 2, 1) := by decide +kernel
theorem d2_120 : decode method_3_code 120 = .ok (.aload_n 1, 1) := by decide +kernel
theorem d2_121 : decode method_3_code 121 = .ok (.iconst 2, 1) := by decide +kernel
theorem d2_122 : decode method_3_code 122 = .ok (.caload, 1) := by decide +kernel
theorem d2_123 : decode method_3_code 123 = .ok (.castore, 1) := by decide +kernel
theorem d2_124 : decode method_3_code 124 = .ok (.dup, 1) := by decide +kernel
theorem d2_125 : decode method_3_code 125 = .ok (.iconst 3, 1) := by decide +kernel
theorem d2_126 : decode method_3_code 126 = .ok (.aload_n 1, 1) := by decide +kernel
theorem d2_127 : decode method_3_code 127 = .ok (.iconst 3, 1) := by decide +kernel
theorem d2_128 : decode method_3_code 128 = .ok (.caload, 1) := by decide +kernel
theorem d2_129 : decode method_3_code 129 = .ok (.castore, 1) := by decide +kernel
theorem d2_130 : decode method_3_code 130 = .ok (.invokespecial 9, 3) := by decide +kernel
theorem d2_133 : decode method_3_code 133 = .ok (.areturn, 1) := by decide +kernel
theorem ef_mk (m : MethodId) (n : Int32) (tc : Addr) : entryFrame m #[(.int n), (.ref tc)] 2 = mkF m 0 #[.val (.int n), .val (.ref tc)] [] := by first | (simp [entryFrame, mkF, argsToLocals, Value.category]; done) | rfl
def Q_mk (Z : State) (n : Int32) (tc : Addr) (kc : ClassId) (v1 : Int32) (v2 : Int32) (v3 : Int32) (v4 : Int32) (G1 : Int32) (h0 : Heap) (n0 : Nat) (v : Option Value) (h : Heap) (L : List Loc) : Prop := (∃ b : Addr, ∃ t : Addr, ∃ k : ClassId, ∃ cs : List Int32, v = some (.ref b) ∧ Fr n0 L ∧ Keep h0 h [] ∧ Exa Z h b "java/lang/String" ∧ Fld Z h b "java/lang/String" "coder" "B" (.int 0) ∧ Fld Z h b "java/lang/String" "value" "[B" (.ref t) ∧ Arv Z h t k .byte (Int32.ofNat cs.length) ((cs.map (fun c => c.toInt8.toInt32)).map Value.int) (.int 0) ∧ (cs = own_tk n v1 v2 v3 v4) ∧ (h0.size ≤ b))
set_option maxRecDepth 65536 in
set_option maxHeartbeats 40000000 in
theorem rm_mk (l : Launch) (Z : State) (a0 : Array Value) (hw : ∀ d ∈ tables_1, d.before a0 Z = true) (ws : List Jvm.Cond) (n : Int32) (tc : Addr) (kc : ClassId) (v1 : Int32) (v2 : Int32) (v3 : Int32) (v4 : Int32) (G1 : Int32) (h0 : Heap) (n0 : Nat) (Z0 : n0 ≤ h0.size) (pf0 : Arv Z h0 tc kc .char (4 : Int32) [(.int v1), (.int v2), (.int v3), (.int v4)] (.int 0)) (pf1 : Old Z n0 h0) (hv1 : Chr v1) (hv2 : Chr v2) (hv3 : Chr v3) (hv4 : Chr v4) (O2 : Sta Z Z.heap "java/lang/String" "COMPACT_STRINGS" "Z" (.int G1)) (P5 : ¬ (G1 = (0 : Int32))) :
    MetFree l (⟨"com/example/neighbor_keys/neighborkeys/model/RelatedColumnOfPinLaw", "make", "(I[C)Ljava/lang/String;"⟩ : MethodName) (head1 (Jvm.Cond.code (⟨"com/example/neighbor_keys/neighborkeys/model/RelatedColumnOfPinLaw", "make", "(I[C)Ljava/lang/String;"⟩ : MethodName) method_3_code 2 (some (.object "java/lang/String")) :: ws) ({ frames := 4, cells := 6, slots := 12, locals := 66 } : Room)) (fun aa U => aa = #[(.int n), (.ref tc)] ∧ Z.Warmed39 U.vm ∧ U.heap = h0 ∧ CHv Z consts_1 U.vm h0) (fun _ _ _ _ _ => True) (fun _ U o U' => ∃ v L, o = .returned v ∧ Q_mk Z n tc kc v1 v2 v3 v4 G1 h0 n0 v U'.heap L ∧ CHr Z consts_1 U.vm U.heap U'.vm U'.heap ∧ ReturnedEndW U o U' L ({ frames := 4, cells := 6, slots := 12, locals := 66 } : Room).cells ({ frames := 4, cells := 6, slots := 12, locals := 66 } : Room).slots) := by
  refine MetFree.of_bodySF (plainFor_of_name pn_com_example_neighbor_keys_neighborkeys_model_RelatedColumnOfPinLaw) hisR ?_
  intro p e s m args below meth c s₁ Bd hml0 hP hK
  obtain ⟨rfl, hZ, hh, hH⟩ := hP
  have hx := Bd.exec
  have hby := Bd.bytes
  have hlk : meth.locks = false := BodyLoose.notSynchronized Bd
  have hml : c.maxLocals = 2 := hml0
  have hown : s.vm.findClass "com/example/neighbor_keys/neighborkeys/model/RelatedColumnOfPinLaw" = some m.cls := findClass_of_methodNamed Bd.named
  have hnm := (name_of_methodNamed Bd.named Bd.method).1
  have X0 : Stand p l e ({ frames := 4, cells := 6, slots := 12, locals := 66 } : Room) (s.setVm s.vm) m #[(.int n), (.ref tc)] below meth c s₁ [] 0 0 := Stand.of_body Bd
  have e0 : s₁.heap = h0 := by rw [← hh, Bd.state]; rfl
  have N0 := Fr.nil n0
  show Gl p.tables e below (EndH s Z consts_1 (Q_mk Z n tc kc v1 v2 v3 v4 G1 h0 n0) ({ frames := 4, cells := 6, slots := 12, locals := 66 } : Room).cells ({ frames := 4, cells := 6, slots := 12, locals := 66 } : Room).slots) _
  refine Gl.cast (ef_mk m n tc) ?_
  show Gl p.tables e below _ (s₁.setTop (mkF m 0 #[.val (.int n), .val (.ref tc)] []))
  have hS0 : s.Since s.vm s₁.heap.size := (State.WarmedH.refl s).since _
  have C0 : CHr Z consts_1 s.vm h0 s.vm h0 := CHr.refl hH
  refine Gl.st (fun _ kq => XS.iloadN X0.here hx rfl (hb hby d2_0) rfl kq) ?_
  show Gl p.tables e below _ (s₁.setTop (mkF m 1 #[.val (.int n), .val (.ref tc)] [(.int n)]))
  by_cases hc1 : n = (0 : Int32)
  · refine Gl.st (fun _ kq => XS.ifNo X0.here hx rfl (hb hby d2_1) rfl ((if0 _ _).trans (teq (hc1 : n = (0 : Int32))).2) kq) ?_
    show Gl p.tables e below _ (s₁.setTop (mkF m 4 #[.val (.int n), .val (.ref tc)] []))
    obtain ⟨T2, h2, X2, e2, E2, A2, D2, U2, st2⟩ := newO X0 hx hZ hown (tw hw 9 rfl) (tw hw 10 rfl) (tw hw 11 rfl) e0 (g := (mkF m 4 #[.val (.int n), .val (.ref tc)] [])) rfl (hb hby d2_4) (by decide) (by decide)
    obtain ⟨b2, g2⟩ : ∃ z, z = h0.size := ⟨_, rfl⟩
    rw [← g2] at A2 D2 U2 st2
    refine Gl.st st2 ?_
    have g3 : n0 ≤ b2 := Nat.le_trans Z0 (Nat.le_of_eq g2.symm)
    have s4 : h0.size ≤ b2 := Nat.le_trans (Nat.le_refl _) (Nat.le_of_eq g2.symm)
    have C5 : CHr Z consts_1 s.vm h0 s.vm h2 := C0.trans (CHr.ext E2 C0.1)
    have F2_24 : Fld Z h2 b2 "java/lang/String" "value" "[B" .null := D2 (Or.inr (tw hw 24 rfl)) (ty := (.array .byte)) (by decide)
    have F2_25 : Fld Z h2 b2 "java/lang/String" "coder" "B" (.int 0) := D2 (Or.inr (tw hw 25 rfl)) (ty := .byte) (by decide)
    show Gl p.tables e below _ (T2.setTop (mkF m 7 #[.val (.int n), .val (.ref tc)] [(.ref b2)]))
    refine Gl.st (fun _ kq => XS.dup X2.here hx rfl (hb hby d2_7) rfl rfl kq) ?_
    show Gl p.tables e below _ (T2.setTop (mkF m 8 #[.val (.int n), .val (.ref tc)] [(.ref b2), (.ref b2)]))
    refine Gl.st (fun _ kq => XS.iconst X2.here hx rfl (hb hby d2_8) kq) ?_
    show Gl p.tables e below _ (T2.setTop (mkF m 9 #[.val (.int n), .val (.ref tc)] [(.int 0), (.ref b2), (.ref b2)]))
    obtain ⟨T6, h6, k6, X6, e6, E6, A6, st6⟩ := newP X2 hx hZ (tw hw 1 rfl) e2 (g := (mkF m 9 #[.val (.int n), .val (.ref tc)] [(.int 0), (.ref b2), (.ref b2)])) rfl (hb hby d2_9) rfl (by decide) (cap := 0) (by decide) (by decide) (by decide) (by decide)
    obtain ⟨b6, g6⟩ : ∃ z, z = h2.size := ⟨_, rfl⟩
    rw [← g6] at A6 st6
    refine Gl.st st6 ?_
    have g7 : n0 ≤ b6 := Nat.le_trans (Nat.le_trans Z0 E2.1) (Nat.le_of_eq g6.symm)
    have s8 : h0.size ≤ b6 := Nat.le_trans (Nat.le_trans (Nat.le_refl _) E2.1) (Nat.le_of_eq g6.symm)
    have C9 : CHr Z consts_1 s.vm h0 s.vm h6 := C5.trans (CHr.ext E6 C5.1)
    have V6 : Arv Z h6 b6 k6 .char (0 : Int32) [] (.int 0) := (Arv.new A6 (by decide)).pad (pad_rep [] (.int 0) 0)
    show Gl p.tables e below _ (T6.setTop (mkF m 11 #[.val (.int n), .val (.ref tc)] [(.ref b6), (.ref b2), (.ref b2)]))
    have f10 : Exa Z h6 b2 "java/lang/String" := (A2.ext E6)
    have f11 : Fld Z h6 b2 "java/lang/String" "value" "[B" .null := (F2_24.ext E6)
    have f12 : Fld Z h6 b2 "java/lang/String" "coder" "B" (.int 0) := (F2_25.ext E6)
    obtain ⟨_, _, ⟨T15, L15, k15, n15⟩, -, X15, S15, g15, ⟨Lc15, hQ15, l15, y15, z15, R15⟩, st15⟩ := X6.specialBackS hx (y := (⟨"java/lang/String", "<init>", "([C)V"⟩ : MethodName)) rfl hown (mvT hZ (tw hw 12 rfl)) (mvT hZ (tw hw 13 rfl)) (mvT hZ (tw hw 14 rfl)) (by decide) (backOfSH (W := 1) (rm_se1 l Z a0 hw [] (b2) (b6) ((0 : Int32)) (k6) h6 n0 (Nat.le_trans (Nat.le_trans Z0 E2.1) E6.1) f10 f11 f12 V6 g3) hZ (tw hw 14 rfl) (tw hw 11 rfl) (by decide) (by decide) (elW hw) C9.1) (g := (mkF m 11 #[.val (.int n), .val (.ref tc)] [(.ref b6), (.ref b2), (.ref b2)])) rfl (by rw [hml]; rfl) (Steps.refl _) (a := b2) (argsL := [(.ref b6)]) (rest := [(.ref b2)]) (lenOf pd___C_V rfl) rfl (by show 2 * 0 + _ ≤ _; exact Nat.le_of_eq rfl) (hb hby d2_11) (fun _ _ => ⟨rfl, e6, (by decide : 2 + 4 ≤ _), (by decide : 4 + 8 ≤ _)⟩)
    dsimp only [Pt.U, Pt.locs, Pt.cells, Pt.slots] at X15 l15 y15 z15 st15 hQ15 R15
    subst l15 y15 z15
    obtain ⟨X15, S15, hZ15, ho15⟩ := rebS hS0 (Nat.le_trans (Nat.le_trans (Nat.le_trans (Nat.le_of_eq (congrArg Array.size e0)) E2.1) E6.1) (Nat.le_of_eq (congrArg Array.size e6).symm)) X15 S15 g15 hZ hown
    obtain ⟨v13, v14, rfl, N15, K15, q15_0, q15_1, q15_2, q15_3⟩ := hQ15
    have C16 : CHr Z consts_1 s.vm h0 T15.vm T15.heap := C9.trans R15
    have M15 := Fr.app N0 N15
    refine Gl.to st15 ?_
    show Gl p.tables e below _ (T15.setTop (mkF m 14 #[.val (.int n), .val (.ref tc)] [(.ref b2)]))
    show Gl p.tables e below _ (T15.setTop (mkF m 14 #[.val (.int n), .val (.ref tc)] [(.ref b2)]))
    have K17 : Keep h0 T15.heap [] := ((((Keep.refl h0 []).ext E2).ext E6).trans K15 (allS (Or.inr s4) all0))
    exact Gl.retAH X15 hx S15 (Nat.le_refl _) (by rw [hh]; exact C16.trans (CHv.at X15 hZ15 (elW hw) C16.1)) Bd.returns rfl rfl (hb hby d2_14) hlk (by decide) (by decide) ⟨b2, v13, v14, ([] : List Int32), rfl, M15, K17, q15_0, q15_1, q15_2, q15_3, (tk_nil hc1), s4⟩
  · refine Gl.st (fun _ kq => XS.ifYes X0.here hx rfl (pc0 := 1) (pc' := 15) rfl (hb hby d2_1) rfl ((if0 _ _).trans (feq (hc1 : ¬ (n = (0 : Int32)))).2) (by decide) (by decide) kq) ?_
    show Gl p.tables e below _ (s₁.setTop (mkF m 15 #[.val (.int n), .val (.ref tc)] []))
    refine Gl.st (fun _ kq => XS.iloadN X0.here hx rfl (hb hby d2_15) rfl kq) ?_
    show Gl p.tables e below _ (s₁.setTop (mkF m 16 #[.val (.int n), .val (.ref tc)] [(.int n)]))
    refine Gl.st (fun _ kq => XS.iconst X0.here hx rfl (hb hby d2_16) kq) ?_
    show Gl p.tables e below _ (s₁.setTop (mkF m 17 #[.val (.int n), .val (.ref tc)] [(.int 1), (.int n)]))
    by_cases hc18 : n = (1 : Int32)
    · refine Gl.st (fun _ kq => XS.icmpNo X0.here hx rfl (hb hby d2_17) rfl (teq (hc18 : n = (1 : Int32))).2 kq) ?_
      show Gl p.tables e below _ (s₁.setTop (mkF m 20 #[.val (.int n), .val (.ref tc)] []))
      obtain ⟨T19, h19, X19, e19, E19, A19, D19, U19, st19⟩ := newO X0 hx hZ hown (tw hw 9 rfl) (tw hw 10 rfl) (tw hw 11 rfl) e0 (g := (mkF m 20 #[.val (.int n), .val (.ref tc)] [])) rfl (hb hby d2_20) (by decide) (by decide)
      obtain ⟨b19, g19⟩ : ∃ z, z = h0.size := ⟨_, rfl⟩
      rw [← g19] at A19 D19 U19 st19
      refine Gl.st st19 ?_
      have g20 : n0 ≤ b19 := Nat.le_trans Z0 (Nat.le_of_eq g19.symm)
      have s21 : h0.size ≤ b19 := Nat.le_trans (Nat.le_refl _) (Nat.le_of_eq g19.symm)
      have C22 : CHr Z consts_1 s.vm h0 s.vm h19 := C0.trans (CHr.ext E19 C0.1)
      have F19_24 : Fld Z h19 b19 "java/lang/String" "value" "[B" .null := D19 (Or.inr (tw hw 24 rfl)) (ty := (.array .byte)) (by decide)
      have F19_25 : Fld Z h19 b19 "java/lang/String" "coder" "B" (.int 0) := D19 (Or.inr (tw hw 25 rfl)) (ty := .byte) (by decide)
      show Gl p.tables e below _ (T19.setTop (mkF m 23 #[.val (.int n), .val (.ref tc)] [(.ref b19)]))
      refine Gl.st (fun _ kq => XS.dup X19.here hx rfl (hb hby d2_23) rfl rfl kq) ?_
      show Gl p.tables e below _ (T19.setTop (mkF m 24 #[.val (.int n), .val (.ref tc)] [(.ref b19), (.ref b19)]))
      refine Gl.st (fun _ kq => XS.iconst X19.here hx rfl (hb hby d2_24) kq) ?_
      show Gl p.tables e below _ (T19.setTop (mkF m 25 #[.val (.int n), .val (.ref tc)] [(.int 1), (.ref b19), (.ref b19)]))
      obtain ⟨T23, h23, k23, X23, e23, E23, A23, st23⟩ := newP X19 hx hZ (tw hw 1 rfl) e19 (g := (mkF m 25 #[.val (.int n), .val (.ref tc)] [(.int 1), (.ref b19), (.ref b19)])) rfl (hb hby d2_25) rfl (by decide) (cap := 1) (by decide) (by decide) (by decide) (by decide)
      obtain ⟨b23, g23⟩ : ∃ z, z = h19.size := ⟨_, rfl⟩
      rw [← g23] at A23 st23
      refine Gl.st st23 ?_
      have g24 : n0 ≤ b23 := Nat.le_trans (Nat.le_trans Z0 E19.1) (Nat.le_of_eq g23.symm)
      have s25 : h0.size ≤ b23 := Nat.le_trans (Nat.le_trans (Nat.le_refl _) E19.1) (Nat.le_of_eq g23.symm)
      have C26 : CHr Z consts_1 s.vm h0 s.vm h23 := C22.trans (CHr.ext E23 C22.1)
      have V23 : Arv Z h23 b23 k23 .char (1 : Int32) [(.int 0)] (.int 0) := (Arv.new A23 (by decide)).pad (pad_rep [] (.int 0) 1)
      show Gl p.tables e below _ (T23.setTop (mkF m 27 #[.val (.int n), .val (.ref tc)] [(.ref b23), (.ref b19), (.ref b19)]))
      refine Gl.st (fun _ kq => XS.dup X23.here hx rfl (hb hby d2_27) rfl rfl kq) ?_
      show Gl p.tables e below _ (T23.setTop (mkF m 28 #[.val (.int n), .val (.ref tc)] [(.ref b23), (.ref b23), (.ref b19), (.ref b19)]))
      refine Gl.st (fun _ kq => XS.iconst X23.here hx rfl (hb hby d2_28) kq) ?_
      show Gl p.tables e below _ (T23.setTop (mkF m 29 #[.val (.int n), .val (.ref tc)] [(.int 0), (.ref b23), (.ref b23), (.ref b19), (.ref b19)]))
      refine Gl.st (fun _ kq => XS.aloadN X23.here hx rfl (hb hby d2_29) rfl rfl kq) ?_
      show Gl p.tables e below _ (T23.setTop (mkF m 30 #[.val (.int n), .val (.ref tc)] [(.ref tc), (.int 0), (.ref b23), (.ref b23), (.ref b19), (.ref b19)]))
      refine Gl.st (fun _ kq => XS.iconst X23.here hx rfl (hb hby d2_30) kq) ?_
      show Gl p.tables e below _ (T23.setTop (mkF m 31 #[.val (.int n), .val (.ref tc)] [(.int 0), (.ref tc), (.int 0), (.ref b23), (.ref b23), (.ref b19), (.ref b19)]))
      have f27 : Arv Z h23 tc kc .char (4 : Int32) [(.int v1), (.int v2), (.int v3), (.int v4)] (.int 0) := ((pf0.ext E19).ext E23)
      obtain ⟨c28, a28, q28, S28, M28, H28, G28⟩ := id f27
      refine Gl.st (fun _ kq => X23.caload hx (j := (0 : Int32)) (v := (.int v1)) (by rw [e23]; exact a28.1) (State.isArrayOf_alike hZ.alike a28.2.1) a28.2.2 (inb_of S28 ⟨by decide, by decide⟩) (Has.at H28 (inb_of S28 ⟨by decide, by decide⟩) rfl) (g := (mkF m 31 #[.val (.int n), .val (.ref tc)] [(.int 0), (.ref tc), (.int 0), (.ref b23), (.ref b23), (.ref b19), (.ref b19)])) rfl rfl (hb hby d2_31) _ kq) ?_
      show Gl p.tables e below _ (T23.setTop (mkF m 32 #[.val (.int n), .val (.ref tc)] [(.int v1), (.int 0), (.ref b23), (.ref b23), (.ref b19), (.ref b19)]))
      obtain ⟨c29, a29, q29, S29, M29, H29, G29⟩ := id V23
      obtain ⟨T29, h29, X29, e29, W29, st29⟩ := stC X23 hx hZ e23 a29 (j := (0 : Int32)) (inb_of S29 ⟨by decide, by decide⟩) (g := (mkF m 32 #[.val (.int n), .val (.ref tc)] [(.int v1), (.int 0), (.ref b23), (.ref b23), (.ref b19), (.ref b19)])) rfl rfl (hb hby d2_32)
      refine Gl.st st29 ?_
      have C30 : CHr Z consts_1 s.vm h0 s.vm h29 := C26.trans (CHr.wr W29 (Safe.arv hZ.alike V23 (by decide)) C26.1)
      have V29 : Arv Z h29 b23 k23 .char (1 : Int32) [(.int v1)] (.int 0) := by
        have q := Arv.set a29 q29 S29 M29 H29 G29 (fits_nar_char _) W29 0 rfl (Nat.le_of_ble_eq_true rfl)
        rw [nar_id hv1.1 hv1.2] at q
        exact q
      have N29 := Fr.snoc X29 N0 g24
      show Gl p.tables e below _ (T29.setTop (mkF m 33 #[.val (.int n), .val (.ref tc)] [(.ref b23), (.ref b19), (.ref b19)]))
      have f31 : Exa Z h29 b19 "java/lang/String" := ((A19.ext E23).wr W29)
      have ne32 : b19 ≠ b23 := Nat.ne_of_lt (Nat.lt_of_lt_of_le A19.lt (Nat.le_of_eq g23.symm))
      have f33 : Fld Z h29 b19 "java/lang/String" "value" "[B" .null := ((F19_24.ext E23).other W29 (Or.inl ne32))
      have f34 : Fld Z h29 b19 "java/lang/String" "coder" "B" (.int 0) := ((F19_25.ext E23).other W29 (Or.inl ne32))
      have f35 : Old Z n0 h29 := (((pf1.ext E19).ext E23).wr W29 g24)
      have hp36 : ∀ c ∈ ([v1] : List Int32), ¬ c < 0 ∧ ¬ (255 : Int32) < c := (alcS hv1 alc0)
      have Sf38 : Safe Z consts_1 s.vm h29 b19 := (Safe.wr W29 (Safe.arv hZ.alike V23 (by decide)) C26.1 (Safe.ext E23 C22.1 (Safe.ext E19 C0.1 (Safe.new (EL := consts_1) (vm := s.vm) (Nat.le_of_eq g19.symm)))))
      obtain ⟨_, _, ⟨T37, L37, k37, n37⟩, -, X37, ⟨Lc37, hQ37, l37, y37, z37⟩, st37⟩ := X29.specialBack hx (y := (⟨"java/lang/String", "<init>", "([C)V"⟩ : MethodName)) rfl hown (mvT hZ (tw hw 12 rfl)) (mvT hZ (tw hw 13 rfl)) (mvT hZ (tw hw 14 rfl)) (by decide) (StrChars.Road.backV (W := 1) hZ (wdNew hw) (kI := 4) (tw hw 10 rfl) (cs := ([v1] : List Int32)) (bs := (([v1] : List Int32).map (fun c => c.toInt8.toInt32))) (n := 1) g20 (Nat.le_trans (Nat.le_trans (Nat.le_trans Z0 E19.1) E23.1) (Keep.of_wr W29).1) f31 f33 f34 V29 (O2.ext f35.2) P5 rfl rfl (by decide) (by decide) hp36 rfl (by decide) (by decide)) (g := (mkF m 33 #[.val (.int n), .val (.ref tc)] [(.ref b23), (.ref b19), (.ref b19)])) rfl (by rw [hml]; rfl) (Steps.refl _) (a := b19) (argsL := [(.ref b23)]) (rest := [(.ref b19)]) (lenOf pd___C_V rfl) rfl (by show 2 * 0 + _ ≤ _; exact Nat.le_of_eq rfl) (hb hby d2_33) (fun _ _ => ⟨rfl, e29, (by decide : 2 + 1 ≤ _), (by decide : 5 + 1 ≤ _)⟩)
      dsimp only [Pt.U, Pt.locs, Pt.cells, Pt.slots] at X37 l37 y37 z37 st37 hQ37
      subst l37 y37 z37
      obtain ⟨rfl, N37, K37, q37_0, q37_1, t36, k36, y37_0, y37_1, y37_2, q37_2, q37_3⟩ := hQ37
      have C39 : CHr Z consts_1 s.vm h0 s.vm T37.heap := C30.trans (CHr.keep K37 (sfS Sf38 sf0) C30.1)
      have M37 := Fr.app N29 N37
      have g40 : n0 ≤ t36 := Nat.le_trans (Nat.le_trans (Nat.le_trans (Nat.le_trans Z0 E19.1) E23.1) (Keep.of_wr W29).1) y37_1
      have s41 : h0.size ≤ t36 := Nat.le_trans (Nat.le_trans (Nat.le_trans (Nat.le_trans (Nat.le_refl _) E19.1) E23.1) (Keep.of_wr W29).1) y37_1
      refine Gl.to st37 ?_
      show Gl p.tables e below _ (T37.setTop (mkF m 36 #[.val (.int n), .val (.ref tc)] [(.ref b19)]))
      show Gl p.tables e below _ (T37.setTop (mkF m 36 #[.val (.int n), .val (.ref tc)] [(.ref b19)]))
      have K42 : Keep h0 T37.heap [] := (((((Keep.refl h0 []).ext E19).ext E23).wr W29 (Or.inr s25)).trans K37 (allS (Or.inr s21) all0))
      exact Gl.retAH X37 hx hS0 (Nat.le_trans (Nat.le_trans (Nat.le_trans (Nat.le_trans (Nat.le_of_eq (congrArg Array.size e0)) E19.1) E23.1) (Keep.of_wr W29).1) K37.1) (by rw [hh]; exact C39.trans (CHv.at X37 hZ (elW hw) C39.1)) Bd.returns rfl rfl (hb hby d2_36) hlk (by decide) (by decide) ⟨b19, t36, k36, ([v1] : List Int32), rfl, M37, K42, q37_0, q37_1, q37_2, q37_3, (tk_1 hc1 hc18), s21⟩
    · refine Gl.st (fun _ kq => XS.icmpYes X0.here hx rfl (pc0 := 17) (pc' := 37) rfl (hb hby d2_17) rfl (feq (hc18 : ¬ (n = (1 : Int32)))).2 (by decide) (by decide) kq) ?_
      show Gl p.tables e below _ (s₁.setTop (mkF m 37 #[.val (.int n), .val (.ref tc)] []))
      refine Gl.st (fun _ kq => XS.iloadN X0.here hx rfl (hb hby d2_37) rfl kq) ?_
      show Gl p.tables e below _ (s₁.setTop (mkF m 38 #[.val (.int n), .val (.ref tc)] [(.int n)]))
      refine Gl.st (fun _ kq => XS.iconst X0.here hx rfl (hb hby d2_38) kq) ?_
      show Gl p.tables e below _ (s₁.setTop (mkF m 39 #[.val (.int n), .val (.ref tc)] [(.int 2), (.int n)]))
      by_cases hc43 : n = (2 : Int32)
      · refine Gl.st (fun _ kq => XS.icmpNo X0.here hx rfl (hb hby d2_39) rfl (teq (hc43 : n = (2 : Int32))).2 kq) ?_
        show Gl p.tables e below _ (s₁.setTop (mkF m 42 #[.val (.int n), .val (.ref tc)] []))
        obtain ⟨T44, h44, X44, e44, E44, A44, D44, U44, st44⟩ := newO X0 hx hZ hown (tw hw 9 rfl) (tw hw 10 rfl) (tw hw 11 rfl) e0 (g := (mkF m 42 #[.val (.int n), .val (.ref tc)] [])) rfl (hb hby d2_42) (by decide) (by decide)
        obtain ⟨b44, g44⟩ : ∃ z, z = h0.size := ⟨_, rfl⟩
        rw [← g44] at A44 D44 U44 st44
        refine Gl.st st44 ?_
        have g45 : n0 ≤ b44 := Nat.le_trans Z0 (Nat.le_of_eq g44.symm)
        have s46 : h0.size ≤ b44 := Nat.le_trans (Nat.le_refl _) (Nat.le_of_eq g44.symm)
        have C47 : CHr Z consts_1 s.vm h0 s.vm h44 := C0.trans (CHr.ext E44 C0.1)
        have F44_24 : Fld Z h44 b44 "java/lang/String" "value" "[B" .null := D44 (Or.inr (tw hw 24 rfl)) (ty := (.array .byte)) (by decide)
        have F44_25 : Fld Z h44 b44 "java/lang/String" "coder" "B" (.int 0) := D44 (Or.inr (tw hw 25 rfl)) (ty := .byte) (by decide)
        show Gl p.tables e below _ (T44.setTop (mkF m 45 #[.val (.int n), .val (.ref tc)] [(.ref b44)]))
        refine Gl.st (fun _ kq => XS.dup X44.here hx rfl (hb hby d2_45) rfl rfl kq) ?_
        show Gl p.tables e below _ (T44.setTop (mkF m 46 #[.val (.int n), .val (.ref tc)] [(.ref b44), (.ref b44)]))
        refine Gl.st (fun _ kq => XS.iconst X44.here hx rfl (hb hby d2_46) kq) ?_
        show Gl p.tables e below _ (T44.setTop (mkF m 47 #[.val (.int n), .val (.ref tc)] [(.int 2), (.ref b44), (.ref b44)]))
        obtain ⟨T48, h48, k48, X48, e48, E48, A48, st48⟩ := newP X44 hx hZ (tw hw 1 rfl) e44 (g := (mkF m 47 #[.val (.int n), .val (.ref tc)] [(.int 2), (.ref b44), (.ref b44)])) rfl (hb hby d2_47) rfl (by decide) (cap := 2) (by decide) (by decide) (by decide) (by decide)
        obtain ⟨b48, g48⟩ : ∃ z, z = h44.size := ⟨_, rfl⟩
        rw [← g48] at A48 st48
        refine Gl.st st48 ?_
        have g49 : n0 ≤ b48 := Nat.le_trans (Nat.le_trans Z0 E44.1) (Nat.le_of_eq g48.symm)
        have s50 : h0.size ≤ b48 := Nat.le_trans (Nat.le_trans (Nat.le_refl _) E44.1) (Nat.le_of_eq g48.symm)
        have C51 : CHr Z consts_1 s.vm h0 s.vm h48 := C47.trans (CHr.ext E48 C47.1)
        have V48 : Arv Z h48 b48 k48 .char (2 : Int32) [(.int 0), (.int 0)] (.int 0) := (Arv.new A48 (by decide)).pad (pad_rep [] (.int 0) 2)
        show Gl p.tables e below _ (T48.setTop (mkF m 49 #[.val (.int n), .val (.ref tc)] [(.ref b48), (.ref b44), (.ref b44)]))
        refine Gl.st (fun _ kq => XS.dup X48.here hx rfl (hb hby d2_49) rfl rfl kq) ?_
        show Gl p.tables e below _ (T48.setTop (mkF m 50 #[.val (.int n), .val (.ref tc)] [(.ref b48), (.ref b48), (.ref b44), (.ref b44)]))
        refine Gl.st (fun _ kq => XS.iconst X48.here hx rfl (hb hby d2_50) kq) ?_
        show Gl p.tables e below _ (T48.setTop (mkF m 51 #[.val (.int n), .val (.ref tc)] [(.int 0), (.ref b48), (.ref b48), (.ref b44), (.ref b44)]))
        refine Gl.st (fun _ kq => XS.aloadN X48.here hx rfl (hb hby d2_51) rfl rfl kq) ?_
        show Gl p.tables e below _ (T48.setTop (mkF m 52 #[.val (.int n), .val (.ref tc)] [(.ref tc), (.int 0), (.ref b48), (.ref b48), (.ref b44), (.ref b44)]))
        refine Gl.st (fun _ kq => XS.iconst X48.here hx rfl (hb hby d2_52) kq) ?_
        show Gl p.tables e below _ (T48.setTop (mkF m 53 #[.val (.int n), .val (.ref tc)] [(.int 0), (.ref tc), (.int 0), (.ref b48), (.ref b48), (.ref b44), (.ref b44)]))
        have f52 : Arv Z h48 tc kc .char (4 : Int32) [(.int v1), (.int v2), (.int v3), (.int v4)] (.int 0) := ((pf0.ext E44).ext E48)
        obtain ⟨c53, a53, q53, S53, M53, H53, G53⟩ := id f52
        refine Gl.st (fun _ kq => X48.caload hx (j := (0 : Int32)) (v := (.int v1)) (by rw [e48]; exact a53.1) (State.isArrayOf_alike hZ.alike a53.2.1) a53.2.2 (inb_of S53 ⟨by decide, by decide⟩) (Has.at H53 (inb_of S53 ⟨by decide, by decide⟩) rfl) (g := (mkF m 53 #[.val (.int n), .val (.ref tc)] [(.int 0), (.ref tc), (.int 0), (.ref b48), (.ref b48), (.ref b44), (.ref b44)])) rfl rfl (hb hby d2_53) _ kq) ?_
        show Gl p.tables e below _ (T48.setTop (mkF m 54 #[.val (.int n), .val (.ref tc)] [(.int v1), (.int 0), (.ref b48), (.ref b48), (.ref b44), (.ref b44)]))
        obtain ⟨c54, a54, q54, S54, M54, H54, G54⟩ := id V48
        obtain ⟨T54, h54, X54, e54, W54, st54⟩ := stC X48 hx hZ e48 a54 (j := (0 : Int32)) (inb_of S54 ⟨by decide, by decide⟩) (g := (mkF m 54 #[.val (.int n), .val (.ref tc)] [(.int v1), (.int 0), (.ref b48), (.ref b48), (.ref b44), (.ref b44)])) rfl rfl (hb hby d2_54)
        refine Gl.st st54 ?_
        have C55 : CHr Z consts_1 s.vm h0 s.vm h54 := C51.trans (CHr.wr W54 (Safe.arv hZ.alike V48 (by decide)) C51.1)
        have V54 : Arv Z h54 b48 k48 .char (2 : Int32) [(.int v1), (.int 0)] (.int 0) := by
          have q := Arv.set a54 q54 S54 M54 H54 G54 (fits_nar_char _) W54 0 rfl (Nat.le_of_ble_eq_true rfl)
          rw [nar_id hv1.1 hv1.2] at q
          exact q
        have N54 := Fr.snoc X54 N0 g49
        show Gl p.tables e below _ (T54.setTop (mkF m 55 #[.val (.int n), .val (.ref tc)] [(.ref b48), (.ref b44), (.ref b44)]))
        refine Gl.st (fun _ kq => XS.dup X54.here hx rfl (hb hby d2_55) rfl rfl kq) ?_
        show Gl p.tables e below _ (T54.setTop (mkF m 56 #[.val (.int n), .val (.ref tc)] [(.ref b48), (.ref b48), (.ref b44), (.ref b44)]))
        refine Gl.st (fun _ kq => XS.iconst X54.here hx rfl (hb hby d2_56) kq) ?_
        show Gl p.tables e below _ (T54.setTop (mkF m 57 #[.val (.int n), .val (.ref tc)] [(.int 1), (.ref b48), (.ref b48), (.ref b44), (.ref b44)]))
        refine Gl.st (fun _ kq => XS.aloadN X54.here hx rfl (hb hby d2_57) rfl rfl kq) ?_
        show Gl p.tables e below _ (T54.setTop (mkF m 58 #[.val (.int n), .val (.ref tc)] [(.ref tc), (.int 1), (.ref b48), (.ref b48), (.ref b44), (.ref b44)]))
        refine Gl.st (fun _ kq => XS.iconst X54.here hx rfl (hb hby d2_58) kq) ?_
        show Gl p.tables e below _ (T54.setTop (mkF m 59 #[.val (.int n), .val (.ref tc)] [(.int 1), (.ref tc), (.int 1), (.ref b48), (.ref b48), (.ref b44), (.ref b44)]))
        have ne56 : tc ≠ b48 := Nat.ne_of_lt (Nat.lt_of_lt_of_le (Nat.lt_of_lt_of_le pf0.lt E44.1) (Nat.le_of_eq g48.symm))
        have f57 : Arv Z h54 tc kc .char (4 : Int32) [(.int v1), (.int v2), (.int v3), (.int v4)] (.int 0) := (f52.other W54 ne56)
        obtain ⟨c58, a58, q58, S58, M58, H58, G58⟩ := id f57
        refine Gl.st (fun _ kq => X54.caload hx (j := (1 : Int32)) (v := (.int v2)) (by rw [e54]; exact a58.1) (State.isArrayOf_alike hZ.alike a58.2.1) a58.2.2 (inb_of S58 ⟨by decide, by decide⟩) (Has.at H58 (inb_of S58 ⟨by decide, by decide⟩) rfl) (g := (mkF m 59 #[.val (.int n), .val (.ref tc)] [(.int 1), (.ref tc), (.int 1), (.ref b48), (.ref b48), (.ref b44), (.ref b44)])) rfl rfl (hb hby d2_59) _ kq) ?_
        show Gl p.tables e below _ (T54.setTop (mkF m 60 #[.val (.int n), .val (.ref tc)] [(.int v2), (.int 1), (.ref b48), (.ref b48), (.ref b44), (.ref b44)]))
        obtain ⟨c59, a59, q59, S59, M59, H59, G59⟩ := id V54
        obtain ⟨T59, h59, X59, e59, W59, st59⟩ := stC X54 hx hZ e54 a59 (j := (1 : Int32)) (inb_of S59 ⟨by decide, by decide⟩) (g := (mkF m 60 #[.val (.int n), .val (.ref tc)] [(.int v2), (.int 1), (.ref b48), (.ref b48), (.ref b44), (.ref b44)])) rfl rfl (hb hby d2_60)
        refine Gl.st st59 ?_
        have C60 : CHr Z consts_1 s.vm h0 s.vm h59 := C55.trans (CHr.wr W59 (Safe.arv hZ.alike V54 (by decide)) C55.1)
        have V59 : Arv Z h59 b48 k48 .char (2 : Int32) [(.int v1), (.int v2)] (.int 0) := by
          have q := Arv.set a59 q59 S59 M59 H59 G59 (fits_nar_char _) W59 1 rfl (Nat.le_of_ble_eq_true rfl)
          rw [nar_id hv2.1 hv2.2] at q
          exact q
        have N59 := Fr.snoc X59 N54 g49
        show Gl p.tables e below _ (T59.setTop (mkF m 61 #[.val (.int n), .val (.ref tc)] [(.ref b48), (.ref b44), (.ref b44)]))
        have f61 : Exa Z h59 b44 "java/lang/String" := (((A44.ext E48).wr W54).wr W59)
        have ne62 : b44 ≠ b48 := Nat.ne_of_lt (Nat.lt_of_lt_of_le A44.lt (Nat.le_of_eq g48.symm))
        have f63 : Fld Z h59 b44 "java/lang/String" "value" "[B" .null := (((F44_24.ext E48).other W54 (Or.inl ne62)).other W59 (Or.inl ne62))
        have f64 : Fld Z h59 b44 "java/lang/String" "coder" "B" (.int 0) := (((F44_25.ext E48).other W54 (Or.inl ne62)).other W59 (Or.inl ne62))
        have f65 : Old Z n0 h59 := ((((pf1.ext E44).ext E48).wr W54 g49).wr W59 g49)
        have hp66 : ∀ c ∈ ([v1, v2] : List Int32), ¬ c < 0 ∧ ¬ (255 : Int32) < c := (alcS hv1 (alcS hv2 alc0))
        have Sf68 : Safe Z consts_1 s.vm h59 b44 := (Safe.wr W59 (Safe.arv hZ.alike V54 (by decide)) C55.1 (Safe.wr W54 (Safe.arv hZ.alike V48 (by decide)) C51.1 (Safe.ext E48 C47.1 (Safe.ext E44 C0.1 (Safe.new (EL := consts_1) (vm := s.vm) (Nat.le_of_eq g44.symm))))))
        obtain ⟨_, _, ⟨T67, L67, k67, n67⟩, -, X67, ⟨Lc67, hQ67, l67, y67, z67⟩, st67⟩ := X59.specialBack hx (y := (⟨"java/lang/String", "<init>", "([C)V"⟩ : MethodName)) rfl hown (mvT hZ (tw hw 12 rfl)) (mvT hZ (tw hw 13 rfl)) (mvT hZ (tw hw 14 rfl)) (by decide) (StrChars.Road.backV (W := 1) hZ (wdNew hw) (kI := 4) (tw hw 10 rfl) (cs := ([v1, v2] : List Int32)) (bs := (([v1, v2] : List Int32).map (fun c => c.toInt8.toInt32))) (n := 2) g45 (Nat.le_trans (Nat.le_trans (Nat.le_trans (Nat.le_trans Z0 E44.1) E48.1) (Keep.of_wr W54).1) (Keep.of_wr W59).1) f61 f63 f64 V59 (O2.ext f65.2) P5 rfl rfl (by decide) (by decide) hp66 rfl (by decide) (by decide)) (g := (mkF m 61 #[.val (.int n), .val (.ref tc)] [(.ref b48), (.ref b44), (.ref b44)])) rfl (by rw [hml]; rfl) (Steps.refl _) (a := b44) (argsL := [(.ref b48)]) (rest := [(.ref b44)]) (lenOf pd___C_V rfl) rfl (by show 2 * 0 + _ ≤ _; exact Nat.le_of_eq rfl) (hb hby d2_61) (fun _ _ => ⟨rfl, e59, (by decide : 2 + 1 ≤ _), (by decide : 6 + 2 ≤ _)⟩)
        dsimp only [Pt.U, Pt.locs, Pt.cells, Pt.slots] at X67 l67 y67 z67 st67 hQ67
        subst l67 y67 z67
        obtain ⟨rfl, N67, K67, q67_0, q67_1, t66, k66, y67_0, y67_1, y67_2, q67_2, q67_3⟩ := hQ67
        have C69 : CHr Z consts_1 s.vm h0 s.vm T67.heap := C60.trans (CHr.keep K67 (sfS Sf68 sf0) C60.1)
        have M67 := Fr.app N59 N67
        have g70 : n0 ≤ t66 := Nat.le_trans (Nat.le_trans (Nat.le_trans (Nat.le_trans (Nat.le_trans Z0 E44.1) E48.1) (Keep.of_wr W54).1) (Keep.of_wr W59).1) y67_1
        have s71 : h0.size ≤ t66 := Nat.le_trans (Nat.le_trans (Nat.le_trans (Nat.le_trans (Nat.le_trans (Nat.le_refl _) E44.1) E48.1) (Keep.of_wr W54).1) (Keep.of_wr W59).1) y67_1
        refine Gl.to st67 ?_
        show Gl p.tables e below _ (T67.setTop (mkF m 64 #[.val (.int n), .val (.ref tc)] [(.ref b44)]))
        show Gl p.tables e below _ (T67.setTop (mkF m 64 #[.val (.int n), .val (.ref tc)] [(.ref b44)]))
        have K72 : Keep h0 T67.heap [] := ((((((Keep.refl h0 []).ext E44).ext E48).wr W54 (Or.inr s50)).wr W59 (Or.inr s50)).trans K67 (allS (Or.inr s46) all0))
        exact Gl.retAH X67 hx hS0 (Nat.le_trans (Nat.le_trans (Nat.le_trans (Nat.le_trans (Nat.le_trans (Nat.le_of_eq (congrArg Array.size e0)) E44.1) E48.1) (Keep.of_wr W54).1) (Keep.of_wr W59).1) K67.1) (by rw [hh]; exact C69.trans (CHv.at X67 hZ (elW hw) C69.1)) Bd.returns rfl rfl (hb hby d2_64) hlk (by decide) (by decide) ⟨b44, t66, k66, ([v1, v2] : List Int32), rfl, M67, K72, q67_0, q67_1, q67_2, q67_3, (tk_2 hc1 hc18 hc43), s46⟩
      · refine Gl.st (fun _ kq => XS.icmpYes X0.here hx rfl (pc0 := 39) (pc' := 65) rfl (hb hby d2_39) rfl (feq (hc43 : ¬ (n = (2 : Int32)))).2 (by decide) (by decide) kq) ?_
        show Gl p.tables e below _ (s₁.setTop (mkF m 65 #[.val (.int n), .val (.ref tc)] []))
        refine Gl.st (fun _ kq => XS.iloadN X0.here hx rfl (hb hby d2_65) rfl kq) ?_
        show Gl p.tables e below _ (s₁.setTop (mkF m 66 #[.val (.int n), .val (.ref tc)] [(.int n)]))
        refine Gl.st (fun _ kq => XS.iconst X0.here hx rfl (hb hby d2_66) kq) ?_
        show Gl p.tables e below _ (s₁.setTop (mkF m 67 #[.val (.int n), .val (.ref tc)] [(.int 3), (.int n)]))
        by_cases hc73 : n = (3 : Int32)
        · refine Gl.st (fun _ kq => XS.icmpNo X0.here hx rfl (hb hby d2_67) rfl (teq (hc73 : n = (3 : Int32))).2 kq) ?_
          show Gl p.tables e below _ (s₁.setTop (mkF m 70 #[.val (.int n), .val (.ref tc)] []))
          obtain ⟨T74, h74, X74, e74, E74, A74, D74, U74, st74⟩ := newO X0 hx hZ hown (tw hw 9 rfl) (tw hw 10 rfl) (tw hw 11 rfl) e0 (g := (mkF m 70 #[.val (.int n), .val (.ref tc)] [])) rfl (hb hby d2_70) (by decide) (by decide)
          obtain ⟨b74, g74⟩ : ∃ z, z = h0.size := ⟨_, rfl⟩
          rw [← g74] at A74 D74 U74 st74
          refine Gl.st st74 ?_
          have g75 : n0 ≤ b74 := Nat.le_trans Z0 (Nat.le_of_eq g74.symm)
          have s76 : h0.size ≤ b74 := Nat.le_trans (Nat.le_refl _) (Nat.le_of_eq g74.symm)
          have C77 : CHr Z consts_1 s.vm h0 s.vm h74 := C0.trans (CHr.ext E74 C0.1)
          have F74_24 : Fld Z h74 b74 "java/lang/String" "value" "[B" .null := D74 (Or.inr (tw hw 24 rfl)) (ty := (.array .byte)) (by decide)
          have F74_25 : Fld Z h74 b74 "java/lang/String" "coder" "B" (.int 0) := D74 (Or.inr (tw hw 25 rfl)) (ty := .byte) (by decide)
          show Gl p.tables e below _ (T74.setTop (mkF m 73 #[.val (.int n), .val (.ref tc)] [(.ref b74)]))
          refine Gl.st (fun _ kq => XS.dup X74.here hx rfl (hb hby d2_73) rfl rfl kq) ?_
          show Gl p.tables e below _ (T74.setTop (mkF m 74 #[.val (.int n), .val (.ref tc)] [(.ref b74), (.ref b74)]))
          refine Gl.st (fun _ kq => XS.iconst X74.here hx rfl (hb hby d2_74) kq) ?_
          show Gl p.tables e below _ (T74.setTop (mkF m 75 #[.val (.int n), .val (.ref tc)] [(.int 3), (.ref b74), (.ref b74)]))
          obtain ⟨T78, h78, k78, X78, e78, E78, A78, st78⟩ := newP X74 hx hZ (tw hw 1 rfl) e74 (g := (mkF m 75 #[.val (.int n), .val (.ref tc)] [(.int 3), (.ref b74), (.ref b74)])) rfl (hb hby d2_75) rfl (by decide) (cap := 3) (by decide) (by decide) (by decide) (by decide)
          obtain ⟨b78, g78⟩ : ∃ z, z = h74.size := ⟨_, rfl⟩
          rw [← g78] at A78 st78
          refine Gl.st st78 ?_
          have g79 : n0 ≤ b78 := Nat.le_trans (Nat.le_trans Z0 E74.1) (Nat.le_of_eq g78.symm)
          have s80 : h0.size ≤ b78 := Nat.le_trans (Nat.le_trans (Nat.le_refl _) E74.1) (Nat.le_of_eq g78.symm)
          have C81 : CHr Z consts_1 s.vm h0 s.vm h78 := C77.trans (CHr.ext E78 C77.1)
          have V78 : Arv Z h78 b78 k78 .char (3 : Int32) [(.int 0), (.int 0), (.int 0)] (.int 0) := (Arv.new A78 (by decide)).pad (pad_rep [] (.int 0) 3)
          show Gl p.tables e below _ (T78.setTop (mkF m 77 #[.val (.int n), .val (.ref tc)] [(.ref b78), (.ref b74), (.ref b74)]))
          refine Gl.st (fun _ kq => XS.dup X78.here hx rfl (hb hby d2_77) rfl rfl kq) ?_
          show Gl p.tables e below _ (T78.setTop (mkF m 78 #[.val (.int n), .val (.ref tc)] [(.ref b78), (.ref b78), (.ref b74), (.ref b74)]))
          refine Gl.st (fun _ kq => XS.iconst X78.here hx rfl (hb hby d2_78) kq) ?_
          show Gl p.tables e below _ (T78.setTop (mkF m 79 #[.val (.int n), .val (.ref tc)] [(.int 0), (.ref b78), (.ref b78), (.ref b74), (.ref b74)]))
          refine Gl.st (fun _ kq => XS.aloadN X78.here hx rfl (hb hby d2_79) rfl rfl kq) ?_
          show Gl p.tables e below _ (T78.setTop (mkF m 80 #[.val (.int n), .val (.ref tc)] [(.ref tc), (.int 0), (.ref b78), (.ref b78), (.ref b74), (.ref b74)]))
          refine Gl.st (fun _ kq => XS.iconst X78.here hx rfl (hb hby d2_80) kq) ?_
          show Gl p.tables e below _ (T78.setTop (mkF m 81 #[.val (.int n), .val (.ref tc)] [(.int 0), (.ref tc), (.int 0), (.ref b78), (.ref b78), (.ref b74), (.ref b74)]))
          have f82 : Arv Z h78 tc kc .char (4 : Int32) [(.int v1), (.int v2), (.int v3), (.int v4)] (.int 0) := ((pf0.ext E74).ext E78)
          obtain ⟨c83, a83, q83, S83, M83, H83, G83⟩ := id f82
          refine Gl.st (fun _ kq => X78.caload hx (j := (0 : Int32)) (v := (.int v1)) (by rw [e78]; exact a83.1) (State.isArrayOf_alike hZ.alike a83.2.1) a83.2.2 (inb_of S83 ⟨by decide, by decide⟩) (Has.at H83 (inb_of S83 ⟨by decide, by decide⟩) rfl) (g := (mkF m 81 #[.val (.int n), .val (.ref tc)] [(.int 0), (.ref tc), (.int 0), (.ref b78), (.ref b78), (.ref b74), (.ref b74)])) rfl rfl (hb hby d2_81) _ kq) ?_
          show Gl p.tables e below _ (T78.setTop (mkF m 82 #[.val (.int n), .val (.ref tc)] [(.int v1), (.int 0), (.ref b78), (.ref b78), (.ref b74), (.ref b74)]))
          obtain ⟨c84, a84, q84, S84, M84, H84, G84⟩ := id V78
          obtain ⟨T84, h84, X84, e84, W84, st84⟩ := stC X78 hx hZ e78 a84 (j := (0 : Int32)) (inb_of S84 ⟨by decide, by decide⟩) (g := (mkF m 82 #[.val (.int n), .val (.ref tc)] [(.int v1), (.int 0), (.ref b78), (.ref b78), (.ref b74), (.ref b74)])) rfl rfl (hb hby d2_82)
          refine Gl.st st84 ?_
          have C85 : CHr Z consts_1 s.vm h0 s.vm h84 := C81.trans (CHr.wr W84 (Safe.arv hZ.alike V78 (by decide)) C81.1)
          have V84 : Arv Z h84 b78 k78 .char (3 : Int32) [(.int v1), (.int 0), (.int 0)] (.int 0) := by
            have q := Arv.set a84 q84 S84 M84 H84 G84 (fits_nar_char _) W84 0 rfl (Nat.le_of_ble_eq_true rfl)
            rw [nar_id hv1.1 hv1.2] at q
            exact q
          have N84 := Fr.snoc X84 N0 g79
          show Gl p.tables e below _ (T84.setTop (mkF m 83 #[.val (.int n), .val (.ref tc)] [(.ref b78), (.ref b74), (.ref b74)]))
          refine Gl.st (fun _ kq => XS.dup X84.here hx rfl (hb hby d2_83) rfl rfl kq) ?_
          show Gl p.tables e below _ (T84.setTop (mkF m 84 #[.val (.int n), .val (.ref tc)] [(.ref b78), (.ref b78), (.ref b74), (.ref b74)]))
          refine Gl.st (fun _ kq => XS.iconst X84.here hx rfl (hb hby d2_84) kq) ?_
          show Gl p.tables e below _ (T84.setTop (mkF m 85 #[.val (.int n), .val (.ref tc)] [(.int 1), (.ref b78), (.ref b78), (.ref b74), (.ref b74)]))
          refine Gl.st (fun _ kq => XS.aloadN X84.here hx rfl (hb hby d2_85) rfl rfl kq) ?_
          show Gl p.tables e below _ (T84.setTop (mkF m 86 #[.val (.int n), .val (.ref tc)] [(.ref tc), (.int 1), (.ref b78), (.ref b78), (.ref b74), (.ref b74)]))
          refine Gl.st (fun _ kq => XS.iconst X84.here hx rfl (hb hby d2_86) kq) ?_
          show Gl p.tables e below _ (T84.setTop (mkF m 87 #[.val (.int n), .val (.ref tc)] [(.int 1), (.ref tc), (.int 1), (.ref b78), (.ref b78), (.ref b74), (.ref b74)]))
          have ne86 : tc ≠ b78 := Nat.ne_of_lt (Nat.lt_of_lt_of_le (Nat.lt_of_lt_of_le pf0.lt E74.1) (Nat.le_of_eq g78.symm))
          have f87 : Arv Z h84 tc kc .char (4 : Int32) [(.int v1), (.int v2), (.int v3), (.int v4)] (.int 0) := (f82.other W84 ne86)
          obtain ⟨c88, a88, q88, S88, M88, H88, G88⟩ := id f87
          refine Gl.st (fun _ kq => X84.caload hx (j := (1 : Int32)) (v := (.int v2)) (by rw [e84]; exact a88.1) (State.isArrayOf_alike hZ.alike a88.2.1) a88.2.2 (inb_of S88 ⟨by decide, by decide⟩) (Has.at H88 (inb_of S88 ⟨by decide, by decide⟩) rfl) (g := (mkF m 87 #[.val (.int n), .val (.ref tc)] [(.int 1), (.ref tc), (.int 1), (.ref b78), (.ref b78), (.ref b74), (.ref b74)])) rfl rfl (hb hby d2_87) _ kq) ?_
          show Gl p.tables e below _ (T84.setTop (mkF m 88 #[.val (.int n), .val (.ref tc)] [(.int v2), (.int 1), (.ref b78), (.ref b78), (.ref b74), (.ref b74)]))
          obtain ⟨c89, a89, q89, S89, M89, H89, G89⟩ := id V84
          obtain ⟨T89, h89, X89, e89, W89, st89⟩ := stC X84 hx hZ e84 a89 (j := (1 : Int32)) (inb_of S89 ⟨by decide, by decide⟩) (g := (mkF m 88 #[.val (.int n), .val (.ref tc)] [(.int v2), (.int 1), (.ref b78), (.ref b78), (.ref b74), (.ref b74)])) rfl rfl (hb hby d2_88)
          refine Gl.st st89 ?_
          have C90 : CHr Z consts_1 s.vm h0 s.vm h89 := C85.trans (CHr.wr W89 (Safe.arv hZ.alike V84 (by decide)) C85.1)
          have V89 : Arv Z h89 b78 k78 .char (3 : Int32) [(.int v1), (.int v2), (.int 0)] (.int 0) := by
            have q := Arv.set a89 q89 S89 M89 H89 G89 (fits_nar_char _) W89 1 rfl (Nat.le_of_ble_eq_true rfl)
            rw [nar_id hv2.1 hv2.2] at q
            exact q
          have N89 := Fr.snoc X89 N84 g79
          show Gl p.tables e below _ (T89.setTop (mkF m 89 #[.val (.int n), .val (.ref tc)] [(.ref b78), (.ref b74), (.ref b74)]))
          refine Gl.st (fun _ kq => XS.dup X89.here hx rfl (hb hby d2_89) rfl rfl kq) ?_
          show Gl p.tables e below _ (T89.setTop (mkF m 90 #[.val (.int n), .val (.ref tc)] [(.ref b78), (.ref b78), (.ref b74), (.ref b74)]))
          refine Gl.st (fun _ kq => XS.iconst X89.here hx rfl (hb hby d2_90) kq) ?_
          show Gl p.tables e below _ (T89.setTop (mkF m 91 #[.val (.int n), .val (.ref tc)] [(.int 2), (.ref b78), (.ref b78), (.ref b74), (.ref b74)]))
          refine Gl.st (fun _ kq => XS.aloadN X89.here hx rfl (hb hby d2_91) rfl rfl kq) ?_
          show Gl p.tables e below _ (T89.setTop (mkF m 92 #[.val (.int n), .val (.ref tc)] [(.ref tc), (.int 2), (.ref b78), (.ref b78), (.ref b74), (.ref b74)]))
          refine Gl.st (fun _ kq => XS.iconst X89.here hx rfl (hb hby d2_92) kq) ?_
          show Gl p.tables e below _ (T89.setTop (mkF m 93 #[.val (.int n), .val (.ref tc)] [(.int 2), (.ref tc), (.int 2), (.ref b78), (.ref b78), (.ref b74), (.ref b74)]))
          have f91 : Arv Z h89 tc kc .char (4 : Int32) [(.int v1), (.int v2), (.int v3), (.int v4)] (.int 0) := (f87.other W89 ne86)
          obtain ⟨c92, a92, q92, S92, M92, H92, G92⟩ := id f91
          refine Gl.st (fun _ kq => X89.caload hx (j := (2 : Int32)) (v := (.int v3)) (by rw [e89]; exact a92.1) (State.isArrayOf_alike hZ.alike a92.2.1) a92.2.2 (inb_of S92 ⟨by decide, by decide⟩) (Has.at H92 (inb_of S92 ⟨by decide, by decide⟩) rfl) (g := (mkF m 93 #[.val (.int n), .val (.ref tc)] [(.int 2), (.ref tc), (.int 2), (.ref b78), (.ref b78), (.ref b74), (.ref b74)])) rfl rfl (hb hby d2_93) _ kq) ?_
          show Gl p.tables e below _ (T89.setTop (mkF m 94 #[.val (.int n), .val (.ref tc)] [(.int v3), (.int 2), (.ref b78), (.ref b78), (.ref b74), (.ref b74)]))
          obtain ⟨c93, a93, q93, S93, M93, H93, G93⟩ := id V89
          obtain ⟨T93, h93, X93, e93, W93, st93⟩ := stC X89 hx hZ e89 a93 (j := (2 : Int32)) (inb_of S93 ⟨by decide, by decide⟩) (g := (mkF m 94 #[.val (.int n), .val (.ref tc)] [(.int v3), (.int 2), (.ref b78), (.ref b78), (.ref b74), (.ref b74)])) rfl rfl (hb hby d2_94)
          refine Gl.st st93 ?_
          have C94 : CHr Z consts_1 s.vm h0 s.vm h93 := C90.trans (CHr.wr W93 (Safe.arv hZ.alike V89 (by decide)) C90.1)
          have V93 : Arv Z h93 b78 k78 .char (3 : Int32) [(.int v1), (.int v2), (.int v3)] (.int 0) := by
            have q := Arv.set a93 q93 S93 M93 H93 G93 (fits_nar_char _) W93 2 rfl (Nat.le_of_ble_eq_true rfl)
            rw [nar_id hv3.1 hv3.2] at q
            exact q
          have N93 := Fr.snoc X93 N89 g79
          show Gl p.tables e below _ (T93.setTop (mkF m 95 #[.val (.int n), .val (.ref tc)] [(.ref b78), (.ref b74), (.ref b74)]))
          have f95 : Exa Z h93 b74 "java/lang/String" := ((((A74.ext E78).wr W84).wr W89).wr W93)
          have ne96 : b74 ≠ b78 := Nat.ne_of_lt (Nat.lt_of_lt_of_le A74.lt (Nat.le_of_eq g78.symm))
          have f97 : Fld Z h93 b74 "java/lang/String" "value" "[B" .null := ((((F74_24.ext E78).other W84 (Or.inl ne96)).other W89 (Or.inl ne96)).other W93 (Or.inl ne96))
          have f98 : Fld Z h93 b74 "java/lang/String" "coder" "B" (.int 0) := ((((F74_25.ext E78).other W84 (Or.inl ne96)).other W89 (Or.inl ne96)).other W93 (Or.inl ne96))
          have f99 : Old Z n0 h93 := (((((pf1.ext E74).ext E78).wr W84 g79).wr W89 g79).wr W93 g79)
          have hp100 : ∀ c ∈ ([v1, v2, v3] : List Int32), ¬ c < 0 ∧ ¬ (255 : Int32) < c := (alcS hv1 (alcS hv2 (alcS hv3 alc0)))
          have Sf102 : Safe Z consts_1 s.vm h93 b74 := (Safe.wr W93 (Safe.arv hZ.alike V89 (by decide)) C90.1 (Safe.wr W89 (Safe.arv hZ.alike V84 (by decide)) C85.1 (Safe.wr W84 (Safe.arv hZ.alike V78 (by decide)) C81.1 (Safe.ext E78 C77.1 (Safe.ext E74 C0.1 (Safe.new (EL := consts_1) (vm := s.vm) (Nat.le_of_eq g74.symm)))))))
          obtain ⟨_, _, ⟨T101, L101, k101, n101⟩, -, X101, ⟨Lc101, hQ101, l101, y101, z101⟩, st101⟩ := X93.specialBack hx (y := (⟨"java/lang/String", "<init>", "([C)V"⟩ : MethodName)) rfl hown (mvT hZ (tw hw 12 rfl)) (mvT hZ (tw hw 13 rfl)) (mvT hZ (tw hw 14 rfl)) (by decide) (StrChars.Road.backV (W := 1) hZ (wdNew hw) (kI := 4) (tw hw 10 rfl) (cs := ([v1, v2, v3] : List Int32)) (bs := (([v1, v2, v3] : List Int32).map (fun c => c.toInt8.toInt32))) (n := 3) g75 (Nat.le_trans (Nat.le_trans (Nat.le_trans (Nat.le_trans (Nat.le_trans Z0 E74.1) E78.1) (Keep.of_wr W84).1) (Keep.of_wr W89).1) (Keep.of_wr W93).1) f95 f97 f98 V93 (O2.ext f99.2) P5 rfl rfl (by decide) (by decide) hp100 rfl (by decide) (by decide)) (g := (mkF m 95 #[.val (.int n), .val (.ref tc)] [(.ref b78), (.ref b74), (.ref b74)])) rfl (by rw [hml]; rfl) (Steps.refl _) (a := b74) (argsL := [(.ref b78)]) (rest := [(.ref b74)]) (lenOf pd___C_V rfl) rfl (by show 2 * 0 + _ ≤ _; exact Nat.le_of_eq rfl) (hb hby d2_95) (fun _ _ => ⟨rfl, e93, (by decide : 2 + 1 ≤ _), (by decide : 7 + 3 ≤ _)⟩)
          dsimp only [Pt.U, Pt.locs, Pt.cells, Pt.slots] at X101 l101 y101 z101 st101 hQ101
          subst l101 y101 z101
          obtain ⟨rfl, N101, K101, q101_0, q101_1, t100, k100, y101_0, y101_1, y101_2, q101_2, q101_3⟩ := hQ101
          have C103 : CHr Z consts_1 s.vm h0 s.vm T101.heap := C94.trans (CHr.keep K101 (sfS Sf102 sf0) C94.1)
          have M101 := Fr.app N93 N101
          have g104 : n0 ≤ t100 := Nat.le_trans (Nat.le_trans (Nat.le_trans (Nat.le_trans (Nat.le_trans (Nat.le_trans Z0 E74.1) E78.1) (Keep.of_wr W84).1) (Keep.of_wr W89).1) (Keep.of_wr W93).1) y101_1
          have s105 : h0.size ≤ t100 := Nat.le_trans (Nat.le_trans (Nat.le_trans (Nat.le_trans (Nat.le_trans (Nat.le_trans (Nat.le_refl _) E74.1) E78.1) (Keep.of_wr W84).1) (Keep.of_wr W89).1) (Keep.of_wr W93).1) y101_1
          refine Gl.to st101 ?_
          show Gl p.tables e below _ (T101.setTop (mkF m 98 #[.val (.int n), .val (.ref tc)] [(.ref b74)]))
          show Gl p.tables e below _ (T101.setTop (mkF m 98 #[.val (.int n), .val (.ref tc)] [(.ref b74)]))
          have K106 : Keep h0 T101.heap [] := (((((((Keep.refl h0 []).ext E74).ext E78).wr W84 (Or.inr s80)).wr W89 (Or.inr s80)).wr W93 (Or.inr s80)).trans K101 (allS (Or.inr s76) all0))
          exact Gl.retAH X101 hx hS0 (Nat.le_trans (Nat.le_trans (Nat.le_trans (Nat.le_trans (Nat.le_trans (Nat.le_trans (Nat.le_of_eq (congrArg Array.size e0)) E74.1) E78.1) (Keep.of_wr W84).1) (Keep.of_wr W89).1) (Keep.of_wr W93).1) K101.1) (by rw [hh]; exact C103.trans (CHv.at X101 hZ (elW hw) C103.1)) Bd.returns rfl rfl (hb hby d2_98) hlk (by decide) (by decide) ⟨b74, t100, k100, ([v1, v2, v3] : List Int32), rfl, M101, K106, q101_0, q101_1, q101_2, q101_3, (tk_3 hc1 hc18 hc43 hc73), s76⟩
        · refine Gl.st (fun _ kq => XS.icmpYes X0.here hx rfl (pc0 := 67) (pc' := 99) rfl (hb hby d2_67) rfl (feq (hc73 : ¬ (n = (3 : Int32)))).2 (by decide) (by decide) kq) ?_
          show Gl p.tables e below _ (s₁.setTop (mkF m 99 #[.val (.int n), .val (.ref tc)] []))
          obtain ⟨T107, h107, X107, e107, E107, A107, D107, U107, st107⟩ := newO X0 hx hZ hown (tw hw 9 rfl) (tw hw 10 rfl) (tw hw 11 rfl) e0 (g := (mkF m 99 #[.val (.int n), .val (.ref tc)] [])) rfl (hb hby d2_99) (by decide) (by decide)
          obtain ⟨b107, g107⟩ : ∃ z, z = h0.size := ⟨_, rfl⟩
          rw [← g107] at A107 D107 U107 st107
          refine Gl.st st107 ?_
          have g108 : n0 ≤ b107 := Nat.le_trans Z0 (Nat.le_of_eq g107.symm)
          have s109 : h0.size ≤ b107 := Nat.le_trans (Nat.le_refl _) (Nat.le_of_eq g107.symm)
          have C110 : CHr Z consts_1 s.vm h0 s.vm h107 := C0.trans (CHr.ext E107 C0.1)
          have F107_24 : Fld Z h107 b107 "java/lang/String" "value" "[B" .null := D107 (Or.inr (tw hw 24 rfl)) (ty := (.array .byte)) (by decide)
          have F107_25 : Fld Z h107 b107 "java/lang/String" "coder" "B" (.int 0) := D107 (Or.inr (tw hw 25 rfl)) (ty := .byte) (by decide)
          show Gl p.tables e below _ (T107.setTop (mkF m 102 #[.val (.int n), .val (.ref tc)] [(.ref b107)]))
          refine Gl.st (fun _ kq => XS.dup X107.here hx rfl (hb hby d2_102) rfl rfl kq) ?_
          show Gl p.tables e below _ (T107.setTop (mkF m 103 #[.val (.int n), .val (.ref tc)] [(.ref b107), (.ref b107)]))
          refine Gl.st (fun _ kq => XS.iconst X107.here hx rfl (hb hby d2_103) kq) ?_
          show Gl p.tables e below _ (T107.setTop (mkF m 104 #[.val (.int n), .val (.ref tc)] [(.int 4), (.ref b107), (.ref b107)]))
          obtain ⟨T111, h111, k111, X111, e111, E111, A111, st111⟩ := newP X107 hx hZ (tw hw 1 rfl) e107 (g := (mkF m 104 #[.val (.int n), .val (.ref tc)] [(.int 4), (.ref b107), (.ref b107)])) rfl (hb hby d2_104) rfl (by decide) (cap := 4) (by decide) (by decide) (by decide) (by decide)
          obtain ⟨b111, g111⟩ : ∃ z, z = h107.size := ⟨_, rfl⟩
          rw [← g111] at A111 st111
          refine Gl.st st111 ?_
          have g112 : n0 ≤ b111 := Nat.le_trans (Nat.le_trans Z0 E107.1) (Nat.le_of_eq g111.symm)
          have s113 : h0.size ≤ b111 := Nat.le_trans (Nat.le_trans (Nat.le_refl _) E107.1) (Nat.le_of_eq g111.symm)
          have C114 : CHr Z consts_1 s.vm h0 s.vm h111 := C110.trans (CHr.ext E111 C110.1)
          have V111 : Arv Z h111 b111 k111 .char (4 : Int32) [(.int 0), (.int 0), (.int 0), (.int 0)] (.int 0) := (Arv.new A111 (by decide)).pad (pad_rep [] (.int 0) 4)
          show Gl p.tables e below _ (T111.setTop (mkF m 106 #[.val (.int n), .val (.ref tc)] [(.ref b111), (.ref b107), (.ref b107)]))
          refine Gl.st (fun _ kq => XS.dup X111.here hx rfl (hb hby d2_106) rfl rfl kq) ?_
          show Gl p.tables e below _ (T111.setTop (mkF m 107 #[.val (.int n), .val (.ref tc)] [(.ref b111), (.ref b111), (.ref b107), (.ref b107)]))
          refine Gl.st (fun _ kq => XS.iconst X111.here hx rfl (hb hby d2_107) kq) ?_
          show Gl p.tables e below _ (T111.setTop (mkF m 108 #[.val (.int n), .val (.ref tc)] [(.int 0), (.ref b111), (.ref b111), (.ref b107), (.ref b107)]))
          refine Gl.st (fun _ kq => XS.aloadN X111.here hx rfl (hb hby d2_108) rfl rfl kq) ?_
          show Gl p.tables e below _ (T111.setTop (mkF m 109 #[.val (.int n), .val (.ref tc)] [(.ref tc), (.int 0), (.ref b111), (.ref b111), (.ref b107), (.ref b107)]))
          refine Gl.st (fun _ kq => XS.iconst X111.here hx rfl (hb hby d2_109) kq) ?_
          show Gl p.tables e below _ (T111.setTop (mkF m 110 #[.val (.int n), .val (.ref tc)] [(.int 0), (.ref tc), (.int 0), (.ref b111), (.ref b111), (.ref b107), (.ref b107)]))
          have f115 : Arv Z h111 tc kc .char (4 : Int32) [(.int v1), (.int v2), (.int v3), (.int v4)] (.int 0) := ((pf0.ext E107).ext E111)
          obtain ⟨c116, a116, q116, S116, M116, H116, G116⟩ := id f115
          refine Gl.st (fun _ kq => X111.caload hx (j := (0 : Int32)) (v := (.int v1)) (by rw [e111]; exact a116.1) (State.isArrayOf_alike hZ.alike a116.2.1) a116.2.2 (inb_of S116 ⟨by decide, by decide⟩) (Has.at H116 (inb_of S116 ⟨by decide, by decide⟩) rfl) (g := (mkF m 110 #[.val (.int n), .val (.ref tc)] [(.int 0), (.ref tc), (.int 0), (.ref b111), (.ref b111), (.ref b107), (.ref b107)])) rfl rfl (hb hby d2_110) _ kq) ?_
          show Gl p.tables e below _ (T111.setTop (mkF m 111 #[.val (.int n), .val (.ref tc)] [(.int v1), (.int 0), (.ref b111), (.ref b111), (.ref b107), (.ref b107)]))
          obtain ⟨c117, a117, q117, S117, M117, H117, G117⟩ := id V111
          obtain ⟨T117, h117, X117, e117, W117, st117⟩ := stC X111 hx hZ e111 a117 (j := (0 : Int32)) (inb_of S117 ⟨by decide, by decide⟩) (g := (mkF m 111 #[.val (.int n), .val (.ref tc)] [(.int v1), (.int 0), (.ref b111), (.ref b111), (.ref b107), (.ref b107)])) rfl rfl (hb hby d2_111)
          refine Gl.st st117 ?_
          have C118 : CHr Z consts_1 s.vm h0 s.vm h117 := C114.trans (CHr.wr W117 (Safe.arv hZ.alike V111 (by decide)) C114.1)
          have V117 : Arv Z h117 b111 k111 .char (4 : Int32) [(.int v1), (.int 0), (.int 0), (.int 0)] (.int 0) := by
            have q := Arv.set a117 q117 S117 M117 H117 G117 (fits_nar_char _) W117 0 rfl (Nat.le_of_ble_eq_true rfl)
            rw [nar_id hv1.1 hv1.2] at q
            exact q
          have N117 := Fr.snoc X117 N0 g112
          show Gl p.tables e below _ (T117.setTop (mkF m 112 #[.val (.int n), .val (.ref tc)] [(.ref b111), (.ref b107), (.ref b107)]))
          refine Gl.st (fun _ kq => XS.dup X117.here hx rfl (hb hby d2_112) rfl rfl kq) ?_
          show Gl p.tables e below _ (T117.setTop (mkF m 113 #[.val (.int n), .val (.ref tc)] [(.ref b111), (.ref b111), (.ref b107), (.ref b107)]))
          refine Gl.st (fun _ kq => XS.iconst X117.here hx rfl (hb hby d2_113) kq) ?_
          show Gl p.tables e below _ (T117.setTop (mkF m 114 #[.val (.int n), .val (.ref tc)] [(.int 1), (.ref b111), (.ref b111), (.ref b107), (.ref b107)]))
          refine Gl.st (fun _ kq => XS.aloadN X117.here hx rfl (hb hby d2_114) rfl rfl kq) ?_
          show Gl p.tables e below _ (T117.setTop (mkF m 115 #[.val (.int n), .val (.ref tc)] [(.ref tc), (.int 1), (.ref b111), (.ref b111), (.ref b107), (.ref b107)]))
          refine Gl.st (fun _ kq => XS.iconst X117.here hx rfl (hb hby d2_115) kq) ?_
          show Gl p.tables e below _ (T117.setTop (mkF m 116 #[.val (.int n), .val (.ref tc)] [(.int 1), (.ref tc), (.int 1), (.ref b111), (.ref b111), (.ref b107), (.ref b107)]))
          have ne119 : tc ≠ b111 := Nat.ne_of_lt (Nat.lt_of_lt_of_le (Nat.lt_of_lt_of_le pf0.lt E107.1) (Nat.le_of_eq g111.symm))
          have f120 : Arv Z h117 tc kc .char (4 : Int32) [(.int v1), (.int v2), (.int v3), (.int v4)] (.int 0) := (f115.other W117 ne119)
          obtain ⟨c121, a121, q121, S121, M121, H121, G121⟩ := id f120
          refine Gl.st (fun _ kq => X117.caload hx (j := (1 : Int32)) (v := (.int v2)) (by rw [e117]; exact a121.1) (State.isArrayOf_alike hZ.alike a121.2.1) a121.2.2 (inb_of S121 ⟨by decide, by decide⟩) (Has.at H121 (inb_of S121 ⟨by decide, by decide⟩) rfl) (g := (mkF m 116 #[.val (.int n), .val (.ref tc)] [(.int 1), (.ref tc), (.int 1), (.ref b111), (.ref b111), (.ref b107), (.ref b107)])) rfl rfl (hb hby d2_116) _ kq) ?_
          show Gl p.tables e below _ (T117.setTop (mkF m 117 #[.val (.int n), .val (.ref tc)] [(.int v2), (.int 1), (.ref b111), (.ref b111), (.ref b107), (.ref b107)]))
          obtain ⟨c122, a122, q122, S122, M122, H122, G122⟩ := id V117
          obtain ⟨T122, h122, X122, e122, W122, st122⟩ := stC X117 hx hZ e117 a122 (j := (1 : Int32)) (inb_of S122 ⟨by decide, by decide⟩) (g := (mkF m 117 #[.val (.int n), .val (.ref tc)] [(.int v2), (.int 1), (.ref b111), (.ref b111), (.ref b107), (.ref b107)])) rfl rfl (hb hby d2_117)
          refine Gl.st st122 ?_
          have C123 : CHr Z consts_1 s.vm h0 s.vm h122 := C118.trans (CHr.wr W122 (Safe.arv hZ.alike V117 (by decide)) C118.1)
          have V122 : Arv Z h122 b111 k111 .char (4 : Int32) [(.int v1), (.int v2), (.int 0), (.int 0)] (.int 0) := by
            have q := Arv.set a122 q122 S122 M122 H122 G122 (fits_nar_char _) W122 1 rfl (Nat.le_of_ble_eq_true rfl)
            rw [nar_id hv2.1 hv2.2] at q
            exact q
          have N122 := Fr.snoc X122 N117 g112
          show Gl p.tables e below _ (T122.setTop (mkF m 118 #[.val (.int n), .val (.ref tc)] [(.ref b111), (.ref b107), (.ref b107)]))
          refine Gl.st (fun _ kq => XS.dup X122.here hx rfl (hb hby d2_118) rfl rfl kq) ?_
          show Gl p.tables e below _ (T122.setTop (mkF m 119 #[.val (.int n), .val (.ref tc)] [(.ref b111), (.ref b111), (.ref b107), (.ref b107)]))
          refine Gl.st (fun _ kq => XS.iconst X122.here hx rfl (hb hby d2_119) kq) ?_
          show Gl p.tables e below _ (T122.setTop (mkF m 120 #[.val (.int n), .val (.ref tc)] [(.int 2), (.ref b111), (.ref b111), (.ref b107), (.ref b107)]))
          refine Gl.st (fun _ kq => XS.aloadN X122.here hx rfl (hb hby d2_120) rfl rfl kq) ?_
          show Gl p.tables e below _ (T122.setTop (mkF m 121 #[.val (.int n), .val (.ref tc)] [(.ref tc), (.int 2), (.ref b111), (.ref b111), (.ref b107), (.ref b107)]))
          refine Gl.st (fun _ kq => XS.iconst X122.here hx rfl (hb hby d2_121) kq) ?_
          show Gl p.tables e below _ (T122.setTop (mkF m 122 #[.val (.int n), .val (.ref tc)] [(.int 2), (.ref tc), (.int 2), (.ref b111), (.ref b111), (.ref b107), (.ref b107)]))
          have f124 : Arv Z h122 tc kc .char (4 : Int32) [(.int v1), (.int v2), (.int v3), (.int v4)] (.int 0) := (f120.other W122 ne119)
          obtain ⟨c125, a125, q125, S125, M125, H125, G125⟩ := id f124
          refine Gl.st (fun _ kq => X122.caload hx (j := (2 : Int32)) (v := (.int v3)) (by rw [e122]; exact a125.1) (State.isArrayOf_alike hZ.alike a125.2.1) a125.2.2 (inb_of S125 ⟨by decide, by decide⟩) (Has.at H125 (inb_of S125 ⟨by decide, by decide⟩) rfl) (g := (mkF m 122 #[.val (.int n), .val (.ref tc)] [(.int 2), (.ref tc), (.int 2), (.ref b111), (.ref b111), (.ref b107), (.ref b107)])) rfl rfl (hb hby d2_122) _ kq) ?_
          show Gl p.tables e below _ (T122.setTop (mkF m 123 #[.val (.int n), .val (.ref tc)] [(.int v3), (.int 2), (.ref b111), (.ref b111), (.ref b107), (.ref b107)]))
          obtain ⟨c126, a126, q126, S126, M126, H126, G126⟩ := id V122
          obtain ⟨T126, h126, X126, e126, W126, st126⟩ := stC X122 hx hZ e122 a126 (j := (2 : Int32)) (inb_of S126 ⟨by decide, by decide⟩) (g := (mkF m 123 #[.val (.int n), .val (.ref tc)] [(.int v3), (.int 2), (.ref b111), (.ref b111), (.ref b107), (.ref b107)])) rfl rfl (hb hby d2_123)
          refine Gl.st st126 ?_
          have C127 : CHr Z consts_1 s.vm h0 s.vm h126 := C123.trans (CHr.wr W126 (Safe.arv hZ.alike V122 (by decide)) C123.1)
          have V126 : Arv Z h126 b111 k111 .char (4 : Int32) [(.int v1), (.int v2), (.int v3), (.int 0)] (.int 0) := by
            have q := Arv.set a126 q126 S126 M126 H126 G126 (fits_nar_char _) W126 2 rfl (Nat.le_of_ble_eq_true rfl)
            rw [nar_id hv3.1 hv3.2] at q
            exact q
          have N126 := Fr.snoc X126 N122 g112
          show Gl p.tables e below _ (T126.setTop (mkF m 124 #[.val (.int n), .val (.ref tc)] [(.ref b111), (.ref b107), (.ref b107)]))
          refine Gl.st (fun _ kq => XS.dup X126.here hx rfl (hb hby d2_124) rfl rfl kq) ?_
          show Gl p.tables e below _ (T126.setTop (mkF m 125 #[.val (.int n), .val (.ref tc)] [(.ref b111), (.ref b111), (.ref b107), (.ref b107)]))
          refine Gl.st (fun _ kq => XS.iconst X126.here hx rfl (hb hby d2_125) kq) ?_
          show Gl p.tables e below _ (T126.setTop (mkF m 126 #[.val (.int n), .val (.ref tc)] [(.int 3), (.ref b111), (.ref b111), (.ref b107), (.ref b107)]))
          refine Gl.st (fun _ kq => XS.aloadN X126.here hx rfl (hb hby d2_126) rfl rfl kq) ?_
          show Gl p.tables e below _ (T126.setTop (mkF m 127 #[.val (.int n), .val (.ref tc)] [(.ref tc), (.int 3), (.ref b111), (.ref b111), (.ref b107), (.ref b107)]))
          refine Gl.st (fun _ kq => XS.iconst X126.here hx rfl (hb hby d2_127) kq) ?_
          show Gl p.tables e below _ (T126.setTop (mkF m 128 #[.val (.int n), .val (.ref tc)] [(.int 3), (.ref tc), (.int 3), (.ref b111), (.ref b111), (.ref b107), (.ref b107)]))
          have f128 : Arv Z h126 tc kc .char (4 : Int32) [(.int v1), (.int v2), (.int v3), (.int v4)] (.int 0) := (f124.other W126 ne119)
          obtain ⟨c129, a129, q129, S129, M129, H129, G129⟩ := id f128
          refine Gl.st (fun _ kq => X126.caload hx (j := (3 : Int32)) (v := (.int v4)) (by rw [e126]; exact a129.1) (State.isArrayOf_alike hZ.alike a129.2.1) a129.2.2 (inb_of S129 ⟨by decide, by decide⟩) (Has.at H129 (inb_of S129 ⟨by decide, by decide⟩) rfl) (g := (mkF m 128 #[.val (.int n), .val (.ref tc)] [(.int 3), (.ref tc), (.int 3), (.ref b111), (.ref b111), (.ref b107), (.ref b107)])) rfl rfl (hb hby d2_128) _ kq) ?_
          show Gl p.tables e below _ (T126.setTop (mkF m 129 #[.val (.int n), .val (.ref tc)] [(.int v4), (.int 3), (.ref b111), (.ref b111), (.ref b107), (.ref b107)]))
          obtain ⟨c130, a130, q130, S130, M130, H130, G130⟩ := id V126
          obtain ⟨T130, h130, X130, e130, W130, st130⟩ := stC X126 hx hZ e126 a130 (j := (3 : Int32)) (inb_of S130 ⟨by decide, by decide⟩) (g := (mkF m 129 #[.val (.int n), .val (.ref tc)] [(.int v4), (.int 3), (.ref b111), (.ref b111), (.ref b107), (.ref b107)])) rfl rfl (hb hby d2_129)
          refine Gl.st st130 ?_
          have C131 : CHr Z consts_1 s.vm h0 s.vm h130 := C127.trans (CHr.wr W130 (Safe.arv hZ.alike V126 (by decide)) C127.1)
          have V130 : Arv Z h130 b111 k111 .char (4 : Int32) [(.int v1), (.int v2), (.int v3), (.int v4)] (.int 0) := by
            have q := Arv.set a130 q130 S130 M130 H130 G130 (fits_nar_char _) W130 3 rfl (Nat.le_of_ble_eq_true rfl)
            rw [nar_id hv4.1 hv4.2] at q
            exact q
          have N130 := Fr.snoc X130 N126 g112
          show Gl p.tables e below _ (T130.setTop (mkF m 130 #[.val (.int n), .val (.ref tc)] [(.ref b111), (.ref b107), (.ref b107)]))
          have f132 : Exa Z h130 b107 "java/lang/String" := (((((A107.ext E111).wr W117).wr W122).wr W126).wr W130)
          have ne133 : b107 ≠ b111 := Nat.ne_of_lt (Nat.lt_of_lt_of_le A107.lt (Nat.le_of_eq g111.symm))
          have f134 : Fld Z h130 b107 "java/lang/String" "value" "[B" .null := (((((F107_24.ext E111).other W117 (Or.inl ne133)).other W122 (Or.inl ne133)).other W126 (Or.inl ne133)).other W130 (Or.inl ne133))
          have f135 : Fld Z h130 b107 "java/lang/String" "coder" "B" (.int 0) := (((((F107_25.ext E111).other W117 (Or.inl ne133)).other W122 (Or.inl ne133)).other W126 (Or.inl ne133)).other W130 (Or.inl ne133))
          have f136 : Old Z n0 h130 := ((((((pf1.ext E107).ext E111).wr W117 g112).wr W122 g112).wr W126 g112).wr W130 g112)
          have hp137 : ∀ c ∈ ([v1, v2, v3, v4] : List Int32), ¬ c < 0 ∧ ¬ (255 : Int32) < c := (alcS hv1 (alcS hv2 (alcS hv3 (alcS hv4 alc0))))
          have Sf139 : Safe Z consts_1 s.vm h130 b107 := (Safe.wr W130 (Safe.arv hZ.alike V126 (by decide)) C127.1 (Safe.wr W126 (Safe.arv hZ.alike V122 (by decide)) C123.1 (Safe.wr W122 (Safe.arv hZ.alike V117 (by decide)) C118.1 (Safe.wr W117 (Safe.arv hZ.alike V111 (by decide)) C114.1 (Safe.ext E111 C110.1 (Safe.ext E107 C0.1 (Safe.new (EL := consts_1) (vm := s.vm) (Nat.le_of_eq g107.symm))))))))
          obtain ⟨_, _, ⟨T138, L138, k138, n138⟩, -, X138, ⟨Lc138, hQ138, l138, y138, z138⟩, st138⟩ := X130.specialBack hx (y := (⟨"java/lang/String", "<init>", "([C)V"⟩ : MethodName)) rfl hown (mvT hZ (tw hw 12 rfl)) (mvT hZ (tw hw 13 rfl)) (mvT hZ (tw hw 14 rfl)) (by decide) (StrChars.Road.backV (W := 1) hZ (wdNew hw) (kI := 4) (tw hw 10 rfl) (cs := ([v1, v2, v3, v4] : List Int32)) (bs := (([v1, v2, v3, v4] : List Int32).map (fun c => c.toInt8.toInt32))) (n := 4) g108 (Nat.le_trans (Nat.le_trans (Nat.le_trans (Nat.le_trans (Nat.le_trans (Nat.le_trans Z0 E107.1) E111.1) (Keep.of_wr W117).1) (Keep.of_wr W122).1) (Keep.of_wr W126).1) (Keep.of_wr W130).1) f132 f134 f135 V130 (O2.ext f136.2) P5 rfl rfl (by decide) (by decide) hp137 rfl (by decide) (by decide)) (g := (mkF m 130 #[.val (.int n), .val (.ref tc)] [(.ref b111), (.ref b107), (.ref b107)])) rfl (by rw [hml]; rfl) (Steps.refl _) (a := b107) (argsL := [(.ref b111)]) (rest := [(.ref b107)]) (lenOf pd___C_V rfl) rfl (by show 2 * 0 + _ ≤ _; exact Nat.le_of_eq rfl) (hb hby d2_130) (fun _ _ => ⟨rfl, e130, (by decide : 2 + 1 ≤ _), (by decide : 8 + 4 ≤ _)⟩)
          dsimp only [Pt.U, Pt.locs, Pt.cells, Pt.slots] at X138 l138 y138 z138 st138 hQ138
          subst l138 y138 z138
          obtain ⟨rfl, N138, K138, q138_0, q138_1, t137, k137, y138_0, y138_1, y138_2, q138_2, q138_3⟩ := hQ138
          have C140 : CHr Z consts_1 s.vm h0 s.vm T138.heap := C131.trans (CHr.keep K138 (sfS Sf139 sf0) C131.1)
          have M138 := Fr.app N130 N138
          have g141 : n0 ≤ t137 := Nat.le_trans (Nat.le_trans (Nat.le_trans (Nat.le_trans (Nat.le_trans (Nat.le_trans (Nat.le_trans Z0 E107.1) E111.1) (Keep.of_wr W117).1) (Keep.of_wr W122).1) (Keep.of_wr W126).1) (Keep.of_wr W130).1) y138_1
          have s142 : h0.size ≤ t137 := Nat.le_trans (Nat.le_trans (Nat.le_trans (Nat.le_trans (Nat.le_trans (Nat.le_trans (Nat.le_trans (Nat.le_refl _) E107.1) E111.1) (Keep.of_wr W117).1) (Keep.of_wr W122).1) (Keep.of_wr W126).1) (Keep.of_wr W130).1) y138_1
          refine Gl.to st138 ?_
          show Gl p.tables e below _ (T138.setTop (mkF m 133 #[.val (.int n), .val (.ref tc)] [(.ref b107)]))
          show Gl p.tables e below _ (T138.setTop (mkF m 133 #[.val (.int n), .val (.ref tc)] [(.ref b107)]))
          have K143 : Keep h0 T138.heap [] := ((((((((Keep.refl h0 []).ext E107).ext E111).wr W117 (Or.inr s113)).wr W122 (Or.inr s113)).wr W126 (Or.inr s113)).wr W130 (Or.inr s113)).trans K138 (allS (Or.inr s109) all0))
          exact Gl.retAH X138 hx hS0 (Nat.le_trans (Nat.le_trans (Nat.le_trans (Nat.le_trans (Nat.le_trans (Nat.le_trans (Nat.le_trans (Nat.le_of_eq (congrArg Array.size e0)) E107.1) E111.1) (Keep.of_wr W117).1) (Keep.of_wr W122).1) (Keep.of_wr W126).1) (Keep.of_wr W130).1) K138.1) (by rw [hh]; exact C140.trans (CHv.at X138 hZ (elW hw) C140.1)) Bd.returns rfl rfl (hb hby d2_133) hlk (by decide) (by decide) ⟨b107, t137, k137, ([v1, v2, v3, v4] : List Int32), rfl, M138, K143, q138_0, q138_1, q138_2, q138_3, (tk_4 hc1 hc18 hc43 hc73), s109⟩
theorem d6_0 : decode prog_30_method_3_code 0 = .ok (.aload_n 0, 1) := by decide +kernel
theorem d6_1 : decode prog_30_method_3_code 1 = .ok (.aload_n 0, 1) := by decide +kernel
theorem d6_2 : decode prog_30_method_3_code 2 = .ok (.bipush 46, 2) := by decide +kernel
theorem d6_4 : decode prog_30_method_3_code 4 = .ok (.invokevirtual 31, 3) := by decide +kernel
theorem d6_7 : decode prog_30_method_3_code 7 = .ok (.iconst 1, 1) := by decide +kernel
theorem d6_8 : decode prog_30_method_3_code 8 = .ok (.iadd, 1) := by decide +kernel
theorem d6_9 : decode prog_30_method_3_code 9 = .ok (.invokevirtual 41, 3) := by decide +kernel
theorem d6_12 : decode prog_30_method_3_code 12 = .ok (.areturn, 1) := by decide +kernel
theorem ef_co (m : MethodId) (b : Addr) : entryFrame m #[(.ref b)] 1 = mkF m 0 #[.val (.ref b)] [] := by first | (simp [entryFrame, mkF, argsToLocals, Value.category]; done) | rfl
def Q_co (Z : State) (b : Addr) (t : Addr) (k : ClassId) (cs : List Int32) (G1 : Int32) (G3 : Value) (h0 : Heap) (n0 : Nat) (v : Option Value) (h : Heap) (L : List Loc) : Prop := (∃ x : Nat, ∃ r : Addr, ∃ t2 : Addr, ∃ k2 : ClassId, ∃ ds : List Int32, v = some (.ref r) ∧ Fr n0 L ∧ Keep h0 h [] ∧ Exa Z h r "java/lang/String" ∧ Fld Z h r "java/lang/String" "coder" "B" (.int 0) ∧ Fld Z h r "java/lang/String" "value" "[B" (.ref t2) ∧ Arv Z h t2 k2 .byte (Int32.ofNat ds.length) ((ds.map (fun c => c.toInt8.toInt32)).map Value.int) (.int 0) ∧ (First (46 : Int32) cs 0 x) ∧ (ds = (cs.drop (x + 1)).take (cs.length - (x + 1)))) ∨ (∃ r : Addr, ∃ t2 : Addr, ∃ k2 : ClassId, ∃ ds : List Int32, v = some (.ref r) ∧ Fr n0 L ∧ Keep h0 h [] ∧ Exa Z h r "java/lang/String" ∧ Fld Z h r "java/lang/String" "coder" "B" (.int 0) ∧ Fld Z h r "java/lang/String" "value" "[B" (.ref t2) ∧ Arv Z h t2 k2 .byte (Int32.ofNat ds.length) ((ds.map (fun c => c.toInt8.toInt32)).map Value.int) (.int 0) ∧ (Nowhere (46 : Int32) cs 0) ∧ (ds = (cs.drop 0).take (cs.length - 0)))
set_option maxRecDepth 65536 in
set_option maxHeartbeats 40000000 in
theorem rm_co (l : Launch) (Z : State) (a0 : Array Value) (hw : ∀ d ∈ tables_1, d.before a0 Z = true) (ws : List Jvm.Cond) (b : Addr) (t : Addr) (k : ClassId) (cs : List Int32) (G1 : Int32) (G3 : Value) (h0 : Heap) (n0 : Nat) (Z0 : n0 ≤ h0.size) (pf0 : Exa Z h0 b "java/lang/String") (pf1 : Fld Z h0 b "java/lang/String" "coder" "B" (.int 0)) (pf2 : Fld Z h0 b "java/lang/String" "value" "[B" (.ref t)) (pf3 : Arv Z h0 t k .byte (Int32.ofNat cs.length) ((cs.map (fun c => c.toInt8.toInt32)).map Value.int) (.int 0)) (pf4 : Old Z n0 h0) (hr : Rng cs) (hl : cs.length ≤ 4) (O2 : Sta Z Z.heap "java/lang/String" "COMPACT_STRINGS" "Z" (.int G1)) (P5 : ¬ (G1 = (0 : Int32))) (O4 : Sta Z Z.heap "jdk/internal/util/Preconditions" "SIOOBE_FORMATTER" "Ljava/util/function/BiFunction;" G3) (rG3 : G3.isRef = true) :
    MetFree l (⟨"com/example/neighbor_keys/neighborkeys/model/Related", "columnOf", "(Ljava/lang/String;)Ljava/lang/String;"⟩ : MethodName) (head1 (Jvm.Cond.code (⟨"com/example/neighbor_keys/neighborkeys/model/Related", "columnOf", "(Ljava/lang/String;)Ljava/lang/String;"⟩ : MethodName) prog_30_method_3_code 1 (some (.object "java/lang/String")) :: ws) ({ frames := 6, cells := 2, slots := 8, locals := 93 } : Room)) (fun aa U => aa = #[(.ref b)] ∧ Z.Warmed39 U.vm ∧ U.heap = h0 ∧ CHv Z consts_1 U.vm h0) (fun _ _ _ _ _ => True) (fun _ U o U' => ∃ v L, o = .returned v ∧ Q_co Z b t k cs G1 G3 h0 n0 v U'.heap L ∧ CHr Z consts_1 U.vm U.heap U'.vm U'.heap ∧ ReturnedEndW U o U' L ({ frames := 6, cells := 2, slots := 8, locals := 93 } : Room).cells ({ frames := 6, cells := 2, slots := 8, locals := 93 } : Room).slots) := by
  refine MetFree.of_bodySF (plainFor_of_name pn_com_example_neighbor_keys_neighborkeys_model_Related) hisR ?_
  intro p e s m args below meth c s₁ Bd hml0 hP hK
  obtain ⟨rfl, hZ, hh, hH⟩ := hP
  have hx := Bd.exec
  have hby := Bd.bytes
  have hlk : meth.locks = false := BodyLoose.notSynchronized Bd
  have hml : c.maxLocals = 1 := hml0
  have hown : s.vm.findClass "com/example/neighbor_keys/neighborkeys/model/Related" = some m.cls := findClass_of_methodNamed Bd.named
  have hnm := (name_of_methodNamed Bd.named Bd.method).1
  have X0 : Stand p l e ({ frames := 6, cells := 2, slots := 8, locals := 93 } : Room) (s.setVm s.vm) m #[(.ref b)] below meth c s₁ [] 0 0 := Stand.of_body Bd
  have e0 : s₁.heap = h0 := by rw [← hh, Bd.state]; rfl
  have N0 := Fr.nil n0
  show Gl p.tables e below (EndH s Z consts_1 (Q_co Z b t k cs G1 G3 h0 n0) ({ frames := 6, cells := 2, slots := 8, locals := 93 } : Room).cells ({ frames := 6, cells := 2, slots := 8, locals := 93 } : Room).slots) _
  refine Gl.cast (ef_co m b) ?_
  show Gl p.tables e below _ (s₁.setTop (mkF m 0 #[.val (.ref b)] []))
  have hS0 : s.Since s.vm s₁.heap.size := (State.WarmedH.refl s).since _
  have C0 : CHr Z consts_1 s.vm h0 s.vm h0 := CHr.refl hH
  refine Gl.st (fun _ kq => XS.aloadN X0.here hx rfl (hb hby d6_0) rfl rfl kq) ?_
  show Gl p.tables e below _ (s₁.setTop (mkF m 1 #[.val (.ref b)] [(.ref b)]))
  refine Gl.st (fun _ kq => XS.aloadN X0.here hx rfl (hb hby d6_1) rfl rfl kq) ?_
  show Gl p.tables e below _ (s₁.setTop (mkF m 2 #[.val (.ref b)] [(.ref b), (.ref b)]))
  refine Gl.st (fun _ kq => XS.bipush X0.here hx rfl (hb hby d6_2) kq) ?_
  show Gl p.tables e below _ (s₁.setTop (mkF m 4 #[.val (.ref b)] [(.int 46), (.ref b), (.ref b)]))
  obtain ⟨cq2, kq2, q2a, q2b, q2c⟩ := isOf hZ e0 pf0
  obtain ⟨_, _, ⟨T2, L2, k2, n2⟩, -, X2, ⟨Lc2, hQ2, l2, y2, z2⟩, st2⟩ := X0.virtualBack hx (y := (⟨"java/lang/String", "indexOf", "(I)I"⟩ : MethodName)) (z := (⟨"java/lang/String", "indexOf", "(I)I"⟩ : MethodName)) hown (mvT hZ (tw hw 34 rfl)) (mvT hZ (tw hw 35 rfl)) (notFace_of_selects (args := #[]) (mvT hZ (tw hw 37 rfl))) (mvT hZ (tw hw 37 rfl)) (mvT hZ (tw hw 36 rfl)) (by decide) (backOf (W := 1) (rm_sio1 l Z a0 hw [] (b) (t) (k) (cs) ((46 : Int32)) (G1) h0 n0 Z0 pf0 pf1 pf2 pf3 pf4 hr hl (by decide) (by decide) O2 P5) hZ (tw hw 38 rfl) (tw hw 11 rfl) (by decide) (by decide)) q2a q2c (g := (mkF m 4 #[.val (.ref b)] [(.int 46), (.ref b), (.ref b)])) rfl (by rw [hml]; rfl) (Steps.refl _) (argsL := [(.int 46)]) (rest := [(.ref b)]) (lenOf pd__I_I rfl) rfl (by show 2 * 0 + _ ≤ _; exact Nat.le_of_eq rfl) (hb hby d6_4) (fun _ _ => ⟨rfl, e0, (by decide : 0 + 0 ≤ _), (by decide : 0 + 0 ≤ _)⟩)
  dsimp only [Pt.U, Pt.locs, Pt.cells, Pt.slots] at X2 l2 y2 z2 st2 hQ2
  subst l2 y2 z2
  rcases hQ2 with ⟨v1, rfl, N2, e2, y2_0⟩ | ⟨rfl, N2, e2, y2_0⟩
  · have M2 := Fr.app N0 N2
    refine Gl.to st2 ?_
    show Gl p.tables e below _ (T2.setTop (mkF m 7 #[.val (.ref b)] [(.int (Int32.ofNat v1)), (.ref b)]))
    refine Gl.st (fun _ kq => XS.iconst X2.here hx rfl (hb hby d6_7) kq) ?_
    show Gl p.tables e below _ (T2.setTop (mkF m 8 #[.val (.ref b)] [(.int 1), (.int (Int32.ofNat v1)), (.ref b)]))
    refine Gl.st (fun _ kq => XS.iadd X2.here hx rfl (hb hby d6_8) rfl kq) ?_
    show Gl p.tables e below _ (T2.setTop (mkF m 9 #[.val (.ref b)] [(.int ((Int32.ofNat v1) + (1 : Int32))), (.ref b)]))
    rw [n32_inc v1]
    show Gl p.tables e below _ (T2.setTop (mkF m 9 #[.val (.ref b)] [(.int (Int32.ofNat (v1 + 1))), (.ref b)]))
    obtain ⟨cq7, kq7, q7a, q7b, q7c⟩ := isOf hZ e2 pf0
    obtain ⟨_, _, ⟨T7, L7, k7, n7⟩, -, X7, S7, g7, ⟨Lc7, hQ7, l7, y7, z7, R7⟩, st7⟩ := X2.virtualBackS hx (y := (⟨"java/lang/String", "substring", "(I)Ljava/lang/String;"⟩ : MethodName)) (z := (⟨"java/lang/String", "substring", "(I)Ljava/lang/String;"⟩ : MethodName)) hown (mvT hZ (tw hw 74 rfl)) (mvT hZ (tw hw 75 rfl)) (notFace_of_selects (args := #[]) (mvT hZ (tw hw 77 rfl))) (mvT hZ (tw hw 77 rfl)) (mvT hZ (tw hw 76 rfl)) (by decide) (backOfSH (W := 0) (rm_ss1 l Z a0 hw [] (b) (t) (k) (cs) ((v1 + 1)) (G1) (G3) h0 n0 Z0 pf0 pf1 pf2 pf3 pf4 hr hl (by have q := y2_0; exact q.2.1) O2 P5 O4 rG3) hZ (tw hw 78 rfl) (tw hw 11 rfl) (by decide) (by decide) (elW hw) C0.1) q7a q7c (g := (mkF m 9 #[.val (.ref b)] [(.int (Int32.ofNat (v1 + 1))), (.ref b)])) rfl (by rw [hml]; rfl) (Steps.refl _) (argsL := [(.int (Int32.ofNat (v1 + 1)))]) (rest := []) (lenOf pd__I_Ljava_lang_String_ rfl) rfl (by show 2 * 0 + _ ≤ _; exact Nat.le_of_eq rfl) (hb hby d6_9) (fun _ _ => ⟨rfl, e2, (by decide : 0 + 2 ≤ _), (by decide : 0 + 8 ≤ _)⟩)
    dsimp only [Pt.U, Pt.locs, Pt.cells, Pt.slots] at X7 l7 y7 z7 st7 hQ7 R7
    subst l7 y7 z7
    obtain ⟨X7, S7, hZ7, ho7⟩ := rebS hS0 (Nat.le_trans (Nat.le_of_eq (congrArg Array.size e0)) (Nat.le_of_eq (congrArg Array.size e2).symm)) X7 S7 g7 hZ hown
    obtain ⟨v3, v4, v5, v6, rfl, N7, K7, q7_0, q7_1, q7_2, q7_3, y7_0⟩ := hQ7
    have C8 : CHr Z consts_1 s.vm h0 T7.vm T7.heap := C0.trans R7
    have M7 := Fr.app M2 N7
    refine Gl.to st7 ?_
    show Gl p.tables e below _ (T7.setTop (mkF m 12 #[.val (.ref b)] [(.ref v3)]))
    show Gl p.tables e below _ (T7.setTop (mkF m 12 #[.val (.ref b)] [(.ref v3)]))
    have K9 : Keep h0 T7.heap [] := ((Keep.refl h0 []).trans K7 all0)
    exact Gl.retAH X7 hx S7 (Nat.le_refl _) (by rw [hh]; exact C8.trans (CHv.at X7 hZ7 (elW hw) C8.1)) Bd.returns rfl rfl (hb hby d6_12) hlk (by decide) (by decide) (Or.inl ⟨v1, v3, v4, v5, v6, rfl, M7, K9, q7_0, q7_1, q7_2, q7_3, y2_0, y7_0⟩)
  · have M2 := Fr.app N0 N2
    refine Gl.to st2 ?_
    show Gl p.tables e below _ (T2.setTop (mkF m 7 #[.val (.ref b)] [(.int (-1)), (.ref b)]))
    refine Gl.st (fun _ kq => XS.iconst X2.here hx rfl (hb hby d6_7) kq) ?_
    show Gl p.tables e below _ (T2.setTop (mkF m 8 #[.val (.ref b)] [(.int 1), (.int (-1)), (.ref b)]))
    refine Gl.st (fun _ kq => XS.iadd X2.here hx rfl (hb hby d6_8) rfl kq) ?_
    show Gl p.tables e below _ (T2.setTop (mkF m 9 #[.val (.ref b)] [(.int 0), (.ref b)]))
    obtain ⟨cq14, kq14, q14a, q14b, q14c⟩ := isOf hZ e2 pf0
    obtain ⟨_, _, ⟨T14, L14, k14, n14⟩, -, X14, S14, g14, ⟨Lc14, hQ14, l14, y14, z14, R14⟩, st14⟩ := X2.virtualBackS hx (y := (⟨"java/lang/String", "substring", "(I)Ljava/lang/String;"⟩ : MethodName)) (z := (⟨"java/lang/String", "substring", "(I)Ljava/lang/String;"⟩ : MethodName)) hown (mvT hZ (tw hw 74 rfl)) (mvT hZ (tw hw 75 rfl)) (notFace_of_selects (args := #[]) (mvT hZ (tw hw 77 rfl))) (mvT hZ (tw hw 77 rfl)) (mvT hZ (tw hw 76 rfl)) (by decide) (backOfSH (W := 0) (rm_ss1 l Z a0 hw [] (b) (t) (k) (cs) (0) (G1) (G3) h0 n0 Z0 pf0 pf1 pf2 pf3 pf4 hr hl (by omega) O2 P5 O4 rG3) hZ (tw hw 78 rfl) (tw hw 11 rfl) (by decide) (by decide) (elW hw) C0.1) q14a q14c (g := (mkF m 9 #[.val (.ref b)] [(.int 0), (.ref b)])) rfl (by rw [hml]; rfl) (Steps.refl _) (argsL := [(.int 0)]) (rest := []) (lenOf pd__I_Ljava_lang_String_ rfl) rfl (by show 2 * 0 + _ ≤ _; exact Nat.le_of_eq rfl) (hb hby d6_9) (fun _ _ => ⟨rfl, e2, (by decide : 0 + 2 ≤ _), (by decide : 0 + 8 ≤ _)⟩)
    dsimp only [Pt.U, Pt.locs, Pt.cells, Pt.slots] at X14 l14 y14 z14 st14 hQ14 R14
    subst l14 y14 z14
    obtain ⟨X14, S14, hZ14, ho14⟩ := rebS hS0 (Nat.le_trans (Nat.le_of_eq (congrArg Array.size e0)) (Nat.le_of_eq (congrArg Array.size e2).symm)) X14 S14 g14 hZ hown
    obtain ⟨v10, v11, v12, v13, rfl, N14, K14, q14_0, q14_1, q14_2, q14_3, y14_0⟩ := hQ14
    have C15 : CHr Z consts_1 s.vm h0 T14.vm T14.heap := C0.trans R14
    have M14 := Fr.app M2 N14
    refine Gl.to st14 ?_
    show Gl p.tables e below _ (T14.setTop (mkF m 12 #[.val (.ref b)] [(.ref v10)]))
    show Gl p.tables e below _ (T14.setTop (mkF m 12 #[.val (.ref b)] [(.ref v10)]))
    have K16 : Keep h0 T14.heap [] := ((Keep.refl h0 []).trans K14 all0)
    exact Gl.retAH X14 hx S14 (Nat.le_refl _) (by rw [hh]; exact C15.trans (CHv.at X14 hZ14 (elW hw) C15.1)) Bd.returns rfl rfl (hb hby d6_12) hlk (by decide) (by decide) (Or.inr (⟨v10, v11, v12, v13, rfl, M14, K16, q14_0, q14_1, q14_2, q14_3, y2_0, y14_0⟩))
theorem d20_0 : decode method_4_code 0 = .ok (.iload_n 1, 1) := by decide +kernel
theorem d20_1 : decode method_4_code 1 = .ok (.aload_n 0, 1) := by decide +kernel
theorem d20_2 : decode method_4_code 2 = .ok (.invokevirtual 12, 3) := by decide +kernel
theorem d20_5 : decode method_4_code 5 = .ok (.if_icmp .ge 16, 3) := by decide +kernel
theorem d20_8 : decode method_4_code 8 = .ok (.aload_n 0, 1) := by decide +kernel
theorem d20_9 : decode method_4_code 9 = .ok (.iload_n 1, 1) := by decide +kernel
theorem d20_10 : decode method_4_code 10 = .ok (.invokevirtual 16, 3) := by decide +kernel
theorem d20_13 : decode method_4_code 13 = .ok (.aload_n 2, 1) := by decide +kernel
theorem d20_14 : decode method_4_code 14 = .ok (.iload_n 3, 1) := by decide +kernel
theorem d20_15 : decode method_4_code 15 = .ok (.iload_n 1, 1) := by decide +kernel
theorem d20_16 : decode method_4_code 16 = .ok (.iadd, 1) := by decide +kernel
theorem d20_17 : decode method_4_code 17 = .ok (.caload, 1) := by decide +kernel
theorem d20_18 : decode method_4_code 18 = .ok (.if_icmp .ne 7, 3) := by decide +kernel
theorem d20_21 : decode method_4_code 21 = .ok (.iconst 1, 1) := by decide +kernel
theorem d20_22 : decode method_4_code 22 = .ok (.goto 4, 3) := by decide +kernel
theorem d20_26 : decode method_4_code 26 = .ok (.ireturn, 1) := by decide +kernel
theorem ef_at (m : MethodId) (b : Addr) (tc : Addr) (i : Nat) (st : Nat) : entryFrame m #[(.ref b), (.int (Int32.ofNat i)), (.ref tc), (.int (Int32.ofNat st))] 4 = mkF m 0 #[.val (.ref b), .val (.int (Int32.ofNat i)), .val (.ref tc), .val (.int (Int32.ofNat st))] [] := by first | (simp [entryFrame, mkF, argsToLocals, Value.category]; done) | rfl
def Q_at (Z : State) (b : Addr) (t : Addr) (k : ClassId) (ds : List Int32) (tc : Addr) (kc : ClassId) (v1 : Int32) (v2 : Int32) (v3 : Int32) (v4 : Int32) (i : Nat) (st : Nat) (G1 : Int32) (G3 : Value) (h0 : Heap) (n0 : Nat) (v : Option Value) (h : Heap) (L : List Loc) : Prop := (v = some (.int 1) ∧ Fr n0 L ∧ h = h0)
set_option maxRecDepth 65536 in
set_option maxHeartbeats 40000000 in
theorem rm_at (l : Launch) (Z : State) (a0 : Array Value) (hw : ∀ d ∈ tables_1, d.before a0 Z = true) (ws : List Jvm.Cond) (b : Addr) (t : Addr) (k : ClassId) (ds : List Int32) (tc : Addr) (kc : ClassId) (v1 : Int32) (v2 : Int32) (v3 : Int32) (v4 : Int32) (i : Nat) (st : Nat) (G1 : Int32) (G3 : Value) (h0 : Heap) (n0 : Nat) (Z0 : n0 ≤ h0.size) (pf0 : Exa Z h0 b "java/lang/String") (pf1 : Fld Z h0 b "java/lang/String" "coder" "B" (.int 0)) (pf2 : Fld Z h0 b "java/lang/String" "value" "[B" (.ref t)) (pf3 : Arv Z h0 t k .byte (Int32.ofNat ds.length) ((ds.map (fun c => c.toInt8.toInt32)).map Value.int) (.int 0)) (pf4 : Arv Z h0 tc kc .char (4 : Int32) [(.int v1), (.int v2), (.int v3), (.int v4)] (.int 0)) (pf5 : Old Z n0 h0) (hr : Rng ds) (hl : ds.length ≤ 4) (hi : i ≤ 3) (hst : st + ds.length ≤ 4) (hcm : ∀ j, j < ds.length → ds.getD j 0 = ([v1, v2, v3, v4] : List Int32).getD (st + j) 0) (O2 : Sta Z Z.heap "java/lang/String" "COMPACT_STRINGS" "Z" (.int G1)) (P5 : ¬ (G1 = (0 : Int32))) (O4 : Sta Z Z.heap "jdk/internal/util/Preconditions" "SIOOBE_FORMATTER" "Ljava/util/function/BiFunction;" G3) (rG3 : G3.isRef = true) :
    MetFree l (⟨"com/example/neighbor_keys/neighborkeys/model/RelatedColumnOfPinLaw", "at", "(Ljava/lang/String;I[CI)Z"⟩ : MethodName) (head1 (Jvm.Cond.code (⟨"com/example/neighbor_keys/neighborkeys/model/RelatedColumnOfPinLaw", "at", "(Ljava/lang/String;I[CI)Z"⟩ : MethodName) method_4_code 4 (some .boolean) :: ws) ({ frames := 4, cells := 0, slots := 0, locals := 53 } : Room)) (fun aa U => aa = #[(.ref b), (.int (Int32.ofNat i)), (.ref tc), (.int (Int32.ofNat st))] ∧ Z.Warmed39 U.vm ∧ U.heap = h0) (fun _ _ _ _ _ => True) (fun _ U o U' => ∃ v L, o = .returned v ∧ Q_at Z b t k ds tc kc v1 v2 v3 v4 i st G1 G3 h0 n0 v U'.heap L ∧ FrameEnd U o U' L ({ frames := 4, cells := 0, slots := 0, locals := 53 } : Room).cells ({ frames := 4, cells := 0, slots := 0, locals := 53 } : Room).slots) := by
  refine MetFree.of_bodySF (plainFor_of_name pn_com_example_neighbor_keys_neighborkeys_model_RelatedColumnOfPinLaw) hisR ?_
  intro p e s m args below meth c s₁ Bd hml0 hP hK
  obtain ⟨rfl, hZ, hh⟩ := hP
  have hx := Bd.exec
  have hby := Bd.bytes
  have hlk : meth.locks = false := BodyLoose.notSynchronized Bd
  have hml : c.maxLocals = 4 := hml0
  have hown : s.vm.findClass "com/example/neighbor_keys/neighborkeys/model/RelatedColumnOfPinLaw" = some m.cls := findClass_of_methodNamed Bd.named
  have hnm := (name_of_methodNamed Bd.named Bd.method).1
  have X0 : Stand p l e ({ frames := 4, cells := 0, slots := 0, locals := 53 } : Room) s m #[(.ref b), (.int (Int32.ofNat i)), (.ref tc), (.int (Int32.ofNat st))] below meth c s₁ [] 0 0 := Stand.of_body Bd
  have e0 : s₁.heap = h0 := by rw [← hh, Bd.state]; rfl
  have N0 := Fr.nil n0
  show Gl p.tables e below (EndN s (Q_at Z b t k ds tc kc v1 v2 v3 v4 i st G1 G3 h0 n0) ({ frames := 4, cells := 0, slots := 0, locals := 53 } : Room).cells ({ frames := 4, cells := 0, slots := 0, locals := 53 } : Room).slots) _
  refine Gl.cast (ef_at m b tc i st) ?_
  show Gl p.tables e below _ (s₁.setTop (mkF m 0 #[.val (.ref b), .val (.int (Int32.ofNat i)), .val (.ref tc), .val (.int (Int32.ofNat st))] []))
  refine Gl.st (fun _ kq => XS.iloadN X0.here hx rfl (hb hby d20_0) rfl kq) ?_
  show Gl p.tables e below _ (s₁.setTop (mkF m 1 #[.val (.ref b), .val (.int (Int32.ofNat i)), .val (.ref tc), .val (.int (Int32.ofNat st))] [(.int (Int32.ofNat i))]))
  refine Gl.st (fun _ kq => XS.aloadN X0.here hx rfl (hb hby d20_1) rfl rfl kq) ?_
  show Gl p.tables e below _ (s₁.setTop (mkF m 2 #[.val (.ref b), .val (.int (Int32.ofNat i)), .val (.ref tc), .val (.int (Int32.ofNat st))] [(.ref b), (.int (Int32.ofNat i))]))
  obtain ⟨cq1, kq1, q1a, q1b, q1c⟩ := isOf hZ e0 pf0
  obtain ⟨_, _, ⟨T1, L1, k1, n1⟩, -, X1, ⟨Lc1, hQ1, l1, y1, z1⟩, st1⟩ := X0.virtualBack hx (y := (⟨"java/lang/String", "length", "()I"⟩ : MethodName)) (z := (⟨"java/lang/String", "length", "()I"⟩ : MethodName)) hown (mvT hZ (tw hw 92 rfl)) (mvT hZ (tw hw 51 rfl)) (notFace_of_selects (args := #[]) (mvT hZ (tw hw 53 rfl))) (mvT hZ (tw hw 53 rfl)) (mvT hZ (tw hw 52 rfl)) (by decide) (StrChars.Road.lenW (W := 1) hZ (wdLen hw) (kI := 4) (tw hw 10 rfl) pf0 pf2 pf1 pf3 (StrChars.Road.codOf (cs := ds) rfl (fun x hx => (hr x hx).2)) (up255 _ hr) (O2.ext pf5.2) P5 (Nat.le_trans hl (by decide)) (by decide) (by decide)) q1a q1c (g := (mkF m 2 #[.val (.ref b), .val (.int (Int32.ofNat i)), .val (.ref tc), .val (.int (Int32.ofNat st))] [(.ref b), (.int (Int32.ofNat i))])) rfl (by rw [hml]; rfl) (Steps.refl _) (argsL := []) (rest := [(.int (Int32.ofNat i))]) (lenOf pd___I rfl) rfl (by show 2 * 0 + _ ≤ _; exact Nat.le_of_eq rfl) (hb hby d20_2) (fun _ _ => ⟨rfl, e0, (by decide : 0 + 0 ≤ _), (by decide : 0 + 0 ≤ _)⟩)
  dsimp only [Pt.U, Pt.locs, Pt.cells, Pt.slots] at X1 l1 y1 z1 st1 hQ1
  subst l1 y1 z1
  obtain ⟨rfl, rfl, e1⟩ := hQ1
  have N1 : Fr n0 ([] : List Loc) := Fr.nil n0
  have M1 := Fr.app N0 N1
  refine Gl.to st1 ?_
  show Gl p.tables e below _ (T1.setTop (mkF m 5 #[.val (.ref b), .val (.int (Int32.ofNat i)), .val (.ref tc), .val (.int (Int32.ofNat st))] [(.int (Int32.ofNat ds.length)), (.int (Int32.ofNat i))]))
  show Gl p.tables e below _ (T1.setTop (mkF m 5 #[.val (.ref b), .val (.int (Int32.ofNat i)), .val (.ref tc), .val (.int (Int32.ofNat st))] [(.int (Int32.ofNat ds.length)), (.int (Int32.ofNat i))]))
  by_cases hc2 : (Int32.ofNat i) < (Int32.ofNat ds.length)
  · have hil : i < ds.length := (n32_lt (by omega) (by omega)).mp hc2
    refine Gl.st (fun _ kq => XS.icmpNo X1.here hx rfl (hb hby d20_5) rfl (tlt (hc2 : (Int32.ofNat i) < (Int32.ofNat ds.length))).2.1 kq) ?_
    show Gl p.tables e below _ (T1.setTop (mkF m 8 #[.val (.ref b), .val (.int (Int32.ofNat i)), .val (.ref tc), .val (.int (Int32.ofNat st))] []))
    refine Gl.st (fun _ kq => XS.aloadN X1.here hx rfl (hb hby d20_8) rfl rfl kq) ?_
    show Gl p.tables e below _ (T1.setTop (mkF m 9 #[.val (.ref b), .val (.int (Int32.ofNat i)), .val (.ref tc), .val (.int (Int32.ofNat st))] [(.ref b)]))
    refine Gl.st (fun _ kq => XS.iloadN X1.here hx rfl (hb hby d20_9) rfl kq) ?_
    show Gl p.tables e below _ (T1.setTop (mkF m 10 #[.val (.ref b), .val (.int (Int32.ofNat i)), .val (.ref tc), .val (.int (Int32.ofNat st))] [(.int (Int32.ofNat i)), (.ref b)]))
    obtain ⟨cq3, kq3, q3a, q3b, q3c⟩ := isOf hZ e1 pf0
    obtain ⟨_, _, ⟨T3, L3, k3, n3⟩, -, X3, ⟨Lc3, hQ3, l3, y3, z3⟩, st3⟩ := X1.virtualBack hx (y := (⟨"java/lang/String", "charAt", "(I)C"⟩ : MethodName)) (z := (⟨"java/lang/String", "charAt", "(I)C"⟩ : MethodName)) hown (mvT hZ (tw hw 131 rfl)) (mvT hZ (tw hw 132 rfl)) (notFace_of_selects (args := #[]) (mvT hZ (tw hw 134 rfl))) (mvT hZ (tw hw 134 rfl)) (mvT hZ (tw hw 133 rfl)) (by decide) (StrChars.Road.chN (W := 0) hZ (wdCh hw) (kI := 4) (tw hw 10 rfl) pf0 pf2 pf1 pf3 (StrChars.Road.codOf (cs := ds) rfl (fun x hx => (hr x hx).2)) (up255 _ hr) (O2.ext pf5.2) P5 (O4.ext pf5.2) rG3 (Nat.le_trans hl (by decide)) (i := i) hil (j := (Int32.ofNat i)) rfl (by decide) (by decide)) q3a q3c (g := (mkF m 10 #[.val (.ref b), .val (.int (Int32.ofNat i)), .val (.ref tc), .val (.int (Int32.ofNat st))] [(.int (Int32.ofNat i)), (.ref b)])) rfl (by rw [hml]; rfl) (Steps.refl _) (argsL := [(.int (Int32.ofNat i))]) (rest := []) (lenOf pd__I_C rfl) rfl (by show 2 * 0 + _ ≤ _; exact Nat.le_of_eq rfl) (hb hby d20_10) (fun _ _ => ⟨rfl, e1, (by decide : 0 + 0 ≤ _), (by decide : 0 + 0 ≤ _)⟩)
    dsimp only [Pt.U, Pt.locs, Pt.cells, Pt.slots] at X3 l3 y3 z3 st3 hQ3
    subst l3 y3 z3
    obtain ⟨rfl, rfl, e3⟩ := hQ3
    have N3 : Fr n0 ([] : List Loc) := Fr.nil n0
    have M3 := Fr.app M1 N3
    refine Gl.to st3 ?_
    show Gl p.tables e below _ (T3.setTop (mkF m 13 #[.val (.ref b), .val (.int (Int32.ofNat i)), .val (.ref tc), .val (.int (Int32.ofNat st))] [(.int (ds.getD i 0))]))
    show Gl p.tables e below _ (T3.setTop (mkF m 13 #[.val (.ref b), .val (.int (Int32.ofNat i)), .val (.ref tc), .val (.int (Int32.ofNat st))] [(.int (ds.getD i 0))]))
    refine Gl.st (fun _ kq => XS.aloadN X3.here hx rfl (hb hby d20_13) rfl rfl kq) ?_
    show Gl p.tables e below _ (T3.setTop (mkF m 14 #[.val (.ref b), .val (.int (Int32.ofNat i)), .val (.ref tc), .val (.int (Int32.ofNat st))] [(.ref tc), (.int (ds.getD i 0))]))
    refine Gl.st (fun _ kq => XS.iloadN X3.here hx rfl (hb hby d20_14) rfl kq) ?_
    show Gl p.tables e below _ (T3.setTop (mkF m 15 #[.val (.ref b), .val (.int (Int32.ofNat i)), .val (.ref tc), .val (.int (Int32.ofNat st))] [(.int (Int32.ofNat st)), (.ref tc), (.int (ds.getD i 0))]))
    refine Gl.st (fun _ kq => XS.iloadN X3.here hx rfl (hb hby d20_15) rfl kq) ?_
    show Gl p.tables e below _ (T3.setTop (mkF m 16 #[.val (.ref b), .val (.int (Int32.ofNat i)), .val (.ref tc), .val (.int (Int32.ofNat st))] [(.int (Int32.ofNat i)), (.int (Int32.ofNat st)), (.ref tc), (.int (ds.getD i 0))]))
    refine Gl.st (fun _ kq => XS.iadd X3.here hx rfl (hb hby d20_16) rfl kq) ?_
    show Gl p.tables e below _ (T3.setTop (mkF m 17 #[.val (.ref b), .val (.int (Int32.ofNat i)), .val (.ref tc), .val (.int (Int32.ofNat st))] [(.int ((Int32.ofNat st) + (Int32.ofNat i))), (.ref tc), (.int (ds.getD i 0))]))
    rw [n32_add st i]
    show Gl p.tables e below _ (T3.setTop (mkF m 17 #[.val (.ref b), .val (.int (Int32.ofNat i)), .val (.ref tc), .val (.int (Int32.ofNat st))] [(.int (Int32.ofNat (st + i))), (.ref tc), (.int (ds.getD i 0))]))
    obtain ⟨c4, a4, q4, S4, M4, H4, G4⟩ := id pf4
    refine Gl.st (fun _ kq => X3.caload hx (j := (Int32.ofNat (st + i))) (v := (.int (([v1, v2, v3, v4] : List Int32).getD (st + i) 0))) (by rw [e3]; exact a4.1) (State.isArrayOf_alike hZ.alike a4.2.1) a4.2.2 (inb_of S4 ⟨n32_nn (by omega), n32_plt (j := 4) (by omega) (by omega)⟩) (Has.at H4 (inb_of S4 ⟨n32_nn (by omega), n32_plt (j := 4) (by omega) (by omega)⟩) (by rw [n32_cl (by omega)]; exact ld4 (by omega))) (g := (mkF m 17 #[.val (.ref b), .val (.int (Int32.ofNat i)), .val (.ref tc), .val (.int (Int32.ofNat st))] [(.int (Int32.ofNat (st + i))), (.ref tc), (.int (ds.getD i 0))])) rfl rfl (hb hby d20_17) _ kq) ?_
    show Gl p.tables e below _ (T3.setTop (mkF m 18 #[.val (.ref b), .val (.int (Int32.ofNat i)), .val (.ref tc), .val (.int (Int32.ofNat st))] [(.int (([v1, v2, v3, v4] : List Int32).getD (st + i) 0)), (.int (ds.getD i 0))]))
    refine Gl.st (fun _ kq => XS.icmpNo X3.here hx rfl (hb hby d20_18) rfl (teq ((hcm i hil) : (ds.getD i 0) = (([v1, v2, v3, v4] : List Int32).getD (st + i) 0))).2 kq) ?_
    show Gl p.tables e below _ (T3.setTop (mkF m 21 #[.val (.ref b), .val (.int (Int32.ofNat i)), .val (.ref tc), .val (.int (Int32.ofNat st))] []))
    refine Gl.st (fun _ kq => XS.iconst X3.here hx rfl (hb hby d20_21) kq) ?_
    show Gl p.tables e below _ (T3.setTop (mkF m 22 #[.val (.ref b), .val (.int (Int32.ofNat i)), .val (.ref tc), .val (.int (Int32.ofNat st))] [(.int 1)]))
    refine Gl.st (fun _ kq => XS.goto X3.here hx rfl (pc0 := 22) (pc' := 26) rfl (hb hby d20_22) (by decide) (by decide) kq) ?_
    show Gl p.tables e below _ (T3.setTop (mkF m 26 #[.val (.ref b), .val (.int (Int32.ofNat i)), .val (.ref tc), .val (.int (Int32.ofNat st))] [(.int 1)]))
    exact Gl.retN X3 hx (t := .boolean) Bd.returns (by simp) (hb hby d20_26) hlk (by decide) (by decide) (by rw [e3]; exact ⟨rfl, M3, rfl⟩)
  · refine Gl.st (fun _ kq => XS.icmpYes X1.here hx rfl (pc0 := 5) (pc' := 21) rfl (hb hby d20_5) rfl (flt (hc2 : ¬ ((Int32.ofNat i) < (Int32.ofNat ds.length)))).2.1 (by decide) (by decide) kq) ?_
    show Gl p.tables e below _ (T1.setTop (mkF m 21 #[.val (.ref b), .val (.int (Int32.ofNat i)), .val (.ref tc), .val (.int (Int32.ofNat st))] []))
    refine Gl.st (fun _ kq => XS.iconst X1.here hx rfl (hb hby d20_21) kq) ?_
    show Gl p.tables e below _ (T1.setTop (mkF m 22 #[.val (.ref b), .val (.int (Int32.ofNat i)), .val (.ref tc), .val (.int (Int32.ofNat st))] [(.int 1)]))
    refine Gl.st (fun _ kq => XS.goto X1.here hx rfl (pc0 := 22) (pc' := 26) rfl (hb hby d20_22) (by decide) (by decide) kq) ?_
    show Gl p.tables e below _ (T1.setTop (mkF m 26 #[.val (.ref b), .val (.int (Int32.ofNat i)), .val (.ref tc), .val (.int (Int32.ofNat st))] [(.int 1)]))
    exact Gl.retN X1 hx (t := .boolean) Bd.returns (by simp) (hb hby d20_26) hlk (by decide) (by decide) (by rw [e1]; exact ⟨rfl, M1, rfl⟩)
theorem ef_law (m : MethodId) (p0 : Int32) (p1 : Int32) (p2 : Int32) (p3 : Int32) (p4 : Int32) : entryFrame m #[(.int p0), (.int p1), (.int p2), (.int p3), (.int p4)] maxLocals = mkF m 0 #[.val (.int p0), .val (.int p1), .val (.int p2), .val (.int p3), .val (.int p4), .unset, .unset, .unset, .unset, .unset, .unset] [] := by first | (simp [entryFrame, mkF, argsToLocals, Value.category, maxLocals]; done) | rfl
def Q_law (Z : State) (p0 : Int32) (p1 : Int32) (p2 : Int32) (p3 : Int32) (p4 : Int32) (G1 : Int32) (G3 : Value) (h0 : Heap) (n0 : Nat) (v : Option Value) (h : Heap) (L : List Loc) : Prop := (v = some (.int 1) ∧ Fr n0 L)
set_option maxRecDepth 65536 in
set_option maxHeartbeats 40000000 in
theorem rm_law (l : Launch) (Z : State) (a0 : Array Value) (hw : ∀ d ∈ tables_1, d.before a0 Z = true) (ws : List Jvm.Cond) (p0 : Int32) (p1 : Int32) (p2 : Int32) (p3 : Int32) (p4 : Int32) (G1 : Int32) (G3 : Value) (h0 : Heap) (n0 : Nat) (Z0 : n0 ≤ h0.size) (pf0 : Old Z n0 h0) (O2 : Sta Z Z.heap "java/lang/String" "COMPACT_STRINGS" "Z" (.int G1)) (P5 : ¬ (G1 = (0 : Int32))) (O4 : Sta Z Z.heap "jdk/internal/util/Preconditions" "SIOOBE_FORMATTER" "Ljava/util/function/BiFunction;" G3) (rG3 : G3.isRef = true) :
    MetFree l x (head1 (Jvm.Cond.code x code maxLocals ret :: ws) room_1) (fun aa U => aa = #[(.int p0), (.int p1), (.int p2), (.int p3), (.int p4)] ∧ Z.Warmed39 U.vm ∧ U.heap = h0 ∧ CHv Z consts_1 U.vm h0) (fun _ _ _ _ _ => True) (fun _ U o U' => ∃ v L, o = .returned v ∧ Q_law Z p0 p1 p2 p3 p4 G1 G3 h0 n0 v U'.heap L ∧ CHr Z consts_1 U.vm U.heap U'.vm U'.heap ∧ ReturnedEndW U o U' L room_1.cells room_1.slots) := by
  refine MetFree.of_bodySF (plainFor_of_name pn_com_example_neighbor_keys_neighborkeys_model_RelatedColumnOfPinLaw) hisR ?_
  intro p e s m args below meth c s₁ Bd hml0 hP hK
  obtain ⟨rfl, hZ, hh, hH⟩ := hP
  have hx := Bd.exec
  have hby := Bd.bytes
  have hlk : meth.locks = false := BodyLoose.notSynchronized Bd
  have hml : c.maxLocals = 11 := hml0
  have hown : s.vm.findClass "com/example/neighbor_keys/neighborkeys/model/RelatedColumnOfPinLaw" = some m.cls := findClass_of_methodNamed Bd.named
  have hnm := (name_of_methodNamed Bd.named Bd.method).1
  have X0 : Stand p l e room_1 (s.setVm s.vm) m #[(.int p0), (.int p1), (.int p2), (.int p3), (.int p4)] below meth c s₁ [] 0 0 := Stand.of_body Bd
  have e0 : s₁.heap = h0 := by rw [← hh, Bd.state]; rfl
  have N0 := Fr.nil n0
  show Gl p.tables e below (EndH s Z consts_1 (Q_law Z p0 p1 p2 p3 p4 G1 G3 h0 n0) room_1.cells room_1.slots) _
  refine Gl.cast (ef_law m p0 p1 p2 p3 p4) ?_
  show Gl p.tables e below _ (s₁.setTop (mkF m 0 #[.val (.int p0), .val (.int p1), .val (.int p2), .val (.int p3), .val (.int p4), .unset, .unset, .unset, .unset, .unset, .unset] []))
  have hS0 : s.Since s.vm s₁.heap.size := (State.WarmedH.refl s).since _
  have C0 : CHr Z consts_1 s.vm h0 s.vm h0 := CHr.refl hH
  refine Gl.st (fun _ kq => XS.iloadN X0.here hx rfl (hb hby at_0) rfl kq) ?_
  show Gl p.tables e below _ (s₁.setTop (mkF m 1 #[.val (.int p0), .val (.int p1), .val (.int p2), .val (.int p3), .val (.int p4), .unset, .unset, .unset, .unset, .unset, .unset] [(.int p0)]))
  refine Gl.st (fun _ kq => X0.ldcInt hx hown (mvT hZ (tw hw 0 rfl)) (g := (mkF m 1 #[.val (.int p0), .val (.int p1), .val (.int p2), .val (.int p3), .val (.int p4), .unset, .unset, .unset, .unset, .unset, .unset] [(.int p0)])) rfl (hb hby at_1) _ kq) ?_
  show Gl p.tables e below _ (s₁.setTop (mkF m 3 #[.val (.int p0), .val (.int p1), .val (.int p2), .val (.int p3), .val (.int p4), .unset, .unset, .unset, .unset, .unset, .unset] [(.int 2147483647), (.int p0)]))
  refine Gl.st (fun _ kq => XS.iand X0.here hx rfl (hb hby at_3) rfl kq) ?_
  show Gl p.tables e below _ (s₁.setTop (mkF m 4 #[.val (.int p0), .val (.int p1), .val (.int p2), .val (.int p3), .val (.int p4), .unset, .unset, .unset, .unset, .unset, .unset] [(.int (p0 &&& (2147483647 : Int32)))]))
  refine Gl.st (fun _ kq => XS.iconst X0.here hx rfl (hb hby at_4) kq) ?_
  show Gl p.tables e below _ (s₁.setTop (mkF m 5 #[.val (.int p0), .val (.int p1), .val (.int p2), .val (.int p3), .val (.int p4), .unset, .unset, .unset, .unset, .unset, .unset] [(.int 5), (.int (p0 &&& (2147483647 : Int32)))]))
  refine Gl.st (fun _ kq => iremM (g := (mkF m 5 #[.val (.int p0), .val (.int p1), .val (.int p2), .val (.int p3), .val (.int p4), .unset, .unset, .unset, .unset, .unset, .unset] [(.int 5), (.int (p0 &&& (2147483647 : Int32)))])) X0 hx rfl (hb hby at_5) rfl (by decide) kq) ?_
  show Gl p.tables e below _ (s₁.setTop (mkF m 6 #[.val (.int p0), .val (.int p1), .val (.int p2), .val (.int p3), .val (.int p4), .unset, .unset, .unset, .unset, .unset, .unset] [(.int ((p0 &&& (2147483647 : Int32)) % (5 : Int32)))]))
  refine Gl.st (fun _ kq => XS.istore X0.here hx rfl (hb hby at_6) rfl (l' := #[.val (.int p0), .val (.int p1), .val (.int p2), .val (.int p3), .val (.int p4), .val (.int ((p0 &&& (2147483647 : Int32)) % (5 : Int32))), .unset, .unset, .unset, .unset, .unset]) rfl kq) ?_
  show Gl p.tables e below _ (s₁.setTop (mkF m 8 #[.val (.int p0), .val (.int p1), .val (.int p2), .val (.int p3), .val (.int p4), .val (.int ((p0 &&& (2147483647 : Int32)) % (5 : Int32))), .unset, .unset, .unset, .unset, .unset] []))
  refine Gl.st (fun _ kq => XS.iconst X0.here hx rfl (hb hby at_8) kq) ?_
  show Gl p.tables e below _ (s₁.setTop (mkF m 9 #[.val (.int p0), .val (.int p1), .val (.int p2), .val (.int p3), .val (.int p4), .val (.int ((p0 &&& (2147483647 : Int32)) % (5 : Int32))), .unset, .unset, .unset, .unset, .unset] [(.int 4)]))
  obtain ⟨T1, h1, k1, X1, e1, E1, A1, st1⟩ := newP X0 hx hZ (tw hw 1 rfl) e0 (g := (mkF m 9 #[.val (.int p0), .val (.int p1), .val (.int p2), .val (.int p3), .val (.int p4), .val (.int ((p0 &&& (2147483647 : Int32)) % (5 : Int32))), .unset, .unset, .unset, .unset, .unset] [(.int 4)])) rfl (hb hby at_9) rfl (by decide) (cap := 4) (by decide) (by decide) (by decide) (by decide)
  obtain ⟨b1, g1⟩ : ∃ z, z = h0.size := ⟨_, rfl⟩
  rw [← g1] at A1 st1
  refine Gl.st st1 ?_
  have g2 : n0 ≤ b1 := Nat.le_trans Z0 (Nat.le_of_eq g1.symm)
  have s3 : h0.size ≤ b1 := Nat.le_trans (Nat.le_refl _) (Nat.le_of_eq g1.symm)
  have C4 : CHr Z consts_1 s.vm h0 s.vm h1 := C0.trans (CHr.ext E1 C0.1)
  have V1 : Arv Z h1 b1 k1 .char (4 : Int32) [(.int 0), (.int 0), (.int 0), (.int 0)] (.int 0) := (Arv.new A1 (by decide)).pad (pad_rep [] (.int 0) 4)
  show Gl p.tables e below _ (T1.setTop (mkF m 11 #[.val (.int p0), .val (.int p1), .val (.int p2), .val (.int p3), .val (.int p4), .val (.int ((p0 &&& (2147483647 : Int32)) % (5 : Int32))), .unset, .unset, .unset, .unset, .unset] [(.ref b1)]))
  refine Gl.st (fun _ kq => XS.dup X1.here hx rfl (hb hby at_11) rfl rfl kq) ?_
  show Gl p.tables e below _ (T1.setTop (mkF m 12 #[.val (.int p0), .val (.int p1), .val (.int p2), .val (.int p3), .val (.int p4), .val (.int ((p0 &&& (2147483647 : Int32)) % (5 : Int32))), .unset, .unset, .unset, .unset, .unset] [(.ref b1), (.ref b1)]))
  refine Gl.st (fun _ kq => XS.iconst X1.here hx rfl (hb hby at_12) kq) ?_
  show Gl p.tables e below _ (T1.setTop (mkF m 13 #[.val (.int p0), .val (.int p1), .val (.int p2), .val (.int p3), .val (.int p4), .val (.int ((p0 &&& (2147483647 : Int32)) % (5 : Int32))), .unset, .unset, .unset, .unset, .unset] [(.int 0), (.ref b1), (.ref b1)]))
  refine Gl.st (fun _ kq => XS.iloadN X1.here hx rfl (hb hby at_13) rfl kq) ?_
  show Gl p.tables e below _ (T1.setTop (mkF m 14 #[.val (.int p0), .val (.int p1), .val (.int p2), .val (.int p3), .val (.int p4), .val (.int ((p0 &&& (2147483647 : Int32)) % (5 : Int32))), .unset, .unset, .unset, .unset, .unset] [(.int p1), (.int 0), (.ref b1), (.ref b1)]))
  obtain ⟨_, _, ⟨T6, L6, k6, n6⟩, -, X6, ⟨Lc6, hQ6, l6, y6, z6⟩, st6⟩ := Jvm.LawKit.callS X1 hx (y := (⟨"com/example/neighbor_keys/neighborkeys/model/RelatedColumnOfPinLaw", "ch", "(I)C"⟩ : MethodName)) hown (mvT hZ (tw hw 2 rfl)) (mvT hZ (tw hw 3 rfl)) (mvT hZ (tw hw 4 rfl)) (mvT hZ (tw hw 5 rfl)) (by decide) (backOf (W := 3) (rm_ch l Z a0 hw [] (p1) h1 n0 (Nat.le_trans Z0 E1.1) ) hZ (tw hw 5 rfl) (tw hw 4 rfl) (by decide) (by decide)) (g := (mkF m 14 #[.val (.int p0), .val (.int p1), .val (.int p2), .val (.int p3), .val (.int p4), .val (.int ((p0 &&& (2147483647 : Int32)) % (5 : Int32))), .unset, .unset, .unset, .unset, .unset] [(.int p1), (.int 0), (.ref b1), (.ref b1)])) rfl (by rw [hml]; rfl) (argsL := [(.int p1)]) (rest := [(.int 0), (.ref b1), (.ref b1)]) (lenOf pd__I_C rfl) rfl (by show 2 * 0 + _ ≤ _; exact Nat.le_of_eq rfl) (hb hby at_14) (fun _ _ => ⟨rfl, e1, (by decide : 1 + 0 ≤ _), (by decide : 4 + 0 ≤ _)⟩)
  dsimp only [Pt.U, Pt.locs, Pt.cells, Pt.slots] at X6 l6 y6 z6 st6 hQ6
  subst l6 y6 z6
  obtain ⟨v5, rfl, N6, e6, y6_0⟩ := hQ6
  have M6 := Fr.app N0 N6
  refine Gl.st st6 ?_
  show Gl p.tables e below _ (T6.setTop (mkF m 17 #[.val (.int p0), .val (.int p1), .val (.int p2), .val (.int p3), .val (.int p4), .val (.int ((p0 &&& (2147483647 : Int32)) % (5 : Int32))), .unset, .unset, .unset, .unset, .unset] [(.int v5), (.int 0), (.ref b1), (.ref b1)]))
  show Gl p.tables e below _ (T6.setTop (mkF m 17 #[.val (.int p0), .val (.int p1), .val (.int p2), .val (.int p3), .val (.int p4), .val (.int ((p0 &&& (2147483647 : Int32)) % (5 : Int32))), .unset, .unset, .unset, .unset, .unset] [(.int v5), (.int 0), (.ref b1), (.ref b1)]))
  obtain ⟨c7, a7, q7, S7, M7, H7, G7⟩ := id V1
  obtain ⟨T7, h7, X7, e7, W7, st7⟩ := stC X6 hx hZ e6 a7 (j := (0 : Int32)) (inb_of S7 ⟨by decide, by decide⟩) (g := (mkF m 17 #[.val (.int p0), .val (.int p1), .val (.int p2), .val (.int p3), .val (.int p4), .val (.int ((p0 &&& (2147483647 : Int32)) % (5 : Int32))), .unset, .unset, .unset, .unset, .unset] [(.int v5), (.int 0), (.ref b1), (.ref b1)])) rfl rfl (hb hby at_17)
  refine Gl.st st7 ?_
  have C8 : CHr Z consts_1 s.vm h0 s.vm h7 := C4.trans (CHr.wr W7 (Safe.arv hZ.alike V1 (by decide)) C4.1)
  have V7 : Arv Z h7 b1 k1 .char (4 : Int32) [(.int v5), (.int 0), (.int 0), (.int 0)] (.int 0) := by
    have q := Arv.set a7 q7 S7 M7 H7 G7 (fits_nar_char _) W7 0 rfl (Nat.le_of_ble_eq_true rfl)
    rw [nar_id y6_0.1 y6_0.2] at q
    exact q
  have N7 := Fr.snoc X7 M6 g2
  show Gl p.tables e below _ (T7.setTop (mkF m 18 #[.val (.int p0), .val (.int p1), .val (.int p2), .val (.int p3), .val (.int p4), .val (.int ((p0 &&& (2147483647 : Int32)) % (5 : Int32))), .unset, .unset, .unset, .unset, .unset] [(.ref b1)]))
  refine Gl.st (fun _ kq => XS.dup X7.here hx rfl (hb hby at_18) rfl rfl kq) ?_
  show Gl p.tables e below _ (T7.setTop (mkF m 19 #[.val (.int p0), .val (.int p1), .val (.int p2), .val (.int p3), .val (.int p4), .val (.int ((p0 &&& (2147483647 : Int32)) % (5 : Int32))), .unset, .unset, .unset, .unset, .unset] [(.ref b1), (.ref b1)]))
  refine Gl.st (fun _ kq => XS.iconst X7.here hx rfl (hb hby at_19) kq) ?_
  show Gl p.tables e below _ (T7.setTop (mkF m 20 #[.val (.int p0), .val (.int p1), .val (.int p2), .val (.int p3), .val (.int p4), .val (.int ((p0 &&& (2147483647 : Int32)) % (5 : Int32))), .unset, .unset, .unset, .unset, .unset] [(.int 1), (.ref b1), (.ref b1)]))
  refine Gl.st (fun _ kq => XS.iloadN X7.here hx rfl (hb hby at_20) rfl kq) ?_
  show Gl p.tables e below _ (T7.setTop (mkF m 21 #[.val (.int p0), .val (.int p1), .val (.int p2), .val (.int p3), .val (.int p4), .val (.int ((p0 &&& (2147483647 : Int32)) % (5 : Int32))), .unset, .unset, .unset, .unset, .unset] [(.int p2), (.int 1), (.ref b1), (.ref b1)]))
  obtain ⟨_, _, ⟨T10, L10, k10, n10⟩, -, X10, ⟨Lc10, hQ10, l10, y10, z10⟩, st10⟩ := Jvm.LawKit.callS X7 hx (y := (⟨"com/example/neighbor_keys/neighborkeys/model/RelatedColumnOfPinLaw", "ch", "(I)C"⟩ : MethodName)) hown (mvT hZ (tw hw 2 rfl)) (mvT hZ (tw hw 3 rfl)) (mvT hZ (tw hw 4 rfl)) (mvT hZ (tw hw 5 rfl)) (by decide) (backOf (W := 3) (rm_ch l Z a0 hw [] (p2) h7 n0 (Nat.le_trans (Nat.le_trans Z0 E1.1) (Keep.of_wr W7).1) ) hZ (tw hw 5 rfl) (tw hw 4 rfl) (by decide) (by decide)) (g := (mkF m 21 #[.val (.int p0), .val (.int p1), .val (.int p2), .val (.int p3), .val (.int p4), .val (.int ((p0 &&& (2147483647 : Int32)) % (5 : Int32))), .unset, .unset, .unset, .unset, .unset] [(.int p2), (.int 1), (.ref b1), (.ref b1)])) rfl (by rw [hml]; rfl) (argsL := [(.int p2)]) (rest := [(.int 1), (.ref b1), (.ref b1)]) (lenOf pd__I_C rfl) rfl (by show 2 * 0 + _ ≤ _; exact Nat.le_of_eq rfl) (hb hby at_21) (fun _ _ => ⟨rfl, e7, (by decide : 1 + 0 ≤ _), (by decide : 4 + 0 ≤ _)⟩)
  dsimp only [Pt.U, Pt.locs, Pt.cells, Pt.slots] at X10 l10 y10 z10 st10 hQ10
  subst l10 y10 z10
  obtain ⟨v9, rfl, N10, e10, y10_0⟩ := hQ10
  have M10 := Fr.app N7 N10
  refine Gl.st st10 ?_
  show Gl p.tables e below _ (T10.setTop (mkF m 24 #[.val (.int p0), .val (.int p1), .val (.int p2), .val (.int p3), .val (.int p4), .val (.int ((p0 &&& (2147483647 : Int32)) % (5 : Int32))), .unset, .unset, .unset, .unset, .unset] [(.int v9), (.int 1), (.ref b1), (.ref b1)]))
  show Gl p.tables e below _ (T10.setTop (mkF m 24 #[.val (.int p0), .val (.int p1), .val (.int p2), .val (.int p3), .val (.int p4), .val (.int ((p0 &&& (2147483647 : Int32)) % (5 : Int32))), .unset, .unset, .unset, .unset, .unset] [(.int v9), (.int 1), (.ref b1), (.ref b1)]))
  obtain ⟨c11, a11, q11, S11, M11, H11, G11⟩ := id V7
  obtain ⟨T11, h11, X11, e11, W11, st11⟩ := stC X10 hx hZ e10 a11 (j := (1 : Int32)) (inb_of S11 ⟨by decide, by decide⟩) (g := (mkF m 24 #[.val (.int p0), .val (.int p1), .val (.int p2), .val (.int p3), .val (.int p4), .val (.int ((p0 &&& (2147483647 : Int32)) % (5 : Int32))), .unset, .unset, .unset, .unset, .unset] [(.int v9), (.int 1), (.ref b1), (.ref b1)])) rfl rfl (hb hby at_24)
  refine Gl.st st11 ?_
  have C12 : CHr Z consts_1 s.vm h0 s.vm h11 := C8.trans (CHr.wr W11 (Safe.arv hZ.alike V7 (by decide)) C8.1)
  have V11 : Arv Z h11 b1 k1 .char (4 : Int32) [(.int v5), (.int v9), (.int 0), (.int 0)] (.int 0) := by
    have q := Arv.set a11 q11 S11 M11 H11 G11 (fits_nar_char _) W11 1 rfl (Nat.le_of_ble_eq_true rfl)
    rw [nar_id y10_0.1 y10_0.2] at q
    exact q
  have N11 := Fr.snoc X11 M10 g2
  show Gl p.tables e below _ (T11.setTop (mkF m 25 #[.val (.int p0), .val (.int p1), .val (.int p2), .val (.int p3), .val (.int p4), .val (.int ((p0 &&& (2147483647 : Int32)) % (5 : Int32))), .unset, .unset, .unset, .unset, .unset] [(.ref b1)]))
  refine Gl.st (fun _ kq => XS.dup X11.here hx rfl (hb hby at_25) rfl rfl kq) ?_
  show Gl p.tables e below _ (T11.setTop (mkF m 26 #[.val (.int p0), .val (.int p1), .val (.int p2), .val (.int p3), .val (.int p4), .val (.int ((p0 &&& (2147483647 : Int32)) % (5 : Int32))), .unset, .unset, .unset, .unset, .unset] [(.ref b1), (.ref b1)]))
  refine Gl.st (fun _ kq => XS.iconst X11.here hx rfl (hb hby at_26) kq) ?_
  show Gl p.tables e below _ (T11.setTop (mkF m 27 #[.val (.int p0), .val (.int p1), .val (.int p2), .val (.int p3), .val (.int p4), .val (.int ((p0 &&& (2147483647 : Int32)) % (5 : Int32))), .unset, .unset, .unset, .unset, .unset] [(.int 2), (.ref b1), (.ref b1)]))
  refine Gl.st (fun _ kq => XS.iloadN X11.here hx rfl (hb hby at_27) rfl kq) ?_
  show Gl p.tables e below _ (T11.setTop (mkF m 28 #[.val (.int p0), .val (.int p1), .val (.int p2), .val (.int p3), .val (.int p4), .val (.int ((p0 &&& (2147483647 : Int32)) % (5 : Int32))), .unset, .unset, .unset, .unset, .unset] [(.int p3), (.int 2), (.ref b1), (.ref b1)]))
  obtain ⟨_, _, ⟨T14, L14, k14, n14⟩, -, X14, ⟨Lc14, hQ14, l14, y14, z14⟩, st14⟩ := Jvm.LawKit.callS X11 hx (y := (⟨"com/example/neighbor_keys/neighborkeys/model/RelatedColumnOfPinLaw", "ch", "(I)C"⟩ : MethodName)) hown (mvT hZ (tw hw 2 rfl)) (mvT hZ (tw hw 3 rfl)) (mvT hZ (tw hw 4 rfl)) (mvT hZ (tw hw 5 rfl)) (by decide) (backOf (W := 3) (rm_ch l Z a0 hw [] (p3) h11 n0 (Nat.le_trans (Nat.le_trans (Nat.le_trans Z0 E1.1) (Keep.of_wr W7).1) (Keep.of_wr W11).1) ) hZ (tw hw 5 rfl) (tw hw 4 rfl) (by decide) (by decide)) (g := (mkF m 28 #[.val (.int p0), .val (.int p1), .val (.int p2), .val (.int p3), .val (.int p4), .val (.int ((p0 &&& (2147483647 : Int32)) % (5 : Int32))), .unset, .unset, .unset, .unset, .unset] [(.int p3), (.int 2), (.ref b1), (.ref b1)])) rfl (by rw [hml]; rfl) (argsL := [(.int p3)]) (rest := [(.int 2), (.ref b1), (.ref b1)]) (lenOf pd__I_C rfl) rfl (by show 2 * 0 + _ ≤ _; exact Nat.le_of_eq rfl) (hb hby at_28) (fun _ _ => ⟨rfl, e11, (by decide : 1 + 0 ≤ _), (by decide : 4 + 0 ≤ _)⟩)
  dsimp only [Pt.U, Pt.locs, Pt.cells, Pt.slots] at X14 l14 y14 z14 st14 hQ14
  subst l14 y14 z14
  obtain ⟨v13, rfl, N14, e14, y14_0⟩ := hQ14
  have M14 := Fr.app N11 N14
  refine Gl.st st14 ?_
  show Gl p.tables e below _ (T14.setTop (mkF m 31 #[.val (.int p0), .val (.int p1), .val (.int p2), .val (.int p3), .val (.int p4), .val (.int ((p0 &&& (2147483647 : Int32)) % (5 : Int32))), .unset, .unset, .unset, .unset, .unset] [(.int v13), (.int 2), (.ref b1), (.ref b1)]))
  show Gl p.tables e below _ (T14.setTop (mkF m 31 #[.val (.int p0), .val (.int p1), .val (.int p2), .val (.int p3), .val (.int p4), .val (.int ((p0 &&& (2147483647 : Int32)) % (5 : Int32))), .unset, .unset, .unset, .unset, .unset] [(.int v13), (.int 2), (.ref b1), (.ref b1)]))
  obtain ⟨c15, a15, q15, S15, M15, H15, G15⟩ := id V11
  obtain ⟨T15, h15, X15, e15, W15, st15⟩ := stC X14 hx hZ e14 a15 (j := (2 : Int32)) (inb_of S15 ⟨by decide, by decide⟩) (g := (mkF m 31 #[.val (.int p0), .val (.int p1), .val (.int p2), .val (.int p3), .val (.int p4), .val (.int ((p0 &&& (2147483647 : Int32)) % (5 : Int32))), .unset, .unset, .unset, .unset, .unset] [(.int v13), (.int 2), (.ref b1), (.ref b1)])) rfl rfl (hb hby at_31)
  refine Gl.st st15 ?_
  have C16 : CHr Z consts_1 s.vm h0 s.vm h15 := C12.trans (CHr.wr W15 (Safe.arv hZ.alike V11 (by decide)) C12.1)
  have V15 : Arv Z h15 b1 k1 .char (4 : Int32) [(.int v5), (.int v9), (.int v13), (.int 0)] (.int 0) := by
    have q := Arv.set a15 q15 S15 M15 H15 G15 (fits_nar_char _) W15 2 rfl (Nat.le_of_ble_eq_true rfl)
    rw [nar_id y14_0.1 y14_0.2] at q
    exact q
  have N15 := Fr.snoc X15 M14 g2
  show Gl p.tables e below _ (T15.setTop (mkF m 32 #[.val (.int p0), .val (.int p1), .val (.int p2), .val (.int p3), .val (.int p4), .val (.int ((p0 &&& (2147483647 : Int32)) % (5 : Int32))), .unset, .unset, .unset, .unset, .unset] [(.ref b1)]))
  refine Gl.st (fun _ kq => XS.dup X15.here hx rfl (hb hby at_32) rfl rfl kq) ?_
  show Gl p.tables e below _ (T15.setTop (mkF m 33 #[.val (.int p0), .val (.int p1), .val (.int p2), .val (.int p3), .val (.int p4), .val (.int ((p0 &&& (2147483647 : Int32)) % (5 : Int32))), .unset, .unset, .unset, .unset, .unset] [(.ref b1), (.ref b1)]))
  refine Gl.st (fun _ kq => XS.iconst X15.here hx rfl (hb hby at_33) kq) ?_
  show Gl p.tables e below _ (T15.setTop (mkF m 34 #[.val (.int p0), .val (.int p1), .val (.int p2), .val (.int p3), .val (.int p4), .val (.int ((p0 &&& (2147483647 : Int32)) % (5 : Int32))), .unset, .unset, .unset, .unset, .unset] [(.int 3), (.ref b1), (.ref b1)]))
  refine Gl.st (fun _ kq => XS.iload X15.here hx rfl (hb hby at_34) rfl kq) ?_
  show Gl p.tables e below _ (T15.setTop (mkF m 36 #[.val (.int p0), .val (.int p1), .val (.int p2), .val (.int p3), .val (.int p4), .val (.int ((p0 &&& (2147483647 : Int32)) % (5 : Int32))), .unset, .unset, .unset, .unset, .unset] [(.int p4), (.int 3), (.ref b1), (.ref b1)]))
  obtain ⟨_, _, ⟨T18, L18, k18, n18⟩, -, X18, ⟨Lc18, hQ18, l18, y18, z18⟩, st18⟩ := Jvm.LawKit.callS X15 hx (y := (⟨"com/example/neighbor_keys/neighborkeys/model/RelatedColumnOfPinLaw", "ch", "(I)C"⟩ : MethodName)) hown (mvT hZ (tw hw 2 rfl)) (mvT hZ (tw hw 3 rfl)) (mvT hZ (tw hw 4 rfl)) (mvT hZ (tw hw 5 rfl)) (by decide) (backOf (W := 3) (rm_ch l Z a0 hw [] (p4) h15 n0 (Nat.le_trans (Nat.le_trans (Nat.le_trans (Nat.le_trans Z0 E1.1) (Keep.of_wr W7).1) (Keep.of_wr W11).1) (Keep.of_wr W15).1) ) hZ (tw hw 5 rfl) (tw hw 4 rfl) (by decide) (by decide)) (g := (mkF m 36 #[.val (.int p0), .val (.int p1), .val (.int p2), .val (.int p3), .val (.int p4), .val (.int ((p0 &&& (2147483647 : Int32)) % (5 : Int32))), .unset, .unset, .unset, .unset, .unset] [(.int p4), (.int 3), (.ref b1), (.ref b1)])) rfl (by rw [hml]; rfl) (argsL := [(.int p4)]) (rest := [(.int 3), (.ref b1), (.ref b1)]) (lenOf pd__I_C rfl) rfl (by show 2 * 0 + _ ≤ _; exact Nat.le_of_eq rfl) (hb hby at_36) (fun _ _ => ⟨rfl, e15, (by decide : 1 + 0 ≤ _), (by decide : 4 + 0 ≤ _)⟩)
  dsimp only [Pt.U, Pt.locs, Pt.cells, Pt.slots] at X18 l18 y18 z18 st18 hQ18
  subst l18 y18 z18
  obtain ⟨v17, rfl, N18, e18, y18_0⟩ := hQ18
  have M18 := Fr.app N15 N18
  refine Gl.st st18 ?_
  show Gl p.tables e below _ (T18.setTop (mkF m 39 #[.val (.int p0), .val (.int p1), .val (.int p2), .val (.int p3), .val (.int p4), .val (.int ((p0 &&& (2147483647 : Int32)) % (5 : Int32))), .unset, .unset, .unset, .unset, .unset] [(.int v17), (.int 3), (.ref b1), (.ref b1)]))
  show Gl p.tables e below _ (T18.setTop (mkF m 39 #[.val (.int p0), .val (.int p1), .val (.int p2), .val (.int p3), .val (.int p4), .val (.int ((p0 &&& (2147483647 : Int32)) % (5 : Int32))), .unset, .unset, .unset, .unset, .unset] [(.int v17), (.int 3), (.ref b1), (.ref b1)]))
  obtain ⟨c19, a19, q19, S19, M19, H19, G19⟩ := id V15
  obtain ⟨T19, h19, X19, e19, W19, st19⟩ := stC X18 hx hZ e18 a19 (j := (3 : Int32)) (inb_of S19 ⟨by decide, by decide⟩) (g := (mkF m 39 #[.val (.int p0), .val (.int p1), .val (.int p2), .val (.int p3), .val (.int p4), .val (.int ((p0 &&& (2147483647 : Int32)) % (5 : Int32))), .unset, .unset, .unset, .unset, .unset] [(.int v17), (.int 3), (.ref b1), (.ref b1)])) rfl rfl (hb hby at_39)
  refine Gl.st st19 ?_
  have C20 : CHr Z consts_1 s.vm h0 s.vm h19 := C16.trans (CHr.wr W19 (Safe.arv hZ.alike V15 (by decide)) C16.1)
  have V19 : Arv Z h19 b1 k1 .char (4 : Int32) [(.int v5), (.int v9), (.int v13), (.int v17)] (.int 0) := by
    have q := Arv.set a19 q19 S19 M19 H19 G19 (fits_nar_char _) W19 3 rfl (Nat.le_of_ble_eq_true rfl)
    rw [nar_id y18_0.1 y18_0.2] at q
    exact q
  have N19 := Fr.snoc X19 M18 g2
  show Gl p.tables e below _ (T19.setTop (mkF m 40 #[.val (.int p0), .val (.int p1), .val (.int p2), .val (.int p3), .val (.int p4), .val (.int ((p0 &&& (2147483647 : Int32)) % (5 : Int32))), .unset, .unset, .unset, .unset, .unset] [(.ref b1)]))
  refine Gl.st (fun _ kq => XS.astore X19.here hx rfl (hb hby at_40) rfl rfl (l' := #[.val (.int p0), .val (.int p1), .val (.int p2), .val (.int p3), .val (.int p4), .val (.int ((p0 &&& (2147483647 : Int32)) % (5 : Int32))), .val (.ref b1), .unset, .unset, .unset, .unset]) rfl kq) ?_
  show Gl p.tables e below _ (T19.setTop (mkF m 42 #[.val (.int p0), .val (.int p1), .val (.int p2), .val (.int p3), .val (.int p4), .val (.int ((p0 &&& (2147483647 : Int32)) % (5 : Int32))), .val (.ref b1), .unset, .unset, .unset, .unset] []))
  refine Gl.st (fun _ kq => XS.iload X19.here hx rfl (hb hby at_42) rfl kq) ?_
  show Gl p.tables e below _ (T19.setTop (mkF m 44 #[.val (.int p0), .val (.int p1), .val (.int p2), .val (.int p3), .val (.int p4), .val (.int ((p0 &&& (2147483647 : Int32)) % (5 : Int32))), .val (.ref b1), .unset, .unset, .unset, .unset] [(.int ((p0 &&& (2147483647 : Int32)) % (5 : Int32)))]))
  refine Gl.st (fun _ kq => XS.aload X19.here hx rfl (hb hby at_44) rfl rfl kq) ?_
  show Gl p.tables e below _ (T19.setTop (mkF m 46 #[.val (.int p0), .val (.int p1), .val (.int p2), .val (.int p3), .val (.int p4), .val (.int ((p0 &&& (2147483647 : Int32)) % (5 : Int32))), .val (.ref b1), .unset, .unset, .unset, .unset] [(.ref b1), (.int ((p0 &&& (2147483647 : Int32)) % (5 : Int32)))]))
  have f21 : Old Z n0 h19 := (((((pf0.ext E1).wr W7 g2).wr W11 g2).wr W15 g2).wr W19 g2)
  obtain ⟨_, _, ⟨T26, L26, k26, n26⟩, -, X26, S26, g26, ⟨Lc26, hQ26, l26, y26, z26, R26⟩, st26⟩ := callSS X19 hx (y := (⟨"com/example/neighbor_keys/neighborkeys/model/RelatedColumnOfPinLaw", "make", "(I[C)Ljava/lang/String;"⟩ : MethodName)) hown (mvT hZ (tw hw 6 rfl)) (mvT hZ (tw hw 7 rfl)) (mvT hZ (tw hw 4 rfl)) (mvT hZ (tw hw 8 rfl)) (by decide) (backOfSH (W := 0) (rm_mk l Z a0 hw [] (((p0 &&& (2147483647 : Int32)) % (5 : Int32))) (b1) (k1) (v5) (v9) (v13) (v17) (G1) h19 n0 (Nat.le_trans (Nat.le_trans (Nat.le_trans (Nat.le_trans (Nat.le_trans Z0 E1.1) (Keep.of_wr W7).1) (Keep.of_wr W11).1) (Keep.of_wr W15).1) (Keep.of_wr W19).1) V19 f21 y6_0 y10_0 y14_0 y18_0 O2 P5) hZ (tw hw 8 rfl) (tw hw 4 rfl) (by decide) (by decide) (elW hw) C20.1) (g := (mkF m 46 #[.val (.int p0), .val (.int p1), .val (.int p2), .val (.int p3), .val (.int p4), .val (.int ((p0 &&& (2147483647 : Int32)) % (5 : Int32))), .val (.ref b1), .unset, .unset, .unset, .unset] [(.ref b1), (.int ((p0 &&& (2147483647 : Int32)) % (5 : Int32)))])) rfl (by rw [hml]; rfl) (argsL := [(.int ((p0 &&& (2147483647 : Int32)) % (5 : Int32))), (.ref b1)]) (rest := []) (lenOf pd__I_C_Ljava_lang_String_ rfl) rfl (by show 2 * 0 + _ ≤ _; exact Nat.le_of_eq rfl) (hb hby at_46) (fun _ _ => ⟨rfl, e19, (by decide : 1 + 6 ≤ _), (by decide : 4 + 12 ≤ _)⟩)
  dsimp only [Pt.U, Pt.locs, Pt.cells, Pt.slots] at X26 l26 y26 z26 st26 hQ26 R26
  subst l26 y26 z26
  obtain ⟨X26, S26, hZ26, ho26⟩ := rebS hS0 (Nat.le_trans (Nat.le_trans (Nat.le_trans (Nat.le_trans (Nat.le_trans (Nat.le_trans (Nat.le_of_eq (congrArg Array.size e0)) E1.1) (Keep.of_wr W7).1) (Keep.of_wr W11).1) (Keep.of_wr W15).1) (Keep.of_wr W19).1) (Nat.le_of_eq (congrArg Array.size e19).symm)) X26 S26 g26 hZ hown
  obtain ⟨v22, v23, v24, v25, rfl, N26, K26, q26_0, q26_1, q26_2, q26_3, y26_0, y26_1⟩ := hQ26
  have C27 : CHr Z consts_1 s.vm h0 T26.vm T26.heap := C20.trans R26
  have M26 := Fr.app N19 N26
  have g28 : n0 ≤ v22 := Nat.le_trans (Nat.le_trans (Nat.le_trans (Nat.le_trans (Nat.le_trans (Nat.le_trans Z0 E1.1) (Keep.of_wr W7).1) (Keep.of_wr W11).1) (Keep.of_wr W15).1) (Keep.of_wr W19).1) y26_1
  have s29 : h0.size ≤ v22 := Nat.le_trans (Nat.le_trans (Nat.le_trans (Nat.le_trans (Nat.le_trans (Nat.le_trans (Nat.le_refl _) E1.1) (Keep.of_wr W7).1) (Keep.of_wr W11).1) (Keep.of_wr W15).1) (Keep.of_wr W19).1) y26_1
  refine Gl.to st26 ?_
  show Gl p.tables e below _ (T26.setTop (mkF m 49 #[.val (.int p0), .val (.int p1), .val (.int p2), .val (.int p3), .val (.int p4), .val (.int ((p0 &&& (2147483647 : Int32)) % (5 : Int32))), .val (.ref b1), .unset, .unset, .unset, .unset] [(.ref v22)]))
  show Gl p.tables e below _ (T26.setTop (mkF m 49 #[.val (.int p0), .val (.int p1), .val (.int p2), .val (.int p3), .val (.int p4), .val (.int ((p0 &&& (2147483647 : Int32)) % (5 : Int32))), .val (.ref b1), .unset, .unset, .unset, .unset] [(.ref v22)]))
  refine Gl.st (fun _ kq => XS.astore X26.here hx rfl (hb hby at_49) rfl rfl (l' := #[.val (.int p0), .val (.int p1), .val (.int p2), .val (.int p3), .val (.int p4), .val (.int ((p0 &&& (2147483647 : Int32)) % (5 : Int32))), .val (.ref b1), .val (.ref v22), .unset, .unset, .unset]) rfl kq) ?_
  show Gl p.tables e below _ (T26.setTop (mkF m 51 #[.val (.int p0), .val (.int p1), .val (.int p2), .val (.int p3), .val (.int p4), .val (.int ((p0 &&& (2147483647 : Int32)) % (5 : Int32))), .val (.ref b1), .val (.ref v22), .unset, .unset, .unset] []))
  refine Gl.st (fun _ kq => XS.iconst X26.here hx rfl (hb hby at_51) kq) ?_
  show Gl p.tables e below _ (T26.setTop (mkF m 52 #[.val (.int p0), .val (.int p1), .val (.int p2), .val (.int p3), .val (.int p4), .val (.int ((p0 &&& (2147483647 : Int32)) % (5 : Int32))), .val (.ref b1), .val (.ref v22), .unset, .unset, .unset] [(.int (-1))]))
  refine Gl.st (fun _ kq => XS.istore X26.here hx rfl (hb hby at_52) rfl (l' := #[.val (.int p0), .val (.int p1), .val (.int p2), .val (.int p3), .val (.int p4), .val (.int ((p0 &&& (2147483647 : Int32)) % (5 : Int32))), .val (.ref b1), .val (.ref v22), .val (.int (-1)), .unset, .unset]) rfl kq) ?_
  show Gl p.tables e below _ (T26.setTop (mkF m 54 #[.val (.int p0), .val (.int p1), .val (.int p2), .val (.int p3), .val (.int p4), .val (.int ((p0 &&& (2147483647 : Int32)) % (5 : Int32))), .val (.ref b1), .val (.ref v22), .val (.int (-1)), .unset, .unset] []))
  have hk5 := k5_rem p0
  have hlen : ((p0 &&& (2147483647 : Int32)) % (5 : Int32)) = Int32.ofNat v25.length := by rw [y26_0]; exact tk_len hk5
  have hle : v25.length ≤ 4 := by rw [y26_0]; exact tk_le _ _ _ _ _
  have hrg : Rng v25 := by rw [y26_0]; exact tk_rng y6_0 y10_0 y14_0 y18_0
  have Jj : ∀ (Tj : State) (hj : Heap) (Lj : List Loc) (vmj : Vm) (kj : Nat) (hSj : s.Since vmj kj) (hZj : Z.Warmed39 vmj) (hoj : vmj.findClass "com/example/neighbor_keys/neighborkeys/model/RelatedColumnOfPinLaw" = some m.cls) (hkj : kj ≤ hj.size) (Cj : CHr Z consts_1 s.vm h0 vmj hj) (Xj : Stand p l e room_1 (s.setVm vmj) m #[(.int p0), (.int p1), (.int p2), (.int p3), (.int p4)] below meth c Tj Lj 7 16) (ej : Tj.heap = hj) (Nj : Fr n0 Lj) (zj : n0 ≤ hj.size) (nn : Int32) (dt : Int32) (fj_0 : Old Z n0 hj) (fj_1 : Arv Z hj b1 k1 .char (4 : Int32) [(.int v5), (.int v9), (.int v13), (.int v17)] (.int 0)) (fj_2 : Exa Z hj v22 "java/lang/String") (fj_3 : Fld Z hj v22 "java/lang/String" "coder" "B" (.int 0)) (fj_4 : Fld Z hj v22 "java/lang/String" "value" "[B" (.ref v23)) (fj_5 : Arv Z hj v23 v24 .byte (Int32.ofNat v25.length) ((v25.map (fun c => c.toInt8.toInt32)).map Value.int) (.int 0)) (yj_0 : nn = Int32.ofNat v25.length) (yj_1 : own_dot dt v25), Gl p.tables e below (EndH s Z consts_1 (Q_law Z p0 p1 p2 p3 p4 G1 G3 h0 n0) room_1.cells room_1.slots) (Tj.setTop (mkF m 134 #[.val (.int p0), .val (.int p1), .val (.int p2), .val (.int p3), .val (.int p4), .val (.int nn), .val (.ref b1), .val (.ref v22), .val (.int dt), .unset, .unset] [])) := by
    intro Tj hj Lj vmj kj hSj hZj hoj hkj Cj Xj ej Nj zj nn dt fj_0 fj_1 fj_2 fj_3 fj_4 fj_5 yj_0 yj_1
    show Gl p.tables e below _ (Tj.setTop (mkF m 134 #[.val (.int p0), .val (.int p1), .val (.int p2), .val (.int p3), .val (.int p4), .val (.int nn), .val (.ref b1), .val (.ref v22), .val (.int dt), .unset, .unset] []))
    subst yj_0
    rcases yj_1 with ⟨hdt, hno⟩ | ⟨rr, hdt, hfi⟩
    · subst hdt
      show Gl p.tables e below _ (Tj.setTop (mkF m 134 #[.val (.int p0), .val (.int p1), .val (.int p2), .val (.int p3), .val (.int p4), .val (.int (Int32.ofNat v25.length)), .val (.ref b1), .val (.ref v22), .val (.int (-1)), .unset, .unset] []))
      refine Gl.st (fun _ kq => XS.iload Xj.here hx rfl (hb hby at_134) rfl kq) ?_
      show Gl p.tables e below _ (Tj.setTop (mkF m 136 #[.val (.int p0), .val (.int p1), .val (.int p2), .val (.int p3), .val (.int p4), .val (.int (Int32.ofNat v25.length)), .val (.ref b1), .val (.ref v22), .val (.int (-1)), .unset, .unset] [(.int (-1))]))
      refine Gl.st (fun _ kq => XS.iconst Xj.here hx rfl (hb hby at_136) kq) ?_
      show Gl p.tables e below _ (Tj.setTop (mkF m 137 #[.val (.int p0), .val (.int p1), .val (.int p2), .val (.int p3), .val (.int p4), .val (.int (Int32.ofNat v25.length)), .val (.ref b1), .val (.ref v22), .val (.int (-1)), .unset, .unset] [(.int 1), (.int (-1))]))
      refine Gl.st (fun _ kq => XS.iadd Xj.here hx rfl (hb hby at_137) rfl kq) ?_
      show Gl p.tables e below _ (Tj.setTop (mkF m 138 #[.val (.int p0), .val (.int p1), .val (.int p2), .val (.int p3), .val (.int p4), .val (.int (Int32.ofNat v25.length)), .val (.ref b1), .val (.ref v22), .val (.int (-1)), .unset, .unset] [(.int 0)]))
      refine Gl.st (fun _ kq => XS.istore Xj.here hx rfl (hb hby at_138) rfl (l' := #[.val (.int p0), .val (.int p1), .val (.int p2), .val (.int p3), .val (.int p4), .val (.int (Int32.ofNat v25.length)), .val (.ref b1), .val (.ref v22), .val (.int (-1)), .val (.int 0), .unset]) rfl kq) ?_
      show Gl p.tables e below _ (Tj.setTop (mkF m 140 #[.val (.int p0), .val (.int p1), .val (.int p2), .val (.int p3), .val (.int p4), .val (.int (Int32.ofNat v25.length)), .val (.ref b1), .val (.ref v22), .val (.int (-1)), .val (.int 0), .unset] []))
      refine Gl.st (fun _ kq => XS.aload Xj.here hx rfl (hb hby at_140) rfl rfl kq) ?_
      show Gl p.tables e below _ (Tj.setTop (mkF m 142 #[.val (.int p0), .val (.int p1), .val (.int p2), .val (.int p3), .val (.int p4), .val (.int (Int32.ofNat v25.length)), .val (.ref b1), .val (.ref v22), .val (.int (-1)), .val (.int 0), .unset] [(.ref v22)]))
      obtain ⟨_, _, ⟨T39, L39, k39, n39⟩, -, X39, S39, g39, ⟨Lc39, hQ39, l39, y39, z39, R39⟩, st39⟩ := callSS Xj hx (y := (⟨"com/example/neighbor_keys/neighborkeys/model/Related", "columnOf", "(Ljava/lang/String;)Ljava/lang/String;"⟩ : MethodName)) hoj (mvT hZj (tw hw 30 rfl)) (mvT hZj (tw hw 31 rfl)) (mvT hZj (tw hw 32 rfl)) (mvT hZj (tw hw 33 rfl)) (by decide) (backOfSH (W := 0) (rm_co l Z a0 hw [] (v22) (v23) (v24) (v25) (G1) (G3) hj n0 zj fj_2 fj_3 fj_4 fj_5 fj_0 hrg hle O2 P5 O4 rG3) hZj (tw hw 33 rfl) (tw hw 32 rfl) (by decide) (by decide) (elW hw) Cj.1) (g := (mkF m 142 #[.val (.int p0), .val (.int p1), .val (.int p2), .val (.int p3), .val (.int p4), .val (.int (Int32.ofNat v25.length)), .val (.ref b1), .val (.ref v22), .val (.int (-1)), .val (.int 0), .unset] [(.ref v22)])) rfl (by rw [hml]; rfl) (argsL := [(.ref v22)]) (rest := []) (lenOf pd__Ljava_lang_String__Ljava_lang_String_ rfl) rfl (by show 2 * 0 + _ ≤ _; exact Nat.le_of_eq rfl) (hb hby at_142) (fun _ _ => ⟨rfl, ej, (by decide : 7 + 2 ≤ _), (by decide : 16 + 8 ≤ _)⟩)
      dsimp only [Pt.U, Pt.locs, Pt.cells, Pt.slots] at X39 l39 y39 z39 st39 hQ39 R39
      subst l39 y39 z39
      obtain ⟨X39, S39, hZ39, ho39⟩ := rebS hSj (Nat.le_trans hkj (Nat.le_of_eq (congrArg Array.size ej).symm)) X39 S39 g39 hZj hoj
      rcases hQ39 with ⟨v30, v31, v32, v33, v34, rfl, N39, K39, q39_0, q39_1, q39_2, q39_3, y39_0, y39_1⟩ | ⟨v35, v36, v37, v38, rfl, N39, K39, q39_0, q39_1, q39_2, q39_3, y39_0, y39_1⟩
      · exact (first_no y39_0 hno).elim
      · have C40 : CHr Z consts_1 s.vm h0 T39.vm T39.heap := Cj.trans R39
        have M39 := Fr.app Nj N39
        refine Gl.to st39 ?_
        show Gl p.tables e below _ (T39.setTop (mkF m 145 #[.val (.int p0), .val (.int p1), .val (.int p2), .val (.int p3), .val (.int p4), .val (.int (Int32.ofNat v25.length)), .val (.ref b1), .val (.ref v22), .val (.int (-1)), .val (.int 0), .unset] [(.ref v35)]))
        refine Gl.st (fun _ kq => XS.astore X39.here hx rfl (hb hby at_145) rfl rfl (l' := #[.val (.int p0), .val (.int p1), .val (.int p2), .val (.int p3), .val (.int p4), .val (.int (Int32.ofNat v25.length)), .val (.ref b1), .val (.ref v22), .val (.int (-1)), .val (.int 0), .val (.ref v35)]) rfl kq) ?_
        show Gl p.tables e below _ (T39.setTop (mkF m 147 #[.val (.int p0), .val (.int p1), .val (.int p2), .val (.int p3), .val (.int p4), .val (.int (Int32.ofNat v25.length)), .val (.ref b1), .val (.ref v22), .val (.int (-1)), .val (.int 0), .val (.ref v35)] []))
        refine Gl.st (fun _ kq => XS.aload X39.here hx rfl (hb hby at_147) rfl rfl kq) ?_
        show Gl p.tables e below _ (T39.setTop (mkF m 149 #[.val (.int p0), .val (.int p1), .val (.int p2), .val (.int p3), .val (.int p4), .val (.int (Int32.ofNat v25.length)), .val (.ref b1), .val (.ref v22), .val (.int (-1)), .val (.int 0), .val (.ref v35)] [(.ref v35)]))
        refine Gl.st (fun _ kq => XS.ifnonnullYes X39.here hx rfl (pc0 := 149) (pc' := 154) rfl (hb hby at_149) rfl (by decide) (by decide) kq) ?_
        show Gl p.tables e below _ (T39.setTop (mkF m 154 #[.val (.int p0), .val (.int p1), .val (.int p2), .val (.int p3), .val (.int p4), .val (.int (Int32.ofNat v25.length)), .val (.ref b1), .val (.ref v22), .val (.int (-1)), .val (.int 0), .val (.ref v35)] []))
        refine Gl.st (fun _ kq => XS.aload X39.here hx rfl (hb hby at_154) rfl rfl kq) ?_
        show Gl p.tables e below _ (T39.setTop (mkF m 156 #[.val (.int p0), .val (.int p1), .val (.int p2), .val (.int p3), .val (.int p4), .val (.int (Int32.ofNat v25.length)), .val (.ref b1), .val (.ref v22), .val (.int (-1)), .val (.int 0), .val (.ref v35)] [(.ref v35)]))
        have f41 : Old Z n0 T39.heap := (fj_0.keep K39 all0)
        obtain ⟨cq42, kq42, q42a, q42b, q42c⟩ := isOf hZ39 rfl q39_0
        obtain ⟨_, _, ⟨T42, L42, k42, n42⟩, -, X42, ⟨Lc42, hQ42, l42, y42, z42⟩, st42⟩ := X39.virtualBack hx (y := (⟨"java/lang/String", "length", "()I"⟩ : MethodName)) (z := (⟨"java/lang/String", "length", "()I"⟩ : MethodName)) ho39 (mvT hZ39 (tw hw 92 rfl)) (mvT hZ39 (tw hw 51 rfl)) (notFace_of_selects (args := #[]) (mvT hZ39 (tw hw 53 rfl))) (mvT hZ39 (tw hw 53 rfl)) (mvT hZ39 (tw hw 52 rfl)) (by decide) (StrChars.Road.lenW (W := 0) hZ39 (wdLen hw) (kI := 4) (tw hw 10 rfl) q39_0 q39_2 q39_1 q39_3 (StrChars.Road.codOf (cs := v38) rfl (fun x hx => ((show ∀ c ∈ v38, ¬ c < 0 ∧ ¬ (255 : Int32) < c from by rw [y39_1]; exact Rng.sub hrg _ _) x hx).2)) (up255 _ (show ∀ c ∈ v38, ¬ c < 0 ∧ ¬ (255 : Int32) < c from by rw [y39_1]; exact Rng.sub hrg _ _)) (O2.ext f41.2) P5 (by have q := ds_len y39_1; omega) (by decide) (by decide)) q42a q42c (g := (mkF m 156 #[.val (.int p0), .val (.int p1), .val (.int p2), .val (.int p3), .val (.int p4), .val (.int (Int32.ofNat v25.length)), .val (.ref b1), .val (.ref v22), .val (.int (-1)), .val (.int 0), .val (.ref v35)] [(.ref v35)])) rfl (by rw [hml]; rfl) (Steps.refl _) (argsL := []) (rest := []) (lenOf pd___I rfl) rfl (by show 2 * 0 + _ ≤ _; exact Nat.le_of_eq rfl) (hb hby at_156) (fun _ _ => ⟨rfl, rfl, (by decide : 9 + 0 ≤ _), (by decide : 24 + 0 ≤ _)⟩)
        dsimp only [Pt.U, Pt.locs, Pt.cells, Pt.slots] at X42 l42 y42 z42 st42 hQ42
        subst l42 y42 z42
        obtain ⟨rfl, rfl, e42⟩ := hQ42
        have N42 : Fr n0 ([] : List Loc) := Fr.nil n0
        have M42 := Fr.app M39 N42
        refine Gl.to st42 ?_
        show Gl p.tables e below _ (T42.setTop (mkF m 159 #[.val (.int p0), .val (.int p1), .val (.int p2), .val (.int p3), .val (.int p4), .val (.int (Int32.ofNat v25.length)), .val (.ref b1), .val (.ref v22), .val (.int (-1)), .val (.int 0), .val (.ref v35)] [(.int (Int32.ofNat v38.length))]))
        show Gl p.tables e below _ (T42.setTop (mkF m 159 #[.val (.int p0), .val (.int p1), .val (.int p2), .val (.int p3), .val (.int p4), .val (.int (Int32.ofNat v25.length)), .val (.ref b1), .val (.ref v22), .val (.int (-1)), .val (.int 0), .val (.ref v35)] [(.int (Int32.ofNat v38.length))]))
        refine Gl.st (fun _ kq => XS.iload X42.here hx rfl (hb hby at_159) rfl kq) ?_
        show Gl p.tables e below _ (T42.setTop (mkF m 161 #[.val (.int p0), .val (.int p1), .val (.int p2), .val (.int p3), .val (.int p4), .val (.int (Int32.ofNat v25.length)), .val (.ref b1), .val (.ref v22), .val (.int (-1)), .val (.int 0), .val (.ref v35)] [(.int (Int32.ofNat v25.length)), (.int (Int32.ofNat v38.length))]))
        refine Gl.st (fun _ kq => XS.iload X42.here hx rfl (hb hby at_161) rfl kq) ?_
        show Gl p.tables e below _ (T42.setTop (mkF m 163 #[.val (.int p0), .val (.int p1), .val (.int p2), .val (.int p3), .val (.int p4), .val (.int (Int32.ofNat v25.length)), .val (.ref b1), .val (.ref v22), .val (.int (-1)), .val (.int 0), .val (.ref v35)] [(.int 0), (.int (Int32.ofNat v25.length)), (.int (Int32.ofNat v38.length))]))
        refine Gl.st (fun _ kq => XS.isub X42.here hx rfl (hb hby at_163) rfl kq) ?_
        show Gl p.tables e below _ (T42.setTop (mkF m 164 #[.val (.int p0), .val (.int p1), .val (.int p2), .val (.int p3), .val (.int p4), .val (.int (Int32.ofNat v25.length)), .val (.ref b1), .val (.ref v22), .val (.int (-1)), .val (.int 0), .val (.ref v35)] [(.int ((Int32.ofNat v25.length) - (0 : Int32))), (.int (Int32.ofNat v38.length))]))
        rw [show Int32.ofNat v25.length - (0 : Int32) = Int32.ofNat (v25.length - 0) from n32_sub (j := 0) (Nat.zero_le _)]
        show Gl p.tables e below _ (T42.setTop (mkF m 164 #[.val (.int p0), .val (.int p1), .val (.int p2), .val (.int p3), .val (.int p4), .val (.int (Int32.ofNat v25.length)), .val (.ref b1), .val (.ref v22), .val (.int (-1)), .val (.int 0), .val (.ref v35)] [(.int (Int32.ofNat (v25.length - 0))), (.int (Int32.ofNat v38.length))]))
        refine Gl.st (fun _ kq => XS.icmpYes X42.here hx rfl (pc0 := 164) (pc' := 169) rfl (hb hby at_164) rfl (teq ((congrArg Int32.ofNat (ds_len y39_1)) : (Int32.ofNat v38.length) = (Int32.ofNat (v25.length - 0)))).1 (by decide) (by decide) kq) ?_
        show Gl p.tables e below _ (T42.setTop (mkF m 169 #[.val (.int p0), .val (.int p1), .val (.int p2), .val (.int p3), .val (.int p4), .val (.int (Int32.ofNat v25.length)), .val (.ref b1), .val (.ref v22), .val (.int (-1)), .val (.int 0), .val (.ref v35)] []))
        refine Gl.st (fun _ kq => XS.aload X42.here hx rfl (hb hby at_169) rfl rfl kq) ?_
        show Gl p.tables e below _ (T42.setTop (mkF m 171 #[.val (.int p0), .val (.int p1), .val (.int p2), .val (.int p3), .val (.int p4), .val (.int (Int32.ofNat v25.length)), .val (.ref b1), .val (.ref v22), .val (.int (-1)), .val (.int 0), .val (.ref v35)] [(.ref v35)]))
        refine Gl.st (fun _ kq => XS.iconst X42.here hx rfl (hb hby at_171) kq) ?_
        show Gl p.tables e below _ (T42.setTop (mkF m 172 #[.val (.int p0), .val (.int p1), .val (.int p2), .val (.int p3), .val (.int p4), .val (.int (Int32.ofNat v25.length)), .val (.ref b1), .val (.ref v22), .val (.int (-1)), .val (.int 0), .val (.ref v35)] [(.int 0), (.ref v35)]))
        refine Gl.st (fun _ kq => XS.aload X42.here hx rfl (hb hby at_172) rfl rfl kq) ?_
        show Gl p.tables e below _ (T42.setTop (mkF m 174 #[.val (.int p0), .val (.int p1), .val (.int p2), .val (.int p3), .val (.int p4), .val (.int (Int32.ofNat v25.length)), .val (.ref b1), .val (.ref v22), .val (.int (-1)), .val (.int 0), .val (.ref v35)] [(.ref b1), (.int 0), (.ref v35)]))
        refine Gl.st (fun _ kq => XS.iload X42.here hx rfl (hb hby at_174) rfl kq) ?_
        show Gl p.tables e below _ (T42.setTop (mkF m 176 #[.val (.int p0), .val (.int p1), .val (.int p2), .val (.int p3), .val (.int p4), .val (.int (Int32.ofNat v25.length)), .val (.ref b1), .val (.ref v22), .val (.int (-1)), .val (.int 0), .val (.ref v35)] [(.int 0), (.ref b1), (.int 0), (.ref v35)]))
        have f43 : Arv Z T39.heap b1 k1 .char (4 : Int32) [(.int v5), (.int v9), (.int v13), (.int v17)] (.int 0) := (fj_1.keep K39 nin0)
        obtain ⟨_, _, ⟨T44, L44, k44, n44⟩, -, X44, ⟨Lc44, hQ44, l44, y44, z44⟩, st44⟩ := Jvm.LawKit.callS X42 hx (y := (⟨"com/example/neighbor_keys/neighborkeys/model/RelatedColumnOfPinLaw", "at", "(Ljava/lang/String;I[CI)Z"⟩ : MethodName)) ho39 (mvT hZ39 (tw hw 93 rfl)) (mvT hZ39 (tw hw 94 rfl)) (mvT hZ39 (tw hw 4 rfl)) (mvT hZ39 (tw hw 95 rfl)) (by decide) (backOf (W := 0) (rm_at l Z a0 hw [] (v35) (v36) (v37) (v38) (b1) (k1) (v5) (v9) (v13) (v17) (0) (0) (G1) (G3) T39.heap n0 (Nat.le_trans zj K39.1) q39_0 q39_1 q39_2 q39_3 f43 f41 (by rw [y39_1]; exact Rng.sub hrg _ _) (by have q := ds_len y39_1; omega) (by omega) (by have q := ds_len y39_1; omega) (own_cm y26_0 y39_1) O2 P5 O4 rG3) hZ39 (tw hw 95 rfl) (tw hw 4 rfl) (by decide) (by decide)) (g := (mkF m 176 #[.val (.int p0), .val (.int p1), .val (.int p2), .val (.int p3), .val (.int p4), .val (.int (Int32.ofNat v25.length)), .val (.ref b1), .val (.ref v22), .val (.int (-1)), .val (.int 0), .val (.ref v35)] [(.int 0), (.ref b1), (.int 0), (.ref v35)])) rfl (by rw [hml]; rfl) (argsL := [(.ref v35), (.int 0), (.ref b1), (.int 0)]) (rest := []) (lenOf pd__Ljava_lang_String_I_CI_Z rfl) rfl (by show 2 * 0 + _ ≤ _; exact Nat.le_of_eq rfl) (hb hby at_176) (fun _ _ => ⟨rfl, e42, (by decide : 9 + 0 ≤ _), (by decide : 24 + 0 ≤ _)⟩)
        dsimp only [Pt.U, Pt.locs, Pt.cells, Pt.slots] at X44 l44 y44 z44 st44 hQ44
        subst l44 y44 z44
        obtain ⟨rfl, N44, e44⟩ := hQ44
        have M44 := Fr.app M42 N44
        refine Gl.st st44 ?_
        show Gl p.tables e below _ (T44.setTop (mkF m 179 #[.val (.int p0), .val (.int p1), .val (.int p2), .val (.int p3), .val (.int p4), .val (.int (Int32.ofNat v25.length)), .val (.ref b1), .val (.ref v22), .val (.int (-1)), .val (.int 0), .val (.ref v35)] [(.int 1)]))
        show Gl p.tables e below _ (T44.setTop (mkF m 179 #[.val (.int p0), .val (.int p1), .val (.int p2), .val (.int p3), .val (.int p4), .val (.int (Int32.ofNat v25.length)), .val (.ref b1), .val (.ref v22), .val (.int (-1)), .val (.int 0), .val (.ref v35)] [(.int 1)]))
        refine Gl.st (fun _ kq => XS.ifNo X44.here hx rfl (hb hby at_179) rfl ((if0 _ _).trans (feq ((by decide) : ¬ ((1 : Int32) = (0 : Int32)))).1) kq) ?_
        show Gl p.tables e below _ (T44.setTop (mkF m 182 #[.val (.int p0), .val (.int p1), .val (.int p2), .val (.int p3), .val (.int p4), .val (.int (Int32.ofNat v25.length)), .val (.ref b1), .val (.ref v22), .val (.int (-1)), .val (.int 0), .val (.ref v35)] []))
        refine Gl.st (fun _ kq => XS.aload X44.here hx rfl (hb hby at_182) rfl rfl kq) ?_
        show Gl p.tables e below _ (T44.setTop (mkF m 184 #[.val (.int p0), .val (.int p1), .val (.int p2), .val (.int p3), .val (.int p4), .val (.int (Int32.ofNat v25.length)), .val (.ref b1), .val (.ref v22), .val (.int (-1)), .val (.int 0), .val (.ref v35)] [(.ref v35)]))
        refine Gl.st (fun _ kq => XS.iconst X44.here hx rfl (hb hby at_184) kq) ?_
        show Gl p.tables e below _ (T44.setTop (mkF m 185 #[.val (.int p0), .val (.int p1), .val (.int p2), .val (.int p3), .val (.int p4), .val (.int (Int32.ofNat v25.length)), .val (.ref b1), .val (.ref v22), .val (.int (-1)), .val (.int 0), .val (.ref v35)] [(.int 1), (.ref v35)]))
        refine Gl.st (fun _ kq => XS.aload X44.here hx rfl (hb hby at_185) rfl rfl kq) ?_
        show Gl p.tables e below _ (T44.setTop (mkF m 187 #[.val (.int p0), .val (.int p1), .val (.int p2), .val (.int p3), .val (.int p4), .val (.int (Int32.ofNat v25.length)), .val (.ref b1), .val (.ref v22), .val (.int (-1)), .val (.int 0), .val (.ref v35)] [(.ref b1), (.int 1), (.ref v35)]))
        refine Gl.st (fun _ kq => XS.iload X44.here hx rfl (hb hby at_187) rfl kq) ?_
        show Gl p.tables e below _ (T44.setTop (mkF m 189 #[.val (.int p0), .val (.int p1), .val (.int p2), .val (.int p3), .val (.int p4), .val (.int (Int32.ofNat v25.length)), .val (.ref b1), .val (.ref v22), .val (.int (-1)), .val (.int 0), .val (.ref v35)] [(.int 0), (.ref b1), (.int 1), (.ref v35)]))
        obtain ⟨_, _, ⟨T45, L45, k45, n45⟩, -, X45, ⟨Lc45, hQ45, l45, y45, z45⟩, st45⟩ := Jvm.LawKit.callS X44 hx (y := (⟨"com/example/neighbor_keys/neighborkeys/model/RelatedColumnOfPinLaw", "at", "(Ljava/lang/String;I[CI)Z"⟩ : MethodName)) ho39 (mvT hZ39 (tw hw 93 rfl)) (mvT hZ39 (tw hw 94 rfl)) (mvT hZ39 (tw hw 4 rfl)) (mvT hZ39 (tw hw 95 rfl)) (by decide) (backOf (W := 0) (rm_at l Z a0 hw [] (v35) (v36) (v37) (v38) (b1) (k1) (v5) (v9) (v13) (v17) (1) (0) (G1) (G3) T39.heap n0 (Nat.le_trans zj K39.1) q39_0 q39_1 q39_2 q39_3 f43 f41 (by rw [y39_1]; exact Rng.sub hrg _ _) (by have q := ds_len y39_1; omega) (by omega) (by have q := ds_len y39_1; omega) (own_cm y26_0 y39_1) O2 P5 O4 rG3) hZ39 (tw hw 95 rfl) (tw hw 4 rfl) (by decide) (by decide)) (g := (mkF m 189 #[.val (.int p0), .val (.int p1), .val (.int p2), .val (.int p3), .val (.int p4), .val (.int (Int32.ofNat v25.length)), .val (.ref b1), .val (.ref v22), .val (.int (-1)), .val (.int 0), .val (.ref v35)] [(.int 0), (.ref b1), (.int 1), (.ref v35)])) rfl (by rw [hml]; rfl) (argsL := [(.ref v35), (.int 1), (.ref b1), (.int 0)]) (rest := []) (lenOf pd__Ljava_lang_String_I_CI_Z rfl) rfl (by show 2 * 0 + _ ≤ _; exact Nat.le_of_eq rfl) (hb hby at_189) (fun _ _ => ⟨rfl, e44, (by decide : 9 + 0 ≤ _), (by decide : 24 + 0 ≤ _)⟩)
        dsimp only [Pt.U, Pt.locs, Pt.cells, Pt.slots] at X45 l45 y45 z45 st45 hQ45
        subst l45 y45 z45
        obtain ⟨rfl, N45, e45⟩ := hQ45
        have M45 := Fr.app M44 N45
        refine Gl.st st45 ?_
        show Gl p.tables e below _ (T45.setTop (mkF m 192 #[.val (.int p0), .val (.int p1), .val (.int p2), .val (.int p3), .val (.int p4), .val (.int (Int32.ofNat v25.length)), .val (.ref b1), .val (.ref v22), .val (.int (-1)), .val (.int 0), .val (.ref v35)] [(.int 1)]))
        show Gl p.tables e below _ (T45.setTop (mkF m 192 #[.val (.int p0), .val (.int p1), .val (.int p2), .val (.int p3), .val (.int p4), .val (.int (Int32.ofNat v25.length)), .val (.ref b1), .val (.ref v22), .val (.int (-1)), .val (.int 0), .val (.ref v35)] [(.int 1)]))
        refine Gl.st (fun _ kq => XS.ifNo X45.here hx rfl (hb hby at_192) rfl ((if0 _ _).trans (feq ((by decide) : ¬ ((1 : Int32) = (0 : Int32)))).1) kq) ?_
        show Gl p.tables e below _ (T45.setTop (mkF m 195 #[.val (.int p0), .val (.int p1), .val (.int p2), .val (.int p3), .val (.int p4), .val (.int (Int32.ofNat v25.length)), .val (.ref b1), .val (.ref v22), .val (.int (-1)), .val (.int 0), .val (.ref v35)] []))
        refine Gl.st (fun _ kq => XS.aload X45.here hx rfl (hb hby at_195) rfl rfl kq) ?_
        show Gl p.tables e below _ (T45.setTop (mkF m 197 #[.val (.int p0), .val (.int p1), .val (.int p2), .val (.int p3), .val (.int p4), .val (.int (Int32.ofNat v25.length)), .val (.ref b1), .val (.ref v22), .val (.int (-1)), .val (.int 0), .val (.ref v35)] [(.ref v35)]))
        refine Gl.st (fun _ kq => XS.iconst X45.here hx rfl (hb hby at_197) kq) ?_
        show Gl p.tables e below _ (T45.setTop (mkF m 198 #[.val (.int p0), .val (.int p1), .val (.int p2), .val (.int p3), .val (.int p4), .val (.int (Int32.ofNat v25.length)), .val (.ref b1), .val (.ref v22), .val (.int (-1)), .val (.int 0), .val (.ref v35)] [(.int 2), (.ref v35)]))
        refine Gl.st (fun _ kq => XS.aload X45.here hx rfl (hb hby at_198) rfl rfl kq) ?_
        show Gl p.tables e below _ (T45.setTop (mkF m 200 #[.val (.int p0), .val (.int p1), .val (.int p2), .val (.int p3), .val (.int p4), .val (.int (Int32.ofNat v25.length)), .val (.ref b1), .val (.ref v22), .val (.int (-1)), .val (.int 0), .val (.ref v35)] [(.ref b1), (.int 2), (.ref v35)]))
        refine Gl.st (fun _ kq => XS.iload X45.here hx rfl (hb hby at_200) rfl kq) ?_
        show Gl p.tables e below _ (T45.setTop (mkF m 202 #[.val (.int p0), .val (.int p1), .val (.int p2), .val (.int p3), .val (.int p4), .val (.int (Int32.ofNat v25.length)), .val (.ref b1), .val (.ref v22), .val (.int (-1)), .val (.int 0), .val (.ref v35)] [(.int 0), (.ref b1), (.int 2), (.ref v35)]))
        obtain ⟨_, _, ⟨T46, L46, k46, n46⟩, -, X46, ⟨Lc46, hQ46, l46, y46, z46⟩, st46⟩ := Jvm.LawKit.callS X45 hx (y := (⟨"com/example/neighbor_keys/neighborkeys/model/RelatedColumnOfPinLaw", "at", "(Ljava/lang/String;I[CI)Z"⟩ : MethodName)) ho39 (mvT hZ39 (tw hw 93 rfl)) (mvT hZ39 (tw hw 94 rfl)) (mvT hZ39 (tw hw 4 rfl)) (mvT hZ39 (tw hw 95 rfl)) (by decide) (backOf (W := 0) (rm_at l Z a0 hw [] (v35) (v36) (v37) (v38) (b1) (k1) (v5) (v9) (v13) (v17) (2) (0) (G1) (G3) T39.heap n0 (Nat.le_trans zj K39.1) q39_0 q39_1 q39_2 q39_3 f43 f41 (by rw [y39_1]; exact Rng.sub hrg _ _) (by have q := ds_len y39_1; omega) (by omega) (by have q := ds_len y39_1; omega) (own_cm y26_0 y39_1) O2 P5 O4 rG3) hZ39 (tw hw 95 rfl) (tw hw 4 rfl) (by decide) (by decide)) (g := (mkF m 202 #[.val (.int p0), .val (.int p1), .val (.int p2), .val (.int p3), .val (.int p4), .val (.int (Int32.ofNat v25.length)), .val (.ref b1), .val (.ref v22), .val (.int (-1)), .val (.int 0), .val (.ref v35)] [(.int 0), (.ref b1), (.int 2), (.ref v35)])) rfl (by rw [hml]; rfl) (argsL := [(.ref v35), (.int 2), (.ref b1), (.int 0)]) (rest := []) (lenOf pd__Ljava_lang_String_I_CI_Z rfl) rfl (by show 2 * 0 + _ ≤ _; exact Nat.le_of_eq rfl) (hb hby at_202) (fun _ _ => ⟨rfl, e45, (by decide : 9 + 0 ≤ _), (by decide : 24 + 0 ≤ _)⟩)
        dsimp only [Pt.U, Pt.locs, Pt.cells, Pt.slots] at X46 l46 y46 z46 st46 hQ46
        subst l46 y46 z46
        obtain ⟨rfl, N46, e46⟩ := hQ46
        have M46 := Fr.app M45 N46
        refine Gl.st st46 ?_
        show Gl p.tables e below _ (T46.setTop (mkF m 205 #[.val (.int p0), .val (.int p1), .val (.int p2), .val (.int p3), .val (.int p4), .val (.int (Int32.ofNat v25.length)), .val (.ref b1), .val (.ref v22), .val (.int (-1)), .val (.int 0), .val (.ref v35)] [(.int 1)]))
        show Gl p.tables e below _ (T46.setTop (mkF m 205 #[.val (.int p0), .val (.int p1), .val (.int p2), .val (.int p3), .val (.int p4), .val (.int (Int32.ofNat v25.length)), .val (.ref b1), .val (.ref v22), .val (.int (-1)), .val (.int 0), .val (.ref v35)] [(.int 1)]))
        refine Gl.st (fun _ kq => XS.ifNo X46.here hx rfl (hb hby at_205) rfl ((if0 _ _).trans (feq ((by decide) : ¬ ((1 : Int32) = (0 : Int32)))).1) kq) ?_
        show Gl p.tables e below _ (T46.setTop (mkF m 208 #[.val (.int p0), .val (.int p1), .val (.int p2), .val (.int p3), .val (.int p4), .val (.int (Int32.ofNat v25.length)), .val (.ref b1), .val (.ref v22), .val (.int (-1)), .val (.int 0), .val (.ref v35)] []))
        refine Gl.st (fun _ kq => XS.aload X46.here hx rfl (hb hby at_208) rfl rfl kq) ?_
        show Gl p.tables e below _ (T46.setTop (mkF m 210 #[.val (.int p0), .val (.int p1), .val (.int p2), .val (.int p3), .val (.int p4), .val (.int (Int32.ofNat v25.length)), .val (.ref b1), .val (.ref v22), .val (.int (-1)), .val (.int 0), .val (.ref v35)] [(.ref v35)]))
        refine Gl.st (fun _ kq => XS.iconst X46.here hx rfl (hb hby at_210) kq) ?_
        show Gl p.tables e below _ (T46.setTop (mkF m 211 #[.val (.int p0), .val (.int p1), .val (.int p2), .val (.int p3), .val (.int p4), .val (.int (Int32.ofNat v25.length)), .val (.ref b1), .val (.ref v22), .val (.int (-1)), .val (.int 0), .val (.ref v35)] [(.int 3), (.ref v35)]))
        refine Gl.st (fun _ kq => XS.aload X46.here hx rfl (hb hby at_211) rfl rfl kq) ?_
        show Gl p.tables e below _ (T46.setTop (mkF m 213 #[.val (.int p0), .val (.int p1), .val (.int p2), .val (.int p3), .val (.int p4), .val (.int (Int32.ofNat v25.length)), .val (.ref b1), .val (.ref v22), .val (.int (-1)), .val (.int 0), .val (.ref v35)] [(.ref b1), (.int 3), (.ref v35)]))
        refine Gl.st (fun _ kq => XS.iload X46.here hx rfl (hb hby at_213) rfl kq) ?_
        show Gl p.tables e below _ (T46.setTop (mkF m 215 #[.val (.int p0), .val (.int p1), .val (.int p2), .val (.int p3), .val (.int p4), .val (.int (Int32.ofNat v25.length)), .val (.ref b1), .val (.ref v22), .val (.int (-1)), .val (.int 0), .val (.ref v35)] [(.int 0), (.ref b1), (.int 3), (.ref v35)]))
        obtain ⟨_, _, ⟨T47, L47, k47, n47⟩, -, X47, ⟨Lc47, hQ47, l47, y47, z47⟩, st47⟩ := Jvm.LawKit.callS X46 hx (y := (⟨"com/example/neighbor_keys/neighborkeys/model/RelatedColumnOfPinLaw", "at", "(Ljava/lang/String;I[CI)Z"⟩ : MethodName)) ho39 (mvT hZ39 (tw hw 93 rfl)) (mvT hZ39 (tw hw 94 rfl)) (mvT hZ39 (tw hw 4 rfl)) (mvT hZ39 (tw hw 95 rfl)) (by decide) (backOf (W := 0) (rm_at l Z a0 hw [] (v35) (v36) (v37) (v38) (b1) (k1) (v5) (v9) (v13) (v17) (3) (0) (G1) (G3) T39.heap n0 (Nat.le_trans zj K39.1) q39_0 q39_1 q39_2 q39_3 f43 f41 (by rw [y39_1]; exact Rng.sub hrg _ _) (by have q := ds_len y39_1; omega) (by omega) (by have q := ds_len y39_1; omega) (own_cm y26_0 y39_1) O2 P5 O4 rG3) hZ39 (tw hw 95 rfl) (tw hw 4 rfl) (by decide) (by decide)) (g := (mkF m 215 #[.val (.int p0), .val (.int p1), .val (.int p2), .val (.int p3), .val (.int p4), .val (.int (Int32.ofNat v25.length)), .val (.ref b1), .val (.ref v22), .val (.int (-1)), .val (.int 0), .val (.ref v35)] [(.int 0), (.ref b1), (.int 3), (.ref v35)])) rfl (by rw [hml]; rfl) (argsL := [(.ref v35), (.int 3), (.ref b1), (.int 0)]) (rest := []) (lenOf pd__Ljava_lang_String_I_CI_Z rfl) rfl (by show 2 * 0 + _ ≤ _; exact Nat.le_of_eq rfl) (hb hby at_215) (fun _ _ => ⟨rfl, e46, (by decide : 9 + 0 ≤ _), (by decide : 24 + 0 ≤ _)⟩)
        dsimp only [Pt.U, Pt.locs, Pt.cells, Pt.slots] at X47 l47 y47 z47 st47 hQ47
        subst l47 y47 z47
        obtain ⟨rfl, N47, e47⟩ := hQ47
        have M47 := Fr.app M46 N47
        refine Gl.st st47 ?_
        show Gl p.tables e below _ (T47.setTop (mkF m 218 #[.val (.int p0), .val (.int p1), .val (.int p2), .val (.int p3), .val (.int p4), .val (.int (Int32.ofNat v25.length)), .val (.ref b1), .val (.ref v22), .val (.int (-1)), .val (.int 0), .val (.ref v35)] [(.int 1)]))
        show Gl p.tables e below _ (T47.setTop (mkF m 218 #[.val (.int p0), .val (.int p1), .val (.int p2), .val (.int p3), .val (.int p4), .val (.int (Int32.ofNat v25.length)), .val (.ref b1), .val (.ref v22), .val (.int (-1)), .val (.int 0), .val (.ref v35)] [(.int 1)]))
        refine Gl.st (fun _ kq => XS.ifNo X47.here hx rfl (hb hby at_218) rfl ((if0 _ _).trans (feq ((by decide) : ¬ ((1 : Int32) = (0 : Int32)))).1) kq) ?_
        show Gl p.tables e below _ (T47.setTop (mkF m 221 #[.val (.int p0), .val (.int p1), .val (.int p2), .val (.int p3), .val (.int p4), .val (.int (Int32.ofNat v25.length)), .val (.ref b1), .val (.ref v22), .val (.int (-1)), .val (.int 0), .val (.ref v35)] []))
        refine Gl.st (fun _ kq => XS.iconst X47.here hx rfl (hb hby at_221) kq) ?_
        show Gl p.tables e below _ (T47.setTop (mkF m 222 #[.val (.int p0), .val (.int p1), .val (.int p2), .val (.int p3), .val (.int p4), .val (.int (Int32.ofNat v25.length)), .val (.ref b1), .val (.ref v22), .val (.int (-1)), .val (.int 0), .val (.ref v35)] [(.int 1)]))
        refine Gl.st (fun _ kq => XS.goto X47.here hx rfl (pc0 := 222) (pc' := 226) rfl (hb hby at_222) (by decide) (by decide) kq) ?_
        show Gl p.tables e below _ (T47.setTop (mkF m 226 #[.val (.int p0), .val (.int p1), .val (.int p2), .val (.int p3), .val (.int p4), .val (.int (Int32.ofNat v25.length)), .val (.ref b1), .val (.ref v22), .val (.int (-1)), .val (.int 0), .val (.ref v35)] [(.int 1)]))
        exact Gl.retNH X47 hx S39 (Nat.le_trans (Nat.le_refl _) (Nat.le_of_eq (congrArg Array.size e47).symm)) (by rw [hh, e47]; exact C40.trans (CHv.at X47 hZ39 (elW hw) C40.1)) (t := .boolean) Bd.returns (by simp) (hb hby at_226) hlk (by decide) (by decide) (by rw [e47]; exact ⟨rfl, M47⟩)
    · subst hdt
      have hrl := hfi.2.1
      show Gl p.tables e below _ (Tj.setTop (mkF m 134 #[.val (.int p0), .val (.int p1), .val (.int p2), .val (.int p3), .val (.int p4), .val (.int (Int32.ofNat v25.length)), .val (.ref b1), .val (.ref v22), .val (.int (Int32.ofNat rr)), .unset, .unset] []))
      refine Gl.st (fun _ kq => XS.iload Xj.here hx rfl (hb hby at_134) rfl kq) ?_
      show Gl p.tables e below _ (Tj.setTop (mkF m 136 #[.val (.int p0), .val (.int p1), .val (.int p2), .val (.int p3), .val (.int p4), .val (.int (Int32.ofNat v25.length)), .val (.ref b1), .val (.ref v22), .val (.int (Int32.ofNat rr)), .unset, .unset] [(.int (Int32.ofNat rr))]))
      refine Gl.st (fun _ kq => XS.iconst Xj.here hx rfl (hb hby at_136) kq) ?_
      show Gl p.tables e below _ (Tj.setTop (mkF m 137 #[.val (.int p0), .val (.int p1), .val (.int p2), .val (.int p3), .val (.int p4), .val (.int (Int32.ofNat v25.length)), .val (.ref b1), .val (.ref v22), .val (.int (Int32.ofNat rr)), .unset, .unset] [(.int 1), (.int (Int32.ofNat rr))]))
      refine Gl.st (fun _ kq => XS.iadd Xj.here hx rfl (hb hby at_137) rfl kq) ?_
      show Gl p.tables e below _ (Tj.setTop (mkF m 138 #[.val (.int p0), .val (.int p1), .val (.int p2), .val (.int p3), .val (.int p4), .val (.int (Int32.ofNat v25.length)), .val (.ref b1), .val (.ref v22), .val (.int (Int32.ofNat rr)), .unset, .unset] [(.int ((Int32.ofNat rr) + (1 : Int32)))]))
      rw [n32_inc rr]
      show Gl p.tables e below _ (Tj.setTop (mkF m 138 #[.val (.int p0), .val (.int p1), .val (.int p2), .val (.int p3), .val (.int p4), .val (.int (Int32.ofNat v25.length)), .val (.ref b1), .val (.ref v22), .val (.int (Int32.ofNat rr)), .unset, .unset] [(.int (Int32.ofNat (rr + 1)))]))
      refine Gl.st (fun _ kq => XS.istore Xj.here hx rfl (hb hby at_138) rfl (l' := #[.val (.int p0), .val (.int p1), .val (.int p2), .val (.int p3), .val (.int p4), .val (.int (Int32.ofNat v25.length)), .val (.ref b1), .val (.ref v22), .val (.int (Int32.ofNat rr)), .val (.int (Int32.ofNat (rr + 1))), .unset]) rfl kq) ?_
      show Gl p.tables e below _ (Tj.setTop (mkF m 140 #[.val (.int p0), .val (.int p1), .val (.int p2), .val (.int p3), .val (.int p4), .val (.int (Int32.ofNat v25.length)), .val (.ref b1), .val (.ref v22), .val (.int (Int32.ofNat rr)), .val (.int (Int32.ofNat (rr + 1))), .unset] []))
      refine Gl.st (fun _ kq => XS.aload Xj.here hx rfl (hb hby at_140) rfl rfl kq) ?_
      show Gl p.tables e below _ (Tj.setTop (mkF m 142 #[.val (.int p0), .val (.int p1), .val (.int p2), .val (.int p3), .val (.int p4), .val (.int (Int32.ofNat v25.length)), .val (.ref b1), .val (.ref v22), .val (.int (Int32.ofNat rr)), .val (.int (Int32.ofNat (rr + 1))), .unset] [(.ref v22)]))
      obtain ⟨_, _, ⟨T57, L57, k57, n57⟩, -, X57, S57, g57, ⟨Lc57, hQ57, l57, y57, z57, R57⟩, st57⟩ := callSS Xj hx (y := (⟨"com/example/neighbor_keys/neighborkeys/model/Related", "columnOf", "(Ljava/lang/String;)Ljava/lang/String;"⟩ : MethodName)) hoj (mvT hZj (tw hw 30 rfl)) (mvT hZj (tw hw 31 rfl)) (mvT hZj (tw hw 32 rfl)) (mvT hZj (tw hw 33 rfl)) (by decide) (backOfSH (W := 0) (rm_co l Z a0 hw [] (v22) (v23) (v24) (v25) (G1) (G3) hj n0 zj fj_2 fj_3 fj_4 fj_5 fj_0 hrg hle O2 P5 O4 rG3) hZj (tw hw 33 rfl) (tw hw 32 rfl) (by decide) (by decide) (elW hw) Cj.1) (g := (mkF m 142 #[.val (.int p0), .val (.int p1), .val (.int p2), .val (.int p3), .val (.int p4), .val (.int (Int32.ofNat v25.length)), .val (.ref b1), .val (.ref v22), .val (.int (Int32.ofNat rr)), .val (.int (Int32.ofNat (rr + 1))), .unset] [(.ref v22)])) rfl (by rw [hml]; rfl) (argsL := [(.ref v22)]) (rest := []) (lenOf pd__Ljava_lang_String__Ljava_lang_String_ rfl) rfl (by show 2 * 0 + _ ≤ _; exact Nat.le_of_eq rfl) (hb hby at_142) (fun _ _ => ⟨rfl, ej, (by decide : 7 + 2 ≤ _), (by decide : 16 + 8 ≤ _)⟩)
      dsimp only [Pt.U, Pt.locs, Pt.cells, Pt.slots] at X57 l57 y57 z57 st57 hQ57 R57
      subst l57 y57 z57
      obtain ⟨X57, S57, hZ57, ho57⟩ := rebS hSj (Nat.le_trans hkj (Nat.le_of_eq (congrArg Array.size ej).symm)) X57 S57 g57 hZj hoj
      rcases hQ57 with ⟨v48, v49, v50, v51, v52, rfl, N57, K57, q57_0, q57_1, q57_2, q57_3, y57_0, y57_1⟩ | ⟨v53, v54, v55, v56, rfl, N57, K57, q57_0, q57_1, q57_2, q57_3, y57_0, y57_1⟩
      · have C58 : CHr Z consts_1 s.vm h0 T57.vm T57.heap := Cj.trans R57
        have M57 := Fr.app Nj N57
        refine Gl.to st57 ?_
        show Gl p.tables e below _ (T57.setTop (mkF m 145 #[.val (.int p0), .val (.int p1), .val (.int p2), .val (.int p3), .val (.int p4), .val (.int (Int32.ofNat v25.length)), .val (.ref b1), .val (.ref v22), .val (.int (Int32.ofNat rr)), .val (.int (Int32.ofNat (rr + 1))), .unset] [(.ref v49)]))
        obtain rfl : rr = v48 := first_uniq hfi y57_0
        refine Gl.st (fun _ kq => XS.astore X57.here hx rfl (hb hby at_145) rfl rfl (l' := #[.val (.int p0), .val (.int p1), .val (.int p2), .val (.int p3), .val (.int p4), .val (.int (Int32.ofNat v25.length)), .val (.ref b1), .val (.ref v22), .val (.int (Int32.ofNat rr)), .val (.int (Int32.ofNat (rr + 1))), .val (.ref v49)]) rfl kq) ?_
        show Gl p.tables e below _ (T57.setTop (mkF m 147 #[.val (.int p0), .val (.int p1), .val (.int p2), .val (.int p3), .val (.int p4), .val (.int (Int32.ofNat v25.length)), .val (.ref b1), .val (.ref v22), .val (.int (Int32.ofNat rr)), .val (.int (Int32.ofNat (rr + 1))), .val (.ref v49)] []))
        refine Gl.st (fun _ kq => XS.aload X57.here hx rfl (hb hby at_147) rfl rfl kq) ?_
        show Gl p.tables e below _ (T57.setTop (mkF m 149 #[.val (.int p0), .val (.int p1), .val (.int p2), .val (.int p3), .val (.int p4), .val (.int (Int32.ofNat v25.length)), .val (.ref b1), .val (.ref v22), .val (.int (Int32.ofNat rr)), .val (.int (Int32.ofNat (rr + 1))), .val (.ref v49)] [(.ref v49)]))
        refine Gl.st (fun _ kq => XS.ifnonnullYes X57.here hx rfl (pc0 := 149) (pc' := 154) rfl (hb hby at_149) rfl (by decide) (by decide) kq) ?_
        show Gl p.tables e below _ (T57.setTop (mkF m 154 #[.val (.int p0), .val (.int p1), .val (.int p2), .val (.int p3), .val (.int p4), .val (.int (Int32.ofNat v25.length)), .val (.ref b1), .val (.ref v22), .val (.int (Int32.ofNat rr)), .val (.int (Int32.ofNat (rr + 1))), .val (.ref v49)] []))
        refine Gl.st (fun _ kq => XS.aload X57.here hx rfl (hb hby at_154) rfl rfl kq) ?_
        show Gl p.tables e below _ (T57.setTop (mkF m 156 #[.val (.int p0), .val (.int p1), .val (.int p2), .val (.int p3), .val (.int p4), .val (.int (Int32.ofNat v25.length)), .val (.ref b1), .val (.ref v22), .val (.int (Int32.ofNat rr)), .val (.int (Int32.ofNat (rr + 1))), .val (.ref v49)] [(.ref v49)]))
        have f59 : Old Z n0 T57.heap := (fj_0.keep K57 all0)
        obtain ⟨cq60, kq60, q60a, q60b, q60c⟩ := isOf hZ57 rfl q57_0
        obtain ⟨_, _, ⟨T60, L60, k60, n60⟩, -, X60, ⟨Lc60, hQ60, l60, y60, z60⟩, st60⟩ := X57.virtualBack hx (y := (⟨"java/lang/String", "length", "()I"⟩ : MethodName)) (z := (⟨"java/lang/String", "length", "()I"⟩ : MethodName)) ho57 (mvT hZ57 (tw hw 92 rfl)) (mvT hZ57 (tw hw 51 rfl)) (notFace_of_selects (args := #[]) (mvT hZ57 (tw hw 53 rfl))) (mvT hZ57 (tw hw 53 rfl)) (mvT hZ57 (tw hw 52 rfl)) (by decide) (StrChars.Road.lenW (W := 0) hZ57 (wdLen hw) (kI := 4) (tw hw 10 rfl) q57_0 q57_2 q57_1 q57_3 (StrChars.Road.codOf (cs := v52) rfl (fun x hx => ((show ∀ c ∈ v52, ¬ c < 0 ∧ ¬ (255 : Int32) < c from by rw [y57_1]; exact Rng.sub hrg _ _) x hx).2)) (up255 _ (show ∀ c ∈ v52, ¬ c < 0 ∧ ¬ (255 : Int32) < c from by rw [y57_1]; exact Rng.sub hrg _ _)) (O2.ext f59.2) P5 (by have q := ds_len y57_1; omega) (by decide) (by decide)) q60a q60c (g := (mkF m 156 #[.val (.int p0), .val (.int p1), .val (.int p2), .val (.int p3), .val (.int p4), .val (.int (Int32.ofNat v25.length)), .val (.ref b1), .val (.ref v22), .val (.int (Int32.ofNat rr)), .val (.int (Int32.ofNat (rr + 1))), .val (.ref v49)] [(.ref v49)])) rfl (by rw [hml]; rfl) (Steps.refl _) (argsL := []) (rest := []) (lenOf pd___I rfl) rfl (by show 2 * 0 + _ ≤ _; exact Nat.le_of_eq rfl) (hb hby at_156) (fun _ _ => ⟨rfl, rfl, (by decide : 9 + 0 ≤ _), (by decide : 24 + 0 ≤ _)⟩)
        dsimp only [Pt.U, Pt.locs, Pt.cells, Pt.slots] at X60 l60 y60 z60 st60 hQ60
        subst l60 y60 z60
        obtain ⟨rfl, rfl, e60⟩ := hQ60
        have N60 : Fr n0 ([] : List Loc) := Fr.nil n0
        have M60 := Fr.app M57 N60
        refine Gl.to st60 ?_
        show Gl p.tables e below _ (T60.setTop (mkF m 159 #[.val (.int p0), .val (.int p1), .val (.int p2), .val (.int p3), .val (.int p4), .val (.int (Int32.ofNat v25.length)), .val (.ref b1), .val (.ref v22), .val (.int (Int32.ofNat rr)), .val (.int (Int32.ofNat (rr + 1))), .val (.ref v49)] [(.int (Int32.ofNat v52.length))]))
        show Gl p.tables e below _ (T60.setTop (mkF m 159 #[.val (.int p0), .val (.int p1), .val (.int p2), .val (.int p3), .val (.int p4), .val (.int (Int32.ofNat v25.length)), .val (.ref b1), .val (.ref v22), .val (.int (Int32.ofNat rr)), .val (.int (Int32.ofNat (rr + 1))), .val (.ref v49)] [(.int (Int32.ofNat v52.length))]))
        refine Gl.st (fun _ kq => XS.iload X60.here hx rfl (hb hby at_159) rfl kq) ?_
        show Gl p.tables e below _ (T60.setTop (mkF m 161 #[.val (.int p0), .val (.int p1), .val (.int p2), .val (.int p3), .val (.int p4), .val (.int (Int32.ofNat v25.length)), .val (.ref b1), .val (.ref v22), .val (.int (Int32.ofNat rr)), .val (.int (Int32.ofNat (rr + 1))), .val (.ref v49)] [(.int (Int32.ofNat v25.length)), (.int (Int32.ofNat v52.length))]))
        refine Gl.st (fun _ kq => XS.iload X60.here hx rfl (hb hby at_161) rfl kq) ?_
        show Gl p.tables e below _ (T60.setTop (mkF m 163 #[.val (.int p0), .val (.int p1), .val (.int p2), .val (.int p3), .val (.int p4), .val (.int (Int32.ofNat v25.length)), .val (.ref b1), .val (.ref v22), .val (.int (Int32.ofNat rr)), .val (.int (Int32.ofNat (rr + 1))), .val (.ref v49)] [(.int (Int32.ofNat (rr + 1))), (.int (Int32.ofNat v25.length)), (.int (Int32.ofNat v52.length))]))
        refine Gl.st (fun _ kq => XS.isub X60.here hx rfl (hb hby at_163) rfl kq) ?_
        show Gl p.tables e below _ (T60.setTop (mkF m 164 #[.val (.int p0), .val (.int p1), .val (.int p2), .val (.int p3), .val (.int p4), .val (.int (Int32.ofNat v25.length)), .val (.ref b1), .val (.ref v22), .val (.int (Int32.ofNat rr)), .val (.int (Int32.ofNat (rr + 1))), .val (.ref v49)] [(.int ((Int32.ofNat v25.length) - (Int32.ofNat (rr + 1)))), (.int (Int32.ofNat v52.length))]))
        rw [n32_sub (i := v25.length) (j := rr + 1) (by omega)]
        show Gl p.tables e below _ (T60.setTop (mkF m 164 #[.val (.int p0), .val (.int p1), .val (.int p2), .val (.int p3), .val (.int p4), .val (.int (Int32.ofNat v25.length)), .val (.ref b1), .val (.ref v22), .val (.int (Int32.ofNat rr)), .val (.int (Int32.ofNat (rr + 1))), .val (.ref v49)] [(.int (Int32.ofNat (v25.length - (rr + 1)))), (.int (Int32.ofNat v52.length))]))
        refine Gl.st (fun _ kq => XS.icmpYes X60.here hx rfl (pc0 := 164) (pc' := 169) rfl (hb hby at_164) rfl (teq ((congrArg Int32.ofNat (ds_len y57_1)) : (Int32.ofNat v52.length) = (Int32.ofNat (v25.length - (rr + 1))))).1 (by decide) (by decide) kq) ?_
        show Gl p.tables e below _ (T60.setTop (mkF m 169 #[.val (.int p0), .val (.int p1), .val (.int p2), .val (.int p3), .val (.int p4), .val (.int (Int32.ofNat v25.length)), .val (.ref b1), .val (.ref v22), .val (.int (Int32.ofNat rr)), .val (.int (Int32.ofNat (rr + 1))), .val (.ref v49)] []))
        refine Gl.st (fun _ kq => XS.aload X60.here hx rfl (hb hby at_169) rfl rfl kq) ?_
        show Gl p.tables e below _ (T60.setTop (mkF m 171 #[.val (.int p0), .val (.int p1), .val (.int p2), .val (.int p3), .val (.int p4), .val (.int (Int32.ofNat v25.length)), .val (.ref b1), .val (.ref v22), .val (.int (Int32.ofNat rr)), .val (.int (Int32.ofNat (rr + 1))), .val (.ref v49)] [(.ref v49)]))
        refine Gl.st (fun _ kq => XS.iconst X60.here hx rfl (hb hby at_171) kq) ?_
        show Gl p.tables e below _ (T60.setTop (mkF m 172 #[.val (.int p0), .val (.int p1), .val (.int p2), .val (.int p3), .val (.int p4), .val (.int (Int32.ofNat v25.length)), .val (.ref b1), .val (.ref v22), .val (.int (Int32.ofNat rr)), .val (.int (Int32.ofNat (rr + 1))), .val (.ref v49)] [(.int 0), (.ref v49)]))
        refine Gl.st (fun _ kq => XS.aload X60.here hx rfl (hb hby at_172) rfl rfl kq) ?_
        show Gl p.tables e below _ (T60.setTop (mkF m 174 #[.val (.int p0), .val (.int p1), .val (.int p2), .val (.int p3), .val (.int p4), .val (.int (Int32.ofNat v25.length)), .val (.ref b1), .val (.ref v22), .val (.int (Int32.ofNat rr)), .val (.int (Int32.ofNat (rr + 1))), .val (.ref v49)] [(.ref b1), (.int 0), (.ref v49)]))
        refine Gl.st (fun _ kq => XS.iload X60.here hx rfl (hb hby at_174) rfl kq) ?_
        show Gl p.tables e below _ (T60.setTop (mkF m 176 #[.val (.int p0), .val (.int p1), .val (.int p2), .val (.int p3), .val (.int p4), .val (.int (Int32.ofNat v25.length)), .val (.ref b1), .val (.ref v22), .val (.int (Int32.ofNat rr)), .val (.int (Int32.ofNat (rr + 1))), .val (.ref v49)] [(.int (Int32.ofNat (rr + 1))), (.ref b1), (.int 0), (.ref v49)]))
        have f61 : Arv Z T57.heap b1 k1 .char (4 : Int32) [(.int v5), (.int v9), (.int v13), (.int v17)] (.int 0) := (fj_1.keep K57 nin0)
        obtain ⟨_, _, ⟨T62, L62, k62, n62⟩, -, X62, ⟨Lc62, hQ62, l62, y62, z62⟩, st62⟩ := Jvm.LawKit.callS X60 hx (y := (⟨"com/example/neighbor_keys/neighborkeys/model/RelatedColumnOfPinLaw", "at", "(Ljava/lang/String;I[CI)Z"⟩ : MethodName)) ho57 (mvT hZ57 (tw hw 93 rfl)) (mvT hZ57 (tw hw 94 rfl)) (mvT hZ57 (tw hw 4 rfl)) (mvT hZ57 (tw hw 95 rfl)) (by decide) (backOf (W := 0) (rm_at l Z a0 hw [] (v49) (v50) (v51) (v52) (b1) (k1) (v5) (v9) (v13) (v17) (0) ((rr + 1)) (G1) (G3) T57.heap n0 (Nat.le_trans zj K57.1) q57_0 q57_1 q57_2 q57_3 f61 f59 (by rw [y57_1]; exact Rng.sub hrg _ _) (by have q := ds_len y57_1; omega) (by omega) (by have q := ds_len y57_1; omega) (own_cm y26_0 y57_1) O2 P5 O4 rG3) hZ57 (tw hw 95 rfl) (tw hw 4 rfl) (by decide) (by decide)) (g := (mkF m 176 #[.val (.int p0), .val (.int p1), .val (.int p2), .val (.int p3), .val (.int p4), .val (.int (Int32.ofNat v25.length)), .val (.ref b1), .val (.ref v22), .val (.int (Int32.ofNat rr)), .val (.int (Int32.ofNat (rr + 1))), .val (.ref v49)] [(.int (Int32.ofNat (rr + 1))), (.ref b1), (.int 0), (.ref v49)])) rfl (by rw [hml]; rfl) (argsL := [(.ref v49), (.int 0), (.ref b1), (.int (Int32.ofNat (rr + 1)))]) (rest := []) (lenOf pd__Ljava_lang_String_I_CI_Z rfl) rfl (by show 2 * 0 + _ ≤ _; exact Nat.le_of_eq rfl) (hb hby at_176) (fun _ _ => ⟨rfl, e60, (by decide : 9 + 0 ≤ _), (by decide : 24 + 0 ≤ _)⟩)
        dsimp only [Pt.U, Pt.locs, Pt.cells, Pt.slots] at X62 l62 y62 z62 st62 hQ62
        subst l62 y62 z62
        obtain ⟨rfl, N62, e62⟩ := hQ62
        have M62 := Fr.app M60 N62
        refine Gl.st st62 ?_
        show Gl p.tables e below _ (T62.setTop (mkF m 179 #[.val (.int p0), .val (.int p1), .val (.int p2), .val (.int p3), .val (.int p4), .val (.int (Int32.ofNat v25.length)), .val (.ref b1), .val (.ref v22), .val (.int (Int32.ofNat rr)), .val (.int (Int32.ofNat (rr + 1))), .val (.ref v49)] [(.int 1)]))
        show Gl p.tables e below _ (T62.setTop (mkF m 179 #[.val (.int p0), .val (.int p1), .val (.int p2), .val (.int p3), .val (.int p4), .val (.int (Int32.ofNat v25.length)), .val (.ref b1), .val (.ref v22), .val (.int (Int32.ofNat rr)), .val (.int (Int32.ofNat (rr + 1))), .val (.ref v49)] [(.int 1)]))
        refine Gl.st (fun _ kq => XS.ifNo X62.here hx rfl (hb hby at_179) rfl ((if0 _ _).trans (feq ((by decide) : ¬ ((1 : Int32) = (0 : Int32)))).1) kq) ?_
        show Gl p.tables e below _ (T62.setTop (mkF m 182 #[.val (.int p0), .val (.int p1), .val (.int p2), .val (.int p3), .val (.int p4), .val (.int (Int32.ofNat v25.length)), .val (.ref b1), .val (.ref v22), .val (.int (Int32.ofNat rr)), .val (.int (Int32.ofNat (rr + 1))), .val (.ref v49)] []))
        refine Gl.st (fun _ kq => XS.aload X62.here hx rfl (hb hby at_182) rfl rfl kq) ?_
        show Gl p.tables e below _ (T62.setTop (mkF m 184 #[.val (.int p0), .val (.int p1), .val (.int p2), .val (.int p3), .val (.int p4), .val (.int (Int32.ofNat v25.length)), .val (.ref b1), .val (.ref v22), .val (.int (Int32.ofNat rr)), .val (.int (Int32.ofNat (rr + 1))), .val (.ref v49)] [(.ref v49)]))
        refine Gl.st (fun _ kq => XS.iconst X62.here hx rfl (hb hby at_184) kq) ?_
        show Gl p.tables e below _ (T62.setTop (mkF m 185 #[.val (.int p0), .val (.int p1), .val (.int p2), .val (.int p3), .val (.int p4), .val (.int (Int32.ofNat v25.length)), .val (.ref b1), .val (.ref v22), .val (.int (Int32.ofNat rr)), .val (.int (Int32.ofNat (rr + 1))), .val (.ref v49)] [(.int 1), (.ref v49)]))
        refine Gl.st (fun _ kq => XS.aload X62.here hx rfl (hb hby at_185) rfl rfl kq) ?_
        show Gl p.tables e below _ (T62.setTop (mkF m 187 #[.val (.int p0), .val (.int p1), .val (.int p2), .val (.int p3), .val (.int p4), .val (.int (Int32.ofNat v25.length)), .val (.ref b1), .val (.ref v22), .val (.int (Int32.ofNat rr)), .val (.int (Int32.ofNat (rr + 1))), .val (.ref v49)] [(.ref b1), (.int 1), (.ref v49)]))
        refine Gl.st (fun _ kq => XS.iload X62.here hx rfl (hb hby at_187) rfl kq) ?_
        show Gl p.tables e below _ (T62.setTop (mkF m 189 #[.val (.int p0), .val (.int p1), .val (.int p2), .val (.int p3), .val (.int p4), .val (.int (Int32.ofNat v25.length)), .val (.ref b1), .val (.ref v22), .val (.int (Int32.ofNat rr)), .val (.int (Int32.ofNat (rr + 1))), .val (.ref v49)] [(.int (Int32.ofNat (rr + 1))), (.ref b1), (.int 1), (.ref v49)]))
        obtain ⟨_, _, ⟨T63, L63, k63, n63⟩, -, X63, ⟨Lc63, hQ63, l63, y63, z63⟩, st63⟩ := Jvm.LawKit.callS X62 hx (y := (⟨"com/example/neighbor_keys/neighborkeys/model/RelatedColumnOfPinLaw", "at", "(Ljava/lang/String;I[CI)Z"⟩ : MethodName)) ho57 (mvT hZ57 (tw hw 93 rfl)) (mvT hZ57 (tw hw 94 rfl)) (mvT hZ57 (tw hw 4 rfl)) (mvT hZ57 (tw hw 95 rfl)) (by decide) (backOf (W := 0) (rm_at l Z a0 hw [] (v49) (v50) (v51) (v52) (b1) (k1) (v5) (v9) (v13) (v17) (1) ((rr + 1)) (G1) (G3) T57.heap n0 (Nat.le_trans zj K57.1) q57_0 q57_1 q57_2 q57_3 f61 f59 (by rw [y57_1]; exact Rng.sub hrg _ _) (by have q := ds_len y57_1; omega) (by omega) (by have q := ds_len y57_1; omega) (own_cm y26_0 y57_1) O2 P5 O4 rG3) hZ57 (tw hw 95 rfl) (tw hw 4 rfl) (by decide) (by decide)) (g := (mkF m 189 #[.val (.int p0), .val (.int p1), .val (.int p2), .val (.int p3), .val (.int p4), .val (.int (Int32.ofNat v25.length)), .val (.ref b1), .val (.ref v22), .val (.int (Int32.ofNat rr)), .val (.int (Int32.ofNat (rr + 1))), .val (.ref v49)] [(.int (Int32.ofNat (rr + 1))), (.ref b1), (.int 1), (.ref v49)])) rfl (by rw [hml]; rfl) (argsL := [(.ref v49), (.int 1), (.ref b1), (.int (Int32.ofNat (rr + 1)))]) (rest := []) (lenOf pd__Ljava_lang_String_I_CI_Z rfl) rfl (by show 2 * 0 + _ ≤ _; exact Nat.le_of_eq rfl) (hb hby at_189) (fun _ _ => ⟨rfl, e62, (by decide : 9 + 0 ≤ _), (by decide : 24 + 0 ≤ _)⟩)
        dsimp only [Pt.U, Pt.locs, Pt.cells, Pt.slots] at X63 l63 y63 z63 st63 hQ63
        subst l63 y63 z63
        obtain ⟨rfl, N63, e63⟩ := hQ63
        have M63 := Fr.app M62 N63
        refine Gl.st st63 ?_
        show Gl p.tables e below _ (T63.setTop (mkF m 192 #[.val (.int p0), .val (.int p1), .val (.int p2), .val (.int p3), .val (.int p4), .val (.int (Int32.ofNat v25.length)), .val (.ref b1), .val (.ref v22), .val (.int (Int32.ofNat rr)), .val (.int (Int32.ofNat (rr + 1))), .val (.ref v49)] [(.int 1)]))
        show Gl p.tables e below _ (T63.setTop (mkF m 192 #[.val (.int p0), .val (.int p1), .val (.int p2), .val (.int p3), .val (.int p4), .val (.int (Int32.ofNat v25.length)), .val (.ref b1), .val (.ref v22), .val (.int (Int32.ofNat rr)), .val (.int (Int32.ofNat (rr + 1))), .val (.ref v49)] [(.int 1)]))
        refine Gl.st (fun _ kq => XS.ifNo X63.here hx rfl (hb hby at_192) rfl ((if0 _ _).trans (feq ((by decide) : ¬ ((1 : Int32) = (0 : Int32)))).1) kq) ?_
        show Gl p.tables e below _ (T63.setTop (mkF m 195 #[.val (.int p0), .val (.int p1), .val (.int p2), .val (.int p3), .val (.int p4), .val (.int (Int32.ofNat v25.length)), .val (.ref b1), .val (.ref v22), .val (.int (Int32.ofNat rr)), .val (.int (Int32.ofNat (rr + 1))), .val (.ref v49)] []))
        refine Gl.st (fun _ kq => XS.aload X63.here hx rfl (hb hby at_195) rfl rfl kq) ?_
        show Gl p.tables e below _ (T63.setTop (mkF m 197 #[.val (.int p0), .val (.int p1), .val (.int p2), .val (.int p3), .val (.int p4), .val (.int (Int32.ofNat v25.length)), .val (.ref b1), .val (.ref v22), .val (.int (Int32.ofNat rr)), .val (.int (Int32.ofNat (rr + 1))), .val (.ref v49)] [(.ref v49)]))
        refine Gl.st (fun _ kq => XS.iconst X63.here hx rfl (hb hby at_197) kq) ?_
        show Gl p.tables e below _ (T63.setTop (mkF m 198 #[.val (.int p0), .val (.int p1), .val (.int p2), .val (.int p3), .val (.int p4), .val (.int (Int32.ofNat v25.length)), .val (.ref b1), .val (.ref v22), .val (.int (Int32.ofNat rr)), .val (.int (Int32.ofNat (rr + 1))), .val (.ref v49)] [(.int 2), (.ref v49)]))
        refine Gl.st (fun _ kq => XS.aload X63.here hx rfl (hb hby at_198) rfl rfl kq) ?_
        show Gl p.tables e below _ (T63.setTop (mkF m 200 #[.val (.int p0), .val (.int p1), .val (.int p2), .val (.int p3), .val (.int p4), .val (.int (Int32.ofNat v25.length)), .val (.ref b1), .val (.ref v22), .val (.int (Int32.ofNat rr)), .val (.int (Int32.ofNat (rr + 1))), .val (.ref v49)] [(.ref b1), (.int 2), (.ref v49)]))
        refine Gl.st (fun _ kq => XS.iload X63.here hx rfl (hb hby at_200) rfl kq) ?_
        show Gl p.tables e below _ (T63.setTop (mkF m 202 #[.val (.int p0), .val (.int p1), .val (.int p2), .val (.int p3), .val (.int p4), .val (.int (Int32.ofNat v25.length)), .val (.ref b1), .val (.ref v22), .val (.int (Int32.ofNat rr)), .val (.int (Int32.ofNat (rr + 1))), .val (.ref v49)] [(.int (Int32.ofNat (rr + 1))), (.ref b1), (.int 2), (.ref v49)]))
        obtain ⟨_, _, ⟨T64, L64, k64, n64⟩, -, X64, ⟨Lc64, hQ64, l64, y64, z64⟩, st64⟩ := Jvm.LawKit.callS X63 hx (y := (⟨"com/example/neighbor_keys/neighborkeys/model/RelatedColumnOfPinLaw", "at", "(Ljava/lang/String;I[CI)Z"⟩ : MethodName)) ho57 (mvT hZ57 (tw hw 93 rfl)) (mvT hZ57 (tw hw 94 rfl)) (mvT hZ57 (tw hw 4 rfl)) (mvT hZ57 (tw hw 95 rfl)) (by decide) (backOf (W := 0) (rm_at l Z a0 hw [] (v49) (v50) (v51) (v52) (b1) (k1) (v5) (v9) (v13) (v17) (2) ((rr + 1)) (G1) (G3) T57.heap n0 (Nat.le_trans zj K57.1) q57_0 q57_1 q57_2 q57_3 f61 f59 (by rw [y57_1]; exact Rng.sub hrg _ _) (by have q := ds_len y57_1; omega) (by omega) (by have q := ds_len y57_1; omega) (own_cm y26_0 y57_1) O2 P5 O4 rG3) hZ57 (tw hw 95 rfl) (tw hw 4 rfl) (by decide) (by decide)) (g := (mkF m 202 #[.val (.int p0), .val (.int p1), .val (.int p2), .val (.int p3), .val (.int p4), .val (.int (Int32.ofNat v25.length)), .val (.ref b1), .val (.ref v22), .val (.int (Int32.ofNat rr)), .val (.int (Int32.ofNat (rr + 1))), .val (.ref v49)] [(.int (Int32.ofNat (rr + 1))), (.ref b1), (.int 2), (.ref v49)])) rfl (by rw [hml]; rfl) (argsL := [(.ref v49), (.int 2), (.ref b1), (.int (Int32.ofNat (rr + 1)))]) (rest := []) (lenOf pd__Ljava_lang_String_I_CI_Z rfl) rfl (by show 2 * 0 + _ ≤ _; exact Nat.le_of_eq rfl) (hb hby at_202) (fun _ _ => ⟨rfl, e63, (by decide : 9 + 0 ≤ _), (by decide : 24 + 0 ≤ _)⟩)
        dsimp only [Pt.U, Pt.locs, Pt.cells, Pt.slots] at X64 l64 y64 z64 st64 hQ64
        subst l64 y64 z64
        obtain ⟨rfl, N64, e64⟩ := hQ64
        have M64 := Fr.app M63 N64
        refine Gl.st st64 ?_
        show Gl p.tables e below _ (T64.setTop (mkF m 205 #[.val (.int p0), .val (.int p1), .val (.int p2), .val (.int p3), .val (.int p4), .val (.int (Int32.ofNat v25.length)), .val (.ref b1), .val (.ref v22), .val (.int (Int32.ofNat rr)), .val (.int (Int32.ofNat (rr + 1))), .val (.ref v49)] [(.int 1)]))
        show Gl p.tables e below _ (T64.setTop (mkF m 205 #[.val (.int p0), .val (.int p1), .val (.int p2), .val (.int p3), .val (.int p4), .val (.int (Int32.ofNat v25.length)), .val (.ref b1), .val (.ref v22), .val (.int (Int32.ofNat rr)), .val (.int (Int32.ofNat (rr + 1))), .val (.ref v49)] [(.int 1)]))
        refine Gl.st (fun _ kq => XS.ifNo X64.here hx rfl (hb hby at_205) rfl ((if0 _ _).trans (feq ((by decide) : ¬ ((1 : Int32) = (0 : Int32)))).1) kq) ?_
        show Gl p.tables e below _ (T64.setTop (mkF m 208 #[.val (.int p0), .val (.int p1), .val (.int p2), .val (.int p3), .val (.int p4), .val (.int (Int32.ofNat v25.length)), .val (.ref b1), .val (.ref v22), .val (.int (Int32.ofNat rr)), .val (.int (Int32.ofNat (rr + 1))), .val (.ref v49)] []))
        refine Gl.st (fun _ kq => XS.aload X64.here hx rfl (hb hby at_208) rfl rfl kq) ?_
        show Gl p.tables e below _ (T64.setTop (mkF m 210 #[.val (.int p0), .val (.int p1), .val (.int p2), .val (.int p3), .val (.int p4), .val (.int (Int32.ofNat v25.length)), .val (.ref b1), .val (.ref v22), .val (.int (Int32.ofNat rr)), .val (.int (Int32.ofNat (rr + 1))), .val (.ref v49)] [(.ref v49)]))
        refine Gl.st (fun _ kq => XS.iconst X64.here hx rfl (hb hby at_210) kq) ?_
        show Gl p.tables e below _ (T64.setTop (mkF m 211 #[.val (.int p0), .val (.int p1), .val (.int p2), .val (.int p3), .val (.int p4), .val (.int (Int32.ofNat v25.length)), .val (.ref b1), .val (.ref v22), .val (.int (Int32.ofNat rr)), .val (.int (Int32.ofNat (rr + 1))), .val (.ref v49)] [(.int 3), (.ref v49)]))
        refine Gl.st (fun _ kq => XS.aload X64.here hx rfl (hb hby at_211) rfl rfl kq) ?_
        show Gl p.tables e below _ (T64.setTop (mkF m 213 #[.val (.int p0), .val (.int p1), .val (.int p2), .val (.int p3), .val (.int p4), .val (.int (Int32.ofNat v25.length)), .val (.ref b1), .val (.ref v22), .val (.int (Int32.ofNat rr)), .val (.int (Int32.ofNat (rr + 1))), .val (.ref v49)] [(.ref b1), (.int 3), (.ref v49)]))
        refine Gl.st (fun _ kq => XS.iload X64.here hx rfl (hb hby at_213) rfl kq) ?_
        show Gl p.tables e below _ (T64.setTop (mkF m 215 #[.val (.int p0), .val (.int p1), .val (.int p2), .val (.int p3), .val (.int p4), .val (.int (Int32.ofNat v25.length)), .val (.ref b1), .val (.ref v22), .val (.int (Int32.ofNat rr)), .val (.int (Int32.ofNat (rr + 1))), .val (.ref v49)] [(.int (Int32.ofNat (rr + 1))), (.ref b1), (.int 3), (.ref v49)]))
        obtain ⟨_, _, ⟨T65, L65, k65, n65⟩, -, X65, ⟨Lc65, hQ65, l65, y65, z65⟩, st65⟩ := Jvm.LawKit.callS X64 hx (y := (⟨"com/example/neighbor_keys/neighborkeys/model/RelatedColumnOfPinLaw", "at", "(Ljava/lang/String;I[CI)Z"⟩ : MethodName)) ho57 (mvT hZ57 (tw hw 93 rfl)) (mvT hZ57 (tw hw 94 rfl)) (mvT hZ57 (tw hw 4 rfl)) (mvT hZ57 (tw hw 95 rfl)) (by decide) (backOf (W := 0) (rm_at l Z a0 hw [] (v49) (v50) (v51) (v52) (b1) (k1) (v5) (v9) (v13) (v17) (3) ((rr + 1)) (G1) (G3) T57.heap n0 (Nat.le_trans zj K57.1) q57_0 q57_1 q57_2 q57_3 f61 f59 (by rw [y57_1]; exact Rng.sub hrg _ _) (by have q := ds_len y57_1; omega) (by omega) (by have q := ds_len y57_1; omega) (own_cm y26_0 y57_1) O2 P5 O4 rG3) hZ57 (tw hw 95 rfl) (tw hw 4 rfl) (by decide) (by decide)) (g := (mkF m 215 #[.val (.int p0), .val (.int p1), .val (.int p2), .val (.int p3), .val (.int p4), .val (.int (Int32.ofNat v25.length)), .val (.ref b1), .val (.ref v22), .val (.int (Int32.ofNat rr)), .val (.int (Int32.ofNat (rr + 1))), .val (.ref v49)] [(.int (Int32.ofNat (rr + 1))), (.ref b1), (.int 3), (.ref v49)])) rfl (by rw [hml]; rfl) (argsL := [(.ref v49), (.int 3), (.ref b1), (.int (Int32.ofNat (rr + 1)))]) (rest := []) (lenOf pd__Ljava_lang_String_I_CI_Z rfl) rfl (by show 2 * 0 + _ ≤ _; exact Nat.le_of_eq rfl) (hb hby at_215) (fun _ _ => ⟨rfl, e64, (by decide : 9 + 0 ≤ _), (by decide : 24 + 0 ≤ _)⟩)
        dsimp only [Pt.U, Pt.locs, Pt.cells, Pt.slots] at X65 l65 y65 z65 st65 hQ65
        subst l65 y65 z65
        obtain ⟨rfl, N65, e65⟩ := hQ65
        have M65 := Fr.app M64 N65
        refine Gl.st st65 ?_
        show Gl p.tables e below _ (T65.setTop (mkF m 218 #[.val (.int p0), .val (.int p1), .val (.int p2), .val (.int p3), .val (.int p4), .val (.int (Int32.ofNat v25.length)), .val (.ref b1), .val (.ref v22), .val (.int (Int32.ofNat rr)), .val (.int (Int32.ofNat (rr + 1))), .val (.ref v49)] [(.int 1)]))
        show Gl p.tables e below _ (T65.setTop (mkF m 218 #[.val (.int p0), .val (.int p1), .val (.int p2), .val (.int p3), .val (.int p4), .val (.int (Int32.ofNat v25.length)), .val (.ref b1), .val (.ref v22), .val (.int (Int32.ofNat rr)), .val (.int (Int32.ofNat (rr + 1))), .val (.ref v49)] [(.int 1)]))
        refine Gl.st (fun _ kq => XS.ifNo X65.here hx rfl (hb hby at_218) rfl ((if0 _ _).trans (feq ((by decide) : ¬ ((1 : Int32) = (0 : Int32)))).1) kq) ?_
        show Gl p.tables e below _ (T65.setTop (mkF m 221 #[.val (.int p0), .val (.int p1), .val (.int p2), .val (.int p3), .val (.int p4), .val (.int (Int32.ofNat v25.length)), .val (.ref b1), .val (.ref v22), .val (.int (Int32.ofNat rr)), .val (.int (Int32.ofNat (rr + 1))), .val (.ref v49)] []))
        refine Gl.st (fun _ kq => XS.iconst X65.here hx rfl (hb hby at_221) kq) ?_
        show Gl p.tables e below _ (T65.setTop (mkF m 222 #[.val (.int p0), .val (.int p1), .val (.int p2), .val (.int p3), .val (.int p4), .val (.int (Int32.ofNat v25.length)), .val (.ref b1), .val (.ref v22), .val (.int (Int32.ofNat rr)), .val (.int (Int32.ofNat (rr + 1))), .val (.ref v49)] [(.int 1)]))
        refine Gl.st (fun _ kq => XS.goto X65.here hx rfl (pc0 := 222) (pc' := 226) rfl (hb hby at_222) (by decide) (by decide) kq) ?_
        show Gl p.tables e below _ (T65.setTop (mkF m 226 #[.val (.int p0), .val (.int p1), .val (.int p2), .val (.int p3), .val (.int p4), .val (.int (Int32.ofNat v25.length)), .val (.ref b1), .val (.ref v22), .val (.int (Int32.ofNat rr)), .val (.int (Int32.ofNat (rr + 1))), .val (.ref v49)] [(.int 1)]))
        exact Gl.retNH X65 hx S57 (Nat.le_trans (Nat.le_refl _) (Nat.le_of_eq (congrArg Array.size e65).symm)) (by rw [hh, e65]; exact C58.trans (CHv.at X65 hZ57 (elW hw) C58.1)) (t := .boolean) Bd.returns (by simp) (hb hby at_226) hlk (by decide) (by decide) (by rw [e65]; exact ⟨rfl, M65⟩)
      · exact (first_no hfi y57_0).elim
  refine Gl.st (fun _ kq => XS.iload X26.here hx rfl (hb hby at_54) rfl kq) ?_
  show Gl p.tables e below _ (T26.setTop (mkF m 56 #[.val (.int p0), .val (.int p1), .val (.int p2), .val (.int p3), .val (.int p4), .val (.int ((p0 &&& (2147483647 : Int32)) % (5 : Int32))), .val (.ref b1), .val (.ref v22), .val (.int (-1)), .unset, .unset] [(.int ((p0 &&& (2147483647 : Int32)) % (5 : Int32)))]))
  by_cases hc66 : (0 : Int32) < ((p0 &&& (2147483647 : Int32)) % (5 : Int32))
  · refine Gl.st (fun _ kq => XS.ifNo X26.here hx rfl (hb hby at_56) rfl ((if0 _ _).trans (tlt (hc66 : (0 : Int32) < ((p0 &&& (2147483647 : Int32)) % (5 : Int32)))).2.2.2) kq) ?_
    show Gl p.tables e below _ (T26.setTop (mkF m 59 #[.val (.int p0), .val (.int p1), .val (.int p2), .val (.int p3), .val (.int p4), .val (.int ((p0 &&& (2147483647 : Int32)) % (5 : Int32))), .val (.ref b1), .val (.ref v22), .val (.int (-1)), .unset, .unset] []))
    refine Gl.st (fun _ kq => XS.aload X26.here hx rfl (hb hby at_59) rfl rfl kq) ?_
    show Gl p.tables e below _ (T26.setTop (mkF m 61 #[.val (.int p0), .val (.int p1), .val (.int p2), .val (.int p3), .val (.int p4), .val (.int ((p0 &&& (2147483647 : Int32)) % (5 : Int32))), .val (.ref b1), .val (.ref v22), .val (.int (-1)), .unset, .unset] [(.ref b1)]))
    refine Gl.st (fun _ kq => XS.iconst X26.here hx rfl (hb hby at_61) kq) ?_
    show Gl p.tables e below _ (T26.setTop (mkF m 62 #[.val (.int p0), .val (.int p1), .val (.int p2), .val (.int p3), .val (.int p4), .val (.int ((p0 &&& (2147483647 : Int32)) % (5 : Int32))), .val (.ref b1), .val (.ref v22), .val (.int (-1)), .unset, .unset] [(.int 0), (.ref b1)]))
    have f67 : Arv Z T26.heap b1 k1 .char (4 : Int32) [(.int v5), (.int v9), (.int v13), (.int v17)] (.int 0) := (V19.keep K26 nin0)
    obtain ⟨c68, a68, q68, S68, M68, H68, G68⟩ := id f67
    refine Gl.st (fun _ kq => X26.caload hx (j := (0 : Int32)) (v := (.int v5)) a68.1 (State.isArrayOf_alike hZ26.alike a68.2.1) a68.2.2 (inb_of S68 ⟨by decide, by decide⟩) (Has.at H68 (inb_of S68 ⟨by decide, by decide⟩) rfl) (g := (mkF m 62 #[.val (.int p0), .val (.int p1), .val (.int p2), .val (.int p3), .val (.int p4), .val (.int ((p0 &&& (2147483647 : Int32)) % (5 : Int32))), .val (.ref b1), .val (.ref v22), .val (.int (-1)), .unset, .unset] [(.int 0), (.ref b1)])) rfl rfl (hb hby at_62) _ kq) ?_
    show Gl p.tables e below _ (T26.setTop (mkF m 63 #[.val (.int p0), .val (.int p1), .val (.int p2), .val (.int p3), .val (.int p4), .val (.int ((p0 &&& (2147483647 : Int32)) % (5 : Int32))), .val (.ref b1), .val (.ref v22), .val (.int (-1)), .unset, .unset] [(.int v5)]))
    refine Gl.st (fun _ kq => XS.bipush X26.here hx rfl (hb hby at_63) kq) ?_
    show Gl p.tables e below _ (T26.setTop (mkF m 65 #[.val (.int p0), .val (.int p1), .val (.int p2), .val (.int p3), .val (.int p4), .val (.int ((p0 &&& (2147483647 : Int32)) % (5 : Int32))), .val (.ref b1), .val (.ref v22), .val (.int (-1)), .unset, .unset] [(.int 46), (.int v5)]))
    by_cases hc69 : v5 = (46 : Int32)
    · refine Gl.st (fun _ kq => XS.icmpNo X26.here hx rfl (hb hby at_65) rfl (teq (hc69 : v5 = (46 : Int32))).2 kq) ?_
      show Gl p.tables e below _ (T26.setTop (mkF m 68 #[.val (.int p0), .val (.int p1), .val (.int p2), .val (.int p3), .val (.int p4), .val (.int ((p0 &&& (2147483647 : Int32)) % (5 : Int32))), .val (.ref b1), .val (.ref v22), .val (.int (-1)), .unset, .unset] []))
      refine Gl.st (fun _ kq => XS.iconst X26.here hx rfl (hb hby at_68) kq) ?_
      show Gl p.tables e below _ (T26.setTop (mkF m 69 #[.val (.int p0), .val (.int p1), .val (.int p2), .val (.int p3), .val (.int p4), .val (.int ((p0 &&& (2147483647 : Int32)) % (5 : Int32))), .val (.ref b1), .val (.ref v22), .val (.int (-1)), .unset, .unset] [(.int 0)]))
      refine Gl.st (fun _ kq => XS.istore X26.here hx rfl (hb hby at_69) rfl (l' := #[.val (.int p0), .val (.int p1), .val (.int p2), .val (.int p3), .val (.int p4), .val (.int ((p0 &&& (2147483647 : Int32)) % (5 : Int32))), .val (.ref b1), .val (.ref v22), .val (.int 0), .unset, .unset]) rfl kq) ?_
      show Gl p.tables e below _ (T26.setTop (mkF m 71 #[.val (.int p0), .val (.int p1), .val (.int p2), .val (.int p3), .val (.int p4), .val (.int ((p0 &&& (2147483647 : Int32)) % (5 : Int32))), .val (.ref b1), .val (.ref v22), .val (.int 0), .unset, .unset] []))
      refine Gl.st (fun _ kq => XS.goto X26.here hx rfl (pc0 := 71) (pc' := 134) rfl (hb hby at_71) (by decide) (by decide) kq) ?_
      show Gl p.tables e below _ (T26.setTop (mkF m 134 #[.val (.int p0), .val (.int p1), .val (.int p2), .val (.int p3), .val (.int p4), .val (.int ((p0 &&& (2147483647 : Int32)) % (5 : Int32))), .val (.ref b1), .val (.ref v22), .val (.int 0), .unset, .unset] []))
      have f70 : Old Z n0 T26.heap := (f21.keep K26 all0)
      exact Jj _ _ _ _ _ S26 hZ26 ho26 (Nat.le_refl _) C27 (X26.more (by decide) (by decide)) rfl M26 (Nat.le_trans (Nat.le_trans (Nat.le_trans (Nat.le_trans (Nat.le_trans (Nat.le_trans Z0 E1.1) (Keep.of_wr W7).1) (Keep.of_wr W11).1) (Keep.of_wr W15).1) (Keep.of_wr W19).1) K26.1) (((p0 &&& (2147483647 : Int32)) % (5 : Int32))) ((0 : Int32)) f70 f67 q26_0 q26_1 q26_2 q26_3 hlen (by rw [y26_0]; exact dot_0 hk5 hc66 hc69)
    · refine Gl.st (fun _ kq => XS.icmpYes X26.here hx rfl (pc0 := 65) (pc' := 74) rfl (hb hby at_65) rfl (feq (hc69 : ¬ (v5 = (46 : Int32)))).2 (by decide) (by decide) kq) ?_
      show Gl p.tables e below _ (T26.setTop (mkF m 74 #[.val (.int p0), .val (.int p1), .val (.int p2), .val (.int p3), .val (.int p4), .val (.int ((p0 &&& (2147483647 : Int32)) % (5 : Int32))), .val (.ref b1), .val (.ref v22), .val (.int (-1)), .unset, .unset] []))
      refine Gl.st (fun _ kq => XS.iload X26.here hx rfl (hb hby at_74) rfl kq) ?_
      show Gl p.tables e below _ (T26.setTop (mkF m 76 #[.val (.int p0), .val (.int p1), .val (.int p2), .val (.int p3), .val (.int p4), .val (.int ((p0 &&& (2147483647 : Int32)) % (5 : Int32))), .val (.ref b1), .val (.ref v22), .val (.int (-1)), .unset, .unset] [(.int ((p0 &&& (2147483647 : Int32)) % (5 : Int32)))]))
      refine Gl.st (fun _ kq => XS.iconst X26.here hx rfl (hb hby at_76) kq) ?_
      show Gl p.tables e below _ (T26.setTop (mkF m 77 #[.val (.int p0), .val (.int p1), .val (.int p2), .val (.int p3), .val (.int p4), .val (.int ((p0 &&& (2147483647 : Int32)) % (5 : Int32))), .val (.ref b1), .val (.ref v22), .val (.int (-1)), .unset, .unset] [(.int 1), (.int ((p0 &&& (2147483647 : Int32)) % (5 : Int32)))]))
      by_cases hc71 : (1 : Int32) < ((p0 &&& (2147483647 : Int32)) % (5 : Int32))
      · refine Gl.st (fun _ kq => XS.icmpNo X26.here hx rfl (hb hby at_77) rfl (tlt (hc71 : (1 : Int32) < ((p0 &&& (2147483647 : Int32)) % (5 : Int32)))).2.2.2 kq) ?_
        show Gl p.tables e below _ (T26.setTop (mkF m 80 #[.val (.int p0), .val (.int p1), .val (.int p2), .val (.int p3), .val (.int p4), .val (.int ((p0 &&& (2147483647 : Int32)) % (5 : Int32))), .val (.ref b1), .val (.ref v22), .val (.int (-1)), .unset, .unset] []))
        refine Gl.st (fun _ kq => XS.aload X26.here hx rfl (hb hby at_80) rfl rfl kq) ?_
        show Gl p.tables e below _ (T26.setTop (mkF m 82 #[.val (.int p0), .val (.int p1), .val (.int p2), .val (.int p3), .val (.int p4), .val (.int ((p0 &&& (2147483647 : Int32)) % (5 : Int32))), .val (.ref b1), .val (.ref v22), .val (.int (-1)), .unset, .unset] [(.ref b1)]))
        refine Gl.st (fun _ kq => XS.iconst X26.here hx rfl (hb hby at_82) kq) ?_
        show Gl p.tables e below _ (T26.setTop (mkF m 83 #[.val (.int p0), .val (.int p1), .val (.int p2), .val (.int p3), .val (.int p4), .val (.int ((p0 &&& (2147483647 : Int32)) % (5 : Int32))), .val (.ref b1), .val (.ref v22), .val (.int (-1)), .unset, .unset] [(.int 1), (.ref b1)]))
        obtain ⟨c72, a72, q72, S72, M72, H72, G72⟩ := id f67
        refine Gl.st (fun _ kq => X26.caload hx (j := (1 : Int32)) (v := (.int v9)) a72.1 (State.isArrayOf_alike hZ26.alike a72.2.1) a72.2.2 (inb_of S72 ⟨by decide, by decide⟩) (Has.at H72 (inb_of S72 ⟨by decide, by decide⟩) rfl) (g := (mkF m 83 #[.val (.int p0), .val (.int p1), .val (.int p2), .val (.int p3), .val (.int p4), .val (.int ((p0 &&& (2147483647 : Int32)) % (5 : Int32))), .val (.ref b1), .val (.ref v22), .val (.int (-1)), .unset, .unset] [(.int 1), (.ref b1)])) rfl rfl (hb hby at_83) _ kq) ?_
        show Gl p.tables e below _ (T26.setTop (mkF m 84 #[.val (.int p0), .val (.int p1), .val (.int p2), .val (.int p3), .val (.int p4), .val (.int ((p0 &&& (2147483647 : Int32)) % (5 : Int32))), .val (.ref b1), .val (.ref v22), .val (.int (-1)), .unset, .unset] [(.int v9)]))
        refine Gl.st (fun _ kq => XS.bipush X26.here hx rfl (hb hby at_84) kq) ?_
        show Gl p.tables e below _ (T26.setTop (mkF m 86 #[.val (.int p0), .val (.int p1), .val (.int p2), .val (.int p3), .val (.int p4), .val (.int ((p0 &&& (2147483647 : Int32)) % (5 : Int32))), .val (.ref b1), .val (.ref v22), .val (.int (-1)), .unset, .unset] [(.int 46), (.int v9)]))
        by_cases hc73 : v9 = (46 : Int32)
        · refine Gl.st (fun _ kq => XS.icmpNo X26.here hx rfl (hb hby at_86) rfl (teq (hc73 : v9 = (46 : Int32))).2 kq) ?_
          show Gl p.tables e below _ (T26.setTop (mkF m 89 #[.val (.int p0), .val (.int p1), .val (.int p2), .val (.int p3), .val (.int p4), .val (.int ((p0 &&& (2147483647 : Int32)) % (5 : Int32))), .val (.ref b1), .val (.ref v22), .val (.int (-1)), .unset, .unset] []))
          refine Gl.st (fun _ kq => XS.iconst X26.here hx rfl (hb hby at_89) kq) ?_
          show Gl p.tables e below _ (T26.setTop (mkF m 90 #[.val (.int p0), .val (.int p1), .val (.int p2), .val (.int p3), .val (.int p4), .val (.int ((p0 &&& (2147483647 : Int32)) % (5 : Int32))), .val (.ref b1), .val (.ref v22), .val (.int (-1)), .unset, .unset] [(.int 1)]))
          refine Gl.st (fun _ kq => XS.istore X26.here hx rfl (hb hby at_90) rfl (l' := #[.val (.int p0), .val (.int p1), .val (.int p2), .val (.int p3), .val (.int p4), .val (.int ((p0 &&& (2147483647 : Int32)) % (5 : Int32))), .val (.ref b1), .val (.ref v22), .val (.int 1), .unset, .unset]) rfl kq) ?_
          show Gl p.tables e below _ (T26.setTop (mkF m 92 #[.val (.int p0), .val (.int p1), .val (.int p2), .val (.int p3), .val (.int p4), .val (.int ((p0 &&& (2147483647 : Int32)) % (5 : Int32))), .val (.ref b1), .val (.ref v22), .val (.int 1), .unset, .unset] []))
          refine Gl.st (fun _ kq => XS.goto X26.here hx rfl (pc0 := 92) (pc' := 134) rfl (hb hby at_92) (by decide) (by decide) kq) ?_
          show Gl p.tables e below _ (T26.setTop (mkF m 134 #[.val (.int p0), .val (.int p1), .val (.int p2), .val (.int p3), .val (.int p4), .val (.int ((p0 &&& (2147483647 : Int32)) % (5 : Int32))), .val (.ref b1), .val (.ref v22), .val (.int 1), .unset, .unset] []))
          have f74 : Old Z n0 T26.heap := (f21.keep K26 all0)
          exact Jj _ _ _ _ _ S26 hZ26 ho26 (Nat.le_refl _) C27 (X26.more (by decide) (by decide)) rfl M26 (Nat.le_trans (Nat.le_trans (Nat.le_trans (Nat.le_trans (Nat.le_trans (Nat.le_trans Z0 E1.1) (Keep.of_wr W7).1) (Keep.of_wr W11).1) (Keep.of_wr W15).1) (Keep.of_wr W19).1) K26.1) (((p0 &&& (2147483647 : Int32)) % (5 : Int32))) ((1 : Int32)) f74 f67 q26_0 q26_1 q26_2 q26_3 hlen (by rw [y26_0]; exact dot_1 hk5 hc71 hc69 hc73)
        · refine Gl.st (fun _ kq => XS.icmpYes X26.here hx rfl (pc0 := 86) (pc' := 95) rfl (hb hby at_86) rfl (feq (hc73 : ¬ (v9 = (46 : Int32)))).2 (by decide) (by decide) kq) ?_
          show Gl p.tables e below _ (T26.setTop (mkF m 95 #[.val (.int p0), .val (.int p1), .val (.int p2), .val (.int p3), .val (.int p4), .val (.int ((p0 &&& (2147483647 : Int32)) % (5 : Int32))), .val (.ref b1), .val (.ref v22), .val (.int (-1)), .unset, .unset] []))
          refine Gl.st (fun _ kq => XS.iload X26.here hx rfl (hb hby at_95) rfl kq) ?_
          show Gl p.tables e below _ (T26.setTop (mkF m 97 #[.val (.int p0), .val (.int p1), .val (.int p2), .val (.int p3), .val (.int p4), .val (.int ((p0 &&& (2147483647 : Int32)) % (5 : Int32))), .val (.ref b1), .val (.ref v22), .val (.int (-1)), .unset, .unset] [(.int ((p0 &&& (2147483647 : Int32)) % (5 : Int32)))]))
          refine Gl.st (fun _ kq => XS.iconst X26.here hx rfl (hb hby at_97) kq) ?_
          show Gl p.tables e below _ (T26.setTop (mkF m 98 #[.val (.int p0), .val (.int p1), .val (.int p2), .val (.int p3), .val (.int p4), .val (.int ((p0 &&& (2147483647 : Int32)) % (5 : Int32))), .val (.ref b1), .val (.ref v22), .val (.int (-1)), .unset, .unset] [(.int 2), (.int ((p0 &&& (2147483647 : Int32)) % (5 : Int32)))]))
          by_cases hc75 : (2 : Int32) < ((p0 &&& (2147483647 : Int32)) % (5 : Int32))
          · refine Gl.st (fun _ kq => XS.icmpNo X26.here hx rfl (hb hby at_98) rfl (tlt (hc75 : (2 : Int32) < ((p0 &&& (2147483647 : Int32)) % (5 : Int32)))).2.2.2 kq) ?_
            show Gl p.tables e below _ (T26.setTop (mkF m 101 #[.val (.int p0), .val (.int p1), .val (.int p2), .val (.int p3), .val (.int p4), .val (.int ((p0 &&& (2147483647 : Int32)) % (5 : Int32))), .val (.ref b1), .val (.ref v22), .val (.int (-1)), .unset, .unset] []))
            refine Gl.st (fun _ kq => XS.aload X26.here hx rfl (hb hby at_101) rfl rfl kq) ?_
            show Gl p.tables e below _ (T26.setTop (mkF m 103 #[.val (.int p0), .val (.int p1), .val (.int p2), .val (.int p3), .val (.int p4), .val (.int ((p0 &&& (2147483647 : Int32)) % (5 : Int32))), .val (.ref b1), .val (.ref v22), .val (.int (-1)), .unset, .unset] [(.ref b1)]))
            refine Gl.st (fun _ kq => XS.iconst X26.here hx rfl (hb hby at_103) kq) ?_
            show Gl p.tables e below _ (T26.setTop (mkF m 104 #[.val (.int p0), .val (.int p1), .val (.int p2), .val (.int p3), .val (.int p4), .val (.int ((p0 &&& (2147483647 : Int32)) % (5 : Int32))), .val (.ref b1), .val (.ref v22), .val (.int (-1)), .unset, .unset] [(.int 2), (.ref b1)]))
            obtain ⟨c76, a76, q76, S76, M76, H76, G76⟩ := id f67
            refine Gl.st (fun _ kq => X26.caload hx (j := (2 : Int32)) (v := (.int v13)) a76.1 (State.isArrayOf_alike hZ26.alike a76.2.1) a76.2.2 (inb_of S76 ⟨by decide, by decide⟩) (Has.at H76 (inb_of S76 ⟨by decide, by decide⟩) rfl) (g := (mkF m 104 #[.val (.int p0), .val (.int p1), .val (.int p2), .val (.int p3), .val (.int p4), .val (.int ((p0 &&& (2147483647 : Int32)) % (5 : Int32))), .val (.ref b1), .val (.ref v22), .val (.int (-1)), .unset, .unset] [(.int 2), (.ref b1)])) rfl rfl (hb hby at_104) _ kq) ?_
            show Gl p.tables e below _ (T26.setTop (mkF m 105 #[.val (.int p0), .val (.int p1), .val (.int p2), .val (.int p3), .val (.int p4), .val (.int ((p0 &&& (2147483647 : Int32)) % (5 : Int32))), .val (.ref b1), .val (.ref v22), .val (.int (-1)), .unset, .unset] [(.int v13)]))
            refine Gl.st (fun _ kq => XS.bipush X26.here hx rfl (hb hby at_105) kq) ?_
            show Gl p.tables e below _ (T26.setTop (mkF m 107 #[.val (.int p0), .val (.int p1), .val (.int p2), .val (.int p3), .val (.int p4), .val (.int ((p0 &&& (2147483647 : Int32)) % (5 : Int32))), .val (.ref b1), .val (.ref v22), .val (.int (-1)), .unset, .unset] [(.int 46), (.int v13)]))
            by_cases hc77 : v13 = (46 : Int32)
            · refine Gl.st (fun _ kq => XS.icmpNo X26.here hx rfl (hb hby at_107) rfl (teq (hc77 : v13 = (46 : Int32))).2 kq) ?_
              show Gl p.tables e below _ (T26.setTop (mkF m 110 #[.val (.int p0), .val (.int p1), .val (.int p2), .val (.int p3), .val (.int p4), .val (.int ((p0 &&& (2147483647 : Int32)) % (5 : Int32))), .val (.ref b1), .val (.ref v22), .val (.int (-1)), .unset, .unset] []))
              refine Gl.st (fun _ kq => XS.iconst X26.here hx rfl (hb hby at_110) kq) ?_
              show Gl p.tables e below _ (T26.setTop (mkF m 111 #[.val (.int p0), .val (.int p1), .val (.int p2), .val (.int p3), .val (.int p4), .val (.int ((p0 &&& (2147483647 : Int32)) % (5 : Int32))), .val (.ref b1), .val (.ref v22), .val (.int (-1)), .unset, .unset] [(.int 2)]))
              refine Gl.st (fun _ kq => XS.istore X26.here hx rfl (hb hby at_111) rfl (l' := #[.val (.int p0), .val (.int p1), .val (.int p2), .val (.int p3), .val (.int p4), .val (.int ((p0 &&& (2147483647 : Int32)) % (5 : Int32))), .val (.ref b1), .val (.ref v22), .val (.int 2), .unset, .unset]) rfl kq) ?_
              show Gl p.tables e below _ (T26.setTop (mkF m 113 #[.val (.int p0), .val (.int p1), .val (.int p2), .val (.int p3), .val (.int p4), .val (.int ((p0 &&& (2147483647 : Int32)) % (5 : Int32))), .val (.ref b1), .val (.ref v22), .val (.int 2), .unset, .unset] []))
              refine Gl.st (fun _ kq => XS.goto X26.here hx rfl (pc0 := 113) (pc' := 134) rfl (hb hby at_113) (by decide) (by decide) kq) ?_
              show Gl p.tables e below _ (T26.setTop (mkF m 134 #[.val (.int p0), .val (.int p1), .val (.int p2), .val (.int p3), .val (.int p4), .val (.int ((p0 &&& (2147483647 : Int32)) % (5 : Int32))), .val (.ref b1), .val (.ref v22), .val (.int 2), .unset, .unset] []))
              have f78 : Old Z n0 T26.heap := (f21.keep K26 all0)
              exact Jj _ _ _ _ _ S26 hZ26 ho26 (Nat.le_refl _) C27 (X26.more (by decide) (by decide)) rfl M26 (Nat.le_trans (Nat.le_trans (Nat.le_trans (Nat.le_trans (Nat.le_trans (Nat.le_trans Z0 E1.1) (Keep.of_wr W7).1) (Keep.of_wr W11).1) (Keep.of_wr W15).1) (Keep.of_wr W19).1) K26.1) (((p0 &&& (2147483647 : Int32)) % (5 : Int32))) ((2 : Int32)) f78 f67 q26_0 q26_1 q26_2 q26_3 hlen (by rw [y26_0]; exact dot_2 hk5 hc75 hc69 hc73 hc77)
            · refine Gl.st (fun _ kq => XS.icmpYes X26.here hx rfl (pc0 := 107) (pc' := 116) rfl (hb hby at_107) rfl (feq (hc77 : ¬ (v13 = (46 : Int32)))).2 (by decide) (by decide) kq) ?_
              show Gl p.tables e below _ (T26.setTop (mkF m 116 #[.val (.int p0), .val (.int p1), .val (.int p2), .val (.int p3), .val (.int p4), .val (.int ((p0 &&& (2147483647 : Int32)) % (5 : Int32))), .val (.ref b1), .val (.ref v22), .val (.int (-1)), .unset, .unset] []))
              refine Gl.st (fun _ kq => XS.iload X26.here hx rfl (hb hby at_116) rfl kq) ?_
              show Gl p.tables e below _ (T26.setTop (mkF m 118 #[.val (.int p0), .val (.int p1), .val (.int p2), .val (.int p3), .val (.int p4), .val (.int ((p0 &&& (2147483647 : Int32)) % (5 : Int32))), .val (.ref b1), .val (.ref v22), .val (.int (-1)), .unset, .unset] [(.int ((p0 &&& (2147483647 : Int32)) % (5 : Int32)))]))
              refine Gl.st (fun _ kq => XS.iconst X26.here hx rfl (hb hby at_118) kq) ?_
              show Gl p.tables e below _ (T26.setTop (mkF m 119 #[.val (.int p0), .val (.int p1), .val (.int p2), .val (.int p3), .val (.int p4), .val (.int ((p0 &&& (2147483647 : Int32)) % (5 : Int32))), .val (.ref b1), .val (.ref v22), .val (.int (-1)), .unset, .unset] [(.int 3), (.int ((p0 &&& (2147483647 : Int32)) % (5 : Int32)))]))
              by_cases hc79 : (3 : Int32) < ((p0 &&& (2147483647 : Int32)) % (5 : Int32))
              · refine Gl.st (fun _ kq => XS.icmpNo X26.here hx rfl (hb hby at_119) rfl (tlt (hc79 : (3 : Int32) < ((p0 &&& (2147483647 : Int32)) % (5 : Int32)))).2.2.2 kq) ?_
                show Gl p.tables e below _ (T26.setTop (mkF m 122 #[.val (.int p0), .val (.int p1), .val (.int p2), .val (.int p3), .val (.int p4), .val (.int ((p0 &&& (2147483647 : Int32)) % (5 : Int32))), .val (.ref b1), .val (.ref v22), .val (.int (-1)), .unset, .unset] []))
                refine Gl.st (fun _ kq => XS.aload X26.here hx rfl (hb hby at_122) rfl rfl kq) ?_
                show Gl p.tables e below _ (T26.setTop (mkF m 124 #[.val (.int p0), .val (.int p1), .val (.int p2), .val (.int p3), .val (.int p4), .val (.int ((p0 &&& (2147483647 : Int32)) % (5 : Int32))), .val (.ref b1), .val (.ref v22), .val (.int (-1)), .unset, .unset] [(.ref b1)]))
                refine Gl.st (fun _ kq => XS.iconst X26.here hx rfl (hb hby at_124) kq) ?_
                show Gl p.tables e below _ (T26.setTop (mkF m 125 #[.val (.int p0), .val (.int p1), .val (.int p2), .val (.int p3), .val (.int p4), .val (.int ((p0 &&& (2147483647 : Int32)) % (5 : Int32))), .val (.ref b1), .val (.ref v22), .val (.int (-1)), .unset, .unset] [(.int 3), (.ref b1)]))
                obtain ⟨c80, a80, q80, S80, M80, H80, G80⟩ := id f67
                refine Gl.st (fun _ kq => X26.caload hx (j := (3 : Int32)) (v := (.int v17)) a80.1 (State.isArrayOf_alike hZ26.alike a80.2.1) a80.2.2 (inb_of S80 ⟨by decide, by decide⟩) (Has.at H80 (inb_of S80 ⟨by decide, by decide⟩) rfl) (g := (mkF m 125 #[.val (.int p0), .val (.int p1), .val (.int p2), .val (.int p3), .val (.int p4), .val (.int ((p0 &&& (2147483647 : Int32)) % (5 : Int32))), .val (.ref b1), .val (.ref v22), .val (.int (-1)), .unset, .unset] [(.int 3), (.ref b1)])) rfl rfl (hb hby at_125) _ kq) ?_
                show Gl p.tables e below _ (T26.setTop (mkF m 126 #[.val (.int p0), .val (.int p1), .val (.int p2), .val (.int p3), .val (.int p4), .val (.int ((p0 &&& (2147483647 : Int32)) % (5 : Int32))), .val (.ref b1), .val (.ref v22), .val (.int (-1)), .unset, .unset] [(.int v17)]))
                refine Gl.st (fun _ kq => XS.bipush X26.here hx rfl (hb hby at_126) kq) ?_
                show Gl p.tables e below _ (T26.setTop (mkF m 128 #[.val (.int p0), .val (.int p1), .val (.int p2), .val (.int p3), .val (.int p4), .val (.int ((p0 &&& (2147483647 : Int32)) % (5 : Int32))), .val (.ref b1), .val (.ref v22), .val (.int (-1)), .unset, .unset] [(.int 46), (.int v17)]))
                by_cases hc81 : v17 = (46 : Int32)
                · refine Gl.st (fun _ kq => XS.icmpNo X26.here hx rfl (hb hby at_128) rfl (teq (hc81 : v17 = (46 : Int32))).2 kq) ?_
                  show Gl p.tables e below _ (T26.setTop (mkF m 131 #[.val (.int p0), .val (.int p1), .val (.int p2), .val (.int p3), .val (.int p4), .val (.int ((p0 &&& (2147483647 : Int32)) % (5 : Int32))), .val (.ref b1), .val (.ref v22), .val (.int (-1)), .unset, .unset] []))
                  refine Gl.st (fun _ kq => XS.iconst X26.here hx rfl (hb hby at_131) kq) ?_
                  show Gl p.tables e below _ (T26.setTop (mkF m 132 #[.val (.int p0), .val (.int p1), .val (.int p2), .val (.int p3), .val (.int p4), .val (.int ((p0 &&& (2147483647 : Int32)) % (5 : Int32))), .val (.ref b1), .val (.ref v22), .val (.int (-1)), .unset, .unset] [(.int 3)]))
                  refine Gl.st (fun _ kq => XS.istore X26.here hx rfl (hb hby at_132) rfl (l' := #[.val (.int p0), .val (.int p1), .val (.int p2), .val (.int p3), .val (.int p4), .val (.int ((p0 &&& (2147483647 : Int32)) % (5 : Int32))), .val (.ref b1), .val (.ref v22), .val (.int 3), .unset, .unset]) rfl kq) ?_
                  show Gl p.tables e below _ (T26.setTop (mkF m 134 #[.val (.int p0), .val (.int p1), .val (.int p2), .val (.int p3), .val (.int p4), .val (.int ((p0 &&& (2147483647 : Int32)) % (5 : Int32))), .val (.ref b1), .val (.ref v22), .val (.int 3), .unset, .unset] []))
                  have f82 : Old Z n0 T26.heap := (f21.keep K26 all0)
                  exact Jj _ _ _ _ _ S26 hZ26 ho26 (Nat.le_refl _) C27 (X26.more (by decide) (by decide)) rfl M26 (Nat.le_trans (Nat.le_trans (Nat.le_trans (Nat.le_trans (Nat.le_trans (Nat.le_trans Z0 E1.1) (Keep.of_wr W7).1) (Keep.of_wr W11).1) (Keep.of_wr W15).1) (Keep.of_wr W19).1) K26.1) (((p0 &&& (2147483647 : Int32)) % (5 : Int32))) ((3 : Int32)) f82 f67 q26_0 q26_1 q26_2 q26_3 hlen (by rw [y26_0]; exact dot_3 hk5 hc79 hc69 hc73 hc77 hc81)
                · refine Gl.st (fun _ kq => XS.icmpYes X26.here hx rfl (pc0 := 128) (pc' := 134) rfl (hb hby at_128) rfl (feq (hc81 : ¬ (v17 = (46 : Int32)))).2 (by decide) (by decide) kq) ?_
                  show Gl p.tables e below _ (T26.setTop (mkF m 134 #[.val (.int p0), .val (.int p1), .val (.int p2), .val (.int p3), .val (.int p4), .val (.int ((p0 &&& (2147483647 : Int32)) % (5 : Int32))), .val (.ref b1), .val (.ref v22), .val (.int (-1)), .unset, .unset] []))
                  have f83 : Old Z n0 T26.heap := (f21.keep K26 all0)
                  exact Jj _ _ _ _ _ S26 hZ26 ho26 (Nat.le_refl _) C27 (X26.more (by decide) (by decide)) rfl M26 (Nat.le_trans (Nat.le_trans (Nat.le_trans (Nat.le_trans (Nat.le_trans (Nat.le_trans Z0 E1.1) (Keep.of_wr W7).1) (Keep.of_wr W11).1) (Keep.of_wr W15).1) (Keep.of_wr W19).1) K26.1) (((p0 &&& (2147483647 : Int32)) % (5 : Int32))) ((-1 : Int32)) f83 f67 q26_0 q26_1 q26_2 q26_3 hlen (by rw [y26_0]; exact dot_n4 hk5 hc69 hc73 hc77 hc81)
              · refine Gl.st (fun _ kq => XS.icmpYes X26.here hx rfl (pc0 := 119) (pc' := 134) rfl (hb hby at_119) rfl (flt (hc79 : ¬ ((3 : Int32) < ((p0 &&& (2147483647 : Int32)) % (5 : Int32))))).2.2.2 (by decide) (by decide) kq) ?_
                show Gl p.tables e below _ (T26.setTop (mkF m 134 #[.val (.int p0), .val (.int p1), .val (.int p2), .val (.int p3), .val (.int p4), .val (.int ((p0 &&& (2147483647 : Int32)) % (5 : Int32))), .val (.ref b1), .val (.ref v22), .val (.int (-1)), .unset, .unset] []))
                have f84 : Old Z n0 T26.heap := (f21.keep K26 all0)
                exact Jj _ _ _ _ _ S26 hZ26 ho26 (Nat.le_refl _) C27 (X26.more (by decide) (by decide)) rfl M26 (Nat.le_trans (Nat.le_trans (Nat.le_trans (Nat.le_trans (Nat.le_trans (Nat.le_trans Z0 E1.1) (Keep.of_wr W7).1) (Keep.of_wr W11).1) (Keep.of_wr W15).1) (Keep.of_wr W19).1) K26.1) (((p0 &&& (2147483647 : Int32)) % (5 : Int32))) ((-1 : Int32)) f84 f67 q26_0 q26_1 q26_2 q26_3 hlen (by rw [y26_0]; exact dot_n3 hk5 hc79 hc69 hc73 hc77)
          · refine Gl.st (fun _ kq => XS.icmpYes X26.here hx rfl (pc0 := 98) (pc' := 116) rfl (hb hby at_98) rfl (flt (hc75 : ¬ ((2 : Int32) < ((p0 &&& (2147483647 : Int32)) % (5 : Int32))))).2.2.2 (by decide) (by decide) kq) ?_
            show Gl p.tables e below _ (T26.setTop (mkF m 116 #[.val (.int p0), .val (.int p1), .val (.int p2), .val (.int p3), .val (.int p4), .val (.int ((p0 &&& (2147483647 : Int32)) % (5 : Int32))), .val (.ref b1), .val (.ref v22), .val (.int (-1)), .unset, .unset] []))
            refine Gl.st (fun _ kq => XS.iload X26.here hx rfl (hb hby at_116) rfl kq) ?_
            show Gl p.tables e below _ (T26.setTop (mkF m 118 #[.val (.int p0), .val (.int p1), .val (.int p2), .val (.int p3), .val (.int p4), .val (.int ((p0 &&& (2147483647 : Int32)) % (5 : Int32))), .val (.ref b1), .val (.ref v22), .val (.int (-1)), .unset, .unset] [(.int ((p0 &&& (2147483647 : Int32)) % (5 : Int32)))]))
            refine Gl.st (fun _ kq => XS.iconst X26.here hx rfl (hb hby at_118) kq) ?_
            show Gl p.tables e below _ (T26.setTop (mkF m 119 #[.val (.int p0), .val (.int p1), .val (.int p2), .val (.int p3), .val (.int p4), .val (.int ((p0 &&& (2147483647 : Int32)) % (5 : Int32))), .val (.ref b1), .val (.ref v22), .val (.int (-1)), .unset, .unset] [(.int 3), (.int ((p0 &&& (2147483647 : Int32)) % (5 : Int32)))]))
            refine Gl.st (fun _ kq => XS.icmpYes X26.here hx rfl (pc0 := 119) (pc' := 134) rfl (hb hby at_119) rfl (flt ((own_le hc75 (by decide)) : ¬ ((3 : Int32) < ((p0 &&& (2147483647 : Int32)) % (5 : Int32))))).2.2.2 (by decide) (by decide) kq) ?_
            show Gl p.tables e below _ (T26.setTop (mkF m 134 #[.val (.int p0), .val (.int p1), .val (.int p2), .val (.int p3), .val (.int p4), .val (.int ((p0 &&& (2147483647 : Int32)) % (5 : Int32))), .val (.ref b1), .val (.ref v22), .val (.int (-1)), .unset, .unset] []))
            have f85 : Old Z n0 T26.heap := (f21.keep K26 all0)
            exact Jj _ _ _ _ _ S26 hZ26 ho26 (Nat.le_refl _) C27 (X26.more (by decide) (by decide)) rfl M26 (Nat.le_trans (Nat.le_trans (Nat.le_trans (Nat.le_trans (Nat.le_trans (Nat.le_trans Z0 E1.1) (Keep.of_wr W7).1) (Keep.of_wr W11).1) (Keep.of_wr W15).1) (Keep.of_wr W19).1) K26.1) (((p0 &&& (2147483647 : Int32)) % (5 : Int32))) ((-1 : Int32)) f85 f67 q26_0 q26_1 q26_2 q26_3 hlen (by rw [y26_0]; exact dot_n2 hk5 hc75 hc69 hc73)
      · refine Gl.st (fun _ kq => XS.icmpYes X26.here hx rfl (pc0 := 77) (pc' := 95) rfl (hb hby at_77) rfl (flt (hc71 : ¬ ((1 : Int32) < ((p0 &&& (2147483647 : Int32)) % (5 : Int32))))).2.2.2 (by decide) (by decide) kq) ?_
        show Gl p.tables e below _ (T26.setTop (mkF m 95 #[.val (.int p0), .val (.int p1), .val (.int p2), .val (.int p3), .val (.int p4), .val (.int ((p0 &&& (2147483647 : Int32)) % (5 : Int32))), .val (.ref b1), .val (.ref v22), .val (.int (-1)), .unset, .unset] []))
        refine Gl.st (fun _ kq => XS.iload X26.here hx rfl (hb hby at_95) rfl kq) ?_
        show Gl p.tables e below _ (T26.setTop (mkF m 97 #[.val (.int p0), .val (.int p1), .val (.int p2), .val (.int p3), .val (.int p4), .val (.int ((p0 &&& (2147483647 : Int32)) % (5 : Int32))), .val (.ref b1), .val (.ref v22), .val (.int (-1)), .unset, .unset] [(.int ((p0 &&& (2147483647 : Int32)) % (5 : Int32)))]))
        refine Gl.st (fun _ kq => XS.iconst X26.here hx rfl (hb hby at_97) kq) ?_
        show Gl p.tables e below _ (T26.setTop (mkF m 98 #[.val (.int p0), .val (.int p1), .val (.int p2), .val (.int p3), .val (.int p4), .val (.int ((p0 &&& (2147483647 : Int32)) % (5 : Int32))), .val (.ref b1), .val (.ref v22), .val (.int (-1)), .unset, .unset] [(.int 2), (.int ((p0 &&& (2147483647 : Int32)) % (5 : Int32)))]))
        refine Gl.st (fun _ kq => XS.icmpYes X26.here hx rfl (pc0 := 98) (pc' := 116) rfl (hb hby at_98) rfl (flt ((own_le hc71 (by decide)) : ¬ ((2 : Int32) < ((p0 &&& (2147483647 : Int32)) % (5 : Int32))))).2.2.2 (by decide) (by decide) kq) ?_
        show Gl p.tables e below _ (T26.setTop (mkF m 116 #[.val (.int p0), .val (.int p1), .val (.int p2), .val (.int p3), .val (.int p4), .val (.int ((p0 &&& (2147483647 : Int32)) % (5 : Int32))), .val (.ref b1), .val (.ref v22), .val (.int (-1)), .unset, .unset] []))
        refine Gl.st (fun _ kq => XS.iload X26.here hx rfl (hb hby at_116) rfl kq) ?_
        show Gl p.tables e below _ (T26.setTop (mkF m 118 #[.val (.int p0), .val (.int p1), .val (.int p2), .val (.int p3), .val (.int p4), .val (.int ((p0 &&& (2147483647 : Int32)) % (5 : Int32))), .val (.ref b1), .val (.ref v22), .val (.int (-1)), .unset, .unset] [(.int ((p0 &&& (2147483647 : Int32)) % (5 : Int32)))]))
        refine Gl.st (fun _ kq => XS.iconst X26.here hx rfl (hb hby at_118) kq) ?_
        show Gl p.tables e below _ (T26.setTop (mkF m 119 #[.val (.int p0), .val (.int p1), .val (.int p2), .val (.int p3), .val (.int p4), .val (.int ((p0 &&& (2147483647 : Int32)) % (5 : Int32))), .val (.ref b1), .val (.ref v22), .val (.int (-1)), .unset, .unset] [(.int 3), (.int ((p0 &&& (2147483647 : Int32)) % (5 : Int32)))]))
        refine Gl.st (fun _ kq => XS.icmpYes X26.here hx rfl (pc0 := 119) (pc' := 134) rfl (hb hby at_119) rfl (flt ((own_le hc71 (by decide)) : ¬ ((3 : Int32) < ((p0 &&& (2147483647 : Int32)) % (5 : Int32))))).2.2.2 (by decide) (by decide) kq) ?_
        show Gl p.tables e below _ (T26.setTop (mkF m 134 #[.val (.int p0), .val (.int p1), .val (.int p2), .val (.int p3), .val (.int p4), .val (.int ((p0 &&& (2147483647 : Int32)) % (5 : Int32))), .val (.ref b1), .val (.ref v22), .val (.int (-1)), .unset, .unset] []))
        have f86 : Old Z n0 T26.heap := (f21.keep K26 all0)
        exact Jj _ _ _ _ _ S26 hZ26 ho26 (Nat.le_refl _) C27 (X26.more (by decide) (by decide)) rfl M26 (Nat.le_trans (Nat.le_trans (Nat.le_trans (Nat.le_trans (Nat.le_trans (Nat.le_trans Z0 E1.1) (Keep.of_wr W7).1) (Keep.of_wr W11).1) (Keep.of_wr W15).1) (Keep.of_wr W19).1) K26.1) (((p0 &&& (2147483647 : Int32)) % (5 : Int32))) ((-1 : Int32)) f86 f67 q26_0 q26_1 q26_2 q26_3 hlen (by rw [y26_0]; exact dot_n1 hk5 hc71 hc69)
  · refine Gl.st (fun _ kq => XS.ifYes X26.here hx rfl (pc0 := 56) (pc' := 74) rfl (hb hby at_56) rfl ((if0 _ _).trans (flt (hc66 : ¬ ((0 : Int32) < ((p0 &&& (2147483647 : Int32)) % (5 : Int32))))).2.2.2) (by decide) (by decide) kq) ?_
    show Gl p.tables e below _ (T26.setTop (mkF m 74 #[.val (.int p0), .val (.int p1), .val (.int p2), .val (.int p3), .val (.int p4), .val (.int ((p0 &&& (2147483647 : Int32)) % (5 : Int32))), .val (.ref b1), .val (.ref v22), .val (.int (-1)), .unset, .unset] []))
    refine Gl.st (fun _ kq => XS.iload X26.here hx rfl (hb hby at_74) rfl kq) ?_
    show Gl p.tables e below _ (T26.setTop (mkF m 76 #[.val (.int p0), .val (.int p1), .val (.int p2), .val (.int p3), .val (.int p4), .val (.int ((p0 &&& (2147483647 : Int32)) % (5 : Int32))), .val (.ref b1), .val (.ref v22), .val (.int (-1)), .unset, .unset] [(.int ((p0 &&& (2147483647 : Int32)) % (5 : Int32)))]))
    refine Gl.st (fun _ kq => XS.iconst X26.here hx rfl (hb hby at_76) kq) ?_
    show Gl p.tables e below _ (T26.setTop (mkF m 77 #[.val (.int p0), .val (.int p1), .val (.int p2), .val (.int p3), .val (.int p4), .val (.int ((p0 &&& (2147483647 : Int32)) % (5 : Int32))), .val (.ref b1), .val (.ref v22), .val (.int (-1)), .unset, .unset] [(.int 1), (.int ((p0 &&& (2147483647 : Int32)) % (5 : Int32)))]))
    refine Gl.st (fun _ kq => XS.icmpYes X26.here hx rfl (pc0 := 77) (pc' := 95) rfl (hb hby at_77) rfl (flt ((own_le hc66 (by decide)) : ¬ ((1 : Int32) < ((p0 &&& (2147483647 : Int32)) % (5 : Int32))))).2.2.2 (by decide) (by decide) kq) ?_
    show Gl p.tables e below _ (T26.setTop (mkF m 95 #[.val (.int p0), .val (.int p1), .val (.int p2), .val (.int p3), .val (.int p4), .val (.int ((p0 &&& (2147483647 : Int32)) % (5 : Int32))), .val (.ref b1), .val (.ref v22), .val (.int (-1)), .unset, .unset] []))
    refine Gl.st (fun _ kq => XS.iload X26.here hx rfl (hb hby at_95) rfl kq) ?_
    show Gl p.tables e below _ (T26.setTop (mkF m 97 #[.val (.int p0), .val (.int p1), .val (.int p2), .val (.int p3), .val (.int p4), .val (.int ((p0 &&& (2147483647 : Int32)) % (5 : Int32))), .val (.ref b1), .val (.ref v22), .val (.int (-1)), .unset, .unset] [(.int ((p0 &&& (2147483647 : Int32)) % (5 : Int32)))]))
    refine Gl.st (fun _ kq => XS.iconst X26.here hx rfl (hb hby at_97) kq) ?_
    show Gl p.tables e below _ (T26.setTop (mkF m 98 #[.val (.int p0), .val (.int p1), .val (.int p2), .val (.int p3), .val (.int p4), .val (.int ((p0 &&& (2147483647 : Int32)) % (5 : Int32))), .val (.ref b1), .val (.ref v22), .val (.int (-1)), .unset, .unset] [(.int 2), (.int ((p0 &&& (2147483647 : Int32)) % (5 : Int32)))]))
    refine Gl.st (fun _ kq => XS.icmpYes X26.here hx rfl (pc0 := 98) (pc' := 116) rfl (hb hby at_98) rfl (flt ((own_le hc66 (by decide)) : ¬ ((2 : Int32) < ((p0 &&& (2147483647 : Int32)) % (5 : Int32))))).2.2.2 (by decide) (by decide) kq) ?_
    show Gl p.tables e below _ (T26.setTop (mkF m 116 #[.val (.int p0), .val (.int p1), .val (.int p2), .val (.int p3), .val (.int p4), .val (.int ((p0 &&& (2147483647 : Int32)) % (5 : Int32))), .val (.ref b1), .val (.ref v22), .val (.int (-1)), .unset, .unset] []))
    refine Gl.st (fun _ kq => XS.iload X26.here hx rfl (hb hby at_116) rfl kq) ?_
    show Gl p.tables e below _ (T26.setTop (mkF m 118 #[.val (.int p0), .val (.int p1), .val (.int p2), .val (.int p3), .val (.int p4), .val (.int ((p0 &&& (2147483647 : Int32)) % (5 : Int32))), .val (.ref b1), .val (.ref v22), .val (.int (-1)), .unset, .unset] [(.int ((p0 &&& (2147483647 : Int32)) % (5 : Int32)))]))
    refine Gl.st (fun _ kq => XS.iconst X26.here hx rfl (hb hby at_118) kq) ?_
    show Gl p.tables e below _ (T26.setTop (mkF m 119 #[.val (.int p0), .val (.int p1), .val (.int p2), .val (.int p3), .val (.int p4), .val (.int ((p0 &&& (2147483647 : Int32)) % (5 : Int32))), .val (.ref b1), .val (.ref v22), .val (.int (-1)), .unset, .unset] [(.int 3), (.int ((p0 &&& (2147483647 : Int32)) % (5 : Int32)))]))
    refine Gl.st (fun _ kq => XS.icmpYes X26.here hx rfl (pc0 := 119) (pc' := 134) rfl (hb hby at_119) rfl (flt ((own_le hc66 (by decide)) : ¬ ((3 : Int32) < ((p0 &&& (2147483647 : Int32)) % (5 : Int32))))).2.2.2 (by decide) (by decide) kq) ?_
    show Gl p.tables e below _ (T26.setTop (mkF m 134 #[.val (.int p0), .val (.int p1), .val (.int p2), .val (.int p3), .val (.int p4), .val (.int ((p0 &&& (2147483647 : Int32)) % (5 : Int32))), .val (.ref b1), .val (.ref v22), .val (.int (-1)), .unset, .unset] []))
    have f87 : Old Z n0 T26.heap := (f21.keep K26 all0)
    have f88 : Arv Z T26.heap b1 k1 .char (4 : Int32) [(.int v5), (.int v9), (.int v13), (.int v17)] (.int 0) := (V19.keep K26 nin0)
    exact Jj _ _ _ _ _ S26 hZ26 ho26 (Nat.le_refl _) C27 (X26.more (by decide) (by decide)) rfl M26 (Nat.le_trans (Nat.le_trans (Nat.le_trans (Nat.le_trans (Nat.le_trans (Nat.le_trans Z0 E1.1) (Keep.of_wr W7).1) (Keep.of_wr W11).1) (Keep.of_wr W15).1) (Keep.of_wr W19).1) K26.1) (((p0 &&& (2147483647 : Int32)) % (5 : Int32))) ((-1 : Int32)) f87 f88 q26_0 q26_1 q26_2 q26_3 hlen (by rw [y26_0]; exact dot_n0 hk5 hc66)
set_option maxRecDepth 65536 in
set_option maxHeartbeats 40000000 in
theorem comes_1 {Post : Tables → Env → Array Value → State → Outcome → State → Prop} (hpost : ∀ tb e args s v u, (limb_1_1.after args s (.returned v) u = true ∧ limb_1_2.after args s (.returned v) u = true ∧ True) → Jvm.ReturnedEndW s (.returned v) u (Jvm.fieldLocs frame_1_writes args s ++ Jvm.arrayLocs frame_1_arrays args s ++ Jvm.staticLocs frame_1_statics s) 24 2176 → Post tb e args s (.returned v) u) :
    ArmFor flags0 classFile x code maxLocals ret World_1 tables_1 room_1 Calls_1 rest_1 Pre_1 Post := by
  intro l hfl _ _ p e ha hc hk s m args below hf hA hF happ hP
  obtain ⟨hcalls, hrest, hpre⟩ := hP
  obtain ⟨-, -, -, hnamed, -, -, -, hat⟩ := (Spec.applies_iff hf).mp happ
  obtain ⟨hg, hn⟩ := and_e (Cond.before_iff.mp (show (Jvm.Cond.and given_1 narrow_1).before args s = true from hpre))
  obtain ⟨hcnt, g0⟩ := and_e hg
  obtain ⟨u0, g1⟩ := and_e g0
  obtain ⟨u1, g2⟩ := and_e g1
  obtain ⟨u2, g3⟩ := and_e g2
  obtain ⟨u3, g4⟩ := and_e g3
  have u4 := g4
  obtain ⟨w0, w1, w2, w3, w4, rfl⟩ : ∃ w0 w1 w2 w3 w4 : Value, args = #[w0, w1, w2, w3, w4] := by
    have hs : args.size = 5 := by simpa [Cond.value, given_1] using hcnt
    obtain ⟨L⟩ := args
    match L, hs with
    | [w0, w1, w2, w3, w4], _ => exact ⟨w0, w1, w2, w3, w4, rfl⟩
  have hw := fun d (hd : d ∈ tables_1) => atoms_spec (ws := Jvm.Cond.code x code maxLocals ret :: tables_1) hat d (List.mem_cons_of_mem _ hd)
  have hfit : Fit s := fun {y c} hc i hi => by
    obtain ⟨ha, rfl⟩ := Array.getElem?_eq_some_iff.mp hc
    have q := List.all_eq_true.mp ((Array.all_eq_true_iff_forall_mem.mp hF) _ (Array.getElem_mem ha)) i (List.mem_range.mpr hi)
    simpa [Array.getElem?_eq_getElem hi] using q
  obtain ⟨hsets, hown0⟩ := atoms_of _ (rest_1_c_eq ▸ (show rest_1_c.before _ s = true from hrest))
  have hr0 := Cond.before_iff.mp hown0
  obtain ⟨i0, ei0⟩ := is_v u0
  obtain rfl : w0 = (.int i0) := Option.some.inj ei0
  obtain ⟨i1, ei1⟩ := is_v u1
  obtain rfl : w1 = (.int i1) := Option.some.inj ei1
  obtain ⟨i2, ei2⟩ := is_v u2
  obtain rfl : w2 = (.int i2) := Option.some.inj ei2
  obtain ⟨i3, ei3⟩ := is_v u3
  obtain rfl : w3 = (.int i3) := Option.some.inj ei3
  obtain ⟨i4, ei4⟩ := is_v u4
  obtain rfl : w4 = (.int i4) := Option.some.inj ei4
  obtain ⟨iG, eG⟩ := is_v (Cond.before_iff.mp (hsets _ (List.mem_of_getElem? (i := 1) rfl)))
  have SG : Sta s s.heap "java/lang/String" "COMPACT_STRINGS" "Z" (.int iG) := Sta.start eG (Or.inl (hsets _ (List.mem_of_getElem? (i := 0) rfl)))
  have cG : ¬ (iG = (0 : Int32)) := gotF (Cond.eq_ints eG (Term.int_eval (0))) (not_v (Cond.before_iff.mp (hsets _ (List.mem_of_getElem? (i := 2) rfl))))
  obtain ⟨vF, eF, rF⟩ := isR_v (Cond.before_iff.mp (hsets _ (List.mem_of_getElem? (i := 8) rfl)))
  have SF : Sta s s.heap "jdk/internal/util/Preconditions" "SIOOBE_FORMATTER" "Ljava/util/function/BiFunction;" vF := Sta.start eF (Or.inl (hsets _ (List.mem_of_getElem? (i := 7) rfl)))
  have hCH : CHv s consts_1 s.vm s.heap := CHv.start (elW hw) (fun p hp => hcalls.1 p hp) (hsets _ (List.mem_of_getElem? (i := 2) rfl)) (tw hw 23 rfl) (tw hw 10 rfl)
  obtain ⟨n, o, h1, h2, h3, _, L, rfl, ⟨rfl, N⟩, -, hq⟩ := rm_law l s _ hw tables_1 i0 i1 i2 i3 i4 iG vF s.heap s.heap.size (Nat.le_refl _) (Old.start s) SG cG SF rF p e ha hc hk s m _ below hf ((Spec.applies_iff_loose hf).mp happ).1 ⟨rfl, State.Warmed39.refl s, rfl, hCH⟩ trivial
  refine ⟨n, _, h1, h2, h3, hpost _ _ _ _ _ _ ⟨Cond.after_iff.mpr rfl, Cond.after_iff.mpr (eq_i res_at (Term.int_eval (1)) rfl), trivial⟩ ⟨hq.1, hq.2.1, hq.2.2.1, (hq.2.2.2.sift fun y hy => Or.inr (N y hy)).mono (by decide) (by decide)⟩⟩
theorem main_1_1 : Claimed_1_1 := comes_1 fun _ _ _ _ _ _ h hF => ⟨h.1, hF⟩
theorem main_1_2 : Claimed_1_2 := comes_1 fun _ _ _ _ _ _ h hF => ⟨h.2.1, hF⟩
end Jvm.Pilot.@@N@@
namespace Jvm.Pilot.@@N@@
open Jvm Jvm.ClassFile Sem Op Lib Jvm.Free Jvm.Stand Jvm.Pilot.@@N@@.Jvm.D
/-! MADE BY PROGRAM (witnessworld.py) out of the Statement's table words and the real class files: 23 classes; the members and pool entries that the words name. The judged class is class 1, her method 4. -/
namespace start1
open Jvm.ClassFile
def u (s : String) : CpInfo := .utf8 (stringToUtf16 s)
/-- a pool by its gaps: so many unusable entries, then the entry; so many at the end -/
def gap : Nat → List CpInfo → List CpInfo
  | 0, r => r
  | n + 1, r => .unusable :: gap n r
def poolList (es : List (Nat × CpInfo)) (last : Nat) : List CpInfo := es.foldr (fun e r => gap e.1 (e.2 :: r)) (gap last [])
def pool (es : List (Nat × CpInfo)) (last : Nat) : Array CpInfo := ⟨poolList es last⟩
def fileOf (pool : Array CpInfo) (this : Nat) (attrs : Array Attribute := #[]) (ms : Array MethodInfo := #[]) (fl : Nat := 33) (sup : Nat := 0) (ifs : Array Nat := #[]) (fds : Array FieldInfo := #[]) : ClassFile where
  minorVersion := 0
  majorVersion := 65
  constantPool := pool
  accessFlags := fl
  thisClass := this
  superClass := sup
  interfaces := ifs
  fields := fds
  methods := ms
  attributes := attrs
def plain (name : String) (sup : Option ClassId) : Class where
  name := name
  kind := .ordinary
  loader := none
  accessFlags := 33
  super := sup
  interfaces := #[]
  cf := none
  fields := #[]
  methods := #[]
  instanceTypes := #[]
  staticTypes := #[]
  resolved := #[]
  callSites := []
  init := .initialized
  statics := none
  mirror := none

def pool0 : Array CpInfo := pool [(5, u "<init>"), (0, u "()V"), (1, .class_ 10), (1, u "java/lang/Object")] 113

def k0c0 : Code := { maxStack := 0, maxLocals := 1, code := object_method_1_code, exceptionTable := #[], attributes := #[] }
def k0m0 : Method := { name := "<init>", desc := "()V", sig := { parameters := [], returnType := none }, accessFlags := 1, code := some k0c0 }
/-- java/lang/Object -/
def k0 : Class := { plain "java/lang/Object" none with
  accessFlags := 33
  interfaces := #[]
  cf := some (fileOf pool0 8 #[] #[{ accessFlags := 1, nameIndex := 5, descriptorIndex := 6, attributes := #[] }] 33 0 #[] #[])
  fields := #[]
  methods := #[k0m0]
  instanceTypes := #[]
  staticTypes := #[]
  resolved := Array.replicate 124 none
  statics := none }

def pool1 : Array CpInfo := pool [(2, .class_ 4), (1, u "java/lang/Object"), (0, u "<init>"), (0, u "()V"), (0, .class_ 8), (0, u "java/lang/String"), (0, .methodref 7 10), (0, .nameAndType 5 11), (0, u "([C)V"), (0, .methodref 7 13), (0, .nameAndType 14 15), (0, u "length"), (0, u "()I"), (0, .methodref 7 17), (0, .nameAndType 18 19), (0, u "charAt"), (0, u "(I)C"), (0, .integer 2147483647), (0, .methodref 22 23), (0, .class_ 24), (0, .nameAndType 25 19), (0, u "com/example/neighbor_keys/neighborkeys/model/RelatedColumnOfPinLaw"), (0, u "ch"), (0, .methodref 22 27), (0, .nameAndType 28 29), (0, u "make"), (0, u "(I[C)Ljava/lang/String;"), (0, .methodref 31 32), (0, .class_ 33), (0, .nameAndType 34 35), (0, u "com/example/neighbor_keys/neighborkeys/model/Related"), (0, u "columnOf"), (0, u "(Ljava/lang/String;)Ljava/lang/String;"), (0, .methodref 22 37), (0, .nameAndType 38 39), (0, u "at"), (0, u "(Ljava/lang/String;I[CI)Z"), (3, u "law"), (0, u "(IIIII)Z")] 4

def k1m0 : Method := { name := "<init>", desc := "()V", sig := { parameters := [], returnType := none }, accessFlags := 1, code := none }
def k1c1 : Code := { maxStack := 2, maxLocals := 1, code := method_2_code, exceptionTable := #[], attributes := #[] }
def k1m1 : Method := { name := "ch", desc := "(I)C", sig := { parameters := [.int], returnType := some .char }, accessFlags := 10, code := some k1c1 }
def k1c2 : Code := { maxStack := 7, maxLocals := 2, code := method_3_code, exceptionTable := #[], attributes := #[] }
def k1m2 : Method := { name := "make", desc := "(I[C)Ljava/lang/String;", sig := { parameters := [.int, (.array .char)], returnType := some (.object "java/lang/String") }, accessFlags := 10, code := some k1c2 }
def k1c3 : Code := { maxStack := 4, maxLocals := 4, code := method_4_code, exceptionTable := #[], attributes := #[] }
def k1m3 : Method := { name := "at", desc := "(Ljava/lang/String;I[CI)Z", sig := { parameters := [(.object "java/lang/String"), .int, (.array .char), .int], returnType := some .boolean }, accessFlags := 10, code := some k1c3 }
def k1c4 : Code := { maxStack := 4, maxLocals := 11, code := code, exceptionTable := #[], attributes := #[] }
def k1m4 : Method := { name := "law", desc := "(IIIII)Z", sig := { parameters := [.int, .int, .int, .int, .int], returnType := some .boolean }, accessFlags := 9, code := some k1c4 }
/-- com/example/neighbor_keys/neighborkeys/model/RelatedColumnOfPinLaw -/
def k1 : Class := { plain "com/example/neighbor_keys/neighborkeys/model/RelatedColumnOfPinLaw" (some 0) with
  accessFlags := 49
  interfaces := #[]
  cf := some (fileOf pool1 22 #[] #[{ accessFlags := 1, nameIndex := 5, descriptorIndex := 6, attributes := #[] }, { accessFlags := 10, nameIndex := 25, descriptorIndex := 19, attributes := #[] }, { accessFlags := 10, nameIndex := 28, descriptorIndex := 29, attributes := #[] }, { accessFlags := 10, nameIndex := 38, descriptorIndex := 39, attributes := #[] }, { accessFlags := 9, nameIndex := 43, descriptorIndex := 44, attributes := #[] }] 49 2 #[] #[])
  fields := #[]
  methods := #[k1m0, k1m1, k1m2, k1m3, k1m4]
  instanceTypes := #[]
  staticTypes := #[]
  resolved := Array.replicate 49 none
  statics := none }

def pool2 : Array CpInfo := pool [(1, .class_ 2), (0, u "java/io/Serializable"), (0, .class_ 4), (0, u "java/lang/Object")] 2

/-- java/io/Serializable -/
def k2 : Class := { plain "java/io/Serializable" (some 0) with
  accessFlags := 1537
  interfaces := #[]
  cf := some (fileOf pool2 1 #[] #[] 1537 3 #[] #[])
  fields := #[]
  methods := #[]
  instanceTypes := #[]
  staticTypes := #[]
  resolved := Array.replicate 7 none
  statics := none }

def pool3 : Array CpInfo := pool [(1, .class_ 2), (0, u "java/lang/Comparable"), (0, .class_ 4), (0, u "java/lang/Object")] 7

/-- java/lang/Comparable -/
def k3 : Class := { plain "java/lang/Comparable" (some 0) with
  accessFlags := 1537
  interfaces := #[]
  cf := some (fileOf pool3 1 #[] #[] 1537 3 #[] #[])
  fields := #[]
  methods := #[]
  instanceTypes := #[]
  staticTypes := #[]
  resolved := Array.replicate 12 none
  statics := none }

def pool4 : Array CpInfo := pool [(2, .class_ 4), (1, u "java/lang/CharSequence"), (42, .class_ 48), (0, u "java/lang/CharSequence$1CodePointIterator"), (10, .class_ 60), (0, u "java/lang/CharSequence$1CharIterator"), (5, .class_ 67), (0, u "java/lang/Object")] 63

/-- java/lang/CharSequence -/
def k4 : Class := { plain "java/lang/CharSequence" (some 0) with
  accessFlags := 1537
  interfaces := #[]
  cf := some (fileOf pool4 2 #[.nestMembers #[47, 59]] #[] 1537 66 #[] #[])
  fields := #[]
  methods := #[]
  instanceTypes := #[]
  staticTypes := #[]
  resolved := Array.replicate 131 none
  statics := none }

def pool5 : Array CpInfo := pool [(1, .class_ 2), (0, u "java/lang/constant/Constable"), (0, .class_ 4), (0, u "java/lang/Object")] 6

/-- java/lang/constant/Constable -/
def k5 : Class := { plain "java/lang/constant/Constable" (some 0) with
  accessFlags := 1537
  interfaces := #[]
  cf := some (fileOf pool5 1 #[] #[] 1537 3 #[] #[])
  fields := #[]
  methods := #[]
  instanceTypes := #[]
  staticTypes := #[]
  resolved := Array.replicate 11 none
  statics := none }

def pool6 : Array CpInfo := pool [(1, .class_ 2), (0, u "java/lang/constant/ConstantDesc"), (0, .class_ 4), (0, u "java/lang/Object")] 32

/-- java/lang/constant/ConstantDesc -/
def k6 : Class := { plain "java/lang/constant/ConstantDesc" (some 0) with
  accessFlags := 1537
  interfaces := #[]
  cf := some (fileOf pool6 1 #[] #[] 1537 3 #[] #[])
  fields := #[]
  methods := #[]
  instanceTypes := #[]
  staticTypes := #[]
  resolved := Array.replicate 37 none
  statics := none }

def pool7 : Array CpInfo := pool [(1, .methodref 2 3), (0, .class_ 4), (0, .nameAndType 5 6), (0, u "java/lang/Object"), (0, u "<init>"), (0, u "()V"), (0, .string 8), (0, u ""), (0, .fieldref 10 11), (0, .class_ 12), (0, .nameAndType 13 14), (0, u "java/lang/String"), (0, u "value"), (0, u "[B"), (0, .fieldref 10 16), (0, .nameAndType 17 18), (0, u "coder"), (0, u "B"), (2, u "hash"), (0, u "I"), (2, u "hashIsZero"), (0, u "Z"), (0, .methodref 10 28), (0, .nameAndType 5 29), (0, u "([CIILjava/lang/Void;)V"), (8, .fieldref 10 39), (0, .nameAndType 40 26), (0, u "COMPACT_STRINGS"), (1, .class_ 44), (1, u "java/lang/StringUTF16"), (0, u "compress"), (1, .methodref 42 48), (0, .nameAndType 49 50), (0, u "coderFromArrayLen"), (0, u "([BI)B"), (56, .class_ 109), (1, u "java/lang/StringLatin1"), (32, u "()Z"), (34, .methodref 42 178), (0, .nameAndType 45 179), (0, u "([CII)[B"), (31, u "([BB)V"), (122, u "()I"), (0, .methodref 10 336), (0, .nameAndType 17 337), (0, u "()B"), (25, u "([BI)C"), (27, u "(II)V"), (35, u "(I)C"), (64, .methodref 10 493), (0, .nameAndType 494 142), (0, u "isLatin1"), (0, .methodref 107 496), (0, .nameAndType 497 363), (0, u "charAt"), (3, u "checkIndex"), (3, .methodref 10 506), (0, .nameAndType 507 334), (0, u "length"), (5, u "checkFromToIndex"), (7, .methodref 10 522), (0, .nameAndType 523 524), (0, u "checkBoundsBeginEnd"), (0, u "(III)V"), (50, .class_ 576), (0, u "java/lang/CharSequence"), (22, u "CASE_INSENSITIVE_ORDER"), (0, u "Ljava/util/Comparator;"), (32, .methodref 10 634), (0, .nameAndType 635 636), (0, u "indexOf"), (0, u "(II)I"), (0, .methodref 107 638), (0, .nameAndType 635 639), (0, u "([BIII)I"), (41, .methodref 10 682), (0, .nameAndType 683 684), (0, u "substring"), (0, u "(II)Ljava/lang/String;"), (0, .methodref 107 686), (0, .nameAndType 687 688), (0, u "newString"), (0, u "([BII)Ljava/lang/String;"), (76, u "(I)I"), (126, u "(I)Ljava/lang/String;"), (117, u "([C)V"), (42, .fieldref 1054 1055), (0, .class_ 1056), (0, .nameAndType 1057 1058), (0, u "jdk/internal/util/Preconditions"), (0, u "SIOOBE_FORMATTER"), (0, u "Ljava/util/function/BiFunction;"), (0, .methodref 1054 1060), (0, .nameAndType 501 1061), (0, u "(IILjava/util/function/BiFunction;)I"), (0, .methodref 1054 1063), (0, .nameAndType 513 1064), (0, u "(IIILjava/util/function/BiFunction;)I"), (36, u "serialPersistentFields"), (0, u "[Ljava/io/ObjectStreamField;"), (0, .class_ 1104), (0, u "java/lang/String$CaseInsensitiveComparator"), (1, .class_ 1107), (0, u "java/io/Serializable"), (0, .class_ 1109), (0, u "java/lang/Comparable"), (0, .class_ 1111), (0, u "java/lang/constant/Constable"), (0, .class_ 1113), (0, u "java/lang/constant/ConstantDesc"), (2, u "serialVersionUID"), (0, u "J"), (3, u "REPL"), (0, u "C"), (2, u "LATIN1"), (1, u "UTF16")] 323

def k7m0 : Method := { name := "<init>", desc := "()V", sig := { parameters := [], returnType := none }, accessFlags := 1, code := none }
def k7c1 : Code := { maxStack := 5, maxLocals := 2, code := jdk_42_method_3_code, exceptionTable := #[], attributes := #[] }
def k7m1 : Method := { name := "<init>", desc := "([C)V", sig := { parameters := [(.array .char)], returnType := none }, accessFlags := 1, code := some k7c1 }
def k7c2 : Code := { maxStack := 2, maxLocals := 1, code := jdk_42_method_54_code, exceptionTable := #[], attributes := #[] }
def k7m2 : Method := { name := "length", desc := "()I", sig := { parameters := [], returnType := some .int }, accessFlags := 1, code := some k7c2 }
def k7c3 : Code := { maxStack := 2, maxLocals := 2, code := jdk_42_method_56_code, exceptionTable := #[], attributes := #[] }
def k7m3 : Method := { name := "charAt", desc := "(I)C", sig := { parameters := [.int], returnType := some .char }, accessFlags := 1, code := some k7c3 }
def k7c4 : Code := { maxStack := 3, maxLocals := 2, code := jdk_42_method_79_code, exceptionTable := #[], attributes := #[] }
def k7m4 : Method := { name := "indexOf", desc := "(I)I", sig := { parameters := [.int], returnType := some .int }, accessFlags := 1, code := some k7c4 }
def k7c5 : Code := { maxStack := 4, maxLocals := 3, code := jdk_42_method_80_code, exceptionTable := #[], attributes := #[] }
def k7m5 : Method := { name := "indexOf", desc := "(II)I", sig := { parameters := [.int, .int], returnType := some .int }, accessFlags := 1, code := some k7c5 }
def k7c6 : Code := { maxStack := 3, maxLocals := 2, code := jdk_42_method_91_code, exceptionTable := #[], attributes := #[] }
def k7m6 : Method := { name := "substring", desc := "(I)Ljava/lang/String;", sig := { parameters := [.int], returnType := some (.object "java/lang/String") }, accessFlags := 1, code := some k7c6 }
def k7c7 : Code := { maxStack := 3, maxLocals := 5, code := jdk_42_method_92_code, exceptionTable := #[], attributes := #[] }
def k7m7 : Method := { name := "substring", desc := "(II)Ljava/lang/String;", sig := { parameters := [.int, .int], returnType := some (.object "java/lang/String") }, accessFlags := 1, code := some k7c7 }
def k7c8 : Code := { maxStack := 4, maxLocals := 6, code := jdk_42_method_149_code, exceptionTable := #[], attributes := #[] }
def k7m8 : Method := { name := "<init>", desc := "([CIILjava/lang/Void;)V", sig := { parameters := [(.array .char), .int, .int, (.object "java/lang/Void")], returnType := none }, accessFlags := 2, code := some k7c8 }
def k7c9 : Code := { maxStack := 2, maxLocals := 3, code := jdk_42_method_151_code, exceptionTable := #[], attributes := #[] }
def k7m9 : Method := { name := "<init>", desc := "([BB)V", sig := { parameters := [(.array .byte), .byte], returnType := none }, accessFlags := 0, code := some k7c9 }
def k7c10 : Code := { maxStack := 1, maxLocals := 1, code := jdk_42_method_152_code, exceptionTable := #[], attributes := #[] }
def k7m10 : Method := { name := "coder", desc := "()B", sig := { parameters := [], returnType := some .byte }, accessFlags := 0, code := some k7c10 }
def k7c11 : Code := { maxStack := 1, maxLocals := 1, code := jdk_42_method_154_code, exceptionTable := #[], attributes := #[] }
def k7m11 : Method := { name := "isLatin1", desc := "()Z", sig := { parameters := [], returnType := some .boolean }, accessFlags := 0, code := some k7c11 }
def k7c12 : Code := { maxStack := 3, maxLocals := 2, code := jdk_42_method_155_code, exceptionTable := #[], attributes := #[] }
def k7m12 : Method := { name := "checkIndex", desc := "(II)V", sig := { parameters := [.int, .int], returnType := none }, accessFlags := 8, code := some k7c12 }
def k7c13 : Code := { maxStack := 4, maxLocals := 3, code := jdk_42_method_158_code, exceptionTable := #[], attributes := #[] }
def k7m13 : Method := { name := "checkBoundsBeginEnd", desc := "(III)V", sig := { parameters := [.int, .int, .int], returnType := none }, accessFlags := 8, code := some k7c13 }
/-- java/lang/String -/
def k7 : Class := { plain "java/lang/String" (some 0) with
  accessFlags := 49
  interfaces := #[2, 3, 4, 5, 6]
  cf := some (fileOf pool7 10 #[.nestMembers #[1103]] #[{ accessFlags := 1, nameIndex := 5, descriptorIndex := 6, attributes := #[] }, { accessFlags := 1, nameIndex := 5, descriptorIndex := 1010, attributes := #[] }, { accessFlags := 1, nameIndex := 507, descriptorIndex := 334, attributes := #[] }, { accessFlags := 1, nameIndex := 497, descriptorIndex := 427, attributes := #[] }, { accessFlags := 1, nameIndex := 635, descriptorIndex := 765, attributes := #[] }, { accessFlags := 1, nameIndex := 635, descriptorIndex := 636, attributes := #[] }, { accessFlags := 1, nameIndex := 683, descriptorIndex := 892, attributes := #[] }, { accessFlags := 1, nameIndex := 683, descriptorIndex := 684, attributes := #[] }, { accessFlags := 2, nameIndex := 5, descriptorIndex := 29, attributes := #[] }, { accessFlags := 0, nameIndex := 5, descriptorIndex := 211, attributes := #[] }, { accessFlags := 0, nameIndex := 17, descriptorIndex := 337, attributes := #[] }, { accessFlags := 0, nameIndex := 494, descriptorIndex := 142, attributes := #[] }, { accessFlags := 8, nameIndex := 501, descriptorIndex := 391, attributes := #[] }, { accessFlags := 8, nameIndex := 523, descriptorIndex := 524, attributes := #[] }] 49 2 #[1106, 1108, 575, 1110, 1112] #[{ accessFlags := 18, nameIndex := 13, descriptorIndex := 14, attributes := #[] }, { accessFlags := 18, nameIndex := 17, descriptorIndex := 18, attributes := #[] }, { accessFlags := 2, nameIndex := 21, descriptorIndex := 22, attributes := #[] }, { accessFlags := 2, nameIndex := 25, descriptorIndex := 26, attributes := #[] }, { accessFlags := 26, nameIndex := 1116, descriptorIndex := 1117, attributes := #[] }, { accessFlags := 24, nameIndex := 40, descriptorIndex := 26, attributes := #[] }, { accessFlags := 26, nameIndex := 1101, descriptorIndex := 1102, attributes := #[] }, { accessFlags := 26, nameIndex := 1121, descriptorIndex := 1122, attributes := #[] }, { accessFlags := 25, nameIndex := 599, descriptorIndex := 600, attributes := #[] }, { accessFlags := 24, nameIndex := 1125, descriptorIndex := 18, attributes := #[] }, { accessFlags := 24, nameIndex := 1127, descriptorIndex := 18, attributes := #[] }])
  fields := #[{ name := "value", type := (.array .byte), accessFlags := 18, slot := 0, constantValue := 0 }, { name := "coder", type := .byte, accessFlags := 18, slot := 1, constantValue := 0 }, { name := "hash", type := .int, accessFlags := 2, slot := 2, constantValue := 0 }, { name := "hashIsZero", type := .boolean, accessFlags := 2, slot := 3, constantValue := 0 }, { name := "serialVersionUID", type := .long, accessFlags := 26, slot := 0, constantValue := 0 }, { name := "COMPACT_STRINGS", type := .boolean, accessFlags := 24, slot := 1, constantValue := 0 }, { name := "serialPersistentFields", type := (.array (.object "java/io/ObjectStreamField")), accessFlags := 26, slot := 2, constantValue := 0 }, { name := "REPL", type := .char, accessFlags := 26, slot := 3, constantValue := 0 }, { name := "CASE_INSENSITIVE_ORDER", type := (.object "java/util/Comparator"), accessFlags := 25, slot := 4, constantValue := 0 }, { name := "LATIN1", type := .byte, accessFlags := 24, slot := 5, constantValue := 0 }, { name := "UTF16", type := .byte, accessFlags := 24, slot := 6, constantValue := 0 }]
  methods := #[k7m0, k7m1, k7m2, k7m3, k7m4, k7m5, k7m6, k7m7, k7m8, k7m9, k7m10, k7m11, k7m12, k7m13]
  instanceTypes := #[(.array .byte), .byte, .int, .boolean]
  staticTypes := #[.long, .boolean, (.array (.object "java/io/ObjectStreamField")), .char, (.object "java/util/Comparator"), .byte, .byte]
  resolved := Array.replicate 1451 none
  statics := some 0 }

def pool8 : Array CpInfo := pool [(2, .class_ 4), (1, u "java/lang/Object"), (3, .class_ 10), (1, u "com/example/neighbor_keys/neighborkeys/model/Related"), (0, u "name"), (0, u "Ljava/lang/String;"), (2, u "entityType"), (13, u "match"), (0, u "Ljava/util/Map;"), (0, .methodref 32 33), (0, .class_ 34), (0, .nameAndType 35 36), (0, u "java/lang/String"), (0, u "indexOf"), (0, u "(I)I"), (2, u "substring"), (1, .methodref 32 42), (0, .nameAndType 39 43), (0, u "(I)Ljava/lang/String;"), (11, u "(Ljava/lang/String;)Ljava/lang/String;"), (1, u "columnOf")] 21

def k8c0 : Code := { maxStack := 3, maxLocals := 1, code := prog_30_method_3_code, exceptionTable := #[], attributes := #[] }
def k8m0 : Method := { name := "columnOf", desc := "(Ljava/lang/String;)Ljava/lang/String;", sig := { parameters := [(.object "java/lang/String")], returnType := some (.object "java/lang/String") }, accessFlags := 9, code := some k8c0 }
/-- com/example/neighbor_keys/neighborkeys/model/Related -/
def k8 : Class := { plain "com/example/neighbor_keys/neighborkeys/model/Related" (some 0) with
  accessFlags := 49
  interfaces := #[]
  cf := some (fileOf pool8 8 #[] #[{ accessFlags := 9, nameIndex := 57, descriptorIndex := 55, attributes := #[] }] 49 2 #[] #[{ accessFlags := 18, nameIndex := 11, descriptorIndex := 12, attributes := #[] }, { accessFlags := 18, nameIndex := 15, descriptorIndex := 12, attributes := #[] }, { accessFlags := 18, nameIndex := 29, descriptorIndex := 30, attributes := #[] }])
  fields := #[{ name := "name", type := (.object "java/lang/String"), accessFlags := 18, slot := 0, constantValue := 0 }, { name := "entityType", type := (.object "java/lang/String"), accessFlags := 18, slot := 1, constantValue := 0 }, { name := "match", type := (.object "java/util/Map"), accessFlags := 18, slot := 2, constantValue := 0 }]
  methods := #[k8m0]
  instanceTypes := #[(.object "java/lang/String"), (.object "java/lang/String"), (.object "java/util/Map")]
  staticTypes := #[]
  resolved := Array.replicate 79 none
  statics := none }

def pool9 : Array CpInfo := pool [(1, .class_ 2), (0, u "java/lang/String"), (1, .class_ 6), (1, u "java/lang/Object"), (0, u "<init>"), (0, u "()V"), (0, .methodref 1 10), (0, .nameAndType 11 12), (0, u "checkIndex"), (0, u "(II)V"), (1, .class_ 16), (1, u "java/lang/StringLatin1"), (21, .methodref 39 40), (0, .class_ 41), (0, .nameAndType 42 43), (0, u "java/lang/Math"), (0, u "min"), (0, u "(II)I"), (9, u "([BI)C"), (34, .methodref 14 89), (0, .nameAndType 90 91), (0, u "canEncode"), (0, u "(I)Z"), (0, .methodref 39 93), (0, .nameAndType 94 43), (0, u "max"), (0, .methodref 14 96), (0, .nameAndType 97 98), (0, u "indexOfChar"), (0, u "([BIII)I"), (2, u "indexOf"), (10, .methodref 1 113), (0, .nameAndType 7 114), (0, u "([BB)V"), (6, u "$assertionsDisabled"), (0, u "Z"), (8, .class_ 133), (1, u "java/util/Arrays"), (17, .string 152), (0, u ""), (43, u "newString"), (0, u "([BII)Ljava/lang/String;"), (23, .class_ 223), (1, u "java/lang/StringLatin1$LinesSpliterator"), (8, .methodref 131 233), (0, .nameAndType 234 235), (0, u "copyOfRange"), (0, u "([BII)[B"), (16, u "charAt"), (137, .class_ 391), (0, u "java/lang/StringLatin1$CharsSpliterator")] 3

def k9m0 : Method := { name := "<init>", desc := "()V", sig := { parameters := [], returnType := none }, accessFlags := 0, code := none }
def k9c1 : Code := { maxStack := 2, maxLocals := 2, code := jdk_43_method_2_code, exceptionTable := #[], attributes := #[] }
def k9m1 : Method := { name := "charAt", desc := "([BI)C", sig := { parameters := [(.array .byte), .int], returnType := some .char }, accessFlags := 9, code := some k9c1 }
def k9c2 : Code := { maxStack := 2, maxLocals := 1, code := jdk_43_method_4_code, exceptionTable := #[], attributes := #[] }
def k9m2 : Method := { name := "canEncode", desc := "(I)Z", sig := { parameters := [.int], returnType := some .boolean }, accessFlags := 9, code := some k9c2 }
def k9c3 : Code := { maxStack := 4, maxLocals := 4, code := jdk_43_method_22_code, exceptionTable := #[], attributes := #[] }
def k9m3 : Method := { name := "indexOf", desc := "([BIII)I", sig := { parameters := [(.array .byte), .int, .int, .int], returnType := some .int }, accessFlags := 9, code := some k9c3 }
def k9c4 : Code := { maxStack := 2, maxLocals := 6, code := jdk_43_method_23_code, exceptionTable := #[], attributes := #[] }
def k9m4 : Method := { name := "indexOfChar", desc := "([BIII)I", sig := { parameters := [(.array .byte), .int, .int, .int], returnType := some .int }, accessFlags := 10, code := some k9c4 }
def k9c5 : Code := { maxStack := 6, maxLocals := 3, code := jdk_43_method_47_code, exceptionTable := #[], attributes := #[] }
def k9m5 : Method := { name := "newString", desc := "([BII)Ljava/lang/String;", sig := { parameters := [(.array .byte), .int, .int], returnType := some (.object "java/lang/String") }, accessFlags := 9, code := some k9c5 }
/-- java/lang/StringLatin1 -/
def k9 : Class := { plain "java/lang/StringLatin1" (some 0) with
  accessFlags := 48
  interfaces := #[]
  cf := some (fileOf pool9 14 #[.nestMembers #[390, 221]] #[{ accessFlags := 0, nameIndex := 7, descriptorIndex := 8, attributes := #[] }, { accessFlags := 9, nameIndex := 252, descriptorIndex := 53, attributes := #[] }, { accessFlags := 9, nameIndex := 90, descriptorIndex := 91, attributes := #[] }, { accessFlags := 9, nameIndex := 101, descriptorIndex := 98, attributes := #[] }, { accessFlags := 10, nameIndex := 97, descriptorIndex := 98, attributes := #[] }, { accessFlags := 9, nameIndex := 196, descriptorIndex := 197, attributes := #[] }] 48 4 #[] #[{ accessFlags := 4120, nameIndex := 121, descriptorIndex := 122, attributes := #[] }])
  fields := #[{ name := "$assertionsDisabled", type := .boolean, accessFlags := 4120, slot := 0, constantValue := 0 }]
  methods := #[k9m0, k9m1, k9m2, k9m3, k9m4, k9m5]
  instanceTypes := #[]
  staticTypes := #[.boolean]
  resolved := Array.replicate 395 none
  statics := none }

def pool10 : Array CpInfo := pool [(1, .class_ 2), (0, u "java/lang/Math"), (1, .class_ 6), (1, u "java/lang/Object"), (0, u "<init>"), (0, u "()V"), (89, .class_ 100), (1, u "java/lang/Math$RandomNumberGeneratorHolder"), (71, u "negativeZeroFloatBits"), (0, u "J"), (2, u "negativeZeroDoubleBits"), (21, u "max"), (2, u "min"), (43, u "$assertionsDisabled"), (0, u "Z"), (88, u "(II)I"), (2, u "twoToTheDoubleScaleDown"), (0, u "D"), (4, u "twoToTheDoubleScaleUp"), (9, u "E"), (3, u "PI"), (2, u "TAU"), (2, u "DEGREES_TO_RADIANS"), (0, u "RADIANS_TO_DEGREES")] 94

def k10m0 : Method := { name := "<init>", desc := "()V", sig := { parameters := [], returnType := none }, accessFlags := 2, code := none }
def k10c1 : Code := { maxStack := 2, maxLocals := 2, code := jdk_29_method_65_code, exceptionTable := #[], attributes := #[] }
def k10m1 : Method := { name := "max", desc := "(II)I", sig := { parameters := [.int, .int], returnType := some .int }, accessFlags := 9, code := some k10c1 }
def k10c2 : Code := { maxStack := 2, maxLocals := 2, code := jdk_29_method_69_code, exceptionTable := #[], attributes := #[] }
def k10m2 : Method := { name := "min", desc := "(II)I", sig := { parameters := [.int, .int], returnType := some .int }, accessFlags := 9, code := some k10c2 }
/-- java/lang/Math -/
def k10 : Class := { plain "java/lang/Math" (some 0) with
  accessFlags := 49
  interfaces := #[]
  cf := some (fileOf pool10 1 #[.nestMembers #[98]] #[{ accessFlags := 2, nameIndex := 7, descriptorIndex := 8, attributes := #[] }, { accessFlags := 9, nameIndex := 198, descriptorIndex := 335, attributes := #[] }, { accessFlags := 9, nameIndex := 201, descriptorIndex := 335, attributes := #[] }] 49 4 #[] #[{ accessFlags := 25, nameIndex := 354, descriptorIndex := 339, attributes := #[] }, { accessFlags := 25, nameIndex := 358, descriptorIndex := 339, attributes := #[] }, { accessFlags := 25, nameIndex := 361, descriptorIndex := 339, attributes := #[] }, { accessFlags := 26, nameIndex := 364, descriptorIndex := 339, attributes := #[] }, { accessFlags := 26, nameIndex := 365, descriptorIndex := 339, attributes := #[] }, { accessFlags := 26, nameIndex := 172, descriptorIndex := 173, attributes := #[] }, { accessFlags := 26, nameIndex := 176, descriptorIndex := 173, attributes := #[] }, { accessFlags := 8, nameIndex := 344, descriptorIndex := 339, attributes := #[] }, { accessFlags := 8, nameIndex := 338, descriptorIndex := 339, attributes := #[] }, { accessFlags := 4120, nameIndex := 245, descriptorIndex := 246, attributes := #[] }])
  fields := #[{ name := "E", type := .double, accessFlags := 25, slot := 0, constantValue := 0 }, { name := "PI", type := .double, accessFlags := 25, slot := 1, constantValue := 0 }, { name := "TAU", type := .double, accessFlags := 25, slot := 2, constantValue := 0 }, { name := "DEGREES_TO_RADIANS", type := .double, accessFlags := 26, slot := 3, constantValue := 0 }, { name := "RADIANS_TO_DEGREES", type := .double, accessFlags := 26, slot := 4, constantValue := 0 }, { name := "negativeZeroFloatBits", type := .long, accessFlags := 26, slot := 5, constantValue := 0 }, { name := "negativeZeroDoubleBits", type := .long, accessFlags := 26, slot := 6, constantValue := 0 }, { name := "twoToTheDoubleScaleUp", type := .double, accessFlags := 8, slot := 7, constantValue := 0 }, { name := "twoToTheDoubleScaleDown", type := .double, accessFlags := 8, slot := 8, constantValue := 0 }, { name := "$assertionsDisabled", type := .boolean, accessFlags := 4120, slot := 9, constantValue := 0 }]
  methods := #[k10m0, k10m1, k10m2]
  instanceTypes := #[]
  staticTypes := #[.double, .double, .double, .double, .double, .long, .long, .double, .double, .boolean]
  resolved := Array.replicate 460 none
  statics := none }

def pool11 : Array CpInfo := pool [(2, .class_ 4), (1, u "java/lang/Object"), (0, u "<init>"), (0, u "()V"), (17, .class_ 26), (1, u "jdk/internal/util/Preconditions"), (6, u "checkIndex"), (13, u "checkFromToIndex"), (7, .class_ 56), (0, u "jdk/internal/util/Preconditions$4"), (57, .class_ 115), (0, u "jdk/internal/util/Preconditions$1"), (7, u "SIOOBE_FORMATTER"), (0, u "Ljava/util/function/BiFunction;"), (0, .class_ 126), (0, u "jdk/internal/util/Preconditions$2"), (3, u "AIOOBE_FORMATTER"), (0, .class_ 132), (0, u "jdk/internal/util/Preconditions$3"), (3, u "IOOBE_FORMATTER"), (41, u "(IILjava/util/function/BiFunction;)I"), (4, u "(IIILjava/util/function/BiFunction;)I")] 10

def k11m0 : Method := { name := "<init>", desc := "()V", sig := { parameters := [], returnType := none }, accessFlags := 1, code := none }
def k11c1 : Code := { maxStack := 3, maxLocals := 3, code := jdk_41_method_11_code, exceptionTable := #[], attributes := #[] }
def k11m1 : Method := { name := "checkIndex", desc := "(IILjava/util/function/BiFunction;)I", sig := { parameters := [.int, .int, (.object "java/util/function/BiFunction")], returnType := some .int }, accessFlags := 9, code := some k11c1 }
def k11c2 : Code := { maxStack := 4, maxLocals := 4, code := jdk_41_method_12_code, exceptionTable := #[], attributes := #[] }
def k11m2 : Method := { name := "checkFromToIndex", desc := "(IIILjava/util/function/BiFunction;)I", sig := { parameters := [.int, .int, .int, (.object "java/util/function/BiFunction")], returnType := some .int }, accessFlags := 9, code := some k11c2 }
/-- jdk/internal/util/Preconditions -/
def k11 : Class := { plain "jdk/internal/util/Preconditions" (some 0) with
  accessFlags := 33
  interfaces := #[]
  cf := some (fileOf pool11 24 #[.nestMembers #[55, 131, 125, 114]] #[{ accessFlags := 1, nameIndex := 5, descriptorIndex := 6, attributes := #[] }, { accessFlags := 9, nameIndex := 33, descriptorIndex := 178, attributes := #[] }, { accessFlags := 9, nameIndex := 47, descriptorIndex := 183, attributes := #[] }] 33 2 #[] #[{ accessFlags := 25, nameIndex := 123, descriptorIndex := 124, attributes := #[] }, { accessFlags := 25, nameIndex := 130, descriptorIndex := 124, attributes := #[] }, { accessFlags := 25, nameIndex := 136, descriptorIndex := 124, attributes := #[] }])
  fields := #[{ name := "SIOOBE_FORMATTER", type := (.object "java/util/function/BiFunction"), accessFlags := 25, slot := 0, constantValue := 0 }, { name := "AIOOBE_FORMATTER", type := (.object "java/util/function/BiFunction"), accessFlags := 25, slot := 1, constantValue := 0 }, { name := "IOOBE_FORMATTER", type := (.object "java/util/function/BiFunction"), accessFlags := 25, slot := 2, constantValue := 0 }]
  methods := #[k11m0, k11m1, k11m2]
  instanceTypes := #[]
  staticTypes := #[(.object "java/util/function/BiFunction"), (.object "java/util/function/BiFunction"), (.object "java/util/function/BiFunction")]
  resolved := Array.replicate 194 none
  statics := some 1 }

def pool12 : Array CpInfo := pool [(6, .class_ 8), (1, u "java/lang/Object"), (0, u "<init>"), (0, u "()V"), (1, .class_ 14), (1, u "java/lang/StringUTF16"), (31, u "$assertionsDisabled"), (0, u "Z"), (13, u "HI_BYTE_SHIFT"), (0, u "I"), (2, u "LO_BYTE_SHIFT"), (49, .methodref 12 116), (0, .nameAndType 117 118), (0, u "compress"), (0, u "([CI[BII)I"), (3, u "([CII)[B"), (138, u "coderFromArrayLen"), (0, u "([BI)B"), (106, .class_ 371), (1, u "java/lang/StringUTF16$LinesSpliterator"), (58, u "MAX_LENGTH"), (196, .class_ 628), (0, u "java/lang/StringUTF16$CodePointsSpliterator"), (0, .class_ 630), (0, u "java/lang/StringUTF16$CharsSpliterator")] 4

def k12m0 : Method := { name := "<init>", desc := "()V", sig := { parameters := [], returnType := none }, accessFlags := 0, code := none }
def k12c1 : Code := { maxStack := 2, maxLocals := 2, code := jdk_52_method_15_code, exceptionTable := #[], attributes := #[] }
def k12m1 : Method := { name := "coderFromArrayLen", desc := "([BI)B", sig := { parameters := [(.array .byte), .int], returnType := some .byte }, accessFlags := 8, code := some k12c1 }
def k12c2 : Code := { maxStack := 5, maxLocals := 6, code := jdk_52_method_16_code, exceptionTable := #[], attributes := #[] }
def k12m2 : Method := { name := "compress", desc := "([CII)[B", sig := { parameters := [(.array .char), .int, .int], returnType := some (.array .byte) }, accessFlags := 9, code := some k12c2 }
def k12c3 : Code := { maxStack := 3, maxLocals := 7, code := jdk_52_method_21_code, exceptionTable := #[], attributes := #[] }
def k12m3 : Method := { name := "compress", desc := "([CI[BII)I", sig := { parameters := [(.array .char), .int, (.array .byte), .int, .int], returnType := some .int }, accessFlags := 9, code := some k12c3 }
/-- java/lang/StringUTF16 -/
def k12 : Class := { plain "java/lang/StringUTF16" (some 0) with
  accessFlags := 48
  interfaces := #[]
  cf := some (fileOf pool12 12 #[.nestMembers #[627, 629, 369]] #[{ accessFlags := 0, nameIndex := 9, descriptorIndex := 10, attributes := #[] }, { accessFlags := 8, nameIndex := 261, descriptorIndex := 262, attributes := #[] }, { accessFlags := 9, nameIndex := 117, descriptorIndex := 122, attributes := #[] }, { accessFlags := 9, nameIndex := 117, descriptorIndex := 118, attributes := #[] }] 48 6 #[] #[{ accessFlags := 26, nameIndex := 61, descriptorIndex := 62, attributes := #[] }, { accessFlags := 26, nameIndex := 65, descriptorIndex := 62, attributes := #[] }, { accessFlags := 24, nameIndex := 430, descriptorIndex := 62, attributes := #[] }, { accessFlags := 4120, nameIndex := 46, descriptorIndex := 47, attributes := #[] }])
  fields := #[{ name := "HI_BYTE_SHIFT", type := .int, accessFlags := 26, slot := 0, constantValue := 0 }, { name := "LO_BYTE_SHIFT", type := .int, accessFlags := 26, slot := 1, constantValue := 0 }, { name := "MAX_LENGTH", type := .int, accessFlags := 24, slot := 2, constantValue := 0 }, { name := "$assertionsDisabled", type := .boolean, accessFlags := 4120, slot := 3, constantValue := 0 }]
  methods := #[k12m0, k12m1, k12m2, k12m3]
  instanceTypes := #[]
  staticTypes := #[.int, .int, .int, .boolean]
  resolved := Array.replicate 635 none
  statics := none }

def pool13 : Array CpInfo := pool [(2, .class_ 4), (1, u "java/lang/Object"), (0, u "<init>"), (0, u "()V"), (7, .class_ 16), (1, u "java/util/Arrays"), (57, .class_ 76), (1, u "java/util/Arrays$NaturalOrder"), (36, .class_ 115), (1, u "java/util/Arrays$LegacyMergeSort"), (1, u "Z"), (21, u "copyOfRange"), (10, .methodref 151 152), (0, .class_ 153), (0, .nameAndType 154 155), (0, u "java/lang/System"), (0, u "arraycopy"), (0, u "(Ljava/lang/Object;ILjava/lang/Object;II)V"), (148, .methodref 305 306), (0, .class_ 307), (0, .nameAndType 308 309), (0, u "java/lang/Math"), (0, u "min"), (0, u "(II)I"), (29, .methodref 14 340), (0, .nameAndType 341 342), (0, u "copyOfRangeByte"), (0, u "([BII)[B"), (0, .methodref 14 344), (0, .nameAndType 345 346), (0, u "checkLength"), (0, u "(II)V"), (28, .class_ 376), (0, u "java/util/Arrays$ArrayList"), (68, u "$assertionsDisabled"), (269, u "MIN_ARRAY_SORT_GRAN"), (0, u "I"), (2, u "INSERTIONSORT_THRESHOLD"), (255, .class_ 976), (0, u "java/util/Arrays$ArrayItr")] 52

def k13m0 : Method := { name := "<init>", desc := "()V", sig := { parameters := [], returnType := none }, accessFlags := 2, code := none }
def k13c1 : Code := { maxStack := 4, maxLocals := 2, code := jdk_65_method_131_code, exceptionTable := #[], attributes := #[] }
def k13m1 : Method := { name := "checkLength", desc := "(II)V", sig := { parameters := [.int, .int], returnType := none }, accessFlags := 10, code := some k13c1 }
def k13c2 : Code := { maxStack := 3, maxLocals := 3, code := jdk_65_method_132_code, exceptionTable := #[], attributes := #[] }
def k13m2 : Method := { name := "copyOfRange", desc := "([BII)[B", sig := { parameters := [(.array .byte), .int, .int], returnType := some (.array .byte) }, accessFlags := 9, code := some k13c2 }
def k13c3 : Code := { maxStack := 6, maxLocals := 5, code := jdk_65_method_133_code, exceptionTable := #[], attributes := #[] }
def k13m3 : Method := { name := "copyOfRangeByte", desc := "([BII)[B", sig := { parameters := [(.array .byte), .int, .int], returnType := some (.array .byte) }, accessFlags := 10, code := some k13c3 }
/-- java/util/Arrays -/
def k13 : Class := { plain "java/util/Arrays" (some 0) with
  accessFlags := 49
  interfaces := #[]
  cf := some (fileOf pool13 14 #[.nestMembers #[975, 375, 113, 74]] #[{ accessFlags := 2, nameIndex := 5, descriptorIndex := 6, attributes := #[] }, { accessFlags := 10, nameIndex := 345, descriptorIndex := 346, attributes := #[] }, { accessFlags := 9, nameIndex := 139, descriptorIndex := 342, attributes := #[] }, { accessFlags := 10, nameIndex := 341, descriptorIndex := 342, attributes := #[] }] 49 2 #[] #[{ accessFlags := 26, nameIndex := 715, descriptorIndex := 716, attributes := #[] }, { accessFlags := 26, nameIndex := 719, descriptorIndex := 716, attributes := #[] }, { accessFlags := 4120, nameIndex := 445, descriptorIndex := 117, attributes := #[] }])
  fields := #[{ name := "MIN_ARRAY_SORT_GRAN", type := .int, accessFlags := 26, slot := 0, constantValue := 0 }, { name := "INSERTIONSORT_THRESHOLD", type := .int, accessFlags := 26, slot := 1, constantValue := 0 }, { name := "$assertionsDisabled", type := .boolean, accessFlags := 4120, slot := 2, constantValue := 0 }]
  methods := #[k13m0, k13m1, k13m2, k13m3]
  instanceTypes := #[]
  staticTypes := #[.int, .int, .boolean]
  resolved := Array.replicate 1029 none
  statics := none }

def pool14 : Array CpInfo := pool [(2, .class_ 4), (1, u "java/lang/Object"), (0, u "<init>"), (0, u "()V"), (1, .class_ 10), (1, u "java/lang/System"), (0, u "allowSecurityManager"), (0, u "I"), (16, u "cons"), (0, u "Ljava/io/Console;"), (77, .class_ 110), (1, u "java/lang/System$CallersHolder"), (43, u "initialErrStream"), (0, u "Ljava/io/PrintStream;"), (19, u "security"), (0, u "Ljava/lang/SecurityManager;"), (31, .class_ 209), (0, u "java/lang/System$1"), (7, u "props"), (0, u "Ljava/util/Properties;"), (2, u "lineSeparator"), (0, u "Ljava/lang/String;"), (96, .class_ 321), (1, u "java/lang/System$LoggerFinder"), (5, .class_ 328), (0, u "java/lang/System$Logger"), (67, u "err"), (2, u "out"), (91, u "notSupportedJnuEncoding"), (15, u "in"), (17, u "initialIn"), (0, u "Ljava/io/InputStream;"), (35, u "bootLayer"), (0, u "Ljava/lang/ModuleLayer;"), (99, .class_ 664), (0, u "java/lang/System$2"), (9, u "NEVER"), (2, u "MAYBE"), (49, u "arraycopy"), (0, u "(Ljava/lang/Object;ILjava/lang/Object;II)V"), (72, .class_ 802), (0, u "java/lang/System$Logger$Level")] 31

def k14m0 : Method := { name := "<init>", desc := "()V", sig := { parameters := [], returnType := none }, accessFlags := 2, code := none }
def k14m1 : Method := { name := "arraycopy", desc := "(Ljava/lang/Object;ILjava/lang/Object;II)V", sig := { parameters := [(.object "java/lang/Object"), .int, (.object "java/lang/Object"), .int, .int], returnType := none }, accessFlags := 265, code := none }
/-- java/lang/System -/
def k14 : Class := { plain "java/lang/System" (some 0) with
  accessFlags := 49
  interfaces := #[]
  cf := some (fileOf pool14 8 #[.nestMembers #[319, 327, 801, 108, 663, 208]] #[{ accessFlags := 2, nameIndex := 5, descriptorIndex := 6, attributes := #[] }, { accessFlags := 265, nameIndex := 727, descriptorIndex := 728, attributes := #[] }] 49 2 #[] #[{ accessFlags := 25, nameIndex := 507, descriptorIndex := 526, attributes := #[] }, { accessFlags := 25, nameIndex := 399, descriptorIndex := 155, attributes := #[] }, { accessFlags := 25, nameIndex := 396, descriptorIndex := 155, attributes := #[] }, { accessFlags := 10, nameIndex := 525, descriptorIndex := 526, attributes := #[] }, { accessFlags := 26, nameIndex := 674, descriptorIndex := 12, attributes := #[] }, { accessFlags := 26, nameIndex := 677, descriptorIndex := 12, attributes := #[] }, { accessFlags := 10, nameIndex := 11, descriptorIndex := 12, attributes := #[] }, { accessFlags := 74, nameIndex := 175, descriptorIndex := 176, attributes := #[] }, { accessFlags := 10, nameIndex := 491, descriptorIndex := 222, attributes := #[] }, { accessFlags := 74, nameIndex := 29, descriptorIndex := 30, attributes := #[] }, { accessFlags := 74, nameIndex := 154, descriptorIndex := 155, attributes := #[] }, { accessFlags := 10, nameIndex := 217, descriptorIndex := 218, attributes := #[] }, { accessFlags := 10, nameIndex := 221, descriptorIndex := 222, attributes := #[] }, { accessFlags := 8, nameIndex := 562, descriptorIndex := 563, attributes := #[] }])
  fields := #[{ name := "in", type := (.object "java/io/InputStream"), accessFlags := 25, slot := 0, constantValue := 0 }, { name := "out", type := (.object "java/io/PrintStream"), accessFlags := 25, slot := 1, constantValue := 0 }, { name := "err", type := (.object "java/io/PrintStream"), accessFlags := 25, slot := 2, constantValue := 0 }, { name := "initialIn", type := (.object "java/io/InputStream"), accessFlags := 10, slot := 3, constantValue := 0 }, { name := "NEVER", type := .int, accessFlags := 26, slot := 4, constantValue := 0 }, { name := "MAYBE", type := .int, accessFlags := 26, slot := 5, constantValue := 0 }, { name := "allowSecurityManager", type := .int, accessFlags := 10, slot := 6, constantValue := 0 }, { name := "security", type := (.object "java/lang/SecurityManager"), accessFlags := 74, slot := 7, constantValue := 0 }, { name := "notSupportedJnuEncoding", type := (.object "java/lang/String"), accessFlags := 10, slot := 8, constantValue := 0 }, { name := "cons", type := (.object "java/io/Console"), accessFlags := 74, slot := 9, constantValue := 0 }, { name := "initialErrStream", type := (.object "java/io/PrintStream"), accessFlags := 74, slot := 10, constantValue := 0 }, { name := "props", type := (.object "java/util/Properties"), accessFlags := 10, slot := 11, constantValue := 0 }, { name := "lineSeparator", type := (.object "java/lang/String"), accessFlags := 10, slot := 12, constantValue := 0 }, { name := "bootLayer", type := (.object "java/lang/ModuleLayer"), accessFlags := 8, slot := 13, constantValue := 0 }]
  methods := #[k14m0, k14m1]
  instanceTypes := #[]
  staticTypes := #[(.object "java/io/InputStream"), (.object "java/io/PrintStream"), (.object "java/io/PrintStream"), (.object "java/io/InputStream"), .int, .int, .int, (.object "java/lang/SecurityManager"), (.object "java/lang/String"), (.object "java/io/Console"), (.object "java/io/PrintStream"), (.object "java/util/Properties"), (.object "java/lang/String"), (.object "java/lang/ModuleLayer")]
  resolved := Array.replicate 834 none
  statics := none }

def pool15 : Array CpInfo := pool [(9, u "<init>"), (6, .class_ 18), (1, u "java/lang/Object"), (0, u "()V"), (1, .class_ 23), (1, u "jdk/internal/util/ArraysSupport"), (0, u "LOG2_ARRAY_LONG_INDEX_SCALE"), (0, u "I"), (2, u "U"), (0, u "Ljdk/internal/misc/Unsafe;"), (8, u "BIG_ENDIAN"), (0, u "Z"), (8, u "LOG2_BYTE_BIT_SIZE"), (4, u "LOG2_ARRAY_INT_INDEX_SCALE"), (54, u "JLA"), (0, u "Ljdk/internal/access/JavaLangAccess;"), (11, u "LOG2_ARRAY_BOOLEAN_INDEX_SCALE"), (9, u "LOG2_ARRAY_BYTE_INDEX_SCALE"), (5, u "LOG2_ARRAY_CHAR_INDEX_SCALE"), (5, u "LOG2_ARRAY_SHORT_INDEX_SCALE"), (18, u "LOG2_ARRAY_FLOAT_INDEX_SCALE"), (24, u "LOG2_ARRAY_DOUBLE_INDEX_SCALE"), (89, u "T_BOOLEAN"), (2, u "T_CHAR"), (1, u "T_FLOAT"), (1, u "T_DOUBLE"), (1, u "T_BYTE"), (1, u "T_SHORT"), (1, u "T_INT"), (1, u "T_LONG"), (1, u "SOFT_MAX_ARRAY_LENGTH")] 83

def k15m0 : Method := { name := "<init>", desc := "()V", sig := { parameters := [], returnType := none }, accessFlags := 2, code := none }
/-- jdk/internal/util/ArraysSupport -/
def k15 : Class := { plain "jdk/internal/util/ArraysSupport" (some 0) with
  accessFlags := 33
  interfaces := #[]
  cf := some (fileOf pool15 21 #[] #[{ accessFlags := 2, nameIndex := 9, descriptorIndex := 19, attributes := #[] }] 33 16 #[] #[{ accessFlags := 24, nameIndex := 28, descriptorIndex := 29, attributes := #[] }, { accessFlags := 26, nameIndex := 38, descriptorIndex := 39, attributes := #[] }, { accessFlags := 25, nameIndex := 121, descriptorIndex := 25, attributes := #[] }, { accessFlags := 25, nameIndex := 131, descriptorIndex := 25, attributes := #[] }, { accessFlags := 25, nameIndex := 137, descriptorIndex := 25, attributes := #[] }, { accessFlags := 25, nameIndex := 143, descriptorIndex := 25, attributes := #[] }, { accessFlags := 25, nameIndex := 53, descriptorIndex := 25, attributes := #[] }, { accessFlags := 25, nameIndex := 24, descriptorIndex := 25, attributes := #[] }, { accessFlags := 25, nameIndex := 162, descriptorIndex := 25, attributes := #[] }, { accessFlags := 25, nameIndex := 187, descriptorIndex := 25, attributes := #[] }, { accessFlags := 26, nameIndex := 48, descriptorIndex := 25, attributes := #[] }, { accessFlags := 25, nameIndex := 277, descriptorIndex := 25, attributes := #[] }, { accessFlags := 25, nameIndex := 280, descriptorIndex := 25, attributes := #[] }, { accessFlags := 25, nameIndex := 282, descriptorIndex := 25, attributes := #[] }, { accessFlags := 25, nameIndex := 284, descriptorIndex := 25, attributes := #[] }, { accessFlags := 25, nameIndex := 286, descriptorIndex := 25, attributes := #[] }, { accessFlags := 25, nameIndex := 288, descriptorIndex := 25, attributes := #[] }, { accessFlags := 25, nameIndex := 290, descriptorIndex := 25, attributes := #[] }, { accessFlags := 25, nameIndex := 292, descriptorIndex := 25, attributes := #[] }, { accessFlags := 26, nameIndex := 108, descriptorIndex := 109, attributes := #[] }, { accessFlags := 25, nameIndex := 294, descriptorIndex := 25, attributes := #[] }])
  fields := #[{ name := "U", type := (.object "jdk/internal/misc/Unsafe"), accessFlags := 24, slot := 0, constantValue := 0 }, { name := "BIG_ENDIAN", type := .boolean, accessFlags := 26, slot := 1, constantValue := 0 }, { name := "LOG2_ARRAY_BOOLEAN_INDEX_SCALE", type := .int, accessFlags := 25, slot := 2, constantValue := 0 }, { name := "LOG2_ARRAY_BYTE_INDEX_SCALE", type := .int, accessFlags := 25, slot := 3, constantValue := 0 }, { name := "LOG2_ARRAY_CHAR_INDEX_SCALE", type := .int, accessFlags := 25, slot := 4, constantValue := 0 }, { name := "LOG2_ARRAY_SHORT_INDEX_SCALE", type := .int, accessFlags := 25, slot := 5, constantValue := 0 }, { name := "LOG2_ARRAY_INT_INDEX_SCALE", type := .int, accessFlags := 25, slot := 6, constantValue := 0 }, { name := "LOG2_ARRAY_LONG_INDEX_SCALE", type := .int, accessFlags := 25, slot := 7, constantValue := 0 }, { name := "LOG2_ARRAY_FLOAT_INDEX_SCALE", type := .int, accessFlags := 25, slot := 8, constantValue := 0 }, { name := "LOG2_ARRAY_DOUBLE_INDEX_SCALE", type := .int, accessFlags := 25, slot := 9, constantValue := 0 }, { name := "LOG2_BYTE_BIT_SIZE", type := .int, accessFlags := 26, slot := 10, constantValue := 0 }, { name := "T_BOOLEAN", type := .int, accessFlags := 25, slot := 11, constantValue := 0 }, { name := "T_CHAR", type := .int, accessFlags := 25, slot := 12, constantValue := 0 }, { name := "T_FLOAT", type := .int, accessFlags := 25, slot := 13, constantValue := 0 }, { name := "T_DOUBLE", type := .int, accessFlags := 25, slot := 14, constantValue := 0 }, { name := "T_BYTE", type := .int, accessFlags := 25, slot := 15, constantValue := 0 }, { name := "T_SHORT", type := .int, accessFlags := 25, slot := 16, constantValue := 0 }, { name := "T_INT", type := .int, accessFlags := 25, slot := 17, constantValue := 0 }, { name := "T_LONG", type := .int, accessFlags := 25, slot := 18, constantValue := 0 }, { name := "JLA", type := (.object "jdk/internal/access/JavaLangAccess"), accessFlags := 26, slot := 19, constantValue := 0 }, { name := "SOFT_MAX_ARRAY_LENGTH", type := .int, accessFlags := 25, slot := 20, constantValue := 0 }]
  methods := #[k15m0]
  instanceTypes := #[]
  staticTypes := #[(.object "jdk/internal/misc/Unsafe"), .boolean, .int, .int, .int, .int, .int, .int, .int, .int, .int, .int, .int, .int, .int, .int, .int, .int, .int, (.object "jdk/internal/access/JavaLangAccess"), .int]
  resolved := Array.replicate 378 none
  statics := none }

def pool16 : Array CpInfo := pool [(1, u "java/lang/Cloneable"), (0, .class_ 1), (0, u "java/lang/Object"), (0, .class_ 3)] 3

/-- java/lang/Cloneable -/
def k16 : Class := { plain "java/lang/Cloneable" (some 0) with
  accessFlags := 1537
  interfaces := #[]
  cf := some (fileOf pool16 2 #[] #[] 1537 4 #[] #[])
  fields := #[]
  methods := #[]
  instanceTypes := #[]
  staticTypes := #[]
  resolved := Array.replicate 8 none
  statics := none }

/-- the primitive byte -/
def k17 : Class := { plain "byte" none with kind := .primitive 'B', accessFlags := 0x411 }
/-- [B -/
def k18 : Class := { plain "[B" (some 0) with kind := .array 17 .byte, interfaces := #[16, 2], accessFlags := 1041 }

/-- the primitive char -/
def k19 : Class := { plain "char" none with kind := .primitive 'C', accessFlags := 0x411 }
/-- [C -/
def k20 : Class := { plain "[C" (some 0) with kind := .array 19 .char, interfaces := #[16, 2], accessFlags := 1041 }

/-- the primitive int -/
def k21 : Class := { plain "int" none with kind := .primitive 'I', accessFlags := 0x411 }
/-- [I -/
def k22 : Class := { plain "[I" (some 0) with kind := .array 21 .int, interfaces := #[16, 2], accessFlags := 1041 }

def heap : Heap := #[{ cls := 7, slots := #[.long 0, .int 1, .null, .int 0, .null, .int 0, .int 0], vm := .statics 7 },
  { cls := 11, slots := #[.null, .null, .null], vm := .statics 11 }]
def classes : Array Class := #[k0, k1, k2, k3, k4, k5, k6, k7, k8, k9, k10, k11, k12, k13, k14, k15, k16, k17, k18, k19, k20, k21, k22]
def interned : List (Array UInt16 × Addr) := []
def slotsUsed : Nat := 10
def theMethod : MethodId := ⟨1, 4⟩
def args0 : Array Value := #[.int 5, .int 7, .int 9, .int 40, .int 3]
def aboutOver (below : List Frame) : State where
  vm := { classes := classes, interned := interned.toArray }
  heap := heap
  slotsUsed := slotsUsed
  threads := #[{ frames := .invoking theMethod args0 :: below }]
def below0 : List Frame := [.native { method := ⟨0, 0⟩, args := #[] }]
def about1 : State := aboutOver below0
def p0 : Program := .bare "" "" ""
def e0 : Env := launch0.env 0 0 0
theorem w_frames : about1.frames = Frame.invoking theMethod args0 :: below0 := rfl
set_option maxRecDepth 65536 in
theorem w_args : argsFit about1.vm theMethod args0 = true := by decide +kernel
set_option maxRecDepth 65536 in
theorem w_heap : heapFits about1 = true := by decide +kernel
set_option maxRecDepth 65536 in
theorem w_runnable : about1.curStatus? = some .runnable := by decide +kernel
set_option maxRecDepth 65536 in
theorem w_alone : about1.alone = true := by decide +kernel
set_option maxRecDepth 65536 in
theorem w_named : about1.methodNamed? x = some theMethod := by decide +kernel
set_option maxRecDepth 65536 in
theorem w_hears : about1.hears theMethod below0 = true := by decide +kernel
set_option maxRecDepth 65536 in
theorem w_ripe : about1.ripe theMethod args0 below0 = true := by decide +kernel
theorem w_running : about1.status = .running := rfl
set_option maxRecDepth 65536 in
theorem w_room : about1.hasRoom e0.platform room_1 = true :=
  launch0.hasRoom_least _ room_1 (by decide +kernel) (by decide +kernel) (by decide +kernel) (by decide +kernel) (by decide +kernel) (by decide +kernel)
theorem allAtoms_all (ts : List Jvm.Cond) (a : Array Jvm.Value) (st : Jvm.State) : (allAtoms ts).before a st = ts.all (fun c => c.before a st) := by
  induction ts with
  | nil => rfl
  | cons c t ih =>
    show (Jvm.Cond.and c (allAtoms t)).before a st = _
    rw [Jvm.Cond.before_and, ih, List.all_cons]
def words1 : List Jvm.Cond := Jvm.Cond.code x code maxLocals ret :: tables_1
/-- a 'code' word, met by the world's own term for the bytes: nothing is compared byte by byte -/
theorem code_word {y : MethodName} {bytes : ByteArray} {mx : Nat} {rt : Option FieldType} {a : Array Value} {s : State} {m : MethodId} {meth : Method} {c : Code} (h1 : s.methodNamed? y = some m) (h2 : s.vm.method? m = some meth) (h3 : meth.code = some c) (h4 : c.code = bytes)
    (h5 : (c.maxLocals == mx && c.exceptionTable.isEmpty && decide (c.maxStack ≤ mostOperands) && decide (meth.sig.returnType = rt) && !meth.locks && decide (parseMethodDescriptor y.desc = some meth.sig)) = true) : (Jvm.Cond.code y bytes mx rt).before a s = true := by
  simp only [Bool.and_eq_true, beq_iff_eq, Bool.not_eq_true', decide_eq_true_eq] at h5
  obtain ⟨⟨⟨⟨⟨g1, g2⟩, g3⟩, g4⟩, g5⟩, g6⟩ := h5
  simp [Cond.before, Cond.holds, Cond.value, h1, h2, h3, h4, g1, g2, g3, g4, g5, g6]
def isCode : Jvm.Cond → Bool
  | .code _ _ _ _ => true
  | _ => false
theorem all_split {L : List Jvm.Cond} {P : Jvm.Cond → Bool} (h1 : L.all (fun c => isCode c || P c) = true) (h2 : ∀ c ∈ L.filter isCode, P c = true) : L.all P = true := by
  refine List.all_eq_true.mpr fun c hc => ?_
  have h := List.all_eq_true.mp h1 c hc
  rcases Bool.eq_false_or_eq_true (isCode c) with hi | hi
  · exact h2 c (List.mem_filter.mpr ⟨hc, hi⟩)
  · simpa [hi] using h
set_option maxRecDepth 65536 in
theorem w_c0 : (Jvm.Cond.code x code maxLocals ret).before args0 about1 = true := code_word (m := ⟨1, 4⟩) (meth := k1m4) (c := k1c4) (by decide +kernel) rfl rfl rfl (by decide +kernel)
set_option maxRecDepth 65536 in
theorem w_c1 : (Jvm.Cond.code ({ cls := "com/example/neighbor_keys/neighborkeys/model/RelatedColumnOfPinLaw", name := "ch", desc := "(I)C" } : Jvm.MethodName) method_2_code (1 : Nat) (Option.some Jvm.ClassFile.FieldType.char)).before args0 about1 = true := code_word (m := ⟨1, 1⟩) (meth := k1m1) (c := k1c1) (by decide +kernel) rfl rfl rfl (by decide +kernel)
set_option maxRecDepth 65536 in
theorem w_c2 : (Jvm.Cond.code ({ cls := "com/example/neighbor_keys/neighborkeys/model/RelatedColumnOfPinLaw", name := "make", desc := "(I[C)Ljava/lang/String;" } : Jvm.MethodName) method_3_code (2 : Nat) (Option.some (Jvm.ClassFile.FieldType.object "java/lang/String"))).before args0 about1 = true := code_word (m := ⟨1, 2⟩) (meth := k1m2) (c := k1c2) (by decide +kernel) rfl rfl rfl (by decide +kernel)
set_option maxRecDepth 65536 in
theorem w_c3 : (Jvm.Cond.code ({ cls := "java/lang/String", name := "<init>", desc := "([C)V" } : Jvm.MethodName) jdk_42_method_3_code (2 : Nat) (Option.none : Option Jvm.ClassFile.FieldType)).before args0 about1 = true := code_word (m := ⟨7, 1⟩) (meth := k7m1) (c := k7c1) (by decide +kernel) rfl rfl rfl (by decide +kernel)
set_option maxRecDepth 65536 in
theorem w_c4 : (Jvm.Cond.code ({ cls := "java/lang/String", name := "<init>", desc := "([CIILjava/lang/Void;)V" } : Jvm.MethodName) jdk_42_method_149_code (6 : Nat) (Option.none : Option Jvm.ClassFile.FieldType)).before args0 about1 = true := code_word (m := ⟨7, 8⟩) (meth := k7m8) (c := k7c8) (by decide +kernel) rfl rfl rfl (by decide +kernel)
set_option maxRecDepth 65536 in
theorem w_c5 : (Jvm.Cond.code ({ cls := "java/lang/Object", name := "<init>", desc := "()V" } : Jvm.MethodName) object_method_1_code (1 : Nat) (Option.none : Option Jvm.ClassFile.FieldType)).before args0 about1 = true := code_word (m := ⟨0, 0⟩) (meth := k0m0) (c := k0c0) (by decide +kernel) rfl rfl rfl (by decide +kernel)
set_option maxRecDepth 65536 in
theorem w_c6 : (Jvm.Cond.code ({ cls := "com/example/neighbor_keys/neighborkeys/model/Related", name := "columnOf", desc := "(Ljava/lang/String;)Ljava/lang/String;" } : Jvm.MethodName) prog_30_method_3_code (1 : Nat) (Option.some (Jvm.ClassFile.FieldType.object "java/lang/String"))).before args0 about1 = true := code_word (m := ⟨8, 0⟩) (meth := k8m0) (c := k8c0) (by decide +kernel) rfl rfl rfl (by decide +kernel)
set_option maxRecDepth 65536 in
theorem w_c7 : (Jvm.Cond.code ({ cls := "java/lang/String", name := "indexOf", desc := "(I)I" } : Jvm.MethodName) jdk_42_method_79_code (2 : Nat) (Option.some Jvm.ClassFile.FieldType.int)).before args0 about1 = true := code_word (m := ⟨7, 4⟩) (meth := k7m4) (c := k7c4) (by decide +kernel) rfl rfl rfl (by decide +kernel)
set_option maxRecDepth 65536 in
theorem w_c8 : (Jvm.Cond.code ({ cls := "java/lang/String", name := "indexOf", desc := "(II)I" } : Jvm.MethodName) jdk_42_method_80_code (3 : Nat) (Option.some Jvm.ClassFile.FieldType.int)).before args0 about1 = true := code_word (m := ⟨7, 5⟩) (meth := k7m5) (c := k7c5) (by decide +kernel) rfl rfl rfl (by decide +kernel)
set_option maxRecDepth 65536 in
theorem w_c9 : (Jvm.Cond.code ({ cls := "java/lang/String", name := "isLatin1", desc := "()Z" } : Jvm.MethodName) jdk_42_method_154_code (1 : Nat) (Option.some Jvm.ClassFile.FieldType.boolean)).before args0 about1 = true := code_word (m := ⟨7, 11⟩) (meth := k7m11) (c := k7c11) (by decide +kernel) rfl rfl rfl (by decide +kernel)
set_option maxRecDepth 65536 in
theorem w_c10 : (Jvm.Cond.code ({ cls := "java/lang/String", name := "length", desc := "()I" } : Jvm.MethodName) jdk_42_method_54_code (1 : Nat) (Option.some Jvm.ClassFile.FieldType.int)).before args0 about1 = true := code_word (m := ⟨7, 2⟩) (meth := k7m2) (c := k7c2) (by decide +kernel) rfl rfl rfl (by decide +kernel)
set_option maxRecDepth 65536 in
theorem w_c11 : (Jvm.Cond.code ({ cls := "java/lang/String", name := "coder", desc := "()B" } : Jvm.MethodName) jdk_42_method_152_code (1 : Nat) (Option.some Jvm.ClassFile.FieldType.byte)).before args0 about1 = true := code_word (m := ⟨7, 10⟩) (meth := k7m10) (c := k7c10) (by decide +kernel) rfl rfl rfl (by decide +kernel)
set_option maxRecDepth 65536 in
theorem w_c12 : (Jvm.Cond.code ({ cls := "java/lang/StringLatin1", name := "indexOf", desc := "([BIII)I" } : Jvm.MethodName) jdk_43_method_22_code (4 : Nat) (Option.some Jvm.ClassFile.FieldType.int)).before args0 about1 = true := code_word (m := ⟨9, 3⟩) (meth := k9m3) (c := k9c3) (by decide +kernel) rfl rfl rfl (by decide +kernel)
set_option maxRecDepth 65536 in
theorem w_c13 : (Jvm.Cond.code ({ cls := "java/lang/StringLatin1", name := "canEncode", desc := "(I)Z" } : Jvm.MethodName) jdk_43_method_4_code (1 : Nat) (Option.some Jvm.ClassFile.FieldType.boolean)).before args0 about1 = true := code_word (m := ⟨9, 2⟩) (meth := k9m2) (c := k9c2) (by decide +kernel) rfl rfl rfl (by decide +kernel)
set_option maxRecDepth 65536 in
theorem w_c14 : (Jvm.Cond.code ({ cls := "java/lang/Math", name := "max", desc := "(II)I" } : Jvm.MethodName) jdk_29_method_65_code (2 : Nat) (Option.some Jvm.ClassFile.FieldType.int)).before args0 about1 = true := code_word (m := ⟨10, 1⟩) (meth := k10m1) (c := k10c1) (by decide +kernel) rfl rfl rfl (by decide +kernel)
set_option maxRecDepth 65536 in
theorem w_c15 : (Jvm.Cond.code ({ cls := "java/lang/Math", name := "min", desc := "(II)I" } : Jvm.MethodName) jdk_29_method_69_code (2 : Nat) (Option.some Jvm.ClassFile.FieldType.int)).before args0 about1 = true := code_word (m := ⟨10, 2⟩) (meth := k10m2) (c := k10c2) (by decide +kernel) rfl rfl rfl (by decide +kernel)
set_option maxRecDepth 65536 in
theorem w_c16 : (Jvm.Cond.code ({ cls := "java/lang/String", name := "substring", desc := "(I)Ljava/lang/String;" } : Jvm.MethodName) jdk_42_method_91_code (2 : Nat) (Option.some (Jvm.ClassFile.FieldType.object "java/lang/String"))).before args0 about1 = true := code_word (m := ⟨7, 6⟩) (meth := k7m6) (c := k7c6) (by decide +kernel) rfl rfl rfl (by decide +kernel)
set_option maxRecDepth 65536 in
theorem w_c17 : (Jvm.Cond.code ({ cls := "java/lang/String", name := "substring", desc := "(II)Ljava/lang/String;" } : Jvm.MethodName) jdk_42_method_92_code (5 : Nat) (Option.some (Jvm.ClassFile.FieldType.object "java/lang/String"))).before args0 about1 = true := code_word (m := ⟨7, 7⟩) (meth := k7m7) (c := k7c7) (by decide +kernel) rfl rfl rfl (by decide +kernel)
set_option maxRecDepth 65536 in
theorem w_c18 : (Jvm.Cond.code ({ cls := "java/lang/String", name := "checkBoundsBeginEnd", desc := "(III)V" } : Jvm.MethodName) jdk_42_method_158_code (3 : Nat) (Option.none : Option Jvm.ClassFile.FieldType)).before args0 about1 = true := code_word (m := ⟨7, 13⟩) (meth := k7m13) (c := k7c13) (by decide +kernel) rfl rfl rfl (by decide +kernel)
set_option maxRecDepth 65536 in
theorem w_c19 : (Jvm.Cond.code ({ cls := "jdk/internal/util/Preconditions", name := "checkFromToIndex", desc := "(IIILjava/util/function/BiFunction;)I" } : Jvm.MethodName) jdk_41_method_12_code (4 : Nat) (Option.some Jvm.ClassFile.FieldType.int)).before args0 about1 = true := code_word (m := ⟨11, 2⟩) (meth := k11m2) (c := k11c2) (by decide +kernel) rfl rfl rfl (by decide +kernel)
set_option maxRecDepth 65536 in
theorem w_c20 : (Jvm.Cond.code ({ cls := "com/example/neighbor_keys/neighborkeys/model/RelatedColumnOfPinLaw", name := "at", desc := "(Ljava/lang/String;I[CI)Z" } : Jvm.MethodName) method_4_code (4 : Nat) (Option.some Jvm.ClassFile.FieldType.boolean)).before args0 about1 = true := code_word (m := ⟨1, 3⟩) (meth := k1m3) (c := k1c3) (by decide +kernel) rfl rfl rfl (by decide +kernel)
set_option maxRecDepth 65536 in
theorem w_c21 : (Jvm.Cond.code ({ cls := "java/lang/StringUTF16", name := "compress", desc := "([CII)[B" } : Jvm.MethodName) jdk_52_method_16_code (6 : Nat) (Option.some (Jvm.ClassFile.FieldType.array Jvm.ClassFile.FieldType.byte))).before args0 about1 = true := code_word (m := ⟨12, 2⟩) (meth := k12m2) (c := k12c2) (by decide +kernel) rfl rfl rfl (by decide +kernel)
set_option maxRecDepth 65536 in
theorem w_c22 : (Jvm.Cond.code ({ cls := "java/lang/StringUTF16", name := "compress", desc := "([CI[BII)I" } : Jvm.MethodName) jdk_52_method_21_code (7 : Nat) (Option.some Jvm.ClassFile.FieldType.int)).before args0 about1 = true := code_word (m := ⟨12, 3⟩) (meth := k12m3) (c := k12c3) (by decide +kernel) rfl rfl rfl (by decide +kernel)
set_option maxRecDepth 65536 in
theorem w_c23 : (Jvm.Cond.code ({ cls := "java/lang/StringUTF16", name := "coderFromArrayLen", desc := "([BI)B" } : Jvm.MethodName) jdk_52_method_15_code (2 : Nat) (Option.some Jvm.ClassFile.FieldType.byte)).before args0 about1 = true := code_word (m := ⟨12, 1⟩) (meth := k12m1) (c := k12c1) (by decide +kernel) rfl rfl rfl (by decide +kernel)
set_option maxRecDepth 65536 in
theorem w_c24 : (Jvm.Cond.code ({ cls := "java/lang/StringLatin1", name := "indexOfChar", desc := "([BIII)I" } : Jvm.MethodName) jdk_43_method_23_code (6 : Nat) (Option.some Jvm.ClassFile.FieldType.int)).before args0 about1 = true := code_word (m := ⟨9, 4⟩) (meth := k9m4) (c := k9c4) (by decide +kernel) rfl rfl rfl (by decide +kernel)
set_option maxRecDepth 65536 in
theorem w_c25 : (Jvm.Cond.code ({ cls := "java/lang/StringLatin1", name := "newString", desc := "([BII)Ljava/lang/String;" } : Jvm.MethodName) jdk_43_method_47_code (3 : Nat) (Option.some (Jvm.ClassFile.FieldType.object "java/lang/String"))).before args0 about1 = true := code_word (m := ⟨9, 5⟩) (meth := k9m5) (c := k9c5) (by decide +kernel) rfl rfl rfl (by decide +kernel)
set_option maxRecDepth 65536 in
theorem w_c26 : (Jvm.Cond.code ({ cls := "java/util/Arrays", name := "copyOfRange", desc := "([BII)[B" } : Jvm.MethodName) jdk_65_method_132_code (3 : Nat) (Option.some (Jvm.ClassFile.FieldType.array Jvm.ClassFile.FieldType.byte))).before args0 about1 = true := code_word (m := ⟨13, 2⟩) (meth := k13m2) (c := k13c2) (by decide +kernel) rfl rfl rfl (by decide +kernel)
set_option maxRecDepth 65536 in
theorem w_c27 : (Jvm.Cond.code ({ cls := "java/util/Arrays", name := "copyOfRangeByte", desc := "([BII)[B" } : Jvm.MethodName) jdk_65_method_133_code (5 : Nat) (Option.some (Jvm.ClassFile.FieldType.array Jvm.ClassFile.FieldType.byte))).before args0 about1 = true := code_word (m := ⟨13, 3⟩) (meth := k13m3) (c := k13c3) (by decide +kernel) rfl rfl rfl (by decide +kernel)
set_option maxRecDepth 65536 in
theorem w_c28 : (Jvm.Cond.code ({ cls := "java/util/Arrays", name := "checkLength", desc := "(II)V" } : Jvm.MethodName) jdk_65_method_131_code (2 : Nat) (Option.none : Option Jvm.ClassFile.FieldType)).before args0 about1 = true := code_word (m := ⟨13, 1⟩) (meth := k13m1) (c := k13c1) (by decide +kernel) rfl rfl rfl (by decide +kernel)
set_option maxRecDepth 65536 in
theorem w_c29 : (Jvm.Cond.code ({ cls := "java/lang/String", name := "<init>", desc := "([BB)V" } : Jvm.MethodName) jdk_42_method_151_code (3 : Nat) (Option.none : Option Jvm.ClassFile.FieldType)).before args0 about1 = true := code_word (m := ⟨7, 9⟩) (meth := k7m9) (c := k7c9) (by decide +kernel) rfl rfl rfl (by decide +kernel)
set_option maxRecDepth 65536 in
theorem w_c30 : (Jvm.Cond.code ({ cls := "java/lang/String", name := "charAt", desc := "(I)C" } : Jvm.MethodName) jdk_42_method_56_code (2 : Nat) (Option.some Jvm.ClassFile.FieldType.char)).before args0 about1 = true := code_word (m := ⟨7, 3⟩) (meth := k7m3) (c := k7c3) (by decide +kernel) rfl rfl rfl (by decide +kernel)
set_option maxRecDepth 65536 in
theorem w_c31 : (Jvm.Cond.code ({ cls := "java/lang/StringLatin1", name := "charAt", desc := "([BI)C" } : Jvm.MethodName) jdk_43_method_2_code (2 : Nat) (Option.some Jvm.ClassFile.FieldType.char)).before args0 about1 = true := code_word (m := ⟨9, 1⟩) (meth := k9m1) (c := k9c1) (by decide +kernel) rfl rfl rfl (by decide +kernel)
set_option maxRecDepth 65536 in
theorem w_c32 : (Jvm.Cond.code ({ cls := "java/lang/String", name := "checkIndex", desc := "(II)V" } : Jvm.MethodName) jdk_42_method_155_code (2 : Nat) (Option.none : Option Jvm.ClassFile.FieldType)).before args0 about1 = true := code_word (m := ⟨7, 12⟩) (meth := k7m12) (c := k7c12) (by decide +kernel) rfl rfl rfl (by decide +kernel)
set_option maxRecDepth 65536 in
theorem w_c33 : (Jvm.Cond.code ({ cls := "jdk/internal/util/Preconditions", name := "checkIndex", desc := "(IILjava/util/function/BiFunction;)I" } : Jvm.MethodName) jdk_41_method_11_code (3 : Nat) (Option.some Jvm.ClassFile.FieldType.int)).before args0 about1 = true := code_word (m := ⟨11, 1⟩) (meth := k11m1) (c := k11c1) (by decide +kernel) rfl rfl rfl (by decide +kernel)
def codes1 : List Jvm.Cond := [Jvm.Cond.code x code maxLocals ret, Jvm.Cond.code ({ cls := "com/example/neighbor_keys/neighborkeys/model/RelatedColumnOfPinLaw", name := "ch", desc := "(I)C" } : Jvm.MethodName) method_2_code (1 : Nat) (Option.some Jvm.ClassFile.FieldType.char), Jvm.Cond.code ({ cls := "com/example/neighbor_keys/neighborkeys/model/RelatedColumnOfPinLaw", name := "make", desc := "(I[C)Ljava/lang/String;" } : Jvm.MethodName) method_3_code (2 : Nat) (Option.some (Jvm.ClassFile.FieldType.object "java/lang/String")), Jvm.Cond.code ({ cls := "java/lang/String", name := "<init>", desc := "([C)V" } : Jvm.MethodName) jdk_42_method_3_code (2 : Nat) (Option.none : Option Jvm.ClassFile.FieldType), Jvm.Cond.code ({ cls := "java/lang/String", name := "<init>", desc := "([CIILjava/lang/Void;)V" } : Jvm.MethodName) jdk_42_method_149_code (6 : Nat) (Option.none : Option Jvm.ClassFile.FieldType), Jvm.Cond.code ({ cls := "java/lang/Object", name := "<init>", desc := "()V" } : Jvm.MethodName) object_method_1_code (1 : Nat) (Option.none : Option Jvm.ClassFile.FieldType), Jvm.Cond.code ({ cls := "com/example/neighbor_keys/neighborkeys/model/Related", name := "columnOf", desc := "(Ljava/lang/String;)Ljava/lang/String;" } : Jvm.MethodName) prog_30_method_3_code (1 : Nat) (Option.some (Jvm.ClassFile.FieldType.object "java/lang/String")), Jvm.Cond.code ({ cls := "java/lang/String", name := "indexOf", desc := "(I)I" } : Jvm.MethodName) jdk_42_method_79_code (2 : Nat) (Option.some Jvm.ClassFile.FieldType.int), Jvm.Cond.code ({ cls := "java/lang/String", name := "indexOf", desc := "(II)I" } : Jvm.MethodName) jdk_42_method_80_code (3 : Nat) (Option.some Jvm.ClassFile.FieldType.int), Jvm.Cond.code ({ cls := "java/lang/String", name := "isLatin1", desc := "()Z" } : Jvm.MethodName) jdk_42_method_154_code (1 : Nat) (Option.some Jvm.ClassFile.FieldType.boolean), Jvm.Cond.code ({ cls := "java/lang/String", name := "length", desc := "()I" } : Jvm.MethodName) jdk_42_method_54_code (1 : Nat) (Option.some Jvm.ClassFile.FieldType.int), Jvm.Cond.code ({ cls := "java/lang/String", name := "coder", desc := "()B" } : Jvm.MethodName) jdk_42_method_152_code (1 : Nat) (Option.some Jvm.ClassFile.FieldType.byte), Jvm.Cond.code ({ cls := "java/lang/StringLatin1", name := "indexOf", desc := "([BIII)I" } : Jvm.MethodName) jdk_43_method_22_code (4 : Nat) (Option.some Jvm.ClassFile.FieldType.int), Jvm.Cond.code ({ cls := "java/lang/StringLatin1", name := "canEncode", desc := "(I)Z" } : Jvm.MethodName) jdk_43_method_4_code (1 : Nat) (Option.some Jvm.ClassFile.FieldType.boolean), Jvm.Cond.code ({ cls := "java/lang/Math", name := "max", desc := "(II)I" } : Jvm.MethodName) jdk_29_method_65_code (2 : Nat) (Option.some Jvm.ClassFile.FieldType.int), Jvm.Cond.code ({ cls := "java/lang/Math", name := "min", desc := "(II)I" } : Jvm.MethodName) jdk_29_method_69_code (2 : Nat) (Option.some Jvm.ClassFile.FieldType.int), Jvm.Cond.code ({ cls := "java/lang/String", name := "substring", desc := "(I)Ljava/lang/String;" } : Jvm.MethodName) jdk_42_method_91_code (2 : Nat) (Option.some (Jvm.ClassFile.FieldType.object "java/lang/String")), Jvm.Cond.code ({ cls := "java/lang/String", name := "substring", desc := "(II)Ljava/lang/String;" } : Jvm.MethodName) jdk_42_method_92_code (5 : Nat) (Option.some (Jvm.ClassFile.FieldType.object "java/lang/String")), Jvm.Cond.code ({ cls := "java/lang/String", name := "checkBoundsBeginEnd", desc := "(III)V" } : Jvm.MethodName) jdk_42_method_158_code (3 : Nat) (Option.none : Option Jvm.ClassFile.FieldType), Jvm.Cond.code ({ cls := "jdk/internal/util/Preconditions", name := "checkFromToIndex", desc := "(IIILjava/util/function/BiFunction;)I" } : Jvm.MethodName) jdk_41_method_12_code (4 : Nat) (Option.some Jvm.ClassFile.FieldType.int), Jvm.Cond.code ({ cls := "com/example/neighbor_keys/neighborkeys/model/RelatedColumnOfPinLaw", name := "at", desc := "(Ljava/lang/String;I[CI)Z" } : Jvm.MethodName) method_4_code (4 : Nat) (Option.some Jvm.ClassFile.FieldType.boolean), Jvm.Cond.code ({ cls := "java/lang/StringUTF16", name := "compress", desc := "([CII)[B" } : Jvm.MethodName) jdk_52_method_16_code (6 : Nat) (Option.some (Jvm.ClassFile.FieldType.array Jvm.ClassFile.FieldType.byte)), Jvm.Cond.code ({ cls := "java/lang/StringUTF16", name := "compress", desc := "([CI[BII)I" } : Jvm.MethodName) jdk_52_method_21_code (7 : Nat) (Option.some Jvm.ClassFile.FieldType.int), Jvm.Cond.code ({ cls := "java/lang/StringUTF16", name := "coderFromArrayLen", desc := "([BI)B" } : Jvm.MethodName) jdk_52_method_15_code (2 : Nat) (Option.some Jvm.ClassFile.FieldType.byte), Jvm.Cond.code ({ cls := "java/lang/StringLatin1", name := "indexOfChar", desc := "([BIII)I" } : Jvm.MethodName) jdk_43_method_23_code (6 : Nat) (Option.some Jvm.ClassFile.FieldType.int), Jvm.Cond.code ({ cls := "java/lang/StringLatin1", name := "newString", desc := "([BII)Ljava/lang/String;" } : Jvm.MethodName) jdk_43_method_47_code (3 : Nat) (Option.some (Jvm.ClassFile.FieldType.object "java/lang/String")), Jvm.Cond.code ({ cls := "java/util/Arrays", name := "copyOfRange", desc := "([BII)[B" } : Jvm.MethodName) jdk_65_method_132_code (3 : Nat) (Option.some (Jvm.ClassFile.FieldType.array Jvm.ClassFile.FieldType.byte)), Jvm.Cond.code ({ cls := "java/util/Arrays", name := "copyOfRangeByte", desc := "([BII)[B" } : Jvm.MethodName) jdk_65_method_133_code (5 : Nat) (Option.some (Jvm.ClassFile.FieldType.array Jvm.ClassFile.FieldType.byte)), Jvm.Cond.code ({ cls := "java/util/Arrays", name := "checkLength", desc := "(II)V" } : Jvm.MethodName) jdk_65_method_131_code (2 : Nat) (Option.none : Option Jvm.ClassFile.FieldType), Jvm.Cond.code ({ cls := "java/lang/String", name := "<init>", desc := "([BB)V" } : Jvm.MethodName) jdk_42_method_151_code (3 : Nat) (Option.none : Option Jvm.ClassFile.FieldType), Jvm.Cond.code ({ cls := "java/lang/String", name := "charAt", desc := "(I)C" } : Jvm.MethodName) jdk_42_method_56_code (2 : Nat) (Option.some Jvm.ClassFile.FieldType.char), Jvm.Cond.code ({ cls := "java/lang/StringLatin1", name := "charAt", desc := "([BI)C" } : Jvm.MethodName) jdk_43_method_2_code (2 : Nat) (Option.some Jvm.ClassFile.FieldType.char), Jvm.Cond.code ({ cls := "java/lang/String", name := "checkIndex", desc := "(II)V" } : Jvm.MethodName) jdk_42_method_155_code (2 : Nat) (Option.none : Option Jvm.ClassFile.FieldType), Jvm.Cond.code ({ cls := "jdk/internal/util/Preconditions", name := "checkIndex", desc := "(IILjava/util/function/BiFunction;)I" } : Jvm.MethodName) jdk_41_method_11_code (3 : Nat) (Option.some Jvm.ClassFile.FieldType.int)]
set_option maxRecDepth 65536 in
theorem codes_eq : words1.filter isCode = codes1 := rfl
theorem w_codes : ∀ c ∈ words1.filter isCode, c.before args0 about1 = true := by
  rw [codes_eq]
  intro c hc
  simp only [codes1, List.mem_cons, List.not_mem_nil, or_false] at hc
  rcases hc with rfl | rfl | rfl | rfl | rfl | rfl | rfl | rfl | rfl | rfl | rfl | rfl | rfl | rfl | rfl | rfl | rfl | rfl | rfl | rfl | rfl | rfl | rfl | rfl | rfl | rfl | rfl | rfl | rfl | rfl | rfl | rfl | rfl | rfl
  · exact w_c0
  · exact w_c1
  · exact w_c2
  · exact w_c3
  · exact w_c4
  · exact w_c5
  · exact w_c6
  · exact w_c7
  · exact w_c8
  · exact w_c9
  · exact w_c10
  · exact w_c11
  · exact w_c12
  · exact w_c13
  · exact w_c14
  · exact w_c15
  · exact w_c16
  · exact w_c17
  · exact w_c18
  · exact w_c19
  · exact w_c20
  · exact w_c21
  · exact w_c22
  · exact w_c23
  · exact w_c24
  · exact w_c25
  · exact w_c26
  · exact w_c27
  · exact w_c28
  · exact w_c29
  · exact w_c30
  · exact w_c31
  · exact w_c32
  · exact w_c33
set_option maxRecDepth 65536 in
theorem w_t1 : (words1.take 24).all (fun c => isCode c || c.before args0 about1) = true := by decide +kernel
set_option maxRecDepth 65536 in
theorem w_t2 : ((words1.drop 24).take 24).all (fun c => isCode c || c.before args0 about1) = true := by decide +kernel
set_option maxRecDepth 65536 in
theorem w_t3 : (((words1.drop 24).drop 24).take 24).all (fun c => isCode c || c.before args0 about1) = true := by decide +kernel
set_option maxRecDepth 65536 in
theorem w_t4 : ((((words1.drop 24).drop 24).drop 24).take 24).all (fun c => isCode c || c.before args0 about1) = true := by decide +kernel
set_option maxRecDepth 65536 in
theorem w_t5 : (((((words1.drop 24).drop 24).drop 24).drop 24).take 24).all (fun c => isCode c || c.before args0 about1) = true := by decide +kernel
set_option maxRecDepth 65536 in
theorem w_t6 : ((((((words1.drop 24).drop 24).drop 24).drop 24).drop 24).take 24).all (fun c => isCode c || c.before args0 about1) = true := by decide +kernel
set_option maxRecDepth 65536 in
theorem w_t7 : ((((((words1.drop 24).drop 24).drop 24).drop 24).drop 24).drop 24).all (fun c => isCode c || c.before args0 about1) = true := by decide +kernel
theorem w_tables : (allAtoms (Jvm.Cond.code x code maxLocals ret :: tables_1)).before args0 about1 = true := by
  rw [allAtoms_all]
  show words1.all (fun c => c.before args0 about1) = true
  refine all_split ?_ w_codes
  rw [← List.take_append_drop 24 words1, List.all_append, w_t1, ← List.take_append_drop 24 (words1.drop 24), List.all_append, w_t2, ← List.take_append_drop 24 ((words1.drop 24).drop 24), List.all_append, w_t3, ← List.take_append_drop 24 (((words1.drop 24).drop 24).drop 24), List.all_append, w_t4, ← List.take_append_drop 24 ((((words1.drop 24).drop 24).drop 24).drop 24), List.all_append, w_t5, ← List.take_append_drop 24 (((((words1.drop 24).drop 24).drop 24).drop 24).drop 24), List.all_append, w_t6, w_t7]
  rfl
set_option maxRecDepth 65536 in
theorem w_rest : rest_1_c.before args0 about1 = true := by decide +kernel
set_option maxRecDepth 65536 in
theorem w_case : (Jvm.Cond.and given_1 narrow_1).before args0 about1 = true := by decide +kernel
set_option maxRecDepth 65536 in
theorem w_consts : constsHeld consts_1 about1 := Jvm.Lit.constsHeldB_iff.mp (by decide +kernel)
theorem w_applies : (headSpec (Jvm.Cond.code x code maxLocals ret :: tables_1) room_1).applies x e0.platform about1 = true :=
  (Spec.applies_iff w_frames).mpr ⟨w_running, w_runnable, w_alone, w_named, w_hears, w_ripe, w_room, w_tables⟩
theorem atStart : AtStart classFile x code maxLocals ret World_1 tables_1 room_1 Calls_1 rest_1 Pre_1 launch0 p0 e0 about1 theMethod args0 below0 :=
  ⟨lists_1, trivial, launch0.admits_env _ _ _, launch0.least_env, fairChoices_fair.cas, fairChoices_fair.clock, w_frames, w_args, w_heap, w_applies, ⟨w_consts, trivial⟩, w_rest, w_case⟩
end start1
theorem witness_1 : WitnessClaimed_1 := ⟨start1.p0, start1.e0, start1.about1, start1.theMethod, start1.args0, start1.below0, start1.atStart⟩
end Jvm.Pilot.@@N@@
