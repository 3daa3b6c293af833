import JvmDerived
import JvmDerived.Pilot.@@N@@Statement
import JvmDerived.Pilot.@@N@@Code
set_option linter.unusedVariables false
set_option linter.unusedSimpArgs false
namespace Jvm.RoadKit
open Sem ClassFile Op Lib Jvm.Stand Jvm.Free Jvm.LawKit
section OwnKit
/-- the run from S comes to an end that P allows -/
def Gl (tb : Tables) (e : Env) (below : List Frame) (P : Outcome → State → Prop) (S : State) : Prop := ∃ s₂ o, Steps tb e below S s₂ ∧ s₂.status = .running ∧ Ended s₂ below o ∧ P o s₂
variable {tb : Tables} {p : Program} {l : Launch} {e : Env} {R : Room} {s : State} {m : MethodId} {args : Array Value} {below : List Frame} {meth : Method} {c : Code} {T : State} {locs : List Loc} {cells slots : Nat} {P : Outcome → State → Prop} {S S' : State}
theorem Gl.st (h : ∀ t, Steps tb e below S' t → Steps tb e below S t) (k : Gl tb e below P S') : Gl tb e below P S := by
  obtain ⟨s₂, o, h1, h2⟩ := k; exact ⟨s₂, o, h _ h1, h2⟩
theorem Gl.to (h : Steps tb e below S S') (k : Gl tb e below P S') : Gl tb e below P S := Gl.st (fun _ q => h.trans q) k
theorem Gl.cast {g g' : JFrame} (q : g = g') (k : Gl tb e below P (T.setTop g')) : Gl tb e below P (T.setTop g) := q ▸ k
abbrev EndN (s : State) (Q : Option Value → Heap → List Loc → Prop) (kc ks : Nat) : Outcome → State → Prop := fun o s₂ => ∃ v L, o = .returned v ∧ Q v s₂.heap L ∧ FrameEnd s o s₂ L kc ks
abbrev EndW (s : State) (Q : Option Value → Heap → List Loc → Prop) (kc ks : Nat) : Outcome → State → Prop := fun o s₂ => ∃ v L, o = .returned v ∧ Q v s₂.heap L ∧ ReturnedEndW s o s₂ L kc ks
variable {Q : Option Value → Heap → List Loc → Prop} {kc ks : Nat}
theorem Gl.fin (X : Stand p l e R s m args below meth c T locs cells slots) {v : Option Value} (hv : meth.sig.returnType = none → v = none) (hlk : meth.locks = false) (hc : cells ≤ kc) (hs : slots ≤ ks) (hQ : Q v T.heap locs)
    (k : ∀ fs, (∀ (f : JFrame) (acts : List Action), f.method = m → f.locked = none → f.entered = [] → (doReturn e (T.setTop f) acts v).1 = T.setFrames fs) → Steps p.tables e below S (T.setFrames fs)) : Gl p.tables e below (EndN s Q kc ks) S := by
  obtain ⟨fs, hr, hrun, hended, hW, hsame⟩ := X.leave hv hlk
  exact ⟨_, _, k fs hr, hrun, hended, v, locs, rfl, hQ, ⟨_, rfl⟩, hW, hsame.mono hc hs⟩
theorem Gl.finW {vm₁ : Vm} {n : Nat} (X : Stand p l e R (s.setVm vm₁) m args below meth c T locs cells slots) (hS : s.Since vm₁ n) (hn : n ≤ T.heap.size) {v : Option Value} (hv : meth.sig.returnType = none → v = none) (hlk : meth.locks = false) (hc : cells ≤ kc) (hs : slots ≤ ks) (hQ : Q v T.heap locs)
    (k : ∀ fs, (∀ (f : JFrame) (acts : List Action), f.method = m → f.locked = none → f.entered = [] → (doReturn e (T.setTop f) acts v).1 = T.setFrames fs) → Steps p.tables e below S (T.setFrames fs)) : Gl p.tables e below (EndW s Q kc ks) S := by
  obtain ⟨fs, hr, hrun, hended, h1, h2, h3, hsame⟩ := X.leaveW hS hn hv hlk
  exact ⟨_, _, k fs hr, hrun, hended, v, locs, rfl, hQ, h1, h2, h3, hsame.mono hc hs⟩
variable {pc : Nat} {Ls : Array Slot} {rest : List Value}
theorem nov {meth : Method} {t : FieldType} {v : Option Value} (h : meth.sig.returnType = some t) : meth.sig.returnType = none → v = none := fun q => by rw [h] at q; cases q
theorem narR {t : FieldType} {w : Value} (hw : w.isRef = true) (ht : t.isReference = true) : narrow t w = w := by
  rcases ref_cases hw with rfl | ⟨a, rfl⟩ <;> cases t <;> first | rfl | (simp [FieldType.isReference] at ht)
theorem fitR {t : FieldType} {w : Value} (hw : w.isRef = true) (ht : t.isReference = true) : fits t w = true := by
  rcases ref_cases hw with rfl | ⟨a, rfl⟩ <;> cases t <;> first | rfl | (simp [FieldType.isReference] at ht)
theorem refc {w : Value} (hw : w.isRef = true) : w.category = 1 := by
  rcases ref_cases hw with rfl | ⟨a, rfl⟩ <;> rfl
theorem lt_ne32 {u w : Int32} (h : u < w) : ¬ u = w := fun q => by rw [q] at h; exact Int32.lt_irrefl h
theorem lt_ne32' {u w : Int32} (h : w < u) : ¬ u = w := fun q => lt_ne32 h q.symm
theorem tri32 {u w : Int32} (h1 : ¬ u < w) (h2 : ¬ w < u) : u = w := by
  rw [Int32.lt_iff_toInt_lt] at h1 h2
  exact Int32.toInt_inj.mp (by omega)
theorem alc0 {P : Int32 → Prop} : ∀ x ∈ ([] : List Int32), P x := fun _ q => nomatch q
theorem alcS {P : Int32 → Prop} {y : Int32} {L : List Int32} (q : P y) (r : ∀ x ∈ L, P x) : ∀ x ∈ y :: L, P x := fun x z => (List.mem_cons.mp z).elim (fun u => u ▸ q) (r x)
theorem up255 (cs : List Int32) (h : ∀ c ∈ cs, ¬ c < 0 ∧ ¬ (255 : Int32) < c) : ∀ c ∈ cs, ¬ c < 0 ∧ ¬ (65535 : Int32) < c := fun c hc => ⟨(h c hc).1, fun q => (h c hc).2 (by rw [Int32.lt_iff_toInt_lt] at q ⊢; have e1 : (65535 : Int32).toInt = 65535 := rfl; have e2 : (255 : Int32).toInt = 255 := rfl; omega)⟩
theorem Gl.retN (X : Stand p l e R s m args below meth c T locs cells slots) (hx : p.tables.exec = Jvm.exec) {z : Int32} {t : FieldType} (hret : meth.sig.returnType = some t) (ht : t = .boolean ∨ t = .byte ∨ t = .char ∨ t = .short) (hd : decode c.code pc = .ok (.ireturn, 1)) (hlk : meth.locks = false) (hc : cells ≤ kc) (hs : slots ≤ ks) (hQ : Q (some (.int (nar t z))) T.heap locs) : Gl p.tables e below (EndN s Q kc ks) (T.setTop (mkF m pc Ls (.int z :: rest))) :=
  Gl.fin X (nov hret) hlk hc hs hQ fun _ hr => Jvm.RoadKit.retN X hx hret ht hd hr
theorem retIo (X : Stand p l e R s m args below meth c T locs cells slots) (hx : p.tables.exec = Jvm.exec) {z : Int32} (hret : meth.sig.returnType = some .int) (hd : decode c.code pc = .ok (.ireturn, 1)) {fs : List Frame}
    (hl : ∀ (f : JFrame) (acts : List Action), f.method = m → f.locked = none → f.entered = [] → (doReturn e (T.setTop f) acts (some (.int z))).1 = T.setFrames fs) : Steps p.tables e below (T.setTop (mkF m pc Ls (.int z :: rest))) (T.setFrames fs) :=
  retOut X hx hret rfl (Or.inl ⟨rfl, Or.inl rfl, _, rfl⟩) hd hl
theorem Gl.retI (X : Stand p l e R s m args below meth c T locs cells slots) (hx : p.tables.exec = Jvm.exec) {z : Int32} (hret : meth.sig.returnType = some .int) (hd : decode c.code pc = .ok (.ireturn, 1)) (hlk : meth.locks = false) (hc : cells ≤ kc) (hs : slots ≤ ks) (hQ : Q (some (.int z)) T.heap locs) : Gl p.tables e below (EndN s Q kc ks) (T.setTop (mkF m pc Ls (.int z :: rest))) :=
  Gl.fin X (nov hret) hlk hc hs hQ fun _ hr => retIo X hx hret hd hr
theorem Gl.retJ (X : Stand p l e R s m args below meth c T locs cells slots) (hx : p.tables.exec = Jvm.exec) {z : Int64} (hret : meth.sig.returnType = some .long) (hd : decode c.code pc = .ok (.lreturn, 1)) (hlk : meth.locks = false) (hc : cells ≤ kc) (hs : slots ≤ ks) (hQ : Q (some (.long z)) T.heap locs) : Gl p.tables e below (EndN s Q kc ks) (T.setTop (mkF m pc Ls (.long z :: rest))) :=
  Gl.fin X (nov hret) hlk hc hs hQ fun _ hr => retOut X hx hret rfl (Or.inr (Or.inl ⟨rfl, rfl, _, rfl⟩)) hd hr
theorem Gl.retA (X : Stand p l e R s m args below meth c T locs cells slots) (hx : p.tables.exec = Jvm.exec) {w : Value} {t : FieldType} (hret : meth.sig.returnType = some t) (ht : t.isReference = true) (hw : w.isRef = true) (hd : decode c.code pc = .ok (.areturn, 1)) (hlk : meth.locks = false) (hc : cells ≤ kc) (hs : slots ≤ ks) (hQ : Q (some w) T.heap locs) : Gl p.tables e below (EndN s Q kc ks) (T.setTop (mkF m pc Ls (w :: rest))) :=
  Gl.fin X (nov hret) hlk hc hs hQ fun _ hr => retOut X hx hret (narR hw ht) (Or.inr (Or.inr (Or.inr (Or.inr ⟨rfl, ht, hw⟩)))) hd hr
theorem Gl.ret0 (X : Stand p l e R s m args below meth c T locs cells slots) (hx : p.tables.exec = Jvm.exec) (hret : meth.sig.returnType = none) (hd : decode c.code pc = .ok (.return_, 1)) (hlk : meth.locks = false) (hc : cells ≤ kc) (hs : slots ≤ ks) (hQ : Q none T.heap locs) : Gl p.tables e below (EndN s Q kc ks) (T.setTop (mkF m pc Ls [])) :=
  Gl.fin X (fun _ => rfl) hlk hc hs hQ fun _ hr => X.returnOut hx hret hd hr
variable {vm₁ : Vm} {n : Nat}
theorem Gl.retNW (X : Stand p l e R (s.setVm vm₁) m args below meth c T locs cells slots) (hx : p.tables.exec = Jvm.exec) (hS : s.Since vm₁ n) (hn : n ≤ T.heap.size) {z : Int32} {t : FieldType} (hret : meth.sig.returnType = some t) (ht : t = .boolean ∨ t = .byte ∨ t = .char ∨ t = .short) (hd : decode c.code pc = .ok (.ireturn, 1)) (hlk : meth.locks = false) (hc : cells ≤ kc) (hs : slots ≤ ks) (hQ : Q (some (.int (nar t z))) T.heap locs) : Gl p.tables e below (EndW s Q kc ks) (T.setTop (mkF m pc Ls (.int z :: rest))) :=
  Gl.finW X hS hn (nov hret) hlk hc hs hQ fun _ hr => Jvm.RoadKit.retN X hx hret ht hd hr
theorem Gl.retIW (X : Stand p l e R (s.setVm vm₁) m args below meth c T locs cells slots) (hx : p.tables.exec = Jvm.exec) (hS : s.Since vm₁ n) (hn : n ≤ T.heap.size) {z : Int32} (hret : meth.sig.returnType = some .int) (hd : decode c.code pc = .ok (.ireturn, 1)) (hlk : meth.locks = false) (hc : cells ≤ kc) (hs : slots ≤ ks) (hQ : Q (some (.int z)) T.heap locs) : Gl p.tables e below (EndW s Q kc ks) (T.setTop (mkF m pc Ls (.int z :: rest))) :=
  Gl.finW X hS hn (nov hret) hlk hc hs hQ fun _ hr => retIo X hx hret hd hr
theorem Gl.retAW (X : Stand p l e R (s.setVm vm₁) m args below meth c T locs cells slots) (hx : p.tables.exec = Jvm.exec) (hS : s.Since vm₁ n) (hn : n ≤ T.heap.size) {w : Value} {t : FieldType} (hret : meth.sig.returnType = some t) (ht : t.isReference = true) (hw : w.isRef = true) (hd : decode c.code pc = .ok (.areturn, 1)) (hlk : meth.locks = false) (hc : cells ≤ kc) (hs : slots ≤ ks) (hQ : Q (some w) T.heap locs) : Gl p.tables e below (EndW s Q kc ks) (T.setTop (mkF m pc Ls (w :: rest))) :=
  Gl.finW X hS hn (nov hret) hlk hc hs hQ fun _ hr => retOut X hx hret (narR hw ht) (Or.inr (Or.inr (Or.inr (Or.inr ⟨rfl, ht, hw⟩)))) hd hr
theorem Gl.ret0W (X : Stand p l e R (s.setVm vm₁) m args below meth c T locs cells slots) (hx : p.tables.exec = Jvm.exec) (hS : s.Since vm₁ n) (hn : n ≤ T.heap.size) (hret : meth.sig.returnType = none) (hd : decode c.code pc = .ok (.return_, 1)) (hlk : meth.locks = false) (hc : cells ≤ kc) (hs : slots ≤ ks) (hQ : Q none T.heap locs) : Gl p.tables e below (EndW s Q kc ks) (T.setTop (mkF m pc Ls [])) :=
  Gl.finW X hS hn (fun _ => rfl) hlk hc hs hQ fun _ hr => X.returnOut hx hret hd hr
abbrev EndH (s : State) (Z : State) (EL : List (String × Nat)) (Q : Option Value → Heap → List Loc → Prop) (kc ks : Nat) : Outcome → State → Prop := fun o s₂ => ∃ v L, o = .returned v ∧ Q v s₂.heap L ∧ CHr Z EL s.vm s.heap s₂.vm s₂.heap ∧ ReturnedEndW s o s₂ L kc ks
variable {Z : State} {EL : List (String × Nat)}
theorem Gl.finH (X : Stand p l e R (s.setVm vm₁) m args below meth c T locs cells slots) (hS : s.Since vm₁ n) (hn : n ≤ T.heap.size) (hC : CHr Z EL s.vm s.heap T.vm T.heap) {v : Option Value} (hv : meth.sig.returnType = none → v = none) (hlk : meth.locks = false) (hc : cells ≤ kc) (hs : slots ≤ ks) (hQ : Q v T.heap locs)
    (k : ∀ fs, (∀ (f : JFrame) (acts : List Action), f.method = m → f.locked = none → f.entered = [] → (doReturn e (T.setTop f) acts v).1 = T.setFrames fs) → Steps p.tables e below S (T.setFrames fs)) : Gl p.tables e below (EndH s Z EL Q kc ks) S := by
  obtain ⟨fs, hr, hrun, hended, h1, h2, h3, hsame⟩ := X.leaveW hS hn hv hlk
  exact ⟨_, _, k fs hr, hrun, hended, v, locs, rfl, hQ, hC, h1, h2, h3, hsame.mono hc hs⟩
theorem Gl.retNH (X : Stand p l e R (s.setVm vm₁) m args below meth c T locs cells slots) (hx : p.tables.exec = Jvm.exec) (hS : s.Since vm₁ n) (hn : n ≤ T.heap.size) (hC : CHr Z EL s.vm s.heap T.vm T.heap) {z : Int32} {t : FieldType} (hret : meth.sig.returnType = some t) (ht : t = .boolean ∨ t = .byte ∨ t = .char ∨ t = .short) (hd : decode c.code pc = .ok (.ireturn, 1)) (hlk : meth.locks = false) (hc : cells ≤ kc) (hs : slots ≤ ks) (hQ : Q (some (.int (nar t z))) T.heap locs) : Gl p.tables e below (EndH s Z EL Q kc ks) (T.setTop (mkF m pc Ls (.int z :: rest))) :=
  Gl.finH X hS hn hC (nov hret) hlk hc hs hQ fun _ hr => Jvm.RoadKit.retN X hx hret ht hd hr
theorem Gl.retIH (X : Stand p l e R (s.setVm vm₁) m args below meth c T locs cells slots) (hx : p.tables.exec = Jvm.exec) (hS : s.Since vm₁ n) (hn : n ≤ T.heap.size) (hC : CHr Z EL s.vm s.heap T.vm T.heap) {z : Int32} (hret : meth.sig.returnType = some .int) (hd : decode c.code pc = .ok (.ireturn, 1)) (hlk : meth.locks = false) (hc : cells ≤ kc) (hs : slots ≤ ks) (hQ : Q (some (.int z)) T.heap locs) : Gl p.tables e below (EndH s Z EL Q kc ks) (T.setTop (mkF m pc Ls (.int z :: rest))) :=
  Gl.finH X hS hn hC (nov hret) hlk hc hs hQ fun _ hr => retIo X hx hret hd hr
theorem Gl.retAH (X : Stand p l e R (s.setVm vm₁) m args below meth c T locs cells slots) (hx : p.tables.exec = Jvm.exec) (hS : s.Since vm₁ n) (hn : n ≤ T.heap.size) (hC : CHr Z EL s.vm s.heap T.vm T.heap) {w : Value} {t : FieldType} (hret : meth.sig.returnType = some t) (ht : t.isReference = true) (hw : w.isRef = true) (hd : decode c.code pc = .ok (.areturn, 1)) (hlk : meth.locks = false) (hc : cells ≤ kc) (hs : slots ≤ ks) (hQ : Q (some w) T.heap locs) : Gl p.tables e below (EndH s Z EL Q kc ks) (T.setTop (mkF m pc Ls (w :: rest))) :=
  Gl.finH X hS hn hC (nov hret) hlk hc hs hQ fun _ hr => retOut X hx hret (narR hw ht) (Or.inr (Or.inr (Or.inr (Or.inr ⟨rfl, ht, hw⟩)))) hd hr
theorem Gl.ret0H (X : Stand p l e R (s.setVm vm₁) m args below meth c T locs cells slots) (hx : p.tables.exec = Jvm.exec) (hS : s.Since vm₁ n) (hn : n ≤ T.heap.size) (hC : CHr Z EL s.vm s.heap T.vm T.heap) (hret : meth.sig.returnType = none) (hd : decode c.code pc = .ok (.return_, 1)) (hlk : meth.locks = false) (hc : cells ≤ kc) (hs : slots ≤ ks) (hQ : Q none T.heap locs) : Gl p.tables e below (EndH s Z EL Q kc ks) (T.setTop (mkF m pc Ls [])) :=
  Gl.finH X hS hn hC (fun _ => rfl) hlk hc hs hQ fun _ hr => X.returnOut hx hret hd hr
theorem safe_nul {vm : Vm} {h : Heap} {x : Addr} (hal : Z.vm.Alike vm) (E : Exa Z h x "java/lang/String") (V : Fld Z h x "java/lang/String" "value" "[B" .null) : Safe Z EL vm h x := fun B => by
  obtain ⟨p, hp, u, a, hb, q, hqa, hS, hy⟩ := B
  obtain ⟨cS, ⟨⟨s1, s2, s3, ⟨cv, kv, iv, s4, s4'⟩, ⟨cc, kc, ic, s5, s5'⟩, s6, s7, s8, s9, s10, s11, s12, s13, s14, s15, s16⟩, hfS, hcS⟩, ⟨kS, k1, k2, k3⟩, hB, hbyt⟩ := hS
  rcases hy with rfl | rfl
  · obtain ⟨cell, cf, k, i, f, f1, f2, f3, f4, f5, f6, f7⟩ := V
    have e1 : cell = q.sC := Option.some.inj (f1.symm.trans s1)
    obtain ⟨kv', z4⟩ := ff_back (U := Wst Z vm h) hal s4
    cases f2.symm.trans z4
    rw [e1, s8] at f7
    cases f7
  · obtain ⟨cell, k, e1, e2, e3, e4, e5⟩ := E
    have e6 : cell = q.SA := Option.some.inj (e1.symm.trans s10)
    subst e6
    have hB' : Z.vm.findClass "[B" = some q.SA.cls := by rw [← hal.findClass]; exact hB
    obtain ⟨k1', a1, a2⟩ := Vm.findClass_spec e2
    obtain ⟨k2', b1, b2⟩ := Vm.findClass_spec hB'
    cases a1.symm.trans b1
    exact absurd (a2.symm.trans b2) (by decide)
/-- an object of a class whose superclass is the root is no instance of another class -/
theorem not_root {a0 : Array Value} {C O K : String} {n : Nat} (w : (Cond.superclass C O).before a0 Z = true) (wr : (Cond.noSuperclass O).before a0 Z = true) (wi : (Cond.instantiable K n).before a0 Z = true) (h1 : C ≠ K) (h2 : O ≠ K) : ∃ c t, Z.vm.findClass C = some c ∧ Z.vm.findClass K = some t ∧ Z.vm.assignable c t = false := by
  obtain ⟨t, kt, g1, g2, g3, g4, -⟩ := Cond.instantiable_spec wi
  obtain ⟨c, h0⟩ := found_sup w
  obtain ⟨p, k, kp, s1, s2, s3, s4, s5, s6, s7⟩ := Cond.superclass_spec h0 w
  obtain ⟨o, ko, o1, o2, o3, o4, o5⟩ := Cond.noSuperclass_spec wr
  have ne1 := ids_ne h0 g1 h1
  have ne2 := ids_ne o1 g1 h2
  have hi : kt.isInterface = false := by
    cases q : kt.isInterface with
    | false => rfl
    | true => rw [q] at g4; simp at g4
  have n0 : NS Z O K := ⟨o, t, o1, g1, fun fuel => by
    cases fuel with
    | zero => rfl
    | succ f => simp [Vm.isSubclassAux, ne2, o2, o3]⟩
  obtain ⟨c', t', a1, a2, n3⟩ := NS.step w n0 h1
  cases h0.symm.trans a1
  cases g1.symm.trans a2
  refine ⟨c, t, h0, g1, ?_⟩
  show Z.vm.assignableAux (255 + 1) c t = false
  simp [Vm.assignableAux, ne1, s2, g2, s5, g3, hi, Vm.isSubclass, n3]
end OwnKit
end Jvm.RoadKit
namespace Jvm.RoadKit
open Sem ClassFile Op Lib Jvm.Stand Jvm.Free Jvm.LawKit
theorem n32_int {i : Nat} (h : i < 2147483648) : (Int32.ofNat i).toInt = i := Int32.toInt_ofNat_small h
theorem n32_lt {i j : Nat} (hi : i < 2147483648) (hj : j < 2147483648) : (Int32.ofNat i < Int32.ofNat j) ↔ i < j := by
  rw [Int32.lt_iff_toInt_lt, n32_int hi, n32_int hj]; omega
theorem n32_plt {i j : Nat} (h : i < j) (hj : j < 2147483648) : Int32.ofNat i < Int32.ofNat j := (n32_lt (by omega) hj).mpr h
theorem n32_nlt {i j : Nat} (h : ¬ i < j) (hi : i < 2147483648) (hj : j < 2147483648) : ¬ (Int32.ofNat i < Int32.ofNat j) := fun q => h ((n32_lt hi hj).mp q)
theorem n32_nn {i : Nat} (hi : i < 2147483648) : ¬ (Int32.ofNat i < (0 : Int32)) := by
  rw [Int32.lt_iff_toInt_lt, n32_int hi]
  have e : (0 : Int32).toInt = 0 := rfl
  omega
theorem n32_eq {i j : Nat} (hi : i < 2147483648) (hj : j < 2147483648) : (Int32.ofNat i = Int32.ofNat j) ↔ i = j :=
  ⟨fun q => by have := congrArg Int32.toInt q; rw [n32_int hi, n32_int hj] at this; omega, fun q => q ▸ rfl⟩
theorem n32_eq0 {i : Nat} (hi : i < 2147483648) : (Int32.ofNat i = (0 : Int32)) ↔ i = 0 := n32_eq (j := 0) hi (by omega)
theorem n32_add (i j : Nat) : Int32.ofNat i + Int32.ofNat j = Int32.ofNat (i + j) := (Int32.ofNat_add i j).symm
theorem n32_inc (i : Nat) : Int32.ofNat i + (1 : Int32) = Int32.ofNat (i + 1) := n32_add i 1
theorem n32_sub {i j : Nat} (h : j ≤ i) : Int32.ofNat i - Int32.ofNat j = Int32.ofNat (i - j) := by
  have e : Int32.ofNat i = Int32.ofNat (i - j) + Int32.ofNat j := by rw [n32_add]; congr 1; omega
  rw [e, Int32.add_sub_cancel]
theorem n32_cl {i : Nat} (h : i < 2147483648) : (Int32.ofNat i).toNatClampNeg = i := by
  simp only [Int32.toNatClampNeg, n32_int h]; omega
/-- the low byte, and back -/
theorem lo_back {c : Int32} (h0 : ¬ c < 0) (h1 : ¬ (255 : Int32) < c) : c.toInt8.toInt32 &&& 255 = c := by
  rw [Int32.lt_iff_toInt_lt] at h0 h1
  have e0 : (0 : Int32).toInt = 0 := rfl
  have e1 : (255 : Int32).toInt = 255 := rfl
  obtain ⟨j, rfl⟩ : ∃ j : Fin 256, c = Int32.ofNat j.val := ⟨⟨c.toInt.toNat, by omega⟩, Int32.toInt_inj.mp (by rw [n32_int (by show c.toInt.toNat < _; omega)]; show c.toInt = ((c.toInt.toNat : Nat) : Int); omega)⟩
  exact (by decide +kernel : ∀ j : Fin 256, (Int32.ofNat j.val).toInt8.toInt32 &&& 255 = Int32.ofNat j.val) j
theorem lo_inj {c d : Int32} (h0 : ¬ c < 0) (h1 : ¬ (255 : Int32) < c) (k0 : ¬ d < 0) (k1 : ¬ (255 : Int32) < d) (e : c.toInt8.toInt32 = d.toInt8.toInt32) : c = d := by
  rw [← lo_back h0 h1, ← lo_back k0 k1, e]
theorem lo_get {cs : List Int32} {i : Nat} (hi : i < cs.length) : (((cs.map (fun c => c.toInt8.toInt32)).map Value.int).getD i (.int 0)) = .int ((cs.getD i 0).toInt8.toInt32) := by
  simp [List.getD_eq_getElem?_getD, hi]
theorem mem_get {P : Int32 → Prop} {cs : List Int32} (h : ∀ c ∈ cs, P c) {i : Nat} (hi : i < cs.length) : P (cs.getD i 0) := by
  have e : cs.getD i 0 = cs[i] := by simp [List.getD_eq_getElem?_getD, hi]
  rw [e]; exact h _ (List.getElem_mem hi)
def Rng (cs : List Int32) : Prop := ∀ c ∈ cs, ¬ c < 0 ∧ ¬ (255 : Int32) < c
theorem Rng.sub {cs : List Int32} (h : Rng cs) (x d : Nat) : Rng ((cs.drop x).take d) := fun c hc => h c (List.mem_of_mem_drop (List.mem_of_mem_take hc))
/-- the first place from i on -/
def First (q : Int32) (cs : List Int32) (i r : Nat) : Prop := i ≤ r ∧ r < cs.length ∧ cs.getD r 0 = q ∧ ∀ k, i ≤ k → k < r → ¬ cs.getD k 0 = q
def Nowhere (q : Int32) (cs : List Int32) (i : Nat) : Prop := ∀ k, i ≤ k → k < cs.length → ¬ cs.getD k 0 = q
theorem own_copied {cs : List Int32} {x d : Nat} (h : x + d ≤ cs.length) : ∀ i, ((((cs.drop x).take d).map (fun c => c.toInt8.toInt32)).map Value.int).getD i (.int 0) = ((([] ++ List.replicate d (Value.int (0 : Int32))).take 0) ++ ((List.range d).map fun i => (((cs.map (fun c => c.toInt8.toInt32)).map Value.int).getD (x + i) (.int 0))) ++ (([] ++ List.replicate d (Value.int (0 : Int32))).drop (0 + d))).getD i (.int 0) := by
  intro i
  by_cases hi : i < d
  · have hl : x + i < cs.length := by omega
    simp [List.getD_eq_getElem?_getD, hi, hl, List.getElem?_append, List.getElem?_take, List.getElem?_drop]
  · simp [List.getD_eq_getElem?_getD, hi, List.getElem?_append, List.getElem?_take, List.getElem?_drop]
end Jvm.RoadKit
namespace Jvm.RoadKit
open Sem ClassFile Op Lib Jvm.Stand Jvm.Free Jvm.LawKit
theorem first_here {q : Int32} {cs : List Int32} : First q (q :: cs) 0 0 := ⟨Nat.le_refl _, by simp, rfl, fun k _ h => absurd h (by omega)⟩
theorem first_cons {q c : Int32} {cs : List Int32} {r : Nat} (h : ¬ c = q) (F : First q cs 0 r) : First q (c :: cs) 0 (r + 1) := by
  obtain ⟨-, h2, h3, h4⟩ := F
  refine ⟨by omega, by simp; omega, h3, fun k _ hk => ?_⟩
  cases k with
  | zero => exact h
  | succ k => exact h4 k (by omega) (by omega)
theorem nowhere_nil {q : Int32} : Nowhere q [] 0 := fun k _ h => absurd h (by simp)
theorem nowhere_cons {q c : Int32} {cs : List Int32} (h : ¬ c = q) (F : Nowhere q cs 0) : Nowhere q (c :: cs) 0 := fun k _ hk => by
  cases k with
  | zero => exact h
  | succ k => exact F k (by omega) (by simpa using hk)
theorem first_no {q : Int32} {cs : List Int32} {i r : Nat} (F : First q cs i r) (N : Nowhere q cs i) : False := N r F.1 F.2.1 F.2.2.1
theorem first_uniq {q : Int32} {cs : List Int32} {i r r' : Nat} (F : First q cs i r) (G : First q cs i r') : r = r' := by
  rcases Nat.lt_trichotomy r r' with h | h | h
  · exact absurd F.2.2.1 (G.2.2.2 r F.1 h)
  · exact h
  · exact absurd G.2.2.1 (F.2.2.2 r' G.1 h)
theorem ds_len {cs ds : List Int32} {x : Nat} (h : ds = (cs.drop x).take (cs.length - x)) : ds.length = cs.length - x := by rw [h]; simp
theorem ds_get {cs ds : List Int32} {x d : Nat} (h : ds = (cs.drop x).take d) {j : Nat} (hj : j < ds.length) : ds.getD j 0 = cs.getD (x + j) 0 := by
  subst h
  have hj' : j < d ∧ x + j < cs.length := by simp at hj; omega
  simp [List.getD_eq_getElem?_getD, List.getElem?_take, List.getElem?_drop, hj'.1]
end Jvm.RoadKit
namespace Jvm.RoadKit
open Sem ClassFile Op Lib Jvm.Stand Jvm.Free Jvm.LawKit
theorem ex_first {q : Int32} {cs : List Int32} : ∀ (d i : Nat), (i + d < cs.length) → cs.getD (i + d) 0 = q → ∃ r, First q cs i r ∧ r ≤ i + d
  | 0, i, h, e => ⟨i, ⟨Nat.le_refl _, h, e, fun k h1 h2 => absurd h2 (by omega)⟩, Nat.le_refl _⟩
  | d + 1, i, h, e => by
    by_cases c : cs.getD i 0 = q
    · exact ⟨i, ⟨Nat.le_refl _, by omega, c, fun k h1 h2 => absurd h2 (by omega)⟩, by omega⟩
    · obtain ⟨r, F, hr⟩ := ex_first (q := q) (cs := cs) d (i + 1) (by omega) (by rw [show i + 1 + d = i + (d + 1) by omega]; exact e)
      exact ⟨r, ⟨by have := F.1; omega, F.2.1, F.2.2.1, fun k h1 h2 => by
        by_cases z : k = i
        · rw [z]; exact c
        · exact F.2.2.2 k (by omega) h2⟩, by omega⟩
def Chr (ch : Int32) : Prop := ¬ ch < 0 ∧ ¬ (255 : Int32) < ch
/-- no place from i to k - 1 holds q -/
def Upto (q : Int32) (cs : List Int32) (i k : Nat) : Prop := ∀ j, i ≤ j → j < k → ¬ cs.getD j 0 = q
theorem upto_0 {q : Int32} {cs : List Int32} {i : Nat} : Upto q cs i 0 := fun j _ h => absurd h (by omega)
theorem upto_lt {q : Int32} {cs : List Int32} {i k : Nat} (U : Upto q cs i k) (h : k < i) : Upto q cs i (k + 1) := fun j h1 h2 => absurd h2 (by omega)
theorem upto_ne {q : Int32} {cs : List Int32} {i k : Nat} (U : Upto q cs i k) (h : ¬ cs.getD k 0 = q) : Upto q cs i (k + 1) := fun j h1 h2 => by
  by_cases z : j = k
  · rw [z]; exact h
  · exact U j h1 (by omega)
end Jvm.RoadKit
/- laws to paste: Road.backV, Road.lenW, Road.chN, Road.codOf (cut by pick.py; bodies as the Statement names them) -/
namespace Jvm.Pilot.@@N@@
namespace StrChars
open Jvm Sem ClassFile Op Lib Jvm.Stand Jvm.Free.XT Jvm.Free.ALB Jvm.Free.JM Jvm.Free
open Jvm.Lib.Cold (StaticIs)
/-- a char array whose places are chars -/
def Ch (a : Addr) (A : Cell) (U : State) : Prop := Arr .char a A U ∧ Typed .char A
theorem Ch.mv {a : Addr} {A : Cell} {U U' : State} (h : Ch a A U) (hal : U.vm.Alike U'.vm) (hh : U'.heap = U.heap) : Ch a A U' := ⟨h.1.mv hal hh, h.2⟩
theorem Ch.keep {a : Addr} {A : Cell} {U U' : State} (h : Ch a A U) (hal : U.vm.Alike U'.vm) (hk : U'.heap[a]? = some A) : Ch a A U' := ⟨h.1.keep hal hk, h.2⟩
/-- what place i of a char[]'s cell holds -/
def cv (A : Cell) (i : Nat) : Int32 := match A.slots[i]? with | some (.int x) => x | _ => 0
theorem Ch.get {a : Addr} {A : Cell} {U : State} (h : Ch a A U) {i : Nat} (hi : i < A.slots.size) : A.slots[i]? = some (.int (cv A i)) := by
  have e := Array.getElem?_eq_getElem hi
  have f := h.2 i _ e
  unfold cv; rw [e]
  generalize A.slots[i] = v at f
  cases v <;> simp [fits] at f ⊢
/-- the byte that i2b leaves of a char -/
def lo8 (x : Int32) : Int32 := x.toInt8.toInt32
theorem fits_lo8 (y : Int32) : fits .byte (.int (lo8 y)) = true := by
  have h1 := y.toInt8.le_toInt
  have h2 := y.toInt8.toInt_lt
  simp only [lo8, fits, Bool.and_eq_true, decide_eq_true_eq, Int32.le_iff_toInt_le, Int8.toInt_toInt32, show (-128 : Int32).toInt = -128 from by decide, show (127 : Int32).toInt = 127 from by decide]
  omega
/-- A' is A but that each place j of lo .. hi - 1 holds f j -/
def Laid (A A' : Cell) (lo hi : Nat) (f : Nat → Value) : Prop := A'.cls = A.cls ∧ A'.vm = A.vm ∧ A'.slots.size = A.slots.size ∧ ∀ i, A'.slots[i]? = if lo ≤ i ∧ i < hi then some (f i) else A.slots[i]?
theorem Laid.zero (A : Cell) (lo : Nat) (f : Nat → Value) : Laid A A lo (lo + 0) f := ⟨rfl, rfl, rfl, fun i => by rw [if_neg (by omega)]⟩
theorem Laid.step {A Ak : Cell} {lo k : Nat} {f : Nat → Value} {v : Value} (h : Laid A Ak lo k f) (hlo : lo ≤ k) (hk : k < Ak.slots.size) (hv : v = f k) : Laid A (Ak.setSlot k v) lo (k + 1) f := by
  refine ⟨h.1, h.2.1, by simpa [Cell.setSlot] using h.2.2.1, fun i => ?_⟩
  by_cases e : k = i
  · subst e; rw [Cell.slots_setSlot_self v hk, if_pos (by omega), hv]
  · rw [Cell.slots_setSlot_ne v e, h.2.2.2 i]
    by_cases q : lo ≤ i ∧ i < k
    · rw [if_pos q, if_pos (by omega)]
    · rw [if_neg q, if_neg (by omega)]
def U16 : String := "java/lang/StringUTF16"
namespace Cmp5
def yN : MethodName := ⟨"java/lang/StringUTF16", "compress", "([CI[BII)I"⟩
abbrev yB : ByteArray := jdk_52_method_21_code
theorem d0 : decode yB 0 = .ok (.iconst 0, 1) := by decide +kernel
theorem d1 : decode yB 1 = .ok (.istore 5, 2) := by decide +kernel
theorem d3 : decode yB 3 = .ok (.iload 5, 2) := by decide +kernel
theorem d5 : decode yB 5 = .ok (.iload 4, 2) := by decide +kernel
theorem d7 : decode yB 7 = .ok (.if_icmp (.ge) 37, 3) := by decide +kernel
theorem d10 : decode yB 10 = .ok (.aload_n 0, 1) := by decide +kernel
theorem d11 : decode yB 11 = .ok (.iload_n 1, 1) := by decide +kernel
theorem d12 : decode yB 12 = .ok (.caload, 1) := by decide +kernel
theorem d13 : decode yB 13 = .ok (.istore 6, 2) := by decide +kernel
theorem d15 : decode yB 15 = .ok (.iload 6, 2) := by decide +kernel
theorem d17 : decode yB 17 = .ok (.sipush 255, 3) := by decide +kernel
theorem d20 : decode yB 20 = .ok (.if_icmp (.le) 6, 3) := by decide +kernel
theorem d26 : decode yB 26 = .ok (.aload_n 2, 1) := by decide +kernel
theorem d27 : decode yB 27 = .ok (.iload_n 3, 1) := by decide +kernel
theorem d28 : decode yB 28 = .ok (.iload 6, 2) := by decide +kernel
theorem d30 : decode yB 30 = .ok (.i2b, 1) := by decide +kernel
theorem d31 : decode yB 31 = .ok (.bastore, 1) := by decide +kernel
theorem d32 : decode yB 32 = .ok (.iinc 1 1, 3) := by decide +kernel
theorem d35 : decode yB 35 = .ok (.iinc 3 1, 3) := by decide +kernel
theorem d38 : decode yB 38 = .ok (.iinc 5 1, 3) := by decide +kernel
theorem d41 : decode yB 41 = .ok (.goto (-38), 3) := by decide +kernel
theorem d44 : decode yB 44 = .ok (.iload 4, 2) := by decide +kernel
theorem d46 : decode yB 46 = .ok (.ireturn, 1) := by decide +kernel
def site : List Cond := []
def tab : Cond := tabOf yN yB 7 (some .int) site
def P (b : Addr) (A : Cell) (d : Addr) (B : Cell) (o q len : Nat) (args : Array Value) (s : State) : Prop := args = #[.ref b, .int (Int32.ofNat o), .ref d, .int (Int32.ofNat q), .int (Int32.ofNat len)] ∧ Ch b A s ∧ Arr .byte d B s ∧ b ≠ d ∧ o + len ≤ A.slots.size ∧ q + len ≤ B.slots.size ∧ ∀ i, i < len → ¬ 255 < cv A (o + i)
def E (b : Addr) (A : Cell) (d : Addr) (B : Cell) (o q len : Nat) (r : Option Value) (s u : State) : Prop := r = some (.int (Int32.ofNat len)) ∧ ∃ B', Put d B' s u ∧ Laid B B' q (q + len) (fun j => Value.int (lo8 (cv A (o + (j - q)))))
/-- no char of the range above 255: len; the places written hold each char's low byte -/
theorem law (l : Launch) (b : Addr) (A : Cell) (d : Addr) (B : Cell) (o q len : Nat) : Law l yN 5 5 0 0 yB 7 (some .int) site (P b A d B o q len) (E b A d B o q len) (copyLocs d q len) 0 0 := by
  refine Law.of_walk (plainFor_of_name (by decide +kernel)) (by decide +kernel) (by decide +kernel) (by decide) (fun _ _ h => by rw [h.1]; rfl) (fun _ U U' hal hh h => ⟨h.1, h.2.1.mv hal hh, h.2.2.1.mv hal hh, h.2.2.2⟩) (fun r U U' V V' h1 hal h2 h => ⟨h.1, h.2.elim fun B' q => ⟨B', q.1.mv h1 h2, q.2⟩⟩) ?_
  intro p e s m args below meth c s₁ X0 hexec hbytes hml hret hlk hnm hown hh0 W hP
  obtain ⟨rfl, hA, hB, hne, l1, l2, hp⟩ := hP
  have c1 : Steps p.tables e below (s₁.setTop (entryFrame m #[.ref b, .int (Int32.ofNat o), .ref d, .int (Int32.ofNat q), .int (Int32.ofNat len)] 7)) (s₁.setTop (mkF m 0 #[.val (.ref b), .val (.int (Int32.ofNat o)), .val (.ref d), .val (.int (Int32.ofNat q)), .val (.int (Int32.ofNat len)), .unset, .unset] [])) := entry rfl
  have hA0 := hA.1.mv X0.warmed.alike hh0
  have hB0 := hB.mv X0.warmed.alike hh0
  have a31 := hA.1.2.2.2
  have c2 : Steps p.tables e below (s₁.setTop (entryFrame m #[.ref b, .int (Int32.ofNat o), .ref d, .int (Int32.ofNat q), .int (Int32.ofNat len)] 7)) (s₁.setTop (mkF m 3 #[.val (.ref b), .val (.int (Int32.ofNat o)), .val (.ref d), .val (.int (Int32.ofNat q)), .val (.int (Int32.ofNat len)), .val (.int 0), .unset] [])) := c1.trans (by
    refine iconstV X0.here hexec rfl 0 (hb hbytes d0) (by decide) ?_
    refine XS.istore X0.here hexec rfl (hb hbytes d1) rfl rfl ?_
    exact Steps.refl _)
  have loop : ∀ (r i : Nat), i + r = len → ∀ (z : Slot), (z = .unset ∨ ∃ w, z = .val w ∧ w.category = 1) → ∀ (Tl : State) (Bk : Cell), Stand p l e { frames := 0, locals := 0, cells := 0, slots := 0 } s m #[.ref b, .int (Int32.ofNat o), .ref d, .int (Int32.ofNat q), .int (Int32.ofNat len)] below meth c Tl ([] ++ copyLocs d q i) 0 0 → Put d Bk s₁ Tl → Laid B Bk q (q + i) (fun j => Value.int (lo8 (cv A (o + (j - q))))) →
      Steps p.tables e below (s₁.setTop (entryFrame m #[.ref b, .int (Int32.ofNat o), .ref d, .int (Int32.ofNat q), .int (Int32.ofNat len)] 7)) (Tl.setTop (mkF m 3 #[.val (.ref b), .val (.int (Int32.ofNat (o + i))), .val (.ref d), .val (.int (Int32.ofNat (q + i))), .val (.int (Int32.ofNat len)), .val (.int (Int32.ofNat i)), z] [])) → ∃ (T' : State) (B' : Cell) (z' : Slot), Stand p l e { frames := 0, locals := 0, cells := 0, slots := 0 } s m #[.ref b, .int (Int32.ofNat o), .ref d, .int (Int32.ofNat q), .int (Int32.ofNat len)] below meth c T' ([] ++ copyLocs d q len) 0 0 ∧ Put d B' s₁ T' ∧ Laid B B' q (q + len) (fun j => Value.int (lo8 (cv A (o + (j - q))))) ∧
      Steps p.tables e below (s₁.setTop (entryFrame m #[.ref b, .int (Int32.ofNat o), .ref d, .int (Int32.ofNat q), .int (Int32.ofNat len)] 7)) (T'.setTop (mkF m 3 #[.val (.ref b), .val (.int (Int32.ofNat (o + len))), .val (.ref d), .val (.int (Int32.ofNat (q + len))), .val (.int (Int32.ofNat len)), .val (.int (Int32.ofNat len)), z'] [])) := by
    intro r
    induction r with
    | zero =>
      intro i hi z hz Tl Bk Xl pl fl cl
      have hil : i = len := by omega
      rw [hil] at Xl fl cl
      exact ⟨Tl, Bk, z, Xl, pl, fl, cl⟩
    | succ r ih =>
      intro i hi z hz Tl Bk Xl pl fl cl
      have all := X0.warmed.alike.symm.trans Xl.warmed.alike
      have hAl := hA0.keep all (pl.other hne hA0.1)
      have hBk := hB0.like all pl.1 fl.1 fl.2.1 fl.2.2.1
      have hlt : q + i < Bk.slots.size := by rw [fl.2.2.1]; omega
      have c3 : Steps p.tables e below (s₁.setTop (entryFrame m #[.ref b, .int (Int32.ofNat o), .ref d, .int (Int32.ofNat q), .int (Int32.ofNat len)] 7)) (Tl.setTop (mkF m 12 #[.val (.ref b), .val (.int (Int32.ofNat (o + i))), .val (.ref d), .val (.int (Int32.ofNat (q + i))), .val (.int (Int32.ofNat len)), .val (.int (Int32.ofNat i)), z] [.int (Int32.ofNat (o + i)), .ref b])) := cl.trans (by
        refine XS.iload Xl.here hexec rfl (hb hbytes d3) rfl ?_
        refine XS.iload Xl.here hexec rfl (hb hbytes d5) rfl ?_
        refine XS.icmpNo Xl.here hexec rfl (hb hbytes d7) rfl (ii_ge_f (lt32 (by omega) (by omega))) ?_
        refine XS.aloadN Xl.here hexec rfl (hb hbytes d10) rfl rfl ?_
        refine XS.iloadN Xl.here hexec rfl (hb hbytes d11) rfl ?_
        exact Steps.refl _)
      have c4 : Steps p.tables e below (s₁.setTop (entryFrame m #[.ref b, .int (Int32.ofNat o), .ref d, .int (Int32.ofNat q), .int (Int32.ofNat len)] 7)) (Tl.setTop (mkF m 13 #[.val (.ref b), .val (.int (Int32.ofNat (o + i))), .val (.ref d), .val (.int (Int32.ofNat (q + i))), .val (.int (Int32.ofNat len)), .val (.int (Int32.ofNat i)), z] [.int (cv A (o + i))])) := c3.trans (by
        refine Xl.aget hexec hAl rfl (hA.get (i := o + i) (by omega)) rfl rfl (hb hbytes d12) ?_
        exact Steps.refl _)
      have c5 : Steps p.tables e below (s₁.setTop (entryFrame m #[.ref b, .int (Int32.ofNat o), .ref d, .int (Int32.ofNat q), .int (Int32.ofNat len)] 7)) (Tl.setTop (mkF m 15 #[.val (.ref b), .val (.int (Int32.ofNat (o + i))), .val (.ref d), .val (.int (Int32.ofNat (q + i))), .val (.int (Int32.ofNat len)), .val (.int (Int32.ofNat i)), .val (.int (cv A (o + i)))] [])) := c4.trans (by
        refine XS.istoreS Xl.here hexec rfl (hb hbytes d13) rfl rfl hz ?_
        exact Steps.refl _)
      have c6 : Steps p.tables e below (s₁.setTop (entryFrame m #[.ref b, .int (Int32.ofNat o), .ref d, .int (Int32.ofNat q), .int (Int32.ofNat len)] 7)) (Tl.setTop (mkF m 31 #[.val (.ref b), .val (.int (Int32.ofNat (o + i))), .val (.ref d), .val (.int (Int32.ofNat (q + i))), .val (.int (Int32.ofNat len)), .val (.int (Int32.ofNat i)), .val (.int (cv A (o + i)))] [.int (lo8 (cv A (o + i))), .int (Int32.ofNat (q + i)), .ref d])) := c5.trans (by
        refine XS.iload Xl.here hexec rfl (hb hbytes d15) rfl ?_
        refine sipushV Xl.here hexec rfl 255 (hb hbytes d17) (by decide) ?_
        refine XS.icmpYes Xl.here hexec rfl (pc0 := 20) rfl (hb hbytes d20) rfl (ii_le_t (hp i (by omega))) (by decide) rfl ?_
        refine XS.aloadN Xl.here hexec rfl (hb hbytes d26) rfl rfl ?_
        refine XS.iloadN Xl.here hexec rfl (hb hbytes d27) rfl ?_
        refine XS.iload Xl.here hexec rfl (hb hbytes d28) rfl ?_
        refine i2b Xl.here hexec rfl (hb hbytes d30) rfl ?_
        exact Steps.refl _)
      obtain ⟨T7, X7, p7, st7⟩ := Xl.aput hexec hBk rfl hlt rfl (fits_lo8 (cv A (o + i))) (g := (mkF m 31 #[.val (.ref b), .val (.int (Int32.ofNat (o + i))), .val (.ref d), .val (.int (Int32.ofNat (q + i))), .val (.int (Int32.ofNat len)), .val (.int (Int32.ofNat i)), .val (.int (cv A (o + i)))] [.int (lo8 (cv A (o + i))), .int (Int32.ofNat (q + i)), .ref d])) rfl (rest := []) rfl (hb hbytes d31)
      have c8 : Steps p.tables e below (s₁.setTop (entryFrame m #[.ref b, .int (Int32.ofNat o), .ref d, .int (Int32.ofNat q), .int (Int32.ofNat len)] 7)) (T7.setTop (mkF m 32 #[.val (.ref b), .val (.int (Int32.ofNat (o + i))), .val (.ref d), .val (.int (Int32.ofNat (q + i))), .val (.int (Int32.ofNat len)), .val (.int (Int32.ofNat i)), .val (.int (cv A (o + i)))] [])) := c6.trans (st7 _ (Steps.refl _))
      have c9 : Steps p.tables e below (s₁.setTop (entryFrame m #[.ref b, .int (Int32.ofNat o), .ref d, .int (Int32.ofNat q), .int (Int32.ofNat len)] 7)) (T7.setTop (mkF m 3 #[.val (.ref b), .val (.int (Int32.ofNat (o + i) + 1)), .val (.ref d), .val (.int (Int32.ofNat (q + i) + 1)), .val (.int (Int32.ofNat len)), .val (.int (Int32.ofNat i + 1)), .val (.int (cv A (o + i)))] [])) := c8.trans (by
        refine iincV X7.here hexec rfl 1 (hb hbytes d32) (by decide) rfl rfl ?_
        refine iincV X7.here hexec rfl 1 (hb hbytes d35) (by decide) rfl rfl ?_
        refine iincV X7.here hexec rfl 1 (hb hbytes d38) (by decide) rfl rfl ?_
        refine XS.goto X7.here hexec rfl (pc0 := 41) rfl (hb hbytes d41) (by decide) rfl ?_
        exact Steps.refl _)
      have c10 : Steps p.tables e below (s₁.setTop (entryFrame m #[.ref b, .int (Int32.ofNat o), .ref d, .int (Int32.ofNat q), .int (Int32.ofNat len)] 7)) (T7.setTop (mkF m 3 #[.val (.ref b), .val (.int (Int32.ofNat (o + (i + 1)))), .val (.ref d), .val (.int (Int32.ofNat (q + (i + 1)))), .val (.int (Int32.ofNat len)), .val (.int (Int32.ofNat (i + 1))), .val (.int (cv A (o + i)))] [])) := by
        have := c9
        rw [succ32, succ32, succ32] at this
        exact this
      exact ih (i + 1) (by omega) _ (Or.inr ⟨_, rfl, rfl⟩) T7 _ (by rw [copyLocs_step, ← List.append_assoc]; exact X7) (pl.trans p7) (fl.step (by omega) hlt (by simp)) c10
  obtain ⟨T9, B9, z9, X9, p9, f9, g9⟩ := loop len 0 (by omega) .unset (Or.inl rfl) s₁ B (by simpa [copyLocs] using X0) ⟨hB0.1, fun _ _ => rfl, rfl⟩ (Laid.zero _ _ _) c2
  have c11 : Steps p.tables e below (s₁.setTop (entryFrame m #[.ref b, .int (Int32.ofNat o), .ref d, .int (Int32.ofNat q), .int (Int32.ofNat len)] 7)) (T9.setTop (mkF m 46 #[.val (.ref b), .val (.int (Int32.ofNat (o + len))), .val (.ref d), .val (.int (Int32.ofNat (q + len))), .val (.int (Int32.ofNat len)), .val (.int (Int32.ofNat len)), z9] [.int (Int32.ofNat len)])) := g9.trans (by
    refine XS.iload X9.here hexec rfl (hb hbytes d3) rfl ?_
    refine XS.iload X9.here hexec rfl (hb hbytes d5) rfl ?_
    refine XS.icmpYes X9.here hexec rfl (pc0 := 7) rfl (hb hbytes d7) rfl (ii_ge_t (nlt32 (by omega) (Nat.le_refl _))) (by decide) rfl ?_
    refine XS.iload X9.here hexec rfl (hb hbytes d44) rfl ?_
    exact Steps.refl _)
  exact ⟨T9, some (.int (Int32.ofNat len)), _, _, _, X9, by simp, rfl, rfl, (fun h => by cases h), ⟨rfl, B9, p9.from hh0, f9⟩, fun fs hl => c11.trans (X9.ireturnOut hexec hret rfl (Or.inl rfl) (hb hbytes d46) hl)⟩
end Cmp5
namespace Cmp3
def yN : MethodName := ⟨"java/lang/StringUTF16", "compress", "([CII)[B"⟩
abbrev yB : ByteArray := jdk_52_method_16_code
theorem d0 : decode yB 0 = .ok (.iload_n 2, 1) := by decide +kernel
theorem d1 : decode yB 1 = .ok (.newarray .byte, 2) := by decide +kernel
theorem d3 : decode yB 3 = .ok (.astore_n 3, 1) := by decide +kernel
theorem d4 : decode yB 4 = .ok (.aload_n 0, 1) := by decide +kernel
theorem d5 : decode yB 5 = .ok (.iload_n 1, 1) := by decide +kernel
theorem d6 : decode yB 6 = .ok (.aload_n 3, 1) := by decide +kernel
theorem d7 : decode yB 7 = .ok (.iconst 0, 1) := by decide +kernel
theorem d8 : decode yB 8 = .ok (.iload_n 2, 1) := by decide +kernel
theorem d9 : decode yB 9 = .ok (.invokestatic 115, 3) := by decide +kernel
theorem d12 : decode yB 12 = .ok (.istore 4, 2) := by decide +kernel
theorem d14 : decode yB 14 = .ok (.iload 4, 2) := by decide +kernel
theorem d16 : decode yB 16 = .ok (.iload_n 2, 1) := by decide +kernel
theorem d17 : decode yB 17 = .ok (.if_icmp (.eq) 40, 3) := by decide +kernel
theorem d57 : decode yB 57 = .ok (.aload_n 3, 1) := by decide +kernel
theorem d58 : decode yB 58 = .ok (.areturn, 1) := by decide +kernel
def site : List Cond := [.arrayClass .byte, Cmp5.tab] ++ staticW U16 115 Cmp5.yN
def tab : Cond := tabOf yN yB 6 (some (.array .byte)) site
def P (b : Addr) (A : Cell) (o len : Nat) (args : Array Value) (s : State) : Prop := args = #[.ref b, .int (Int32.ofNat o), .int (Int32.ofNat len)] ∧ Ch b A s ∧ o + len ≤ A.slots.size ∧ len ≤ 536870912 ∧ ∀ i, i < len → ¬ 255 < cv A (o + i)
def E (b : Addr) (A : Cell) (o len : Nat) (r : Option Value) (s u : State) : Prop := NewArr .byte "[B" len (fun j => .int (lo8 (cv A (o + j)))) r s u ∧ u.heap.size = s.heap.size + 1
/-- no char of the range above 255: a new byte[] of their low bytes -/
theorem law (l : Launch) (b : Addr) (A : Cell) (o len : Nat) : Law l yN 3 3 1 18 yB 6 (some (.array .byte)) site (P b A o len) (E b A o len) [] 1 len := by
  refine Law.of_walk (plainFor_of_name (by decide +kernel)) (by decide +kernel) (by decide +kernel) (by decide) (fun _ _ h => by rw [h.1]; rfl) (fun _ U U' hal hh h => ⟨h.1, h.2.1.mv hal hh, h.2.2⟩) (fun r U U' V V' h1 hal h2 h => ⟨NewArr.mv r U U' V V' h1 hal h2 h.1, by rw [h1, h2]; exact h.2⟩) ?_
  intro p e s m args below meth c s₁ X0 hexec hbytes hml hret hlk hnm hown hh0 W hP
  obtain ⟨rfl, hA, l1, l2, hp⟩ := hP
  have a31 := hA.1.2.2.2
  have c1 : Steps p.tables e below (s₁.setTop (entryFrame m #[.ref b, .int (Int32.ofNat o), .int (Int32.ofNat len)] 6)) (s₁.setTop (mkF m 0 #[.val (.ref b), .val (.int (Int32.ofNat o)), .val (.int (Int32.ofNat len)), .unset, .unset, .unset] [])) := entry rfl
  have c2 : Steps p.tables e below (s₁.setTop (entryFrame m #[.ref b, .int (Int32.ofNat o), .int (Int32.ofNat len)] 6)) (s₁.setTop (mkF m 1 #[.val (.ref b), .val (.int (Int32.ofNat o)), .val (.int (Int32.ofNat len)), .unset, .unset, .unset] [.int (Int32.ofNat len)])) := c1.trans (by
    refine XS.iloadN X0.here hexec rfl (hb hbytes d0) rfl ?_
    exact Steps.refl _)
  obtain ⟨T3, B3, X3, ba3, bs3, bv3, bh3, bf3, st3⟩ := X0.anew hexec (atype := .byte) (wk W (.arrayClass .byte)) rfl (by show len * 1 ≤ _; omega) (by omega) (g := (mkF m 1 #[.val (.ref b), .val (.int (Int32.ofNat o)), .val (.int (Int32.ofNat len)), .unset, .unset, .unset] [.int (Int32.ofNat len)])) rfl (hb hbytes d1) (rest := []) rfl (Nat.le_refl _) (by show 0 + len ≤ len; omega)
  rw [hh0] at ba3 st3
  have kp3 : XT.Kept s T3 := (XT.Kept.of_eq hh0).push bh3
  have hA3 := hA.keep X3.warmed.alike (kp3 _ _ hA.1.1)
  have hne : b ≠ s.heap.size := hA.1.ne
  have c4 : Steps p.tables e below (s₁.setTop (entryFrame m #[.ref b, .int (Int32.ofNat o), .int (Int32.ofNat len)] 6)) (T3.setTop (mkF m 3 #[.val (.ref b), .val (.int (Int32.ofNat o)), .val (.int (Int32.ofNat len)), .unset, .unset, .unset] [.ref s.heap.size])) := c2.trans (st3 _ (Steps.refl _))
  have c5 : Steps p.tables e below (s₁.setTop (entryFrame m #[.ref b, .int (Int32.ofNat o), .int (Int32.ofNat len)] 6)) (T3.setTop (mkF m 9 #[.val (.ref b), .val (.int (Int32.ofNat o)), .val (.int (Int32.ofNat len)), .val (.ref s.heap.size), .unset, .unset] [.int (Int32.ofNat len), .int 0, .ref s.heap.size, .int (Int32.ofNat o), .ref b])) := c4.trans (by
    refine XS.astoreN X3.here hexec rfl (hb hbytes d3) rfl rfl rfl ?_
    refine XS.aloadN X3.here hexec rfl (hb hbytes d4) rfl rfl ?_
    refine XS.iloadN X3.here hexec rfl (hb hbytes d5) rfl ?_
    refine XS.aloadN X3.here hexec rfl (hb hbytes d6) rfl rfl ?_
    refine iconstV X3.here hexec rfl 0 (hb hbytes d7) (by decide) ?_
    refine XS.iloadN X3.here hexec rfl (hb hbytes d8) rfl ?_
    exact Steps.refl _)
  obtain ⟨v6, T6, X6, E6, g6⟩ := X3.callS hexec (Cmp5.law l b A s.heap.size B3 o 0 len) hown (wks W (staticW U16 115 Cmp5.yN)) (wk W Cmp5.tab) (W := 0) (Nat.le_of_ble_eq_true rfl) (Nat.le_of_ble_eq_true rfl) (Nat.le_refl _) (by show 0 + len + 0 ≤ len; omega) (g := (mkF m 9 #[.val (.ref b), .val (.int (Int32.ofNat o)), .val (.int (Int32.ofNat len)), .val (.ref s.heap.size), .unset, .unset] [.int (Int32.ofNat len), .int (Int32.ofNat 0), .ref s.heap.size, .int (Int32.ofNat o), .ref b])) rfl (by rw [hml]; rfl) c5 (argsL := [.ref b, .int (Int32.ofNat o), .ref s.heap.size, .int (Int32.ofNat 0), .int (Int32.ofNat len)]) (rest := []) rfl rfl (by show 2 * 0 + 0 ≤ _; decide) (hb hbytes d9) (⟨rfl, hA3, ba3, hne, l1, by rw [bs3]; simp, hp⟩)
  obtain ⟨rfl, B6, p6, f6⟩ := E6
  have c7 : Steps p.tables e below (s₁.setTop (entryFrame m #[.ref b, .int (Int32.ofNat o), .int (Int32.ofNat len)] 6)) (T6.setTop (mkF m 12 #[.val (.ref b), .val (.int (Int32.ofNat o)), .val (.int (Int32.ofNat len)), .val (.ref s.heap.size), .unset, .unset] [.int (Int32.ofNat len)])) := g6
  have c8 : Steps p.tables e below (s₁.setTop (entryFrame m #[.ref b, .int (Int32.ofNat o), .int (Int32.ofNat len)] 6)) (T6.setTop (mkF m 58 #[.val (.ref b), .val (.int (Int32.ofNat o)), .val (.int (Int32.ofNat len)), .val (.ref s.heap.size), .val (.int (Int32.ofNat len)), .unset] [.ref s.heap.size])) := c7.trans (by
    refine XS.istore X6.here hexec rfl (hb hbytes d12) rfl rfl ?_
    refine XS.iload X6.here hexec rfl (hb hbytes d14) rfl ?_
    refine XS.iloadN X6.here hexec rfl (hb hbytes d16) rfl ?_
    refine XS.icmpYes X6.here hexec rfl (pc0 := 17) rfl (hb hbytes d17) rfl (ii_eq_t rfl) (by decide) rfl ?_
    refine XS.aloadN X6.here hexec rfl (hb hbytes d57) rfl rfl ?_
    exact Steps.refl _)
  have X8 := X6.wide (L' := []) (cells' := 1) (slots' := len) (fun x hx hlt => by
    simp only [List.nil_append, copyLocs, List.mem_map, List.mem_range] at hx
    obtain ⟨i, -, rfl⟩ := hx
    exact absurd hlt (Nat.lt_irrefl _)) (Nat.le_refl _) (by omega)
  exact ⟨T6, some (.ref s.heap.size), _, _, _, X8, rfl, rfl, rfl, (fun h => by cases h), ⟨⟨rfl, B6, ba3.like (X3.warmed.alike.symm.trans X6.warmed.alike) p6.1 f6.1 f6.2.1 f6.2.2.1, f6.2.1.trans bv3, by rw [X6.warmed.alike.findClass, f6.1]; exact bf3, by rw [f6.2.2.1, bs3]; simp, fun j hj => by rw [f6.2.2.2 j, if_pos (by omega)]; rfl, kp3.put p6 (Nat.le_refl _)⟩, by rw [p6.2.2, bh3, hh0]; simp⟩, fun fs hl => c8.trans (X8.areturnOut hexec rfl hret rfl (hb hbytes d58) hl)⟩
end Cmp3
namespace CodL
def yN : MethodName := ⟨"java/lang/StringUTF16", "coderFromArrayLen", "([BI)B"⟩
abbrev yB : ByteArray := jdk_52_method_15_code
theorem d0 : decode yB 0 = .ok (.iload_n 1, 1) := by decide +kernel
theorem d1 : decode yB 1 = .ok (.aload_n 0, 1) := by decide +kernel
theorem d2 : decode yB 2 = .ok (.arraylength, 1) := by decide +kernel
theorem d3 : decode yB 3 = .ok (.isub, 1) := by decide +kernel
theorem d4 : decode yB 4 = .ok (.bipush 31, 2) := by decide +kernel
theorem d6 : decode yB 6 = .ok (.iushr, 1) := by decide +kernel
theorem d7 : decode yB 7 = .ok (.i2b, 1) := by decide +kernel
theorem d8 : decode yB 8 = .ok (.ireturn, 1) := by decide +kernel
def site : List Cond := []
def tab : Cond := tabOf yN yB 2 (some .byte) site
def P (d : Addr) (B : Cell) (args : Array Value) (s : State) : Prop := args = #[.ref d, .int (Int32.ofNat B.slots.size)] ∧ Arr .byte d B s
def E (r : Option Value) (s u : State) : Prop := XT.PureE (some (.int 0)) r s u
/-- an array as long as the number of chars: LATIN1 -/
theorem law (l : Launch) (d : Addr) (B : Cell) : Law l yN 2 2 0 0 yB 2 (some .byte) site (P d B) E [] 0 0 := by
  refine Law.of_walk (plainFor_of_name (by decide +kernel)) (by decide +kernel) (by decide +kernel) (by decide) (fun _ _ h => by rw [h.1]; rfl) (fun _ U U' hal hh h => ⟨h.1, h.2.mv hal hh⟩) (fun r U U' V V' h1 hal h2 h => XT.PureE.mv r U U' V V' h1 hal h2 h) ?_
  intro p e s m args below meth c s₁ X0 hexec hbytes hml hret hlk hnm hown hh0 W hP
  obtain ⟨rfl, hB⟩ := hP
  have hB0 := hB.mv X0.warmed.alike hh0
  have c1 : Steps p.tables e below (s₁.setTop (entryFrame m #[.ref d, .int (Int32.ofNat B.slots.size)] 2)) (s₁.setTop (mkF m 0 #[.val (.ref d), .val (.int (Int32.ofNat B.slots.size))] [])) := entry rfl
  have c2 : Steps p.tables e below (s₁.setTop (entryFrame m #[.ref d, .int (Int32.ofNat B.slots.size)] 2)) (s₁.setTop (mkF m 2 #[.val (.ref d), .val (.int (Int32.ofNat B.slots.size))] [.ref d, .int (Int32.ofNat B.slots.size)])) := c1.trans (by
    refine XS.iloadN X0.here hexec rfl (hb hbytes d0) rfl ?_
    refine XS.aloadN X0.here hexec rfl (hb hbytes d1) rfl rfl ?_
    exact Steps.refl _)
  have c3 : Steps p.tables e below (s₁.setTop (entryFrame m #[.ref d, .int (Int32.ofNat B.slots.size)] 2)) (s₁.setTop (mkF m 8 #[.val (.ref d), .val (.int (Int32.ofNat B.slots.size))] [.int (lo8 (ushr (Int32.ofNat B.slots.size - Int32.ofNat B.slots.size) 31))])) := c2.trans (by
    refine X0.alen hexec hB0 rfl rfl (hb hbytes d2) ?_
    refine XS.isub X0.here hexec rfl (hb hbytes d3) rfl ?_
    refine bipushV X0.here hexec rfl 31 (hb hbytes d4) (by decide) ?_
    refine iushr X0.here hexec rfl (hb hbytes d6) rfl ?_
    refine i2b X0.here hexec rfl (hb hbytes d7) rfl ?_
    exact Steps.refl _)
  have e0 : lo8 (ushr (Int32.ofNat B.slots.size - Int32.ofNat B.slots.size) 31) = 0 := by rw [Int32.sub_self]; decide
  rw [e0] at c3
  exact ⟨s₁, some (.int 0), _, _, _, X0, rfl, rfl, rfl, (fun h => by cases h), ⟨rfl, hh0⟩, fun fs hl => c3.trans (X0.ireturnOut hexec hret rfl (Or.inr (Or.inr (Or.inl rfl))) (hb hbytes d8) hl)⟩
end CodL
/-- the String at a is Latin-1 over a new byte[] (the heap's one new cell): the low bytes of the len chars of A from o on; every cell but a is kept -/
def Got (a : Addr) (D : Cell) (fV fC : Field) (A : Cell) (o len : Nat) (r : Option Value) (s u : State) : Prop := r = none ∧ ∃ D' V : Cell, Blank "java/lang/String" a D' u ∧ Same D D' [fV.slot, fC.slot] ∧ D'.slots[fV.slot]? = some (.ref s.heap.size) ∧ D'.slots[fC.slot]? = some (.int 0) ∧ Arr .byte s.heap.size V u ∧ V.vm = .none ∧ u.vm.findClass "[B" = some V.cls ∧ V.slots.size = len ∧ (∀ j, j < len → V.slots[j]? = some (.int (lo8 (cv A (o + j))))) ∧ (∀ (y : Addr) (c : Cell), y ≠ a → s.heap[y]? = some c → u.heap[y]? = some c) ∧ u.heap.size = s.heap.size + 1
theorem Got.mv {a : Addr} {D A : Cell} {fV fC : Field} {o len : Nat} : ∀ r (U U' V V' : State), U'.heap = U.heap → V.vm.Alike V'.vm → V'.heap = V.heap → Got a D fV fC A o len r U V → Got a D fV fC A o len r U' V' :=
  fun r U U' V V' h1 hal h2 ⟨e0, D', X, a1, a2, a3, a4, a5, a6, a7, a8, a9, a10, a11⟩ => ⟨e0, D', X, a1.mv hal h2, a2, by rw [h1]; exact a3, a4, by rw [h1]; exact a5.mv hal h2, a6, by rw [hal.findClass]; exact a7, a8, a9, by rw [h1, h2]; exact a10, by rw [h1, h2]; exact a11⟩
namespace New4
def yN : MethodName := ⟨"java/lang/String", "<init>", "([CIILjava/lang/Void;)V"⟩
abbrev yB : ByteArray := jdk_42_method_149_code
theorem d0 : decode yB 0 = .ok (.aload_n 0, 1) := by decide +kernel
theorem d1 : decode yB 1 = .ok (.invokespecial 1, 3) := by decide +kernel
theorem d4 : decode yB 4 = .ok (.iload_n 3, 1) := by decide +kernel
theorem d5 : decode yB 5 = .ok (.ifCond (.ne) 22, 3) := by decide +kernel
theorem d27 : decode yB 27 = .ok (.getstatic 38, 3) := by decide +kernel
theorem d30 : decode yB 30 = .ok (.ifCond (.eq) 28, 3) := by decide +kernel
theorem d33 : decode yB 33 = .ok (.aload_n 1, 1) := by decide +kernel
theorem d34 : decode yB 34 = .ok (.iload_n 2, 1) := by decide +kernel
theorem d35 : decode yB 35 = .ok (.iload_n 3, 1) := by decide +kernel
theorem d36 : decode yB 36 = .ok (.invokestatic 177, 3) := by decide +kernel
theorem d39 : decode yB 39 = .ok (.astore 5, 2) := by decide +kernel
theorem d41 : decode yB 41 = .ok (.aload_n 0, 1) := by decide +kernel
theorem d42 : decode yB 42 = .ok (.aload 5, 2) := by decide +kernel
theorem d44 : decode yB 44 = .ok (.iload_n 3, 1) := by decide +kernel
theorem d45 : decode yB 45 = .ok (.invokestatic 47, 3) := by decide +kernel
theorem d48 : decode yB 48 = .ok (.putfield 15, 3) := by decide +kernel
theorem d51 : decode yB 51 = .ok (.aload_n 0, 1) := by decide +kernel
theorem d52 : decode yB 52 = .ok (.aload 5, 2) := by decide +kernel
theorem d54 : decode yB 54 = .ok (.putfield 9, 3) := by decide +kernel
theorem d57 : decode yB 57 = .ok (.return_, 1) := by decide +kernel
def site : List Cond := [.fieldLink "java/lang/String" 38 "java/lang/String" "COMPACT_STRINGS" "Z", Cmp3.tab, CodL.tab, .laysFinal "java/lang/String" "java/lang/String" "value" "[B", .fieldLink "java/lang/String" 9 "java/lang/String" "value" "[B", .laysFinal "java/lang/String" "java/lang/String" "coder" "B", .fieldLink "java/lang/String" 15 "java/lang/String" "coder" "B"] ++ objW "java/lang/String" 1 ++ staticW "java/lang/String" 177 Cmp3.yN ++ staticW "java/lang/String" 47 CodL.yN
def tab : Cond := tabOf yN yB 6 none site
def P (a : Addr) (D : Cell) (fV fC : Field) (b : Addr) (A : Cell) (z : Int32) (o len : Nat) (args : Array Value) (s : State) : Prop := args = #[.ref a, .ref b, .int (Int32.ofNat o), .int (Int32.ofNat len), .null] ∧ Blank "java/lang/String" a D s ∧ Found "java/lang/String" "value" "[B" fV s ∧ Found "java/lang/String" "coder" "B" fC s ∧ Ch b A s ∧ StaticIs s "java/lang/String" "COMPACT_STRINGS" "Z" (.int z) ∧ ¬ z = 0 ∧ 0 < len ∧ o + len ≤ A.slots.size ∧ len ≤ 536870912 ∧ ∀ i, i < len → ¬ 255 < cv A (o + i)
def E (a : Addr) (D : Cell) (fV fC : Field) (A : Cell) (o len : Nat) (r : Option Value) (s u : State) : Prop := Got a D fV fC A o len r s u
/-- len > 0, no char of the range above 255: a Latin-1 String of their low bytes -/
theorem law (l : Launch) (a : Addr) (D : Cell) (fV fC : Field) (b : Addr) (A : Cell) (z : Int32) (o len : Nat) : Law l yN 5 4 2 35 yB 6 none site (P a D fV fC b A z o len) (E a D fV fC A o len) [⟨a, fC.slot⟩, ⟨a, fV.slot⟩] 1 len := by
  refine Law.of_walk (plainFor_of_name (by decide +kernel)) (by decide +kernel) (by decide +kernel) (by decide) (fun _ _ h => by rw [h.1]; rfl) (fun _ U U' hal hh h => ⟨h.1, h.2.1.mv hal hh, h.2.2.1.al hal, h.2.2.2.1.al hal, h.2.2.2.2.1.mv hal hh, h.2.2.2.2.2.1.there hal hh, h.2.2.2.2.2.2⟩) (fun r U U' V V' h1 hal h2 h => Got.mv r U U' V V' h1 hal h2 h) ?_
  intro p e s m args below meth c s₁ X0 hexec hbytes hml hret hlk hnm hown hh0 W hP
  obtain ⟨rfl, hB, f1, f2, hA, s1, hz, l0, l1, l2, hp⟩ := hP
  have a31 := hA.1.2.2.2
  have c1 : Steps p.tables e below (s₁.setTop (entryFrame m #[.ref a, .ref b, .int (Int32.ofNat o), .int (Int32.ofNat len), .null] 6)) (s₁.setTop (mkF m 0 #[.val (.ref a), .val (.ref b), .val (.int (Int32.ofNat o)), .val (.int (Int32.ofNat len)), .val .null, .unset] [])) := entry rfl
  have c2 : Steps p.tables e below (s₁.setTop (entryFrame m #[.ref a, .ref b, .int (Int32.ofNat o), .int (Int32.ofNat len), .null] 6)) (s₁.setTop (mkF m 1 #[.val (.ref a), .val (.ref b), .val (.int (Int32.ofNat o)), .val (.int (Int32.ofNat len)), .val .null, .unset] [.ref a])) := c1.trans (by
    refine XS.aloadN X0.here hexec rfl (hb hbytes d0) rfl rfl ?_
    exact Steps.refl _)
  obtain ⟨T3, X3, q3, st3⟩ := X0.oinit hexec hown (wks W (objW "java/lang/String" 1)) (g := (mkF m 1 #[.val (.ref a), .val (.ref b), .val (.int (Int32.ofNat o)), .val (.int (Int32.ofNat len)), .val .null, .unset] [.ref a])) rfl (by rw [hml]; rfl) (rest := []) rfl (hb hbytes d1) (W := 0) (by show 2 * 0 + 0 ≤ _; decide) (Nat.le_of_ble_eq_true rfl) (Nat.le_of_ble_eq_true rfl)
  have hh3 := q3.trans hh0
  have c4 : Steps p.tables e below (s₁.setTop (entryFrame m #[.ref a, .ref b, .int (Int32.ofNat o), .int (Int32.ofNat len), .null] 6)) (T3.setTop (mkF m 27 #[.val (.ref a), .val (.ref b), .val (.int (Int32.ofNat o)), .val (.int (Int32.ofNat len)), .val .null, .unset] [])) := (c2.trans (st3 _ (Steps.refl _))).trans (by
    refine XS.iloadN X3.here hexec rfl (hb hbytes d4) rfl ?_
    refine XS.ifYes X3.here hexec rfl (pc0 := 5) rfl (hb hbytes d5) rfl (i0_ne_t (nz32 (by omega) l0)) (by decide) rfl ?_
    exact Steps.refl _)
  obtain ⟨T5, X5, q5, st5⟩ := X3.sget hexec hown (wk W (.fieldLink "java/lang/String" 38 "java/lang/String" "COMPACT_STRINGS" "Z")) s1 (fun _ _ h => by rw [hh3]; exact h) (g := (mkF m 27 #[.val (.ref a), .val (.ref b), .val (.int (Int32.ofNat o)), .val (.int (Int32.ofNat len)), .val .null, .unset] [])) rfl (hb hbytes d27)
  have hh5 := q5.trans hh3
  have c6 : Steps p.tables e below (s₁.setTop (entryFrame m #[.ref a, .ref b, .int (Int32.ofNat o), .int (Int32.ofNat len), .null] 6)) (T5.setTop (mkF m 30 #[.val (.ref a), .val (.ref b), .val (.int (Int32.ofNat o)), .val (.int (Int32.ofNat len)), .val .null, .unset] [.int z])) := c4.trans (st5 _ (Steps.refl _))
  have c7 : Steps p.tables e below (s₁.setTop (entryFrame m #[.ref a, .ref b, .int (Int32.ofNat o), .int (Int32.ofNat len), .null] 6)) (T5.setTop (mkF m 36 #[.val (.ref a), .val (.ref b), .val (.int (Int32.ofNat o)), .val (.int (Int32.ofNat len)), .val .null, .unset] [.int (Int32.ofNat len), .int (Int32.ofNat o), .ref b])) := c6.trans (by
    refine XS.ifNo X5.here hexec rfl (hb hbytes d30) rfl (i0_eq_f hz) ?_
    refine XS.aloadN X5.here hexec rfl (hb hbytes d33) rfl rfl ?_
    refine XS.iloadN X5.here hexec rfl (hb hbytes d34) rfl ?_
    refine XS.iloadN X5.here hexec rfl (hb hbytes d35) rfl ?_
    exact Steps.refl _)
  obtain ⟨v8, T8, X8, E8, g8⟩ := X5.callS hexec (Cmp3.law l b A o len) hown (wks W (staticW "java/lang/String" 177 Cmp3.yN)) (wk W Cmp3.tab) (W := 0) (Nat.le_of_ble_eq_true rfl) (Nat.le_of_ble_eq_true rfl) (Nat.le_refl _) (by show 0 + len ≤ len; omega) (g := (mkF m 36 #[.val (.ref a), .val (.ref b), .val (.int (Int32.ofNat o)), .val (.int (Int32.ofNat len)), .val .null, .unset] [.int (Int32.ofNat len), .int (Int32.ofNat o), .ref b])) rfl (by rw [hml]; rfl) c7 (argsL := [.ref b, .int (Int32.ofNat o), .int (Int32.ofNat len)]) (rest := []) rfl rfl (by show 2 * 0 + 0 ≤ _; decide) (hb hbytes d36) (⟨rfl, hA.mv X5.warmed.alike hh5, l1, l2, hp⟩)
  obtain ⟨e8, z8⟩ := E8
  obtain ⟨rfl, N, n1, n2, n3, n4, n5, n6⟩ := NewArr.mv _ T5 s _ _ hh5.symm (Vm.Alike.refl _) rfl e8
  rw [hh5] at z8
  have hB1 := hB.keep X8.warmed.alike (n6 _ _ hB.1)
  have hne : s.heap.size ≠ a := (Nat.ne_of_lt (Array.getElem?_eq_some_iff.mp hB.1).1).symm
  have c9 : Steps p.tables e below (s₁.setTop (entryFrame m #[.ref a, .ref b, .int (Int32.ofNat o), .int (Int32.ofNat len), .null] 6)) (T8.setTop (mkF m 39 #[.val (.ref a), .val (.ref b), .val (.int (Int32.ofNat o)), .val (.int (Int32.ofNat len)), .val .null, .unset] [.ref s.heap.size])) := g8
  have c10 : Steps p.tables e below (s₁.setTop (entryFrame m #[.ref a, .ref b, .int (Int32.ofNat o), .int (Int32.ofNat len), .null] 6)) (T8.setTop (mkF m 45 #[.val (.ref a), .val (.ref b), .val (.int (Int32.ofNat o)), .val (.int (Int32.ofNat len)), .val .null, .val (.ref s.heap.size)] [.int (Int32.ofNat N.slots.size), .ref s.heap.size, .ref a])) := by
    have hc : Steps p.tables e below (s₁.setTop (entryFrame m #[.ref a, .ref b, .int (Int32.ofNat o), .int (Int32.ofNat len), .null] 6)) (T8.setTop (mkF m 45 #[.val (.ref a), .val (.ref b), .val (.int (Int32.ofNat o)), .val (.int (Int32.ofNat len)), .val .null, .val (.ref s.heap.size)] [.int (Int32.ofNat len), .ref s.heap.size, .ref a])) := c9.trans (by
      refine XS.astore X8.here hexec rfl (hb hbytes d39) rfl rfl rfl ?_
      refine XS.aloadN X8.here hexec rfl (hb hbytes d41) rfl rfl ?_
      refine XS.aload X8.here hexec rfl (hb hbytes d42) rfl rfl ?_
      refine XS.iloadN X8.here hexec rfl (hb hbytes d44) rfl ?_
      exact Steps.refl _)
    rw [n4]; exact hc
  obtain ⟨v11, T11, X11, E11, g11⟩ := X8.callS hexec (CodL.law l s.heap.size N) hown (wks W (staticW "java/lang/String" 47 CodL.yN)) (wk W CodL.tab) (W := 1) (Nat.le_of_ble_eq_true rfl) (Nat.le_of_ble_eq_true rfl) (Nat.le_refl _) (by show 0 + len + 0 ≤ len; omega) (g := (mkF m 45 #[.val (.ref a), .val (.ref b), .val (.int (Int32.ofNat o)), .val (.int (Int32.ofNat len)), .val .null, .val (.ref s.heap.size)] [.int (Int32.ofNat N.slots.size), .ref s.heap.size, .ref a])) rfl (by rw [hml]; rfl) c10 (argsL := [.ref s.heap.size, .int (Int32.ofNat N.slots.size)]) (rest := [.ref a]) rfl rfl (by show 2 * 0 + (1 + 0) ≤ _; decide) (hb hbytes d45) (⟨rfl, n1⟩)
  obtain ⟨rfl, q11⟩ := E11
  have hB11 := hB1.mv (X8.warmed.alike.symm.trans X11.warmed.alike) q11
  have c12 : Steps p.tables e below (s₁.setTop (entryFrame m #[.ref a, .ref b, .int (Int32.ofNat o), .int (Int32.ofNat len), .null] 6)) (T11.setTop (mkF m 48 #[.val (.ref a), .val (.ref b), .val (.int (Int32.ofNat o)), .val (.int (Int32.ofNat len)), .val .null, .val (.ref s.heap.size)] [.int 0, .ref a])) := g11
  obtain ⟨T13, X13, p13, bl13, sl13, st13⟩ := X11.finit hexec hown (wk W (.fieldLink "java/lang/String" 15 "java/lang/String" "coder" "B")) (Or.inr ⟨_, (wk W (.laysFinal "java/lang/String" "java/lang/String" "coder" "B"))⟩) (Or.inl ⟨rfl, hnm⟩) f2 (Or.inl rfl) hB11 (t := .byte) (by decide +kernel) rfl (g := (mkF m 48 #[.val (.ref a), .val (.ref b), .val (.int (Int32.ofNat o)), .val (.int (Int32.ofNat len)), .val .null, .val (.ref s.heap.size)] [.int 0, .ref a])) rfl (rest := []) rfl (hb hbytes d48)
  have c14 : Steps p.tables e below (s₁.setTop (entryFrame m #[.ref a, .ref b, .int (Int32.ofNat o), .int (Int32.ofNat len), .null] 6)) (T13.setTop (mkF m 54 #[.val (.ref a), .val (.ref b), .val (.int (Int32.ofNat o)), .val (.int (Int32.ofNat len)), .val .null, .val (.ref s.heap.size)] [.ref s.heap.size, .ref a])) := (c12.trans (st13 _ (Steps.refl _))).trans (by
    refine XS.aloadN X13.here hexec rfl (hb hbytes d51) rfl rfl ?_
    refine XS.aload X13.here hexec rfl (hb hbytes d52) rfl rfl ?_
    exact Steps.refl _)
  obtain ⟨T15, X15, p15, bl15, sl15, st15⟩ := X13.finit hexec hown (wk W (.fieldLink "java/lang/String" 9 "java/lang/String" "value" "[B")) (Or.inr ⟨_, (wk W (.laysFinal "java/lang/String" "java/lang/String" "value" "[B"))⟩) (Or.inl ⟨rfl, hnm⟩) f1 (Or.inl rfl) bl13 (t := (.array .byte)) (by decide +kernel) rfl (g := (mkF m 54 #[.val (.ref a), .val (.ref b), .val (.int (Int32.ofNat o)), .val (.int (Int32.ofNat len)), .val .null, .val (.ref s.heap.size)] [.ref s.heap.size, .ref a])) rfl (rest := []) rfl (hb hbytes d54)
  have c16 : Steps p.tables e below (s₁.setTop (entryFrame m #[.ref a, .ref b, .int (Int32.ofNat o), .int (Int32.ofNat len), .null] 6)) (T15.setTop (mkF m 57 #[.val (.ref a), .val (.ref b), .val (.int (Int32.ofNat o)), .val (.int (Int32.ofNat len)), .val .null, .val (.ref s.heap.size)] [])) := c14.trans (st15 _ (Steps.refl _))
  have ap := apart (Or.inr ⟨_, (wk W (.laysFinal "java/lang/String" "java/lang/String" "value" "[B"))⟩) (Or.inr ⟨_, (wk W (.laysFinal "java/lang/String" "java/lang/String" "coder" "B"))⟩) f1 f2 (t₁ := .array .byte) (t₂ := .byte) (by decide +kernel) (by decide +kernel) (by decide)
  have al := X8.warmed.alike.symm.trans X15.warmed.alike
  have n7 : T11.heap[s.heap.size]? = some N := by rw [q11]; exact n1.1
  exact ⟨T15, none, _, _, _, X15, by simp, rfl, by omega, (fun _ => rfl), ⟨rfl, _, N, bl15, ((Same.refl D _).set _ (by simp)).set _ (by simp), sl15, (Cell.slots_setSlot_ne _ ap).trans sl13, n1.keep al (p15.other hne (p13.other hne n7)), n2, by rw [al.findClass]; exact n3, n4, n5, fun y c h1 h2 => p15.other h1 (p13.other h1 (by rw [q11]; exact n6 y c h2)), by rw [p15.2.2, p13.2.2, q11]; exact z8⟩, fun fs hl => c16.trans (X15.returnOut hexec hret (hb hbytes d57) hl)⟩
end New4
namespace New1
def yN : MethodName := ⟨"java/lang/String", "<init>", "([C)V"⟩
abbrev yB : ByteArray := jdk_42_method_3_code
theorem d0 : decode yB 0 = .ok (.aload_n 0, 1) := by decide +kernel
theorem d1 : decode yB 1 = .ok (.aload_n 1, 1) := by decide +kernel
theorem d2 : decode yB 2 = .ok (.iconst 0, 1) := by decide +kernel
theorem d3 : decode yB 3 = .ok (.aload_n 1, 1) := by decide +kernel
theorem d4 : decode yB 4 = .ok (.arraylength, 1) := by decide +kernel
theorem d5 : decode yB 5 = .ok (.aconst_null, 1) := by decide +kernel
theorem d6 : decode yB 6 = .ok (.invokespecial 27, 3) := by decide +kernel
theorem d9 : decode yB 9 = .ok (.return_, 1) := by decide +kernel
def site : List Cond := [New4.tab] ++ initW "java/lang/String" 27 New4.yN
def tab : Cond := tabOf yN yB 2 none site
def P (a : Addr) (D : Cell) (fV fC : Field) (b : Addr) (A : Cell) (z : Int32) (args : Array Value) (s : State) : Prop := args = #[.ref a, .ref b] ∧ Blank "java/lang/String" a D s ∧ Found "java/lang/String" "value" "[B" fV s ∧ Found "java/lang/String" "coder" "B" fC s ∧ Ch b A s ∧ StaticIs s "java/lang/String" "COMPACT_STRINGS" "Z" (.int z) ∧ ¬ z = 0 ∧ 0 < A.slots.size ∧ A.slots.size ≤ 536870912 ∧ ∀ i, i < A.slots.size → ¬ 255 < cv A i
def E (a : Addr) (D : Cell) (fV fC : Field) (A : Cell) (r : Option Value) (s u : State) : Prop := Got a D fV fC A 0 A.slots.size r s u
/-- new String(chars), not empty, no char above 255: a Latin-1 String of their low bytes -/
theorem law (l : Launch) (a : Addr) (D : Cell) (fV fC : Field) (b : Addr) (A : Cell) (z : Int32) : Law l yN 2 1 3 52 yB 2 none site (P a D fV fC b A z) (E a D fV fC A) [⟨a, fC.slot⟩, ⟨a, fV.slot⟩] 1 A.slots.size := by
  refine Law.of_walk (plainFor_of_name (by decide +kernel)) (by decide +kernel) (by decide +kernel) (by decide) (fun _ _ h => by rw [h.1]; rfl) (fun _ U U' hal hh h => ⟨h.1, h.2.1.mv hal hh, h.2.2.1.al hal, h.2.2.2.1.al hal, h.2.2.2.2.1.mv hal hh, h.2.2.2.2.2.1.there hal hh, h.2.2.2.2.2.2⟩) (fun r U U' V V' h1 hal h2 h => Got.mv r U U' V V' h1 hal h2 h) ?_
  intro p e s m args below meth c s₁ X0 hexec hbytes hml hret hlk hnm hown hh0 W hP
  obtain ⟨rfl, hB, f1, f2, hA, s1, hz, l0, l2, hp⟩ := hP
  have c1 : Steps p.tables e below (s₁.setTop (entryFrame m #[.ref a, .ref b] 2)) (s₁.setTop (mkF m 0 #[.val (.ref a), .val (.ref b)] [])) := entry rfl
  have c2 : Steps p.tables e below (s₁.setTop (entryFrame m #[.ref a, .ref b] 2)) (s₁.setTop (mkF m 6 #[.val (.ref a), .val (.ref b)] [.null, .int (Int32.ofNat A.slots.size), .int 0, .ref b, .ref a])) := c1.trans (by
    refine XS.aloadN X0.here hexec rfl (hb hbytes d0) rfl rfl ?_
    refine XS.aloadN X0.here hexec rfl (hb hbytes d1) rfl rfl ?_
    refine iconstV X0.here hexec rfl 0 (hb hbytes d2) (by decide) ?_
    refine XS.aloadN X0.here hexec rfl (hb hbytes d3) rfl rfl ?_
    refine X0.alen hexec (hA.1.mv X0.warmed.alike hh0) rfl rfl (hb hbytes d4) ?_
    refine XS.aconstNull X0.here hexec rfl (hb hbytes d5) ?_
    exact Steps.refl _)
  obtain ⟨v3, T3, X3, E3, g3⟩ := X0.callN hexec (New4.law l a D fV fC b A z 0 A.slots.size) rfl hown (wks W (initW "java/lang/String" 27 New4.yN)) (W New4.tab (by simp only [site, List.mem_cons, List.mem_append, true_or, or_true])) (W := 0) (Nat.le_of_ble_eq_true rfl) (Nat.le_of_ble_eq_true rfl) (Nat.le_refl _) (by show 0 + A.slots.size ≤ A.slots.size; omega) (g := (mkF m 6 #[.val (.ref a), .val (.ref b)] [.null, .int (Int32.ofNat A.slots.size), .int (Int32.ofNat 0), .ref b, .ref a])) rfl (by rw [hml]; rfl) c2 (argsL := [.ref b, .int (Int32.ofNat 0), .int (Int32.ofNat A.slots.size), .null]) (rest := []) rfl rfl (by show 2 * 0 + 0 ≤ _; decide) (hb hbytes d6) (⟨rfl, hB.mv X0.warmed.alike hh0, f1.al X0.warmed.alike, f2.al X0.warmed.alike, hA.mv X0.warmed.alike hh0, s1.there X0.warmed.alike hh0, hz, l0, by omega, l2, fun i hi => by rw [Nat.zero_add]; exact hp i hi⟩)
  have e0 := Got.mv _ s₁ s _ _ hh0.symm (Vm.Alike.refl _) rfl E3
  obtain rfl := e0.1
  have c4 : Steps p.tables e below (s₁.setTop (entryFrame m #[.ref a, .ref b] 2)) (T3.setTop (mkF m 9 #[.val (.ref a), .val (.ref b)] [])) := g3
  exact ⟨T3, none, _, _, _, X3, by simp, rfl, by omega, (fun _ => rfl), e0, fun fs hl => c4.trans (X3.returnOut hexec hret (hb hbytes d9) hl)⟩
theorem pays {l : Launch} {R : Room} {p : Program} {e : Env} {below : List Frame} {s : State} {sargs : Array Value} {len W : Nat} (a : Addr) (D : Cell) (fV fC : Field) (b : Addr) (A : Cell) (z : Int32) (htab : tab.before sargs s = true) (hfr : 4 ≤ R.frames) (hlo : W + 65 ≤ R.locals) :
    Back l R p e below s sargs yN len W (fun A₁ a₁ => A₁.cells + 1 ≤ R.cells ∧ A₁.slots + A.slots.size ≤ R.slots ∧ P a D fV fC b A z a₁ A₁.U) (fun A₁ _ v₁ B₁ => E a D fV fC A v₁ A₁.U B₁.U ∧ B₁.locs = A₁.locs ++ [⟨a, fC.slot⟩, ⟨a, fV.slot⟩] ∧ B₁.cells = A₁.cells + 1 ∧ B₁.slots = A₁.slots + A.slots.size) :=
  (law l a D fV fC b A z).pays htab hfr (by omega)
end New1
/-- the byte, read back as charAt reads it, is the char -/
theorem lo8_mask {x : Int32} (h0 : ¬ x < 0) (h1 : ¬ 255 < x) : lo8 x &&& 255 = x := by
  have t : ∀ k : Fin 256, lo8 (Int32.ofNat k.val) &&& 255 = Int32.ofNat k.val := by decide +kernel
  rw [Int32.lt_iff_toInt_lt] at h0 h1
  have e0 : (0 : Int32).toInt = 0 := rfl
  have e1 : (255 : Int32).toInt = 255 := rfl
  obtain ⟨k, hk⟩ : ∃ k : Nat, x.toInt = k := ⟨x.toInt.toNat, by omega⟩
  have hx : x = Int32.ofNat k := Int32.toInt_inj.mp (by rw [hk, Int32.toInt_ofNat_small (by omega)])
  rw [hx]
  exact t ⟨k, by omega⟩
end StrChars
namespace StrChars.Road
open Jvm Sem ClassFile Op Lib Jvm.Stand Jvm.Free Jvm.Free.XT
open Jvm.Lib.Cold (StaticIs)
abbrev ST : String := "java/lang/String"
/-- every table word that New1's law asks, flat -/
abbrev words : List Jvm.Cond := [.code New1.yN New1.yB 2 none, .initialized ST, .methodLink ST 27 New4.yN, .instanceMethod New4.yN,
  .code New4.yN New4.yB 6 none, .fieldLink ST 38 ST "COMPACT_STRINGS" "Z", .laysFinal ST ST "value" "[B", .fieldLink ST 9 ST "value" "[B", .laysFinal ST ST "coder" "B", .fieldLink ST 15 ST "coder" "B",
  .methodLink ST 1 Lib.objectInit, .instanceMethod Lib.objectInit, .code Lib.objectInit ⟨#[0xb1]⟩ 1 none, .methodLink ST 177 Cmp3.yN, .static Cmp3.yN, .methodLink ST 47 CodL.yN, .static CodL.yN,
  .code Cmp3.yN Cmp3.yB 6 (some (.array .byte)), .initialized U16, .arrayClass .byte, .methodLink U16 115 Cmp5.yN, .static Cmp5.yN, .code Cmp5.yN Cmp5.yB 7 (some .int), .code CodL.yN CodL.yB 2 (some .byte)]
theorem tab_of {a : Array Value} {s : State} (h : ∀ w ∈ words, w.before a s = true) : New1.tab.before a s = true := by
  have h5 : Cmp5.tab.before a s = true := unparts (wk h (.code Cmp5.yN Cmp5.yB 7 (some .int))) (wks h (.initialized Cmp5.yN.cls :: Cmp5.site))
  have hc : CodL.tab.before a s = true := unparts (wk h (.code CodL.yN CodL.yB 2 (some .byte))) (wks h (.initialized CodL.yN.cls :: CodL.site))
  have q5 : ∀ w ∈ Cmp5.tab :: words, w.before a s = true := fun w hw => (List.mem_cons.mp hw).elim (fun e => e ▸ h5) (h w)
  have h3 : Cmp3.tab.before a s = true := unparts (wk q5 (.code Cmp3.yN Cmp3.yB 6 (some (.array .byte)))) (wks q5 (.initialized Cmp3.yN.cls :: Cmp3.site))
  have q3 : ∀ w ∈ Cmp3.tab :: CodL.tab :: words, w.before a s = true := fun w hw => (List.mem_cons.mp hw).elim (fun e => e ▸ h3) fun hw => (List.mem_cons.mp hw).elim (fun e => e ▸ hc) (h w)
  have h4 : New4.tab.before a s = true := unparts (wk q3 (.code New4.yN New4.yB 6 none)) (wks q3 (.initialized New4.yN.cls :: New4.site))
  have q4 : ∀ w ∈ New4.tab :: words, w.before a s = true := fun w hw => (List.mem_cons.mp hw).elim (fun e => e ▸ h4) (h w)
  exact unparts (wk q4 (.code New1.yN New1.yB 2 none)) (wks q4 (.initialized New1.yN.cls :: New1.site))
/-- the words ride from the start Z to the walk's own state -/
theorem moved {Z s : State} {a0 args : Array Value} (hZ : Z.Warmed39 s.vm) (hw : ∀ d ∈ words, d.before a0 Z = true) : ∀ d ∈ words, d.before args s = true := fun d hd => by
  have q := hw d hd
  have t : ∀ d ∈ words, d = .arrayClass .byte ∨ (d.onTables && d.keepsFace) = true := by decide +kernel
  rcases t d hd with rfl | t
  · exact RoadKit.mvA hZ q
  · exact RoadKit.mv hZ q t
/-- WHAT COMES BACK, over the tables of the start Z: h the heap at the call, h' behind it -/
def Q (Z : State) (x : Addr) (A : Cell) (h : Heap) (v : Option Value) (h' : Heap) (L : List Loc) : Prop := v = none ∧ (∀ y ∈ L, y.base = x) ∧ RoadKit.Keep h h' [x] ∧ h'.size = h.size + 1 ∧ RoadKit.Exa Z h' x ST ∧ RoadKit.Fld Z h' x ST "value" "[B" (.ref h.size) ∧ RoadKit.Fld Z h' x ST "coder" "B" (.int 0) ∧
  (∃ V : Cell, RoadKit.Arr Z h' h.size V .byte ∧ V.vm = .none ∧ Z.vm.findClass "[B" = some V.cls ∧ V.slots.size = A.slots.size ∧ ∀ j, j < A.slots.size → V.slots[j]? = some (.int (lo8 (cv A j)))) ∧
  ∀ (O n d : String) (w : Value), RoadKit.Fld Z h x O n d w → RoadKit.slotOf Z O n d ≠ RoadKit.slotOf Z ST "value" "[B" → RoadKit.slotOf Z O n d ≠ RoadKit.slotOf Z ST "coder" "B" → RoadKit.Fld Z h' x O n d w
/-- **new String(chars) AT A CALL, IN THE ROAD'S FORM**: for specialBack behind newO: x the fresh String, b the char[] with the cell A -/
theorem back {p : Program} {l : Launch} {e : Env} {R : Room} {s : State} {args : Array Value} {below : List Frame} {len W : Nat} {Z : State} {a0 : Array Value} {h : Heap} (hZ : Z.Warmed39 s.vm) (hw : ∀ d ∈ words, d.before a0 Z = true) {kI : Nat} (wi : (Jvm.Cond.instantiable ST kI).before a0 Z = true)
    {x b : Addr} {A : Cell} {z : Int32} {v0 c0 : Value} (E : RoadKit.Exa Z h x ST) (V : RoadKit.Fld Z h x ST "value" "[B" v0) (C : RoadKit.Fld Z h x ST "coder" "B" c0) (K : RoadKit.Arr Z h b A .char) (hty : Typed .char A) (S : RoadKit.Sta Z h ST "COMPACT_STRINGS" "Z" (.int z)) (hz : ¬ z = 0)
    (l0 : 0 < A.slots.size) (l2 : A.slots.size ≤ 536870912) (hp : ∀ i, i < A.slots.size → ¬ 255 < cv A i) (hfr : 4 ≤ R.frames) (hlo : W + 65 ≤ R.locals) :
    Back l R p e below s args New1.yN len W (fun P a => a = #[.ref x, .ref b] ∧ P.U.heap = h ∧ P.cells + 1 ≤ R.cells ∧ P.slots + A.slots.size ≤ R.slots)
      (fun P _ v B => ∃ L, Q Z x A h v B.U.heap L ∧ B.locs = P.locs ++ L ∧ B.cells = P.cells + 1 ∧ B.slots = P.slots + A.slots.size) := by
  intro m meth c P g ig mk a X hg hsize hdg hW hn hp'
  obtain ⟨rfl, rfl, r1, r2⟩ := hp'
  have al : Z.vm.Alike P.U.vm := hZ.alike.trans X.warmed.alike
  obtain ⟨D, cfV, kV, iV, fV, hD, gV, stV, knV, obV, asV, slV⟩ := id V
  obtain ⟨D', cfC, kC, iC, fC, hD', gC, stC, -, -, asC, slC⟩ := id C
  cases hD.symm.trans hD'
  obtain ⟨D2, kD, e1, e2, e3, e4, e5⟩ := id E
  cases hD.symm.trans e1
  obtain ⟨c2, k2, i1, i2, i3, -⟩ := Cond.instantiable_spec wi
  cases e2.symm.trans i1
  cases e3.symm.trans i2
  obtain ⟨kU, u1, u2⟩ := al.2.2 _ _ e3
  have hB : Blank ST x D P.U := ⟨hD, ⟨knV, fun q hq => by rw [hq] at obV; cases obV⟩, by rw [al.findClass]; exact e2, kU, u1, by rw [u2]; exact i3, by rw [u2]; exact e5 i3⟩
  have F1 : Found ST "value" "[B" fV P.U := ⟨SBG.found_only al ⟨cfV, kV, iV, gV⟩, stV⟩
  have F2 : Found ST "coder" "B" fC P.U := ⟨SBG.found_only al ⟨cfC, kC, iC, gC⟩, stC⟩
  have hA : Ch b A P.U := ⟨⟨K.1, State.isArrayOf_alike al K.2.1, K.2.2, by omega⟩, hty⟩
  have hS : StaticIs P.U ST "COMPACT_STRINGS" "Z" (.int z) := by
    obtain ⟨cfS, iS, kS, fS, st, cS, t1, t2, t3, t4, t5, t6, t7⟩ := S
    exact StaticIs.there (s := { Z with heap := P.U.heap }) ⟨cfS, iS, kS, fS, st, cS, t1, t2, t3, t4, t5, (fun q => by rw [q] at t6; cases t6), t7⟩ al rfl
  obtain ⟨v, B, X', ⟨⟨hv, E', V', q1, q2, q3, q4, q5, q6, q7, q8, q9, q10, q11⟩, hl, hc, hs⟩, st⟩ := New1.pays x D fV fC b A z (tab_of (moved hZ hw)) hfr hlo m meth c P g ig mk _ X hg hsize hdg hW hn ⟨r1, r2, rfl, hB, F1, F2, hA, hS, hz, l0, l2, hp⟩
  have al' : Z.vm.Alike B.U.vm := hZ.alike.trans X'.warmed.alike
  have hsz : E'.slots.size = D.slots.size := by
    obtain ⟨-, -, -, kB, w1, w2, w3⟩ := q1
    obtain ⟨kB', y1, y2⟩ := al'.2.2 _ _ e3
    rw [q2.2.1] at w1
    cases w1.symm.trans y1
    rw [w3, e5 i3, y2]
  refine ⟨v, B, X', ⟨_, ⟨hv, ?_, ⟨by omega, fun y cy hy hn' => q10 y cy (by simpa using hn') hy, fun y cy hy => ?_⟩, q11, ⟨E', _, q1.1, by rw [q2.2.1]; exact e2, by rw [q2.2.1]; exact e3, by rw [q2.1]; exact obV, fun _ => by rw [hsz]; exact e5 i3⟩,
    ⟨E', cfV, kV, iV, fV, q1.1, gV, stV, by rw [q2.1]; exact knV, by rw [q2.1]; exact obV, by rw [q2.2.1]; exact asV, q3⟩, ⟨E', cfC, kC, iC, fC, q1.1, gC, stC, by rw [q2.1]; exact knV, by rw [q2.1]; exact obV, by rw [q2.2.1]; exact asC, q4⟩,
    ⟨V', ⟨q5.1, State.isArrayOf_alike al'.symm q5.2.1, q5.2.2.1⟩, q6, by rw [← al'.findClass]; exact q7, q8, fun j hj => by have := q9 j hj; rwa [Nat.zero_add] at this⟩, fun O n d w F n1 n2 => ?_⟩, hl, hc, hs⟩, st⟩
  · intro y hy
    simp only [List.mem_cons, List.not_mem_nil, or_false] at hy
    rcases hy with rfl | rfl <;> rfl
  · by_cases q : y = x
    · subst q
      cases hD.symm.trans hy
      exact ⟨E', q1.1, q2.2.1, q2.1, hsz⟩
    · exact ⟨cy, q10 y cy q hy, rfl, rfl, rfl⟩
  · obtain ⟨D3, cf, k, i, f, g1, g2, g3, g4, g5, g6, g7⟩ := F
    cases hD.symm.trans g1
    simp only [RoadKit.slotOf, g2, gV, gC, Option.map_some, Option.getD_some] at n1 n2
    exact ⟨E', cf, k, i, f, q1.1, g2, g3, by rw [q2.1]; exact g4, by rw [q2.1]; exact g5, by rw [q2.2.1]; exact g6, by rw [q2.2.2 f.slot (by simp [n1, n2])]; exact g7⟩
end StrChars.Road
namespace StrChars.Road
open Jvm Sem ClassFile Op Lib Jvm.Stand Jvm.Free Jvm.Free.XT
/-- WHAT COMES BACK, the byte[] as a list of values -/
def QA (Z : State) (x : Addr) (zn : Int32) (cs : List Int32) (h : Heap) (v : Option Value) (h' : Heap) (L : List Loc) : Prop := v = none ∧ (∀ y ∈ L, y.base = x) ∧ RoadKit.Keep h h' [x] ∧ h'.size = h.size + 1 ∧ RoadKit.Exa Z h' x ST ∧ RoadKit.Fld Z h' x ST "value" "[B" (.ref h.size) ∧ RoadKit.Fld Z h' x ST "coder" "B" (.int 0) ∧
  (∃ kb, Z.vm.findClass "[B" = some kb ∧ RoadKit.Arv Z h' h.size kb .byte zn (cs.map fun c => .int (lo8 c)) (.int 0)) ∧
  ∀ (O n d : String) (w : Value), RoadKit.Fld Z h x O n d w → RoadKit.slotOf Z O n d ≠ RoadKit.slotOf Z ST "value" "[B" → RoadKit.slotOf Z O n d ≠ RoadKit.slotOf Z ST "coder" "B" → RoadKit.Fld Z h' x O n d w
/-- **new String(chars) AT A CALL, THE ARRAYS AS LISTS**: the char[] at b holds cs, not empty, no char above 255 -/
theorem backArv {p : Program} {l : Launch} {e : Env} {R : Room} {s : State} {args : Array Value} {below : List Frame} {len W : Nat} {Z : State} {a0 : Array Value} {h : Heap} (hZ : Z.Warmed39 s.vm) (hw : ∀ d ∈ words, d.before a0 Z = true) {kI : Nat} (wi : (Jvm.Cond.instantiable ST kI).before a0 Z = true)
    {x b : Addr} {k : ClassId} {zn z : Int32} {cs : List Int32} {dv v0 c0 : Value} (E : RoadKit.Exa Z h x ST) (V : RoadKit.Fld Z h x ST "value" "[B" v0) (C : RoadKit.Fld Z h x ST "coder" "B" c0) (K : RoadKit.Arv Z h b k .char zn (cs.map Value.int) dv) (S : RoadKit.Sta Z h ST "COMPACT_STRINGS" "Z" (.int z)) (hz : ¬ z = 0)
    (hlen : zn.toNatClampNeg = cs.length) (h0 : 0 < cs.length) (hbig : cs.length ≤ 536870912) (hall : ∀ c ∈ cs, ¬ 255 < c) (hfr : 4 ≤ R.frames) (hlo : W + 65 ≤ R.locals) :
    Back l R p e below s args New1.yN len W (fun P a => a = #[.ref x, .ref b] ∧ P.U.heap = h ∧ P.cells + 1 ≤ R.cells ∧ P.slots + cs.length ≤ R.slots)
      (fun P _ v B => ∃ L, QA Z x zn cs h v B.U.heap L ∧ B.locs = P.locs ++ L ∧ B.cells = P.cells + 1 ∧ B.slots = P.slots + cs.length) := by
  obtain ⟨A, K1, K2, K3, K4, K5, K6⟩ := K
  have e : A.slots.size = cs.length := K3.trans hlen
  have hat : ∀ (i : Nat) (hi : i < cs.length), A.slots[i]? = some (.int cs[i]) := fun i hi => by rw [K5 i (by omega)]; simp [List.getD_eq_getElem?_getD, hi]
  have hcv : ∀ (i : Nat) (hi : i < cs.length), cv A i = cs[i] := fun i hi => by unfold cv; rw [hat i hi]
  have hty : Typed .char A := fun i v hv => by
    have hi : i < A.slots.size := (Array.getElem?_eq_some_iff.mp hv).1
    have q := K5 i hi
    rw [hv] at q
    rw [Option.some.inj q]
    exact K6 i hi
  refine Back.mono (back hZ hw wi E V C K1 hty S hz (by omega) (by omega) (fun i hi => by rw [hcv i (by omega)]; exact hall _ (List.getElem_mem _)) hfr hlo) (fun P a hp => ⟨hp.1, hp.2.1, hp.2.2.1, by rw [e]; exact hp.2.2.2⟩) (fun P a v B hp hq => ?_)
  obtain ⟨L, ⟨q1, q2, q3, q4, q5, q6, q7, ⟨V', v1, v2, v3, v4, v5⟩, q9⟩, hl, hc, hs⟩ := hq
  refine ⟨L, ⟨q1, q2, q3, q4, q5, q6, q7, ⟨V'.cls, v3, V', v1, rfl, by rw [v4, e, hlen], K4, fun i hi => ?_, fun i hi => ?_⟩, q9⟩, hl, hc, by rw [hs, e]⟩
  · have hi' : i < cs.length := by omega
    rw [v5 i (by omega), hcv i hi']; simp [List.getD_eq_getElem?_getD, hi']
  · have hi' : i < cs.length := by omega
    simp only [List.getD_eq_getElem?_getD, List.getElem?_map, List.getElem?_eq_getElem hi', Option.map_some, Option.getD_some]
    exact fits_lo8 _
end StrChars.Road
namespace StrChars.Road
open Jvm Sem ClassFile Op Lib Jvm.Stand Jvm.Free Jvm.Free.XT
/-- WHAT COMES BACK, in the writer's own shape -/
def QV (Z : State) (x : Addr) (N : Int32) (bs : List Int32) (h : Heap) (n0 : Nat) (v : Option Value) (h' : Heap) (L : List Loc) : Prop := v = none ∧ RoadKit.Fr n0 L ∧ RoadKit.Keep h h' [x] ∧ RoadKit.Exa Z h' x ST ∧ RoadKit.Fld Z h' x ST "coder" "B" (.int 0) ∧
  ∃ (t : Addr) (kb : ClassId), n0 ≤ t ∧ h.size ≤ t ∧ ¬ t = x ∧ RoadKit.Fld Z h' x ST "value" "[B" (.ref t) ∧ RoadKit.Arv Z h' t kb .byte N (bs.map Value.int) (.int 0)
/-- **new String(chars) AT A CALL, FOR THE WRITER**: a char[] of n known ints, each 0 to 255 -/
theorem backV {p : Program} {l : Launch} {e : Env} {R : Room} {s : State} {args : Array Value} {below : List Frame} {len W : Nat} {Z : State} {a0 : Array Value} {h : Heap} (hZ : Z.Warmed39 s.vm) (hw : ∀ d ∈ words, d.before a0 Z = true) {kI : Nat} (wi : (Jvm.Cond.instantiable ST kI).before a0 Z = true)
    {x b : Addr} {kC : ClassId} {cs bs : List Int32} {d v0 c0 : Value} {z N : Int32} {n n0 : Nat} (hx0 : n0 ≤ x) (hh0 : n0 ≤ h.size) (E : RoadKit.Exa Z h x ST) (V : RoadKit.Fld Z h x ST "value" "[B" v0) (C : RoadKit.Fld Z h x ST "coder" "B" c0) (K : RoadKit.Arv Z h b kC .char N (cs.map Value.int) d) (S : RoadKit.Sta Z h ST "COMPACT_STRINGS" "Z" (.int z)) (hz : ¬ z = 0)
    (hn : cs.length = n) (hN : N = Int32.ofNat n) (l0 : 0 < n) (l2 : n ≤ 4000) (hp : ∀ c ∈ cs, ¬ c < 0 ∧ ¬ (255 : Int32) < c) (hb : bs = cs.map (fun c => c.toInt8.toInt32)) (hfr : 4 ≤ R.frames) (hlo : W + 65 ≤ R.locals) :
    Back l R p e below s args (⟨"java/lang/String", "<init>", "([C)V"⟩ : MethodName) len W (fun P a => a = #[.ref x, .ref b] ∧ P.U.heap = h ∧ P.cells + 1 ≤ R.cells ∧ P.slots + n ≤ R.slots)
      (fun P _ v B => ∃ L, QV Z x N bs h n0 v B.U.heap L ∧ B.locs = P.locs ++ L ∧ B.cells = P.cells + 1 ∧ B.slots = P.slots + n) := by
  subst hn hN hb
  refine Back.mono (backArv hZ hw wi E V C K S hz (n32 (by omega)) l0 (by omega) (fun c hc => (hp c hc).2) hfr hlo) (fun P a hp => hp) (fun P a v B hp hq => ?_)
  obtain ⟨L, ⟨q1, q2, q3, q4, q5, q6, q7, ⟨kb, v1, v2⟩, q9⟩, hl, hc, hs⟩ := hq
  exact ⟨L, ⟨q1, fun y hy => by rw [q2 y hy]; exact hx0, q3, q5, q7, h.size, kb, hh0, Nat.le_refl _, Nat.ne_of_gt E.lt, q6, by rw [List.map_map]; exact v2⟩, hl, hc, hs⟩
end StrChars.Road
namespace StrChars
open Jvm Sem ClassFile Op Lib Jvm.Stand Jvm.Free.XT Jvm.Free.ALB Jvm.Free.JM Jvm.Free
open Jvm.Lib.Cold (StaticIs)
def hi8 (x : Int32) : Int32 := lo8 (x >>> ((8 : Int32) &&& 31))
/-- what StringUTF16.getChar makes of two bytes -/
def pairCh (u v : Int32) : Int32 := (((u &&& 255) <<< ((0 : Int32) &&& 31)) ||| ((v &&& 255) <<< ((8 : Int32) &&& 31))).toUInt32.toUInt16.toUInt32.toInt32
theorem shr0 (c : Int32) : c >>> ((0 : Int32) &&& 31) = c := by
  have e : ((0 : Int32) &&& 31) = 0 := by decide
  rw [e]
  apply Int32.toBitVec_inj.mp
  rw [Int32.toBitVec_shiftRight]
  have e1 : ((0 : Int32).toBitVec.smod 32) = 0#32 := by decide
  rw [e1, BitVec.sshiftRight_eq']
  exact BitVec.sshiftRight_zero
theorem lo8_and (x : Int32) : (lo8 x &&& 255).toBitVec.toNat = x.toBitVec.toNat % 256 := by
  have h : (lo8 x).toBitVec = (x.toBitVec.signExtend 8).signExtend 32 := by rw [lo8, Int8.toBitVec_toInt32, Int32.toBitVec_toInt8]
  rw [Int32.toBitVec_and, BitVec.toNat_and, h]
  have e : ((x.toBitVec.signExtend 8).signExtend 32).toNat % 256 = x.toBitVec.toNat % 256 := by
    rw [BitVec.toNat_signExtend]
    have hlt := x.toBitVec.isLt
    simp only [BitVec.toNat_setWidth, BitVec.toNat_signExtend]
    split <;> split <;> omega
  rw [← e]
  exact Nat.and_two_pow_sub_one_eq_mod _ 8
theorem pair_says {c : Int32} (h0 : ¬ c < 0) (h1 : ¬ 65535 < c) : pairCh (lo8 c) (hi8 c) = c := by
  rw [Int32.lt_iff_toInt_lt] at h0 h1
  have e0 : (0 : Int32).toInt = 0 := rfl
  have e1 : (65535 : Int32).toInt = 65535 := rfl
  have hc : c.toInt = c.toBitVec.toNat := by
    have := c.toBitVec.isLt
    have e : c.toInt = c.toBitVec.toInt := rfl
    rw [e] at h0 h1
    rw [e]
    rw [BitVec.toInt_eq_toNat_cond] at h0 h1 ⊢
    split at h0 <;> split <;> omega
  have hn : c.toBitVec.toNat < 65536 := by omega
  have a1 := lo8_and c
  have a2 : (hi8 c &&& 255).toBitVec.toNat = c.toBitVec.toNat / 256 := by
    rw [hi8, lo8_and]
    have e : ((8 : Int32) &&& 31) = 8 := by decide
    rw [e, Int32.toBitVec_shiftRight]
    have e2 : ((8 : Int32).toBitVec.smod 32) = 8#32 := by decide
    rw [e2, BitVec.sshiftRight_eq', BitVec.toNat_sshiftRight_of_msb_false (by rw [BitVec.msb_eq_false_iff_two_mul_lt]; omega)]
    show c.toBitVec.toNat >>> 8 % 256 = _
    rw [Nat.shiftRight_eq_div_pow]
    omega
  unfold pairCh
  apply Int32.toBitVec_inj.mp
  apply BitVec.eq_of_toNat_eq
  have f0 : ((0 : Int32) &&& 31) = 0 := by decide
  have f8 : ((8 : Int32) &&& 31) = 8 := by decide
  rw [f0, f8]
  have g : (((lo8 c &&& 255) <<< (0 : Int32)) ||| ((hi8 c &&& 255) <<< (8 : Int32))).toBitVec.toNat = c.toBitVec.toNat := by
    rw [Int32.toBitVec_or, Int32.toBitVec_shiftLeft, Int32.toBitVec_shiftLeft]
    have s0 : ((0 : Int32).toBitVec.smod 32) = 0#32 := by decide
    have s8 : ((8 : Int32).toBitVec.smod 32) = 8#32 := by decide
    rw [s0, s8, BitVec.toNat_or]
    simp only [BitVec.shiftLeft_eq', BitVec.toNat_shiftLeft, a1, a2]
    show (c.toBitVec.toNat % 256) <<< 0 % 2 ^ 32 ||| (c.toBitVec.toNat / 256) <<< 8 % 2 ^ 32 = _
    rw [Nat.shiftLeft_zero, Nat.mod_eq_of_lt (show c.toBitVec.toNat % 256 < 2 ^ 32 by omega), Nat.mod_eq_of_lt (show (c.toBitVec.toNat / 256) <<< 8 < 2 ^ 32 by rw [Nat.shiftLeft_eq]; omega), Nat.or_comm, ← Nat.shiftLeft_add_eq_or_of_lt (by omega), Nat.shiftLeft_eq]
    omega
  show BitVec.toNat (((((lo8 c &&& 255) <<< (0 : Int32)) ||| ((hi8 c &&& 255) <<< (8 : Int32))).toBitVec.setWidth 16).setWidth 32) = _
  rw [BitVec.toNat_setWidth, BitVec.toNat_setWidth, g]
  omega
end StrChars
namespace StrChars
open Jvm Sem ClassFile Op Lib Jvm.Stand Jvm.Free.XT Jvm.Free.ALB Jvm.Free.JM Jvm.Free
open Jvm.Lib.Cold (StaticIs)
theorem shr1 {n : Nat} (h : 2 * n < 2 ^ 31) : Int32.ofNat (2 * n) >>> ((1 : Int32) &&& 31) = Int32.ofNat n := by
  have e : ((1 : Int32) &&& 31) = 1 := by decide
  rw [e]
  apply Int32.toBitVec_inj.mp
  rw [Int32.toBitVec_shiftRight]
  have e1 : ((1 : Int32).toBitVec.smod 32) = 1#32 := by decide
  have hm : (BitVec.ofNat 32 (2 * n)).toNat = 2 * n := by rw [BitVec.toNat_ofNat, Nat.mod_eq_of_lt (by omega)]
  rw [e1, BitVec.sshiftRight_eq']
  apply BitVec.eq_of_toNat_eq
  show ((BitVec.ofNat 32 (2 * n)).sshiftRight 1).toNat = (BitVec.ofNat 32 n).toNat
  rw [BitVec.toNat_sshiftRight_of_msb_false (by rw [BitVec.msb_eq_false_iff_two_mul_lt, hm]; omega), hm, BitVec.toNat_ofNat, Nat.shiftRight_eq_div_pow]
  omega
/-- charAt's cast of a byte read back -/
def chr8 (u : Int32) : Int32 := (u &&& 255).toUInt32.toUInt16.toUInt32.toInt32
theorem chr8_lo8 {c : Int32} (h0 : ¬ c < 0) (h1 : ¬ 255 < c) : chr8 (lo8 c) = c := by
  have t : ∀ k : Fin 256, (Int32.ofNat k.val).toUInt32.toUInt16.toUInt32.toInt32 = Int32.ofNat k.val := by decide +kernel
  unfold chr8
  rw [lo8_mask h0 h1]
  rw [Int32.lt_iff_toInt_lt] at h0 h1
  have e0 : (0 : Int32).toInt = 0 := rfl
  have e1 : (255 : Int32).toInt = 255 := rfl
  obtain ⟨k, hk⟩ : ∃ k : Nat, c.toInt = k := ⟨c.toInt.toNat, by omega⟩
  have hx : c = Int32.ofNat k := Int32.toInt_inj.mp (by rw [hk, Int32.toInt_ofNat_small (by omega)])
  rw [hx]
  exact t ⟨k, by omega⟩
theorem narrow_ch {c : Int32} (h0 : ¬ c < 0) (h1 : ¬ 65535 < c) : narrow .char (.int c) = .int c := by
  have q : narrow .char (.int (pairCh (lo8 c) (hi8 c))) = .int (pairCh (lo8 c) (hi8 c)) := narrow_c _
  rwa [pair_says h0 h1] at q
/-- the array's cell V codes the n chars f 0 .. f (n - 1) by the coder cd, as the JDK does: coder 1 just where some char is above 255 -/
def Cod (cd : Int32) (n : Nat) (f : Nat → Int32) (V : Cell) : Prop := (cd = 0 ∧ V.slots.size = n ∧ ∀ j, j < n → V.slots[j]? = some (.int (lo8 (f j))) ∧ ¬ 255 < f j) ∨ (cd = 1 ∧ V.slots.size = 2 * n ∧ (∀ j, j < n → V.slots[2 * j]? = some (.int (lo8 (f j))) ∧ V.slots[2 * j + 1]? = some (.int (hi8 (f j)))) ∧ ∃ j, j < n ∧ 255 < f j)
theorem Cod.cd {cd : Int32} {n : Nat} {f : Nat → Int32} {V : Cell} (h : Cod cd n f V) : cd = 0 ∨ cd = 1 := h.imp (fun q => q.1) fun q => q.1
theorem Cod.len {cd : Int32} {n : Nat} {f : Nat → Int32} {V : Cell} (h : Cod cd n f V) (hs : V.slots.size < 2 ^ 31) : Int32.ofNat V.slots.size >>> (cd &&& 31) = Int32.ofNat n := by
  rcases h with ⟨rfl, h, -⟩ | ⟨rfl, h, -⟩
  · rw [shr0, h]
  · rw [h, shr1 (by omega)]
/-- **x is a String of the n chars f 0 .. f (n - 1)**, Latin-1 or UTF-16; its array at t has the cell V -/
def Txt (x t : Addr) (V : Cell) (cd : Int32) (n : Nat) (f : Nat → Int32) (U : State) : Prop := Exact "java/lang/String" x U ∧ Has x "java/lang/String" "value" "[B" (.ref t) U ∧ Has x "java/lang/String" "coder" "B" (.int cd) U ∧ XT.Arr .byte t V U ∧ Cod cd n f V ∧ ∀ j, j < n → ¬ f j < 0 ∧ ¬ 65535 < f j
theorem Txt.mv {x t : Addr} {V : Cell} {cd : Int32} {n : Nat} {f : Nat → Int32} {U U' : State} (h : Txt x t V cd n f U) (hal : U.vm.Alike U'.vm) (hh : U'.heap = U.heap) : Txt x t V cd n f U' := ⟨h.1.mv hal hh, h.2.1.mv hal hh, h.2.2.1.mv hal hh, h.2.2.2.1.mv hal hh, h.2.2.2.2⟩
namespace Cdr
def yN : MethodName := ⟨"java/lang/String", "coder", "()B"⟩
abbrev yB : ByteArray := jdk_42_method_152_code
theorem d0 : decode yB 0 = .ok (.getstatic 38, 3) := by decide +kernel
theorem d3 : decode yB 3 = .ok (.ifCond (.eq) 10, 3) := by decide +kernel
theorem d6 : decode yB 6 = .ok (.aload_n 0, 1) := by decide +kernel
theorem d7 : decode yB 7 = .ok (.getfield 15, 3) := by decide +kernel
theorem d10 : decode yB 10 = .ok (.goto 4, 3) := by decide +kernel
theorem d14 : decode yB 14 = .ok (.ireturn, 1) := by decide +kernel
def site : List Cond := [.fieldLink "java/lang/String" 38 "java/lang/String" "COMPACT_STRINGS" "Z", .fieldLink "java/lang/String" 15 "java/lang/String" "coder" "B"]
def tab : Cond := tabOf yN yB 1 (some .byte) site
def P (x : Addr) (cd z : Int32) (args : Array Value) (s : State) : Prop := args = #[.ref x] ∧ Has x "java/lang/String" "coder" "B" (.int cd) s ∧ (cd = 0 ∨ cd = 1) ∧ StaticIs s "java/lang/String" "COMPACT_STRINGS" "Z" (.int z) ∧ ¬ z = 0
def E (cd : Int32) (r : Option Value) (s u : State) : Prop := XT.PureE (some (.int cd)) r s u
theorem law (l : Launch) (x : Addr) (cd z : Int32) : Law l yN 1 0 0 0 yB 1 (some .byte) site (P x cd z) (E cd) [] 0 0 := by
  refine Law.of_walk (plainFor_of_name (by decide +kernel)) (by decide +kernel) (by decide +kernel) (by decide) (fun _ _ h => by rw [h.1]; rfl) (fun _ U U' hal hh h => ⟨h.1, h.2.1.mv hal hh, h.2.2.1, h.2.2.2.1.there hal hh, h.2.2.2.2⟩) (fun r U U' V V' h1 hal h2 h => XT.PureE.mv r U U' V V' h1 hal h2 h) ?_
  intro p e s m args below meth c s₁ X0 hexec hbytes hml hret hlk hnm hown hh0 W hP
  obtain ⟨rfl, hx, hc, s1, hz⟩ := hP
  have c1 : Steps p.tables e below (s₁.setTop (entryFrame m #[.ref x] 1)) (s₁.setTop (mkF m 0 #[.val (.ref x)] [])) := entry rfl
  obtain ⟨T2, X2, q2, st2⟩ := X0.sget hexec hown (wk W (.fieldLink "java/lang/String" 38 "java/lang/String" "COMPACT_STRINGS" "Z")) s1 (fun _ _ h => by rw [hh0]; exact h) (g := (mkF m 0 #[.val (.ref x)] [])) rfl (hb hbytes d0)
  have hh2 := q2.trans hh0
  have c3 : Steps p.tables e below (s₁.setTop (entryFrame m #[.ref x] 1)) (T2.setTop (mkF m 7 #[.val (.ref x)] [.ref x])) := (c1.trans (st2 _ (Steps.refl _))).trans (by
    refine XS.ifNo X2.here hexec rfl (hb hbytes d3) rfl (i0_eq_f hz) ?_
    refine XS.aloadN X2.here hexec rfl (hb hbytes d6) rfl rfl ?_
    exact Steps.refl _)
  obtain ⟨T4, X4, q4, st4⟩ := X2.hget hexec hown (wk W (.fieldLink "java/lang/String" 15 "java/lang/String" "coder" "B")) (hx.mv X2.warmed.alike hh2) (g := (mkF m 7 #[.val (.ref x)] [.ref x])) rfl (rest := []) rfl (hb hbytes d7)
  have c5 : Steps p.tables e below (s₁.setTop (entryFrame m #[.ref x] 1)) (T4.setTop (mkF m 14 #[.val (.ref x)] [.int cd])) := (c3.trans (st4 _ (Steps.refl _))).trans (by
    refine XS.goto X4.here hexec rfl (pc0 := 10) rfl (hb hbytes d10) (by decide) rfl ?_
    exact Steps.refl _)
  exact ⟨T4, some (.int cd), _, _, _, X4, rfl, rfl, rfl, (fun h => by cases h), ⟨rfl, q4.trans hh2⟩, fun fs hl => c5.trans (X4.ireturnOut hexec hret (by rcases hc with rfl | rfl <;> rfl) (Or.inr (Or.inr (Or.inl rfl))) (hb hbytes d14) hl)⟩
end Cdr
namespace Len
def yN : MethodName := ⟨"java/lang/String", "length", "()I"⟩
abbrev yB : ByteArray := jdk_42_method_54_code
theorem d0 : decode yB 0 = .ok (.aload_n 0, 1) := by decide +kernel
theorem d1 : decode yB 1 = .ok (.getfield 9, 3) := by decide +kernel
theorem d4 : decode yB 4 = .ok (.arraylength, 1) := by decide +kernel
theorem d5 : decode yB 5 = .ok (.aload_n 0, 1) := by decide +kernel
theorem d6 : decode yB 6 = .ok (.invokevirtual 335, 3) := by decide +kernel
theorem d9 : decode yB 9 = .ok (.ishr, 1) := by decide +kernel
theorem d10 : decode yB 10 = .ok (.ireturn, 1) := by decide +kernel
def site : List Cond := [.fieldLink "java/lang/String" 9 "java/lang/String" "value" "[B", Cdr.tab] ++ virtW "java/lang/String" 335 "java/lang/String" Cdr.yN Cdr.yN
def tab : Cond := tabOf yN yB 1 (some .int) site
def P (x t : Addr) (V : Cell) (cd : Int32) (n : Nat) (f : Nat → Int32) (z : Int32) (args : Array Value) (s : State) : Prop := args = #[.ref x] ∧ Txt x t V cd n f s ∧ StaticIs s "java/lang/String" "COMPACT_STRINGS" "Z" (.int z) ∧ ¬ z = 0
def E (n : Nat) (r : Option Value) (s u : State) : Prop := XT.PureE (some (.int (Int32.ofNat n))) r s u
/-- length() of a String of n chars, in either coding -/
theorem law (l : Launch) (x t : Addr) (V : Cell) (cd : Int32) (n : Nat) (f : Nat → Int32) (z : Int32) : Law l yN 1 0 1 13 yB 1 (some .int) site (P x t V cd n f z) (E n) [] 0 0 := by
  refine Law.of_walk (plainFor_of_name (by decide +kernel)) (by decide +kernel) (by decide +kernel) (by decide) (fun _ _ h => by rw [h.1]; rfl) (fun _ U U' hal hh h => ⟨h.1, h.2.1.mv hal hh, h.2.2.1.there hal hh, h.2.2.2⟩) (fun r U U' V V' h1 hal h2 h => XT.PureE.mv r U U' V V' h1 hal h2 h) ?_
  intro p e s m args below meth c s₁ X0 hexec hbytes hml hret hlk hnm hown hh0 W hP
  obtain ⟨rfl, hx, s1, hz⟩ := hP
  have v31 := hx.2.2.2.1.2.2.2
  have c1 : Steps p.tables e below (s₁.setTop (entryFrame m #[.ref x] 1)) (s₁.setTop (mkF m 1 #[.val (.ref x)] [.ref x])) := Steps.trans (entry rfl) (by
    show Steps p.tables e below (s₁.setTop (mkF m 0 #[.val (.ref x)] [])) _
    refine XS.aloadN X0.here hexec rfl (hb hbytes d0) rfl rfl ?_
    exact Steps.refl _)
  obtain ⟨T2, X2, q2, st2⟩ := X0.hget hexec hown (wk W (.fieldLink "java/lang/String" 9 "java/lang/String" "value" "[B")) (hx.mv X0.warmed.alike hh0).2.1 (g := (mkF m 1 #[.val (.ref x)] [.ref x])) rfl (rest := []) rfl (hb hbytes d1)
  have hh2 := q2.trans hh0
  have hx2 := hx.mv X2.warmed.alike hh2
  have c3 : Steps p.tables e below (s₁.setTop (entryFrame m #[.ref x] 1)) (T2.setTop (mkF m 6 #[.val (.ref x)] [.ref x, .int (Int32.ofNat V.slots.size)])) := (c1.trans (st2 _ (Steps.refl _))).trans (by
    refine X2.alen hexec hx2.2.2.2.1 rfl rfl (hb hbytes d4) ?_
    refine XS.aloadN X2.here hexec rfl (hb hbytes d5) rfl rfl ?_
    exact Steps.refl _)
  obtain ⟨v4, T4, X4, E4, g4⟩ := X2.callV hexec (Cdr.law l x cd z) hown (wks W (virtW "java/lang/String" 335 "java/lang/String" Cdr.yN Cdr.yN)) rfl (by decide) (wk W Cdr.tab) (W := 1) (Nat.le_of_ble_eq_true rfl) (Nat.le_of_ble_eq_true rfl) (Nat.le_refl _) (Nat.le_refl _) (hx2.1.fc X2.warmed.alike) hx2.1.is (g := (mkF m 6 #[.val (.ref x)] [.ref x, .int (Int32.ofNat V.slots.size)])) rfl (by rw [hml]; rfl) c3 (argsL := []) (rest := [.int (Int32.ofNat V.slots.size)]) rfl rfl (by show 2 * 0 + (1 + 0) ≤ _; decide) (hb hbytes d6) (⟨rfl, hx2.2.2.1, hx.2.2.2.2.1.cd, s1.there X2.warmed.alike hh2, hz⟩)
  obtain ⟨rfl, q4⟩ := E4
  have c5 : Steps p.tables e below (s₁.setTop (entryFrame m #[.ref x] 1)) (T4.setTop (mkF m 10 #[.val (.ref x)] [.int (Int32.ofNat V.slots.size >>> (cd &&& 31))])) := Steps.trans g4 (by
    refine ishr X4.here hexec rfl (hb hbytes d9) rfl ?_
    exact Steps.refl _)
  rw [hx.2.2.2.2.1.len v31] at c5
  exact ⟨T4, some (.int (Int32.ofNat n)), _, _, _, X4, rfl, rfl, rfl, (fun h => by cases h), ⟨rfl, q4.trans hh2⟩, fun fs hl => c5.trans (X4.ireturnOut hexec hret rfl (Or.inl rfl) (hb hbytes d10) hl)⟩
theorem pays {l : Launch} {R : Room} {p : Program} {e : Env} {below : List Frame} {s : State} {sargs : Array Value} {len W : Nat} (x t : Addr) (V : Cell) (cd : Int32) (n : Nat) (f : Nat → Int32) (z : Int32) (htab : tab.before sargs s = true) (hfr : 2 ≤ R.frames) (hlo : W + 25 ≤ R.locals) :
    Back l R p e below s sargs yN len W (fun A₁ a₁ => A₁.cells + 0 ≤ R.cells ∧ A₁.slots + 0 ≤ R.slots ∧ P x t V cd n f z a₁ A₁.U) (fun A₁ _ v₁ B₁ => E n v₁ A₁.U B₁.U ∧ B₁.locs = A₁.locs ++ [] ∧ B₁.cells = A₁.cells + 0 ∧ B₁.slots = A₁.slots + 0) :=
  (law l x t V cd n f z).pays htab hfr (by omega)
end Len
namespace IsL
def yN : MethodName := ⟨"java/lang/String", "isLatin1", "()Z"⟩
abbrev yB : ByteArray := jdk_42_method_154_code
theorem d0 : decode yB 0 = .ok (.getstatic 38, 3) := by decide +kernel
theorem d3 : decode yB 3 = .ok (.ifCond (.eq) 14, 3) := by decide +kernel
theorem d6 : decode yB 6 = .ok (.aload_n 0, 1) := by decide +kernel
theorem d7 : decode yB 7 = .ok (.getfield 15, 3) := by decide +kernel
theorem d10 : decode yB 10 = .ok (.ifCond (.ne) 7, 3) := by decide +kernel
theorem d13 : decode yB 13 = .ok (.iconst 1, 1) := by decide +kernel
theorem d14 : decode yB 14 = .ok (.goto 4, 3) := by decide +kernel
theorem d17 : decode yB 17 = .ok (.iconst 0, 1) := by decide +kernel
theorem d18 : decode yB 18 = .ok (.ireturn, 1) := by decide +kernel
def site : List Cond := [.fieldLink "java/lang/String" 38 "java/lang/String" "COMPACT_STRINGS" "Z", .fieldLink "java/lang/String" 15 "java/lang/String" "coder" "B"]
def tab : Cond := tabOf yN yB 1 (some .boolean) site
def P (x : Addr) (cd z : Int32) (args : Array Value) (s : State) : Prop := args = #[.ref x] ∧ Has x "java/lang/String" "coder" "B" (.int cd) s ∧ (cd = 0 ∨ cd = 1) ∧ StaticIs s "java/lang/String" "COMPACT_STRINGS" "Z" (.int z) ∧ ¬ z = 0
def E (cd : Int32) (r : Option Value) (s u : State) : Prop := XT.PureE (some (.int (1 - cd))) r s u
theorem law (l : Launch) (x : Addr) (cd z : Int32) : Law l yN 1 0 0 0 yB 1 (some .boolean) site (P x cd z) (E cd) [] 0 0 := by
  refine Law.of_walk (plainFor_of_name (by decide +kernel)) (by decide +kernel) (by decide +kernel) (by decide) (fun _ _ h => by rw [h.1]; rfl) (fun _ U U' hal hh h => ⟨h.1, h.2.1.mv hal hh, h.2.2.1, h.2.2.2.1.there hal hh, h.2.2.2.2⟩) (fun r U U' V V' h1 hal h2 h => XT.PureE.mv r U U' V V' h1 hal h2 h) ?_
  intro p e s m args below meth c s₁ X0 hexec hbytes hml hret hlk hnm hown hh0 W hP
  obtain ⟨rfl, hx, hc, s1, hz⟩ := hP
  have c1 : Steps p.tables e below (s₁.setTop (entryFrame m #[.ref x] 1)) (s₁.setTop (mkF m 0 #[.val (.ref x)] [])) := entry rfl
  obtain ⟨T2, X2, q2, st2⟩ := X0.sget hexec hown (wk W (.fieldLink "java/lang/String" 38 "java/lang/String" "COMPACT_STRINGS" "Z")) s1 (fun _ _ h => by rw [hh0]; exact h) (g := (mkF m 0 #[.val (.ref x)] [])) rfl (hb hbytes d0)
  have hh2 := q2.trans hh0
  have c3 : Steps p.tables e below (s₁.setTop (entryFrame m #[.ref x] 1)) (T2.setTop (mkF m 7 #[.val (.ref x)] [.ref x])) := (c1.trans (st2 _ (Steps.refl _))).trans (by
    refine XS.ifNo X2.here hexec rfl (hb hbytes d3) rfl (i0_eq_f hz) ?_
    refine XS.aloadN X2.here hexec rfl (hb hbytes d6) rfl rfl ?_
    exact Steps.refl _)
  obtain ⟨T4, X4, q4, st4⟩ := X2.hget hexec hown (wk W (.fieldLink "java/lang/String" 15 "java/lang/String" "coder" "B")) (hx.mv X2.warmed.alike hh2) (g := (mkF m 7 #[.val (.ref x)] [.ref x])) rfl (rest := []) rfl (hb hbytes d7)
  have c5 : Steps p.tables e below (s₁.setTop (entryFrame m #[.ref x] 1)) (T4.setTop (mkF m 10 #[.val (.ref x)] [.int cd])) := c3.trans (st4 _ (Steps.refl _))
  have c6 : Steps p.tables e below (s₁.setTop (entryFrame m #[.ref x] 1)) (T4.setTop (mkF m 18 #[.val (.ref x)] [.int (1 - cd)])) := by
    rcases hc with rfl | rfl
    · exact c5.trans (by
        refine XS.ifNo X4.here hexec rfl (hb hbytes d10) rfl (i0_ne_f rfl) ?_
        refine iconstV X4.here hexec rfl 1 (hb hbytes d13) (by decide) ?_
        refine XS.goto X4.here hexec rfl (pc0 := 14) rfl (hb hbytes d14) (by decide) rfl ?_
        exact Steps.refl _)
    · exact c5.trans (by
        refine XS.ifYes X4.here hexec rfl (pc0 := 10) rfl (hb hbytes d10) rfl (i0_ne_t (by decide)) (by decide) rfl ?_
        refine iconstV X4.here hexec rfl 0 (hb hbytes d17) (by decide) ?_
        exact Steps.refl _)
  exact ⟨T4, some (.int (1 - cd)), _, _, _, X4, rfl, rfl, rfl, (fun h => by cases h), ⟨rfl, q4.trans hh2⟩, fun fs hl => c6.trans (X4.ireturnOut hexec hret (by rcases hc with rfl | rfl <;> rfl) (Or.inr (Or.inl rfl)) (hb hbytes d18) hl)⟩
end IsL
namespace LChA
def yN : MethodName := ⟨"java/lang/StringLatin1", "charAt", "([BI)C"⟩
abbrev yB : ByteArray := jdk_43_method_2_code
theorem d0 : decode yB 0 = .ok (.iload_n 1, 1) := by decide +kernel
theorem d1 : decode yB 1 = .ok (.aload_n 0, 1) := by decide +kernel
theorem d2 : decode yB 2 = .ok (.arraylength, 1) := by decide +kernel
theorem d3 : decode yB 3 = .ok (.invokestatic 9, 3) := by decide +kernel
theorem d6 : decode yB 6 = .ok (.aload_n 0, 1) := by decide +kernel
theorem d7 : decode yB 7 = .ok (.iload_n 1, 1) := by decide +kernel
theorem d8 : decode yB 8 = .ok (.baload, 1) := by decide +kernel
theorem d9 : decode yB 9 = .ok (.sipush 255, 3) := by decide +kernel
theorem d12 : decode yB 12 = .ok (.iand, 1) := by decide +kernel
theorem d13 : decode yB 13 = .ok (.i2c, 1) := by decide +kernel
theorem d14 : decode yB 14 = .ok (.ireturn, 1) := by decide +kernel
def site : List Cond := [JO.Str_checkIndex.tab] ++ staticW "java/lang/StringLatin1" 9 JO.Str_checkIndex.yN
def tab : Cond := tabOf yN yB 2 (some .char) site
def P (t : Addr) (V : Cell) (i : Nat) (u : Int32) (fm : Value) (args : Array Value) (s : State) : Prop := args = #[.ref t, .int (Int32.ofNat i)] ∧ XT.Arr .byte t V s ∧ V.slots[i]? = some (.int u) ∧ (StaticIs s "jdk/internal/util/Preconditions" "SIOOBE_FORMATTER" "Ljava/util/function/BiFunction;" fm ∧ fm.isRef = true)
def E (u : Int32) (r : Option Value) (s w : State) : Prop := XT.PureE (some (.int (chr8 u))) r s w
theorem law (l : Launch) (t : Addr) (V : Cell) (i : Nat) (u : Int32) (fm : Value) : Law l yN 2 2 2 27 yB 2 (some .char) site (P t V i u fm) (E u) [] 0 0 := by
  refine Law.of_walk (plainFor_of_name (by decide +kernel)) (by decide +kernel) (by decide +kernel) (by decide) (fun _ _ h => by rw [h.1]; rfl) (fun _ U U' hal hh h => ⟨h.1, h.2.1.mv hal hh, h.2.2.1, h.2.2.2.1.there hal hh, h.2.2.2.2⟩) (fun r U U' V V' h1 hal h2 h => XT.PureE.mv r U U' V V' h1 hal h2 h) ?_
  intro p e s m args below meth c s₁ X0 hexec hbytes hml hret hlk hnm hown hh0 W hP
  obtain ⟨rfl, hV, hu, s1, rf⟩ := hP
  have v31 := hV.2.2.2
  have hi : i < V.slots.size := (Array.getElem?_eq_some_iff.mp hu).1
  have c1 : Steps p.tables e below (s₁.setTop (entryFrame m #[.ref t, .int (Int32.ofNat i)] 2)) (s₁.setTop (mkF m 0 #[.val (.ref t), .val (.int (Int32.ofNat i))] [])) := entry rfl
  have c2 : Steps p.tables e below (s₁.setTop (entryFrame m #[.ref t, .int (Int32.ofNat i)] 2)) (s₁.setTop (mkF m 3 #[.val (.ref t), .val (.int (Int32.ofNat i))] [.int (Int32.ofNat V.slots.size), .int (Int32.ofNat i)])) := c1.trans (by
    refine XS.iloadN X0.here hexec rfl (hb hbytes d0) rfl ?_
    refine XS.aloadN X0.here hexec rfl (hb hbytes d1) rfl rfl ?_
    refine X0.alen hexec (hV.mv X0.warmed.alike hh0) rfl rfl (hb hbytes d2) ?_
    exact Steps.refl _)
  obtain ⟨v3, T3, X3, E3, g3⟩ := X0.callS hexec (JO.Str_checkIndex.law l (Int32.ofNat i) (Int32.ofNat V.slots.size) fm) hown (wks W (staticW "java/lang/StringLatin1" 9 JO.Str_checkIndex.yN)) (wk W JO.Str_checkIndex.tab) (W := 0) (Nat.le_of_ble_eq_true rfl) (Nat.le_of_ble_eq_true rfl) (Nat.le_refl _) (Nat.le_refl _) (g := (mkF m 3 #[.val (.ref t), .val (.int (Int32.ofNat i))] [.int (Int32.ofNat V.slots.size), .int (Int32.ofNat i)])) rfl (by rw [hml]; rfl) c2 (argsL := [.int (Int32.ofNat i), .int (Int32.ofNat V.slots.size)]) (rest := []) rfl rfl (by show 2 * 0 + 0 ≤ _; decide) (hb hbytes d3) (⟨rfl, rf, s1.there X0.warmed.alike hh0, Int32.ofNat_not_neg (by omega), lt32 v31 hi⟩)
  obtain ⟨rfl, q3⟩ := E3
  have hh3 := q3.trans hh0
  have c4 : Steps p.tables e below (s₁.setTop (entryFrame m #[.ref t, .int (Int32.ofNat i)] 2)) (T3.setTop (mkF m 14 #[.val (.ref t), .val (.int (Int32.ofNat i))] [.int (chr8 u)])) := Steps.trans g3 (by
    refine XS.aloadN X3.here hexec rfl (hb hbytes d6) rfl rfl ?_
    refine XS.iloadN X3.here hexec rfl (hb hbytes d7) rfl ?_
    refine X3.aget hexec (hV.mv X3.warmed.alike hh3) rfl hu rfl rfl (hb hbytes d8) ?_
    refine sipushV X3.here hexec rfl 255 (hb hbytes d9) (by decide) ?_
    refine XS.iand X3.here hexec rfl (hb hbytes d12) rfl ?_
    refine i2c X3.here hexec rfl (hb hbytes d13) rfl ?_
    exact Steps.refl _)
  exact ⟨T3, some (.int (chr8 u)), _, _, _, X3, rfl, rfl, rfl, (fun h => by cases h), ⟨rfl, hh3⟩, fun fs hl => c4.trans (X3.ireturnOut hexec hret (narrow_c _) (Or.inr (Or.inr (Or.inr (Or.inl rfl)))) (hb hbytes d14) hl)⟩
end LChA
end StrChars
namespace StrChars.Road
open Jvm Sem ClassFile Op Lib Jvm.Stand Jvm.Free Jvm.Free.XT
open Jvm.Lib.Cold (StaticIs)
theorem consq {a : Array Value} {s : State} {c : Jvm.Cond} {L : List Jvm.Cond} (h0 : c.before a s = true) (h : ∀ w ∈ L, w.before a s = true) : ∀ w ∈ c :: L, w.before a s = true := fun w hw => (List.mem_cons.mp hw).elim (fun e => e ▸ h0) (h w)
/-- the words of String.length(), either coding -/
abbrev wordsLen : List Jvm.Cond := [.code Len.yN Len.yB 1 (some .int), .initialized ST, .fieldLink ST 9 ST "value" "[B", .fieldLink ST 38 ST "COMPACT_STRINGS" "Z", .fieldLink ST 15 ST "coder" "B", .code Cdr.yN Cdr.yB 1 (some .byte), .methodLink ST 335 Cdr.yN, .declares Cdr.yN, .selects ST Cdr.yN Cdr.yN, .instanceMethod Cdr.yN]
theorem tabLen_of {a : Array Value} {s : State} (h : ∀ w ∈ wordsLen, w.before a s = true) : Len.tab.before a s = true := by
  have hc : Cdr.tab.before a s = true := unparts (wk h (.code Cdr.yN Cdr.yB 1 (some .byte))) (wks h (.initialized Cdr.yN.cls :: Cdr.site))
  have q := consq hc h
  exact unparts (wk q (.code Len.yN Len.yB 1 (some .int))) (wks q (.initialized Len.yN.cls :: Len.site))
theorem movedLen {Z s : State} {a0 args : Array Value} (hZ : Z.Warmed39 s.vm) (hw : ∀ d ∈ wordsLen, d.before a0 Z = true) : ∀ d ∈ wordsLen, d.before args s = true := fun d hd => by
  have q := hw d hd
  have t : ∀ d ∈ wordsLen, d = .arrayClass .byte ∨ (d.onTables && d.keepsFace) = true := by decide +kernel
  rcases t d hd with rfl | t
  · exact RoadKit.mvA hZ q
  · exact RoadKit.mv hZ q t
/-- the bytes of the chars cs, low before high -/
def wideBytes : List Int32 → List Value
  | [] => []
  | c :: cs => .int (lo8 c) :: .int (hi8 c) :: wideBytes cs
theorem wide_lo (d : Value) : ∀ (cs : List Int32) (j : Nat), j < cs.length → (wideBytes cs).getD (2 * j) d = .int (lo8 (cs.getD j 0))
  | [], j, h => absurd h (Nat.not_lt_zero j)
  | c :: cs, 0, _ => rfl
  | c :: cs, j + 1, h => by
    have q := wide_lo d cs j (by simpa using h)
    rw [show 2 * (j + 1) = 2 * j + 1 + 1 from by omega]
    simpa [wideBytes] using q
theorem wide_hi (d : Value) : ∀ (cs : List Int32) (j : Nat), j < cs.length → (wideBytes cs).getD (2 * j + 1) d = .int (hi8 (cs.getD j 0))
  | [], j, h => absurd h (Nat.not_lt_zero j)
  | c :: cs, 0, _ => rfl
  | c :: cs, j + 1, h => by
    have q := wide_hi d cs j (by simpa using h)
    rw [show 2 * (j + 1) + 1 = 2 * j + 1 + 1 + 1 from by omega]
    simpa [wideBytes] using q
theorem low_at (d : Value) (cs : List Int32) (j : Nat) (h : j < cs.length) : (cs.map fun c => Value.int (lo8 c)).getD j d = .int (lo8 (cs.getD j 0)) := by
  simp [List.getD_eq_getElem?_getD, h]
/-- an array of N2 bytes vs codes the chars cs by the coder cd -/
def CodA (cs : List Int32) (cd N2 : Int32) (vs : List Value) : Prop := (cd = 0 ∧ N2 = Int32.ofNat cs.length ∧ vs = (cs.map fun c => Value.int (lo8 c)) ∧ ∀ c ∈ cs, ¬ 255 < c) ∨ (cd = 1 ∧ N2 = Int32.ofNat (2 * cs.length) ∧ vs = wideBytes cs ∧ ∃ c ∈ cs, 255 < c)
theorem CodA.cod {cs : List Int32} {cd N2 : Int32} {vs : List Value} {V : Cell} (h : CodA cs cd N2 vs) (hn : 2 * cs.length < 2 ^ 31) (hs : V.slots.size = N2.toNatClampNeg) (hv : RoadKit.Has V vs (.int 0)) : Cod cd cs.length (fun j => cs.getD j 0) V := by
  rcases h with ⟨rfl, rfl, rfl, h⟩ | ⟨rfl, rfl, rfl, c, hc, hw⟩
  · rw [n32 (by omega)] at hs
    exact Or.inl ⟨rfl, hs, fun j hj => ⟨by rw [hv j (by omega), low_at _ _ _ hj], by
      have e : cs.getD j 0 = cs[j] := by simp [List.getD_eq_getElem?_getD, hj]
      show ¬ 255 < cs.getD j 0
      rw [e]; exact h _ (List.getElem_mem _)⟩⟩
  · rw [n32 (by omega)] at hs
    obtain ⟨j, hj, rfl⟩ := List.getElem_of_mem hc
    exact Or.inr ⟨rfl, hs, fun j hj => ⟨by rw [hv _ (by omega), wide_lo _ _ _ hj], by rw [hv _ (by omega), wide_hi _ _ _ hj]⟩, j, hj, by
      have e : cs.getD j 0 = cs[j] := by simp [List.getD_eq_getElem?_getD, hj]
      show 255 < cs.getD j 0
      rw [e]; exact hw⟩
/-- an object of exactly java/lang/String, its two fields found: as the laws ask it -/
theorem strObj {Z U : State} {a0 : Array Value} {kI : Nat} (wi : (Jvm.Cond.instantiable ST kI).before a0 Z = true) (al : Z.vm.Alike U.vm) {x : Addr} {v0 c0 : Value} (E : RoadKit.Exa Z U.heap x ST) (V : RoadKit.Fld Z U.heap x ST "value" "[B" v0) (C : RoadKit.Fld Z U.heap x ST "coder" "B" c0) :
    ∃ (D : Cell) (fV fC : Field), Blank ST x D U ∧ Found ST "value" "[B" fV U ∧ Found ST "coder" "B" fC U ∧ D.slots[fV.slot]? = some v0 ∧ D.slots[fC.slot]? = some c0 ∧ RoadKit.slotOf Z ST "value" "[B" = fV.slot ∧ RoadKit.slotOf Z ST "coder" "B" = fC.slot := by
  obtain ⟨D, cfV, kV, iV, fV, hD, gV, stV, knV, obV, asV, slV⟩ := V
  obtain ⟨D', cfC, kC, iC, fC, hD', gC, stC, -, -, asC, slC⟩ := C
  cases hD.symm.trans hD'
  obtain ⟨D2, kD, e1, e2, e3, e4, e5⟩ := E
  cases hD.symm.trans e1
  obtain ⟨c2, k2, i1, i2, i3, -⟩ := Cond.instantiable_spec wi
  cases e2.symm.trans i1
  cases e3.symm.trans i2
  obtain ⟨kU, u1, u2⟩ := al.2.2 _ _ e3
  exact ⟨D, fV, fC, ⟨hD, ⟨knV, fun q hq => by rw [hq] at obV; cases obV⟩, by rw [al.findClass]; exact e2, kU, u1, by rw [u2]; exact i3, by rw [u2]; exact e5 i3⟩, ⟨SBG.found_only al ⟨cfV, kV, iV, gV⟩, stV⟩, ⟨SBG.found_only al ⟨cfC, kC, iC, gC⟩, stC⟩, slV, slC, by simp [RoadKit.slotOf, gV], by simp [RoadKit.slotOf, gC]⟩
theorem sta_is {Z U : State} (al : Z.vm.Alike U.vm) {C n d : String} {v : Value} (S : RoadKit.Sta Z U.heap C n d v) : StaticIs U C n d v := by
  obtain ⟨cfS, iS, kS, fS, st, cS, t1, t2, t3, t4, t5, t6, t7⟩ := S
  exact StaticIs.there (s := { Z with heap := U.heap }) ⟨cfS, iS, kS, fS, st, cS, t1, t2, t3, t4, t5, (fun q => by rw [q] at t6; cases t6), t7⟩ al rfl
/-- **length() OF SUCH A STRING** -/
theorem lenW {p : Program} {l : Launch} {e : Env} {R : Room} {s : State} {args : Array Value} {below : List Frame} {len W : Nat} {Z : State} {a0 : Array Value} {h : Heap} (hZ : Z.Warmed39 s.vm) (hw : ∀ d ∈ wordsLen, d.before a0 Z = true) {kI : Nat} (wi : (Jvm.Cond.instantiable ST kI).before a0 Z = true)
    {x t : Addr} {kb : ClassId} {cs : List Int32} {cd N2 z : Int32} {vs : List Value} (E : RoadKit.Exa Z h x ST) (V : RoadKit.Fld Z h x ST "value" "[B" (.ref t)) (C : RoadKit.Fld Z h x ST "coder" "B" (.int cd)) (K : RoadKit.Arv Z h t kb .byte N2 vs (.int 0)) (hc : CodA cs cd N2 vs) (hb : ∀ c ∈ cs, ¬ c < 0 ∧ ¬ (65535 : Int32) < c)
    (S : RoadKit.Sta Z h ST "COMPACT_STRINGS" "Z" (.int z)) (hz : ¬ z = 0) (l2 : cs.length ≤ 4000) (hfr : 2 ≤ R.frames) (hlo : W + 25 ≤ R.locals) :
    Back l R p e below s args (⟨"java/lang/String", "length", "()I"⟩ : MethodName) len W (fun P a => a = #[.ref x] ∧ P.U.heap = h ∧ P.cells + 0 ≤ R.cells ∧ P.slots + 0 ≤ R.slots)
      (fun P _ v B => ∃ L, (v = some (.int (Int32.ofNat cs.length)) ∧ L = [] ∧ B.U.heap = h) ∧ B.locs = P.locs ++ L ∧ B.cells = P.cells + 0 ∧ B.slots = P.slots + 0) := by
  obtain ⟨A, K1, K2, K3, K4, K5, K6⟩ := K
  have hcod := hc.cod (by omega) K3 K5
  intro m meth c P g ig mk a X hg hsize hdg hW hn hp'
  obtain ⟨rfl, rfl, r1, r2⟩ := hp'
  have al : Z.vm.Alike P.U.vm := hZ.alike.trans X.warmed.alike
  obtain ⟨D, fV, fC, hB, F1, F2, g1, g2, -, -⟩ := strObj wi al E V C
  have hx : Txt x t A cd cs.length (fun j => cs.getD j 0) P.U := ⟨⟨_, hB.2.2.1, D, hB.1, rfl, by cases q : D.vm <;> first | rfl | exact absurd q (hB.2.1.2 _)⟩, Has.of hB F1 g1, Has.of hB F2 g2, ⟨K1.1, State.isArrayOf_alike al K1.2.1, K1.2.2, by rcases hcod with ⟨-, q, -⟩ | ⟨-, q, -⟩ <;> omega⟩, hcod, fun j hj => by
    have e : cs.getD j 0 = cs[j] := by simp [List.getD_eq_getElem?_getD, hj]
    show ¬ cs.getD j 0 < 0 ∧ ¬ 65535 < cs.getD j 0
    rw [e]; exact hb _ (List.getElem_mem _)⟩
  obtain ⟨v, B, X', ⟨⟨hv, hh⟩, hl, hk, hs⟩, st⟩ := Len.pays x t A cd cs.length (fun j => cs.getD j 0) z (tabLen_of (movedLen hZ hw)) hfr hlo m meth c P g ig mk _ X hg hsize hdg hW hn ⟨r1, r2, rfl, hx, sta_is al S, hz⟩
  exact ⟨v, B, X', ⟨[], ⟨hv, rfl, hh⟩, hl, hk, hs⟩, st⟩
end StrChars.Road
namespace StrChars.Road
open Jvm Sem ClassFile Op Lib Jvm.Stand Jvm.Free Jvm.Free.XT
open Jvm.Lib.Cold (StaticIs)
/-- the road's facts of a String, as the laws ask it -/
theorem txt_of {Z U : State} {a0 : Array Value} {kI : Nat} (wi : (Jvm.Cond.instantiable ST kI).before a0 Z = true) (al : Z.vm.Alike U.vm) {x t : Addr} {kb : ClassId} {cs : List Int32} {cd N2 : Int32} {vs : List Value} (E : RoadKit.Exa Z U.heap x ST) (V : RoadKit.Fld Z U.heap x ST "value" "[B" (.ref t)) (C : RoadKit.Fld Z U.heap x ST "coder" "B" (.int cd)) (K : RoadKit.Arv Z U.heap t kb .byte N2 vs (.int 0)) (hc : CodA cs cd N2 vs) (hb : ∀ c ∈ cs, ¬ c < 0 ∧ ¬ (65535 : Int32) < c) (l2 : cs.length ≤ 4000) :
    ∃ A, Txt x t A cd cs.length (fun j => cs.getD j 0) U := by
  obtain ⟨A, K1, K2, K3, K4, K5, K6⟩ := K
  have hcod := hc.cod (by omega) K3 K5
  obtain ⟨D, fV, fC, hB, F1, F2, g1, g2, -, -⟩ := strObj wi al E V C
  exact ⟨A, ⟨_, hB.2.2.1, D, hB.1, rfl, by cases q : D.vm <;> first | rfl | exact absurd q (hB.2.1.2 _)⟩, Has.of hB F1 g1, Has.of hB F2 g2, ⟨K1.1, State.isArrayOf_alike al K1.2.1, K1.2.2, by rcases hcod with ⟨-, q, -⟩ | ⟨-, q, -⟩ <;> omega⟩, hcod, fun j hj => by
    have e : cs.getD j 0 = cs[j] := by simp [List.getD_eq_getElem?_getD, hj]
    show ¬ cs.getD j 0 < 0 ∧ ¬ 65535 < cs.getD j 0
    rw [e]; exact hb _ (List.getElem_mem _)⟩
end StrChars.Road
namespace StrChars
open Jvm Sem ClassFile Op Lib Jvm.Stand Jvm.Free.XT Jvm.Free.ALB Jvm.Free.JM Jvm.Free
open Jvm.Lib.Cold (StaticIs)
namespace ChN
def yN : MethodName := ⟨"java/lang/String", "charAt", "(I)C"⟩
abbrev yB : ByteArray := jdk_42_method_56_code
theorem d0 : decode yB 0 = .ok (.aload_n 0, 1) := by decide +kernel
theorem d1 : decode yB 1 = .ok (.invokevirtual 492, 3) := by decide +kernel
theorem d4 : decode yB 4 = .ok (.ifCond (.eq) 12, 3) := by decide +kernel
theorem d7 : decode yB 7 = .ok (.aload_n 0, 1) := by decide +kernel
theorem d8 : decode yB 8 = .ok (.getfield 9, 3) := by decide +kernel
theorem d11 : decode yB 11 = .ok (.iload_n 1, 1) := by decide +kernel
theorem d12 : decode yB 12 = .ok (.invokestatic 495, 3) := by decide +kernel
theorem d15 : decode yB 15 = .ok (.ireturn, 1) := by decide +kernel
def site : List Cond := [.fieldLink "java/lang/String" 9 "java/lang/String" "value" "[B", IsL.tab, LChA.tab] ++ virtW "java/lang/String" 492 "java/lang/String" IsL.yN IsL.yN ++ staticW "java/lang/String" 495 LChA.yN
def tab : Cond := tabOf yN yB 2 (some .char) site
def P (x t : Addr) (V : Cell) (n : Nat) (f : Nat → Int32) (z : Int32) (fm : Value) (i : Nat) (args : Array Value) (s : State) : Prop := args = #[.ref x, .int (Int32.ofNat i)] ∧ Txt x t V 0 n f s ∧ i < n ∧ StaticIs s "java/lang/String" "COMPACT_STRINGS" "Z" (.int z) ∧ ¬ z = 0 ∧ StaticIs s "jdk/internal/util/Preconditions" "SIOOBE_FORMATTER" "Ljava/util/function/BiFunction;" fm ∧ fm.isRef = true
def E (f : Nat → Int32) (i : Nat) (r : Option Value) (s u : State) : Prop := XT.PureE (some (.int (f i))) r s u
/-- charAt(i) of a Latin-1 String of n chars, i < n: f i -/
theorem law (l : Launch) (x t : Addr) (V : Cell) (n : Nat) (f : Nat → Int32) (z : Int32) (fm : Value) (i : Nat) : Law l yN 2 1 3 40 yB 2 (some .char) site (P x t V n f z fm i) (E f i) [] 0 0 := by
  refine Law.of_walk (plainFor_of_name (by decide +kernel)) (by decide +kernel) (by decide +kernel) (by decide) (fun _ _ h => by rw [h.1]; rfl) (fun _ U U' hal hh h => ⟨h.1, h.2.1.mv hal hh, h.2.2.1, h.2.2.2.1.there hal hh, h.2.2.2.2.1, h.2.2.2.2.2.1.there hal hh, h.2.2.2.2.2.2⟩) (fun r U U' V V' h1 hal h2 h => XT.PureE.mv r U U' V V' h1 hal h2 h) ?_
  intro p e s m args below meth c s₁ X0 hexec hbytes hml hret hlk hnm hown hh0 W hP
  obtain ⟨rfl, hx, hi, s1, hz, s3, rf⟩ := hP
  have v31 := hx.2.2.2.1.2.2.2
  have hr := hx.2.2.2.2.2 i hi
  have hx0 := hx.mv X0.warmed.alike hh0
  have c1 : Steps p.tables e below (s₁.setTop (entryFrame m #[.ref x, .int (Int32.ofNat i)] 2)) (s₁.setTop (mkF m 1 #[.val (.ref x), .val (.int (Int32.ofNat i))] [.ref x])) := Steps.trans (entry rfl) (by
    show Steps p.tables e below (s₁.setTop (mkF m 0 #[.val (.ref x), .val (.int (Int32.ofNat i))] [])) _
    refine XS.aloadN X0.here hexec rfl (hb hbytes d0) rfl rfl ?_
    exact Steps.refl _)
  obtain ⟨v2, T2, X2, E2, g2⟩ := X0.callV hexec (IsL.law l x 0 z) hown (wks W (virtW "java/lang/String" 492 "java/lang/String" IsL.yN IsL.yN)) rfl (by decide) (wk W IsL.tab) (W := 0) (Nat.le_of_ble_eq_true rfl) (Nat.le_of_ble_eq_true rfl) (Nat.le_refl _) (Nat.le_refl _) (hx0.1.fc X0.warmed.alike) hx0.1.is (g := (mkF m 1 #[.val (.ref x), .val (.int (Int32.ofNat i))] [.ref x])) rfl (by rw [hml]; rfl) c1 (argsL := []) (rest := []) rfl rfl (by show 2 * 0 + 0 ≤ _; decide) (hb hbytes d1) (⟨rfl, hx0.2.2.1, hx.2.2.2.2.1.cd, s1.there X0.warmed.alike hh0, hz⟩)
  obtain ⟨rfl, q2⟩ := E2
  have hh2 := q2.trans hh0
  have hx2 := hx.mv X2.warmed.alike hh2
  obtain ⟨-, k1, k2⟩ | ⟨k0, -⟩ := hx.2.2.2.2.1
  · have c3 : Steps p.tables e below (s₁.setTop (entryFrame m #[.ref x, .int (Int32.ofNat i)] 2)) (T2.setTop (mkF m 8 #[.val (.ref x), .val (.int (Int32.ofNat i))] [.ref x])) := Steps.trans g2 (by
      refine XS.ifNo X2.here hexec rfl (hb hbytes d4) rfl (i0_eq_f (by decide)) ?_
      refine XS.aloadN X2.here hexec rfl (hb hbytes d7) rfl rfl ?_
      exact Steps.refl _)
    obtain ⟨T4, X4, q4, st4⟩ := X2.hget hexec hown (wk W (.fieldLink "java/lang/String" 9 "java/lang/String" "value" "[B")) hx2.2.1 (g := (mkF m 8 #[.val (.ref x), .val (.int (Int32.ofNat i))] [.ref x])) rfl (rest := []) rfl (hb hbytes d8)
    have hh4 := q4.trans hh2
    have c5 : Steps p.tables e below (s₁.setTop (entryFrame m #[.ref x, .int (Int32.ofNat i)] 2)) (T4.setTop (mkF m 12 #[.val (.ref x), .val (.int (Int32.ofNat i))] [.int (Int32.ofNat i), .ref t])) := (c3.trans (st4 _ (Steps.refl _))).trans (by
      refine XS.iloadN X4.here hexec rfl (hb hbytes d11) rfl ?_
      exact Steps.refl _)
    obtain ⟨v6, T6, X6, E6, g6⟩ := X4.callS hexec (LChA.law l t V i (lo8 (f i)) fm) hown (wks W (staticW "java/lang/String" 495 LChA.yN)) (wk W LChA.tab) (W := 0) (Nat.le_of_ble_eq_true rfl) (Nat.le_of_ble_eq_true rfl) (Nat.le_refl _) (Nat.le_refl _) (g := (mkF m 12 #[.val (.ref x), .val (.int (Int32.ofNat i))] [.int (Int32.ofNat i), .ref t])) rfl (by rw [hml]; rfl) c5 (argsL := [.ref t, .int (Int32.ofNat i)]) (rest := []) rfl rfl (by show 2 * 0 + 0 ≤ _; decide) (hb hbytes d12) (⟨rfl, hx.2.2.2.1.mv X4.warmed.alike hh4, (k2 i hi).1, s3.there X4.warmed.alike hh4, rf⟩)
    obtain ⟨rfl, q6⟩ := E6
    rw [chr8_lo8 hr.1 (k2 i hi).2] at g6
    exact ⟨T6, some (.int (f i)), _, _, _, X6, rfl, rfl, rfl, (fun h => by cases h), ⟨rfl, q6.trans hh4⟩, fun fs hl => Steps.trans g6 (X6.ireturnOut hexec hret (narrow_ch hr.1 hr.2) (Or.inr (Or.inr (Or.inr (Or.inl rfl)))) (hb hbytes d15) hl)⟩
  · exact absurd k0 (by decide)
theorem pays {l : Launch} {R : Room} {p : Program} {e : Env} {below : List Frame} {s : State} {sargs : Array Value} {len W : Nat} (x t : Addr) (V : Cell) (n : Nat) (f : Nat → Int32) (z : Int32) (fm : Value) (i : Nat) (htab : tab.before sargs s = true) (hfr : 4 ≤ R.frames) (hlo : W + 53 ≤ R.locals) :
    Back l R p e below s sargs yN len W (fun A₁ a₁ => A₁.cells + 0 ≤ R.cells ∧ A₁.slots + 0 ≤ R.slots ∧ P x t V n f z fm i a₁ A₁.U) (fun A₁ _ v₁ B₁ => E f i v₁ A₁.U B₁.U ∧ B₁.locs = A₁.locs ++ [] ∧ B₁.cells = A₁.cells + 0 ∧ B₁.slots = A₁.slots + 0) :=
  (law l x t V n f z fm i).pays htab hfr (by omega)
end ChN
end StrChars
namespace StrChars.Road
open Jvm Sem ClassFile Op Lib Jvm.Stand Jvm.Free Jvm.Free.XT
open Jvm.Lib.Cold (StaticIs)
/-- the words of String.charAt(int), the Latin-1 road alone -/
abbrev wordsChN : List Jvm.Cond := [.code ChN.yN ChN.yB 2 (some .char), .initialized ST, .fieldLink ST 9 ST "value" "[B", .fieldLink ST 38 ST "COMPACT_STRINGS" "Z", .fieldLink ST 15 ST "coder" "B", .code IsL.yN IsL.yB 1 (some .boolean), .methodLink ST 492 IsL.yN, .declares IsL.yN, .selects ST IsL.yN IsL.yN, .instanceMethod IsL.yN,
  .methodLink ST 495 LChA.yN, .static LChA.yN, .code LChA.yN LChA.yB 2 (some .char), .initialized "java/lang/StringLatin1", .methodLink "java/lang/StringLatin1" 9 JO.Str_checkIndex.yN, .static JO.Str_checkIndex.yN, .code JO.Str_checkIndex.yN JO.Str_checkIndex.yB 2 none,
  .fieldLink ST 1053 "jdk/internal/util/Preconditions" "SIOOBE_FORMATTER" "Ljava/util/function/BiFunction;", .methodLink ST 1059 JC.PreCheck.yN, .static JC.PreCheck.yN, .code JC.PreCheck.yN JC.PreCheck.yB 3 (some .int), .initialized "jdk/internal/util/Preconditions"]
theorem tabChN_of {a : Array Value} {s : State} (h : ∀ w ∈ wordsChN, w.before a s = true) : ChN.tab.before a s = true := by
  have hp : JC.PreCheck.tab.before a s = true := unparts (wk h (.code JC.PreCheck.yN JC.PreCheck.yB 3 (some .int))) (wks h (.initialized JC.PreCheck.yN.cls :: JC.PreCheck.site))
  have qk := consq hp h
  have hk : JO.Str_checkIndex.tab.before a s = true := unparts (wk qk (.code JO.Str_checkIndex.yN JO.Str_checkIndex.yB 2 none)) (wks qk (.initialized JO.Str_checkIndex.yN.cls :: JO.Str_checkIndex.site))
  have ql := consq hk h
  have hl : LChA.tab.before a s = true := unparts (wk ql (.code LChA.yN LChA.yB 2 (some .char))) (wks ql (.initialized LChA.yN.cls :: LChA.site))
  have hi : IsL.tab.before a s = true := unparts (wk h (.code IsL.yN IsL.yB 1 (some .boolean))) (wks h (.initialized IsL.yN.cls :: IsL.site))
  have q := consq hi (consq hl h)
  exact unparts (wk q (.code ChN.yN ChN.yB 2 (some .char))) (wks q (.initialized ChN.yN.cls :: ChN.site))
theorem movedChN {Z s : State} {a0 args : Array Value} (hZ : Z.Warmed39 s.vm) (hw : ∀ d ∈ wordsChN, d.before a0 Z = true) : ∀ d ∈ wordsChN, d.before args s = true := fun d hd => by
  have t : ∀ d ∈ wordsChN, (d.onTables && d.keepsFace) = true := by decide +kernel
  exact RoadKit.mv hZ (hw d hd) (t d hd)
/-- **charAt(i) OF A LATIN-1 STRING**, i < n: the char -/
theorem chN {p : Program} {l : Launch} {e : Env} {R : Room} {s : State} {args : Array Value} {below : List Frame} {len W : Nat} {Z : State} {a0 : Array Value} {h : Heap} (hZ : Z.Warmed39 s.vm) (hw : ∀ d ∈ wordsChN, d.before a0 Z = true) {kI : Nat} (wi : (Jvm.Cond.instantiable ST kI).before a0 Z = true)
    {x t : Addr} {kb : ClassId} {cs : List Int32} {N2 z : Int32} {vs : List Value} {fm : Value} {i : Nat} {j : Int32} (E : RoadKit.Exa Z h x ST) (V : RoadKit.Fld Z h x ST "value" "[B" (.ref t)) (C : RoadKit.Fld Z h x ST "coder" "B" (.int 0)) (K : RoadKit.Arv Z h t kb .byte N2 vs (.int 0)) (hc : CodA cs 0 N2 vs) (hb : ∀ c ∈ cs, ¬ c < 0 ∧ ¬ (65535 : Int32) < c)
    (S : RoadKit.Sta Z h ST "COMPACT_STRINGS" "Z" (.int z)) (hz : ¬ z = 0) (F : RoadKit.Sta Z h "jdk/internal/util/Preconditions" "SIOOBE_FORMATTER" "Ljava/util/function/BiFunction;" fm) (rf : fm.isRef = true) (l2 : cs.length ≤ 4000) (hi : i < cs.length) (hj : j = Int32.ofNat i) (hfr : 4 ≤ R.frames) (hlo : W + 53 ≤ R.locals) :
    Back l R p e below s args (⟨"java/lang/String", "charAt", "(I)C"⟩ : MethodName) len W (fun P a => a = #[.ref x, .int j] ∧ P.U.heap = h ∧ P.cells + 0 ≤ R.cells ∧ P.slots + 0 ≤ R.slots)
      (fun P _ v B => ∃ L, (v = some (.int (cs.getD i 0)) ∧ L = [] ∧ B.U.heap = h) ∧ B.locs = P.locs ++ L ∧ B.cells = P.cells + 0 ∧ B.slots = P.slots + 0) := by
  subst hj
  intro m meth c P g ig mk a X hg hsize hdg hW hn hp'
  obtain ⟨rfl, rfl, r1, r2⟩ := hp'
  have al : Z.vm.Alike P.U.vm := hZ.alike.trans X.warmed.alike
  obtain ⟨A, hx⟩ := txt_of wi al E V C K hc hb l2
  obtain ⟨v, B, X', ⟨⟨hv, hh⟩, hl, hk, hs⟩, st⟩ := ChN.pays x t A cs.length (fun j => cs.getD j 0) z fm i (tabChN_of (movedChN hZ hw)) hfr hlo m meth c P g ig mk _ X hg hsize hdg hW hn ⟨r1, r2, rfl, hx, hi, sta_is al S, hz, sta_is al F, rf⟩
  exact ⟨v, B, X', ⟨[], ⟨hv, rfl, hh⟩, hl, hk, hs⟩, st⟩
/-- what backV says of its String, as the contracts of this text ask it: cs's low bytes, coder 0 -/
theorem codOf {cs : List Int32} {n : Nat} (hn : cs.length = n) (hb : ∀ c ∈ cs, ¬ 255 < c) : CodA cs 0 (Int32.ofNat n) ((cs.map lo8).map Value.int) := Or.inl ⟨rfl, by rw [hn], by simp [List.map_map, Function.comp_def], hb⟩
end StrChars.Road
end Jvm.Pilot.@@N@@
namespace Jvm.Pilot.@@N@@
open Jvm Jvm.ClassFile Sem Op Lib Jvm.Free Jvm.Stand Jvm.LawKit Jvm.RoadKit Bundle Jvm.Pilot.@@N@@.Jvm.D
theorem tw {a0 : Array Value} {Z : State} (hw : ∀ d ∈ tables_1, d.before a0 Z = true) (i : Nat) {d : Jvm.Cond} (h : tables_1[i]? = some d) : d.before a0 Z = true := hw d (List.mem_of_getElem? h)
theorem strW {a0 : Array Value} {Z : State} (hw : ∀ d ∈ tables_1, d.before a0 Z = true) : ∀ a ∈ Bundle.stringAtoms, a.before a0 Z = true := fun d hd => hw d ((by decide +kernel : ∀ d ∈ Bundle.stringAtoms, d ∈ tables_1) d hd)
theorem pn_com_example_lean_connector_leanconnector_server_FieldReader : plainName "com/example/lean_connector/leanconnector/server/FieldReader" = true := by first | (simp [plainName, overriddenIn]; done) | decide +kernel
theorem pn_com_example_lean_connector_leanconnector_server_FieldReaderUpToPinLaw : plainName "com/example/lean_connector/leanconnector/server/FieldReaderUpToPinLaw" = true := by first | (simp [plainName, overriddenIn]; done) | decide +kernel
theorem pn_java_lang_String : plainName "java/lang/String" = true := by first | (simp [plainName, overriddenIn]; done) | decide +kernel
theorem pn_java_lang_StringLatin1 : plainName "java/lang/StringLatin1" = true := by first | (simp [plainName, overriddenIn]; done) | decide +kernel
theorem pn_java_util_Arrays : plainName "java/util/Arrays" = true := by first | (simp [plainName, overriddenIn]; done) | decide +kernel
theorem pn_jdk_internal_util_Preconditions : plainName "jdk/internal/util/Preconditions" = true := by first | (simp [plainName, overriddenIn]; done) | decide +kernel
theorem pd__I_Z : parseMethodDescriptor "(I)Z" = some ⟨[.int], some .boolean⟩ := by decide +kernel
theorem pd__II_I : parseMethodDescriptor "(II)I" = some ⟨[.int, .int], some .int⟩ := by decide +kernel
theorem pd___BIII_I : parseMethodDescriptor "([BIII)I" = some ⟨[(.array .byte), .int, .int, .int], some .int⟩ := by decide +kernel
theorem pd___Z : parseMethodDescriptor "()Z" = some ⟨[], some .boolean⟩ := by decide +kernel
theorem pd___I : parseMethodDescriptor "()I" = some ⟨[], some .int⟩ := by decide +kernel
theorem pd__IIILjava_util_function_BiFunction__I : parseMethodDescriptor "(IIILjava/util/function/BiFunction;)I" = some ⟨[.int, .int, .int, (.object "java/util/function/BiFunction")], some .int⟩ := by decide +kernel
theorem pd__II_V : parseMethodDescriptor "(II)V" = some ⟨[.int, .int], none⟩ := by decide +kernel
theorem pd___BII__B : parseMethodDescriptor "([BII)[B" = some ⟨[(.array .byte), .int, .int], some (.array .byte)⟩ := by decide +kernel
theorem pd___BB_V : parseMethodDescriptor "([BB)V" = some ⟨[(.array .byte), .byte], none⟩ := by decide +kernel
theorem pd__III_V : parseMethodDescriptor "(III)V" = some ⟨[.int, .int, .int], none⟩ := by decide +kernel
theorem pd___BII_Ljava_lang_String_ : parseMethodDescriptor "([BII)Ljava/lang/String;" = some ⟨[(.array .byte), .int, .int], some (.object "java/lang/String")⟩ := by decide +kernel
theorem pd__II_Ljava_lang_String_ : parseMethodDescriptor "(II)Ljava/lang/String;" = some ⟨[.int, .int], some (.object "java/lang/String")⟩ := by decide +kernel
theorem pd__I_C : parseMethodDescriptor "(I)C" = some ⟨[.int], some .char⟩ := by decide +kernel
theorem pd___C_V : parseMethodDescriptor "([C)V" = some ⟨[(.array .char)], none⟩ := by decide +kernel
theorem pd__Ljava_lang_String__V : parseMethodDescriptor "(Ljava/lang/String;)V" = some ⟨[(.object "java/lang/String")], none⟩ := by decide +kernel
theorem pd___CCI_I : parseMethodDescriptor "([CCI)I" = some ⟨[(.array .char), .char, .int], some .int⟩ := by decide +kernel
theorem pd__C_Ljava_lang_String_ : parseMethodDescriptor "(C)Ljava/lang/String;" = some ⟨[.char], some (.object "java/lang/String")⟩ := by decide +kernel
theorem pd__Ljava_lang_String__CII_Z : parseMethodDescriptor "(Ljava/lang/String;[CII)Z" = some ⟨[(.object "java/lang/String"), (.array .char), .int, .int], some .boolean⟩ := by decide +kernel
theorem litc_103 : (∀ c ∈ "".toList, c.toNat < 256) ∧ "".toList.map (fun c => Value.int (Jvm.Lit.byteI c.toNat.toUInt16)) = [] := ⟨by decide, by decide +kernel⟩
theorem elW {a0 : Array Value} {Z : State} (hw : ∀ d ∈ tables_1, d.before a0 Z = true) : EW Z a0 consts_1 := (EW.cons (tw hw 103 rfl) (by decide) EW.nil)
theorem and255_lt (x : Int32) : (x &&& 255).toBitVec.toNat < 256 ∧ (x &&& 255) = Int32.ofNat (x &&& 255).toBitVec.toNat := by
  have h : (x &&& 255).toBitVec.toNat < 256 := by
    simp only [Int32.toBitVec_and, BitVec.toNat_and]
    exact Nat.lt_succ_of_le Nat.and_le_right
  refine ⟨h, ?_⟩
  apply Int32.toBitVec_inj.mp
  show _ = BitVec.ofNat 32 _
  rw [BitVec.ofNat_toNat]; simp
theorem and255_chars (x : Int32) : ¬ nar .char ((x &&& (255 : Int32)).toUInt32.toUInt16.toUInt32.toInt32) < 0 ∧ ¬ (255 : Int32) < nar .char ((x &&& (255 : Int32)).toUInt32.toUInt16.toUInt32.toInt32) := by
  have t : ∀ k : Fin 256, ¬ nar .char ((Int32.ofNat k.val).toUInt32.toUInt16.toUInt32.toInt32) < 0 ∧ ¬ (255 : Int32) < nar .char ((Int32.ofNat k.val).toUInt32.toUInt16.toUInt32.toInt32) := by decide +kernel
  obtain ⟨h, e⟩ := and255_lt x
  rw [e]
  exact t ⟨_, h⟩

theorem sm256 {c : Int32} (h0 : ¬ c < 0) (h1 : ¬ (255 : Int32) < c) : ∃ j : Fin 256, c = Int32.ofNat j.val := by
  rw [Int32.lt_iff_toInt_lt] at h0 h1
  have e0 : (0 : Int32).toInt = 0 := rfl
  have e1 : (255 : Int32).toInt = 255 := rfl
  refine ⟨⟨c.toInt.toNat, by omega⟩, ?_⟩
  apply Int32.toInt_inj.mp
  rw [Int32.toInt_ofNat_small (by show c.toInt.toNat < _; omega)]
  show c.toInt = ((c.toInt.toNat : Nat) : Int)
  omega
theorem nar_id {c : Int32} (h0 : ¬ c < 0) (h1 : ¬ (255 : Int32) < c) : nar .char c = c := by
  obtain ⟨j, rfl⟩ := sm256 h0 h1
  exact (by decide +kernel : ∀ j : Fin 256, nar .char (Int32.ofNat j.val) = Int32.ofNat j.val) j

theorem chr_and (x : Int32) : Chr (nar .char ((x &&& (255 : Int32)).toUInt32.toUInt16.toUInt32.toInt32)) := and255_chars x
theorem ci_and (x : Int32) : Chr ((x &&& (255 : Int32)).toUInt32.toUInt16.toUInt32.toInt32) := by
  rw [i2c_mask]
  obtain ⟨h, e⟩ := and255_lt x
  rw [e]
  exact (by decide +kernel : ∀ k : Fin 256, ¬ (Int32.ofNat k.val) < 0 ∧ ¬ (255 : Int32) < Int32.ofNat k.val) ⟨_, h⟩
section C8
variable {v0 v1 v2 v3 v4 v5 v6 v7 : Int32}
theorem ld8 {k : Nat} (hk : k < 8) : ([.int v0, .int v1, .int v2, .int v3, .int v4, .int v5, .int v6, .int v7] : List Value).getD k (.int 0) = .int (([v0, v1, v2, v3, v4, v5, v6, v7] : List Int32).getD k 0) := by
  match k, hk with
  | 0, _ => rfl
  | 1, _ => rfl
  | 2, _ => rfl
  | 3, _ => rfl
  | 4, _ => rfl
  | 5, _ => rfl
  | 6, _ => rfl
  | 7, _ => rfl
theorem own_cm8 {cs ds : List Int32} {x d : Nat} (hd : ds = (cs.drop x).take d) : ∀ j, j < ds.length → ds.getD j 0 = cs.getD (x + j) 0 := fun j hj => ds_get hd hj
theorem own_dl {cs ds : List Int32} {x y : Nat} (hd : ds = (cs.drop x).take (y - x)) (hxy : x ≤ y) (hy : y ≤ cs.length) : ds.length = y - x := by rw [hd]; simp; omega
end C8
theorem own_le {a b n : Int32} (h : ¬ a < n) (hab : a < b) : ¬ b < n := by
  rw [Int32.lt_iff_toInt_lt] at h hab ⊢; omega
theorem wdNew {a0 : Array Value} {Z : State} (hw : ∀ d ∈ tables_1, d.before a0 Z = true) : ∀ d ∈ StrChars.Road.words, d.before a0 Z = true := fun d hd => hw d ((by decide +kernel : ∀ d ∈ StrChars.Road.words, d ∈ tables_1) d hd)
theorem wdLen {a0 : Array Value} {Z : State} (hw : ∀ d ∈ tables_1, d.before a0 Z = true) : ∀ d ∈ StrChars.Road.wordsLen, d.before a0 Z = true := fun d hd => hw d ((by decide +kernel : ∀ d ∈ StrChars.Road.wordsLen, d ∈ tables_1) d hd)
theorem wdCh {a0 : Array Value} {Z : State} (hw : ∀ d ∈ tables_1, d.before a0 Z = true) : ∀ d ∈ StrChars.Road.wordsChN, d.before a0 Z = true := fun d hd => hw d ((by decide +kernel : ∀ d ∈ StrChars.Road.wordsChN, d ∈ tables_1) d hd)
theorem d11_0 : decode jdk_42_method_154_code 0 = .ok (.getstatic 38, 3) := by decide +kernel
theorem d11_3 : decode jdk_42_method_154_code 3 = .ok (.ifCond .eq 14, 3) := by decide +kernel
theorem d11_6 : decode jdk_42_method_154_code 6 = .ok (.aload_n 0, 1) := by decide +kernel
theorem d11_7 : decode jdk_42_method_154_code 7 = .ok (.getfield 15, 3) := by decide +kernel
theorem d11_10 : decode jdk_42_method_154_code 10 = .ok (.ifCond .ne 7, 3) := by decide +kernel
theorem d11_13 : decode jdk_42_method_154_code 13 = .ok (.iconst 1, 1) := by decide +kernel
theorem d11_14 : decode jdk_42_method_154_code 14 = .ok (.goto 4, 3) := by decide +kernel
theorem d11_18 : decode jdk_42_method_154_code 18 = .ok (.ireturn, 1) := by decide +kernel
theorem ef_isl (m : MethodId) (b : Addr) : entryFrame m #[(.ref b)] 1 = mkF m 0 #[.val (.ref b)] [] := by first | (simp [entryFrame, mkF, argsToLocals, Value.category]; done) | rfl
def Q_isl (Z : State) (b : Addr) (G1 : Int32) (h0 : Heap) (n0 : Nat) (v : Option Value) (h : Heap) (L : List Loc) : Prop := (v = some (.int 1) ∧ Fr n0 L ∧ h = h0)
set_option maxRecDepth 65536 in
set_option maxHeartbeats 40000000 in
theorem rm_isl (l : Launch) (Z : State) (a0 : Array Value) (hw : ∀ d ∈ tables_1, d.before a0 Z = true) (ws : List Jvm.Cond) (b : Addr) (G1 : Int32) (h0 : Heap) (n0 : Nat) (Z0 : n0 ≤ h0.size) (pf0 : Fld Z h0 b "java/lang/String" "coder" "B" (.int 0)) (pf1 : Old Z n0 h0) (O2 : Sta Z Z.heap "java/lang/String" "COMPACT_STRINGS" "Z" (.int G1)) (P5 : ¬ (G1 = (0 : Int32))) :
    MetFree l (⟨"java/lang/String", "isLatin1", "()Z"⟩ : MethodName) (head1 (Jvm.Cond.code (⟨"java/lang/String", "isLatin1", "()Z"⟩ : MethodName) jdk_42_method_154_code 1 (some .boolean) :: ws) ({ frames := 0, cells := 0, slots := 0, locals := 0 } : Room)) (fun aa U => aa = #[(.ref b)] ∧ Z.Warmed39 U.vm ∧ U.heap = h0) (fun _ _ _ _ _ => True) (fun _ U o U' => ∃ v L, o = .returned v ∧ Q_isl Z b G1 h0 n0 v U'.heap L ∧ FrameEnd U o U' L ({ frames := 0, cells := 0, slots := 0, locals := 0 } : Room).cells ({ frames := 0, cells := 0, slots := 0, locals := 0 } : Room).slots) := by
  refine MetFree.of_bodySF (plainFor_of_name pn_java_lang_String) hisR ?_
  intro p e s m args below meth c s₁ Bd hml0 hP hK
  obtain ⟨rfl, hZ, hh⟩ := hP
  have hx := Bd.exec
  have hby := Bd.bytes
  have hlk : meth.locks = false := BodyLoose.notSynchronized Bd
  have hml : c.maxLocals = 1 := hml0
  have hown : s.vm.findClass "java/lang/String" = some m.cls := findClass_of_methodNamed Bd.named
  have hnm := (name_of_methodNamed Bd.named Bd.method).1
  have X0 : Stand p l e ({ frames := 0, cells := 0, slots := 0, locals := 0 } : Room) s m #[(.ref b)] below meth c s₁ [] 0 0 := Stand.of_body Bd
  have e0 : s₁.heap = h0 := by rw [← hh, Bd.state]; rfl
  have N0 := Fr.nil n0
  show Gl p.tables e below (EndN s (Q_isl Z b G1 h0 n0) ({ frames := 0, cells := 0, slots := 0, locals := 0 } : Room).cells ({ frames := 0, cells := 0, slots := 0, locals := 0 } : Room).slots) _
  refine Gl.cast (ef_isl m b) ?_
  show Gl p.tables e below _ (s₁.setTop (mkF m 0 #[.val (.ref b)] []))
  obtain ⟨T1, X1, e1, st1⟩ := getS2 X0 hx hZ hown (host := "") (Or.inl (tw hw 17 rfl)) Via.refl e0 (O2.ext pf1.2) (g := (mkF m 0 #[.val (.ref b)] [])) rfl (hb hby d11_0)
  refine Gl.st st1 ?_
  show Gl p.tables e below _ (T1.setTop (mkF m 3 #[.val (.ref b)] [(.int G1)]))
  refine Gl.st (fun _ kq => XS.ifNo X1.here hx rfl (hb hby d11_3) rfl ((if0 _ _).trans (feq (P5 : ¬ (G1 = (0 : Int32)))).1) kq) ?_
  show Gl p.tables e below _ (T1.setTop (mkF m 6 #[.val (.ref b)] []))
  refine Gl.st (fun _ kq => XS.aloadN X1.here hx rfl (hb hby d11_6) rfl rfl kq) ?_
  show Gl p.tables e below _ (T1.setTop (mkF m 7 #[.val (.ref b)] [(.ref b)]))
  obtain ⟨T2, X2, e2, st2⟩ := getF X1 hx hZ hown (host := "") (Or.inl (tw hw 29 rfl)) Via.refl e1 pf0 (g := (mkF m 7 #[.val (.ref b)] [(.ref b)])) rfl rfl (hb hby d11_7)
  refine Gl.st st2 ?_
  show Gl p.tables e below _ (T2.setTop (mkF m 10 #[.val (.ref b)] [(.int 0)]))
  refine Gl.st (fun _ kq => XS.ifNo X2.here hx rfl (hb hby d11_10) rfl ((if0 _ _).trans (teq ((by decide) : (0 : Int32) = (0 : Int32))).2) kq) ?_
  show Gl p.tables e below _ (T2.setTop (mkF m 13 #[.val (.ref b)] []))
  refine Gl.st (fun _ kq => XS.iconst X2.here hx rfl (hb hby d11_13) kq) ?_
  show Gl p.tables e below _ (T2.setTop (mkF m 14 #[.val (.ref b)] [(.int 1)]))
  refine Gl.st (fun _ kq => XS.goto X2.here hx rfl (pc0 := 14) (pc' := 18) rfl (hb hby d11_14) (by decide) (by decide) kq) ?_
  show Gl p.tables e below _ (T2.setTop (mkF m 18 #[.val (.ref b)] [(.int 1)]))
  exact Gl.retN X2 hx (t := .boolean) Bd.returns (by simp) (hb hby d11_18) hlk (by decide) (by decide) (by rw [e2]; exact ⟨rfl, N0, rfl⟩)
theorem d15_0 : decode jdk_43_method_4_code 0 = .ok (.iload_n 0, 1) := by decide +kernel
theorem d15_1 : decode jdk_43_method_4_code 1 = .ok (.ifCond .lt 14, 3) := by decide +kernel
theorem d15_4 : decode jdk_43_method_4_code 4 = .ok (.iload_n 0, 1) := by decide +kernel
theorem d15_5 : decode jdk_43_method_4_code 5 = .ok (.sipush 255, 3) := by decide +kernel
theorem d15_8 : decode jdk_43_method_4_code 8 = .ok (.if_icmp .gt 7, 3) := by decide +kernel
theorem d15_11 : decode jdk_43_method_4_code 11 = .ok (.iconst 1, 1) := by decide +kernel
theorem d15_12 : decode jdk_43_method_4_code 12 = .ok (.goto 4, 3) := by decide +kernel
theorem d15_16 : decode jdk_43_method_4_code 16 = .ok (.ireturn, 1) := by decide +kernel
theorem ef_cei (m : MethodId) (q : Int32) : entryFrame m #[(.int q)] 1 = mkF m 0 #[.val (.int q)] [] := by first | (simp [entryFrame, mkF, argsToLocals, Value.category]; done) | rfl
def Q_cei (Z : State) (q : Int32) (h0 : Heap) (n0 : Nat) (v : Option Value) (h : Heap) (L : List Loc) : Prop := (v = some (.int 1) ∧ Fr n0 L ∧ h = h0)
set_option maxRecDepth 65536 in
set_option maxHeartbeats 40000000 in
theorem rm_cei (l : Launch) (Z : State) (a0 : Array Value) (hw : ∀ d ∈ tables_1, d.before a0 Z = true) (ws : List Jvm.Cond) (q : Int32) (h0 : Heap) (n0 : Nat) (Z0 : n0 ≤ h0.size) (hq0 : ¬ (q < (0 : Int32))) (hq1 : ¬ ((255 : Int32) < q)) :
    MetFree l (⟨"java/lang/StringLatin1", "canEncode", "(I)Z"⟩ : MethodName) (head1 (Jvm.Cond.code (⟨"java/lang/StringLatin1", "canEncode", "(I)Z"⟩ : MethodName) jdk_43_method_4_code 1 (some .boolean) :: ws) ({ frames := 0, cells := 0, slots := 0, locals := 0 } : Room)) (fun aa U => aa = #[(.int q)] ∧ Z.Warmed39 U.vm ∧ U.heap = h0) (fun _ _ _ _ _ => True) (fun _ U o U' => ∃ v L, o = .returned v ∧ Q_cei Z q h0 n0 v U'.heap L ∧ FrameEnd U o U' L ({ frames := 0, cells := 0, slots := 0, locals := 0 } : Room).cells ({ frames := 0, cells := 0, slots := 0, locals := 0 } : Room).slots) := by
  refine MetFree.of_bodySF (plainFor_of_name pn_java_lang_StringLatin1) hisR ?_
  intro p e s m args below meth c s₁ Bd hml0 hP hK
  obtain ⟨rfl, hZ, hh⟩ := hP
  have hx := Bd.exec
  have hby := Bd.bytes
  have hlk : meth.locks = false := BodyLoose.notSynchronized Bd
  have hml : c.maxLocals = 1 := hml0
  have hown : s.vm.findClass "java/lang/StringLatin1" = some m.cls := findClass_of_methodNamed Bd.named
  have hnm := (name_of_methodNamed Bd.named Bd.method).1
  have X0 : Stand p l e ({ frames := 0, cells := 0, slots := 0, locals := 0 } : Room) s m #[(.int q)] below meth c s₁ [] 0 0 := Stand.of_body Bd
  have e0 : s₁.heap = h0 := by rw [← hh, Bd.state]; rfl
  have N0 := Fr.nil n0
  show Gl p.tables e below (EndN s (Q_cei Z q h0 n0) ({ frames := 0, cells := 0, slots := 0, locals := 0 } : Room).cells ({ frames := 0, cells := 0, slots := 0, locals := 0 } : Room).slots) _
  refine Gl.cast (ef_cei m q) ?_
  show Gl p.tables e below _ (s₁.setTop (mkF m 0 #[.val (.int q)] []))
  refine Gl.st (fun _ kq => XS.iloadN X0.here hx rfl (hb hby d15_0) rfl kq) ?_
  show Gl p.tables e below _ (s₁.setTop (mkF m 1 #[.val (.int q)] [(.int q)]))
  refine Gl.st (fun _ kq => XS.ifNo X0.here hx rfl (hb hby d15_1) rfl ((if0 _ _).trans (flt (hq0 : ¬ (q < (0 : Int32)))).1) kq) ?_
  show Gl p.tables e below _ (s₁.setTop (mkF m 4 #[.val (.int q)] []))
  refine Gl.st (fun _ kq => XS.iloadN X0.here hx rfl (hb hby d15_4) rfl kq) ?_
  show Gl p.tables e below _ (s₁.setTop (mkF m 5 #[.val (.int q)] [(.int q)]))
  refine Gl.st (fun _ kq => XS.sipush X0.here hx rfl (hb hby d15_5) kq) ?_
  show Gl p.tables e below _ (s₁.setTop (mkF m 8 #[.val (.int q)] [(.int 255), (.int q)]))
  refine Gl.st (fun _ kq => XS.icmpNo X0.here hx rfl (hb hby d15_8) rfl (flt (hq1 : ¬ ((255 : Int32) < q))).2.2.1 kq) ?_
  show Gl p.tables e below _ (s₁.setTop (mkF m 11 #[.val (.int q)] []))
  refine Gl.st (fun _ kq => XS.iconst X0.here hx rfl (hb hby d15_11) kq) ?_
  show Gl p.tables e below _ (s₁.setTop (mkF m 12 #[.val (.int q)] [(.int 1)]))
  refine Gl.st (fun _ kq => XS.goto X0.here hx rfl (pc0 := 12) (pc' := 16) rfl (hb hby d15_12) (by decide) (by decide) kq) ?_
  show Gl p.tables e below _ (s₁.setTop (mkF m 16 #[.val (.int q)] [(.int 1)]))
  exact Gl.retN X0 hx (t := .boolean) Bd.returns (by simp) (hb hby d15_16) hlk (by decide) (by decide) (by rw [e0]; exact ⟨rfl, N0, rfl⟩)
theorem d16_0 : decode jdk_29_method_65_code 0 = .ok (.iload_n 0, 1) := by decide +kernel
theorem d16_1 : decode jdk_29_method_65_code 1 = .ok (.iload_n 1, 1) := by decide +kernel
theorem d16_2 : decode jdk_29_method_65_code 2 = .ok (.if_icmp .lt 7, 3) := by decide +kernel
theorem d16_5 : decode jdk_29_method_65_code 5 = .ok (.iload_n 0, 1) := by decide +kernel
theorem d16_6 : decode jdk_29_method_65_code 6 = .ok (.goto 4, 3) := by decide +kernel
theorem d16_9 : decode jdk_29_method_65_code 9 = .ok (.iload_n 1, 1) := by decide +kernel
theorem d16_10 : decode jdk_29_method_65_code 10 = .ok (.ireturn, 1) := by decide +kernel
theorem ef_mx (m : MethodId) (x : Int32) (y : Int32) : entryFrame m #[(.int x), (.int y)] 2 = mkF m 0 #[.val (.int x), .val (.int y)] [] := by first | (simp [entryFrame, mkF, argsToLocals, Value.category]; done) | rfl
def Q_mx (Z : State) (x : Int32) (y : Int32) (h0 : Heap) (n0 : Nat) (v : Option Value) (h : Heap) (L : List Loc) : Prop := (v = some (.int x) ∧ Fr n0 L ∧ h = h0 ∧ (¬ (x < y))) ∨ (v = some (.int y) ∧ Fr n0 L ∧ h = h0 ∧ (x < y))
set_option maxRecDepth 65536 in
set_option maxHeartbeats 40000000 in
theorem rm_mx (l : Launch) (Z : State) (a0 : Array Value) (hw : ∀ d ∈ tables_1, d.before a0 Z = true) (ws : List Jvm.Cond) (x : Int32) (y : Int32) (h0 : Heap) (n0 : Nat) (Z0 : n0 ≤ h0.size) :
    MetFree l (⟨"java/lang/Math", "max", "(II)I"⟩ : MethodName) (head1 (Jvm.Cond.code (⟨"java/lang/Math", "max", "(II)I"⟩ : MethodName) jdk_29_method_65_code 2 (some .int) :: ws) ({ frames := 0, cells := 0, slots := 0, locals := 0 } : Room)) (fun aa U => aa = #[(.int x), (.int y)] ∧ Z.Warmed39 U.vm ∧ U.heap = h0) (fun _ _ _ _ _ => True) (fun _ U o U' => ∃ v L, o = .returned v ∧ Q_mx Z x y h0 n0 v U'.heap L ∧ FrameEnd U o U' L ({ frames := 0, cells := 0, slots := 0, locals := 0 } : Room).cells ({ frames := 0, cells := 0, slots := 0, locals := 0 } : Room).slots) := by
  refine MetFree.of_bodySF (Jvm.Free.JP.mathPlain rfl (by decide +kernel)) hisR ?_
  intro p e s m args below meth c s₁ Bd hml0 hP hK
  obtain ⟨rfl, hZ, hh⟩ := hP
  have hx := Bd.exec
  have hby := Bd.bytes
  have hlk : meth.locks = false := BodyLoose.notSynchronized Bd
  have hml : c.maxLocals = 2 := hml0
  have hown : s.vm.findClass "java/lang/Math" = some m.cls := findClass_of_methodNamed Bd.named
  have hnm := (name_of_methodNamed Bd.named Bd.method).1
  have X0 : Stand p l e ({ frames := 0, cells := 0, slots := 0, locals := 0 } : Room) s m #[(.int x), (.int y)] below meth c s₁ [] 0 0 := Stand.of_body Bd
  have e0 : s₁.heap = h0 := by rw [← hh, Bd.state]; rfl
  have N0 := Fr.nil n0
  show Gl p.tables e below (EndN s (Q_mx Z x y h0 n0) ({ frames := 0, cells := 0, slots := 0, locals := 0 } : Room).cells ({ frames := 0, cells := 0, slots := 0, locals := 0 } : Room).slots) _
  refine Gl.cast (ef_mx m x y) ?_
  show Gl p.tables e below _ (s₁.setTop (mkF m 0 #[.val (.int x), .val (.int y)] []))
  refine Gl.st (fun _ kq => XS.iloadN X0.here hx rfl (hb hby d16_0) rfl kq) ?_
  show Gl p.tables e below _ (s₁.setTop (mkF m 1 #[.val (.int x), .val (.int y)] [(.int x)]))
  refine Gl.st (fun _ kq => XS.iloadN X0.here hx rfl (hb hby d16_1) rfl kq) ?_
  show Gl p.tables e below _ (s₁.setTop (mkF m 2 #[.val (.int x), .val (.int y)] [(.int y), (.int x)]))
  by_cases hc1 : x < y
  · refine Gl.st (fun _ kq => XS.icmpYes X0.here hx rfl (pc0 := 2) (pc' := 9) rfl (hb hby d16_2) rfl (tlt (hc1 : x < y)).1 (by decide) (by decide) kq) ?_
    show Gl p.tables e below _ (s₁.setTop (mkF m 9 #[.val (.int x), .val (.int y)] []))
    refine Gl.st (fun _ kq => XS.iloadN X0.here hx rfl (hb hby d16_9) rfl kq) ?_
    show Gl p.tables e below _ (s₁.setTop (mkF m 10 #[.val (.int x), .val (.int y)] [(.int y)]))
    exact Gl.retI X0 hx Bd.returns (hb hby d16_10) hlk (by decide) (by decide) (by rw [e0]; exact (Or.inr (⟨rfl, N0, rfl, hc1⟩)))
  · refine Gl.st (fun _ kq => XS.icmpNo X0.here hx rfl (hb hby d16_2) rfl (flt (hc1 : ¬ (x < y))).1 kq) ?_
    show Gl p.tables e below _ (s₁.setTop (mkF m 5 #[.val (.int x), .val (.int y)] []))
    refine Gl.st (fun _ kq => XS.iloadN X0.here hx rfl (hb hby d16_5) rfl kq) ?_
    show Gl p.tables e below _ (s₁.setTop (mkF m 6 #[.val (.int x), .val (.int y)] [(.int x)]))
    refine Gl.st (fun _ kq => XS.goto X0.here hx rfl (pc0 := 6) (pc' := 10) rfl (hb hby d16_6) (by decide) (by decide) kq) ?_
    show Gl p.tables e below _ (s₁.setTop (mkF m 10 #[.val (.int x), .val (.int y)] [(.int x)]))
    exact Gl.retI X0 hx Bd.returns (hb hby d16_10) hlk (by decide) (by decide) (by rw [e0]; exact (Or.inl ⟨rfl, N0, rfl, hc1⟩))
theorem d17_0 : decode jdk_29_method_69_code 0 = .ok (.iload_n 0, 1) := by decide +kernel
theorem d17_1 : decode jdk_29_method_69_code 1 = .ok (.iload_n 1, 1) := by decide +kernel
theorem d17_2 : decode jdk_29_method_69_code 2 = .ok (.if_icmp .gt 7, 3) := by decide +kernel
theorem d17_5 : decode jdk_29_method_69_code 5 = .ok (.iload_n 0, 1) := by decide +kernel
theorem d17_6 : decode jdk_29_method_69_code 6 = .ok (.goto 4, 3) := by decide +kernel
theorem d17_9 : decode jdk_29_method_69_code 9 = .ok (.iload_n 1, 1) := by decide +kernel
theorem d17_10 : decode jdk_29_method_69_code 10 = .ok (.ireturn, 1) := by decide +kernel
theorem ef_mi (m : MethodId) (x : Int32) (y : Int32) : entryFrame m #[(.int x), (.int y)] 2 = mkF m 0 #[.val (.int x), .val (.int y)] [] := by first | (simp [entryFrame, mkF, argsToLocals, Value.category]; done) | rfl
def Q_mi (Z : State) (x : Int32) (y : Int32) (h0 : Heap) (n0 : Nat) (v : Option Value) (h : Heap) (L : List Loc) : Prop := (v = some (.int x) ∧ Fr n0 L ∧ h = h0 ∧ (¬ (y < x))) ∨ (v = some (.int y) ∧ Fr n0 L ∧ h = h0 ∧ (y < x))
set_option maxRecDepth 65536 in
set_option maxHeartbeats 40000000 in
theorem rm_mi (l : Launch) (Z : State) (a0 : Array Value) (hw : ∀ d ∈ tables_1, d.before a0 Z = true) (ws : List Jvm.Cond) (x : Int32) (y : Int32) (h0 : Heap) (n0 : Nat) (Z0 : n0 ≤ h0.size) :
    MetFree l (⟨"java/lang/Math", "min", "(II)I"⟩ : MethodName) (head1 (Jvm.Cond.code (⟨"java/lang/Math", "min", "(II)I"⟩ : MethodName) jdk_29_method_69_code 2 (some .int) :: ws) ({ frames := 0, cells := 0, slots := 0, locals := 0 } : Room)) (fun aa U => aa = #[(.int x), (.int y)] ∧ Z.Warmed39 U.vm ∧ U.heap = h0) (fun _ _ _ _ _ => True) (fun _ U o U' => ∃ v L, o = .returned v ∧ Q_mi Z x y h0 n0 v U'.heap L ∧ FrameEnd U o U' L ({ frames := 0, cells := 0, slots := 0, locals := 0 } : Room).cells ({ frames := 0, cells := 0, slots := 0, locals := 0 } : Room).slots) := by
  refine MetFree.of_bodySF (Jvm.Free.JP.mathPlain rfl (by decide +kernel)) hisR ?_
  intro p e s m args below meth c s₁ Bd hml0 hP hK
  obtain ⟨rfl, hZ, hh⟩ := hP
  have hx := Bd.exec
  have hby := Bd.bytes
  have hlk : meth.locks = false := BodyLoose.notSynchronized Bd
  have hml : c.maxLocals = 2 := hml0
  have hown : s.vm.findClass "java/lang/Math" = some m.cls := findClass_of_methodNamed Bd.named
  have hnm := (name_of_methodNamed Bd.named Bd.method).1
  have X0 : Stand p l e ({ frames := 0, cells := 0, slots := 0, locals := 0 } : Room) s m #[(.int x), (.int y)] below meth c s₁ [] 0 0 := Stand.of_body Bd
  have e0 : s₁.heap = h0 := by rw [← hh, Bd.state]; rfl
  have N0 := Fr.nil n0
  show Gl p.tables e below (EndN s (Q_mi Z x y h0 n0) ({ frames := 0, cells := 0, slots := 0, locals := 0 } : Room).cells ({ frames := 0, cells := 0, slots := 0, locals := 0 } : Room).slots) _
  refine Gl.cast (ef_mi m x y) ?_
  show Gl p.tables e below _ (s₁.setTop (mkF m 0 #[.val (.int x), .val (.int y)] []))
  refine Gl.st (fun _ kq => XS.iloadN X0.here hx rfl (hb hby d17_0) rfl kq) ?_
  show Gl p.tables e below _ (s₁.setTop (mkF m 1 #[.val (.int x), .val (.int y)] [(.int x)]))
  refine Gl.st (fun _ kq => XS.iloadN X0.here hx rfl (hb hby d17_1) rfl kq) ?_
  show Gl p.tables e below _ (s₁.setTop (mkF m 2 #[.val (.int x), .val (.int y)] [(.int y), (.int x)]))
  by_cases hc1 : y < x
  · refine Gl.st (fun _ kq => XS.icmpYes X0.here hx rfl (pc0 := 2) (pc' := 9) rfl (hb hby d17_2) rfl (tlt (hc1 : y < x)).2.2.1 (by decide) (by decide) kq) ?_
    show Gl p.tables e below _ (s₁.setTop (mkF m 9 #[.val (.int x), .val (.int y)] []))
    refine Gl.st (fun _ kq => XS.iloadN X0.here hx rfl (hb hby d17_9) rfl kq) ?_
    show Gl p.tables e below _ (s₁.setTop (mkF m 10 #[.val (.int x), .val (.int y)] [(.int y)]))
    exact Gl.retI X0 hx Bd.returns (hb hby d17_10) hlk (by decide) (by decide) (by rw [e0]; exact (Or.inr (⟨rfl, N0, rfl, hc1⟩)))
  · refine Gl.st (fun _ kq => XS.icmpNo X0.here hx rfl (hb hby d17_2) rfl (flt (hc1 : ¬ (y < x))).2.2.1 kq) ?_
    show Gl p.tables e below _ (s₁.setTop (mkF m 5 #[.val (.int x), .val (.int y)] []))
    refine Gl.st (fun _ kq => XS.iloadN X0.here hx rfl (hb hby d17_5) rfl kq) ?_
    show Gl p.tables e below _ (s₁.setTop (mkF m 6 #[.val (.int x), .val (.int y)] [(.int x)]))
    refine Gl.st (fun _ kq => XS.goto X0.here hx rfl (pc0 := 6) (pc' := 10) rfl (hb hby d17_6) (by decide) (by decide) kq) ?_
    show Gl p.tables e below _ (s₁.setTop (mkF m 10 #[.val (.int x), .val (.int y)] [(.int x)]))
    exact Gl.retI X0 hx Bd.returns (hb hby d17_10) hlk (by decide) (by decide) (by rw [e0]; exact (Or.inl ⟨rfl, N0, rfl, hc1⟩))
theorem d18_0 : decode jdk_43_method_23_code 0 = .ok (.iload_n 1, 1) := by decide +kernel
theorem d18_1 : decode jdk_43_method_23_code 1 = .ok (.i2b, 1) := by decide +kernel
theorem d18_2 : decode jdk_43_method_23_code 2 = .ok (.istore 4, 2) := by decide +kernel
theorem d18_4 : decode jdk_43_method_23_code 4 = .ok (.iload_n 2, 1) := by decide +kernel
theorem d18_5 : decode jdk_43_method_23_code 5 = .ok (.istore 5, 2) := by decide +kernel
theorem d18_7 : decode jdk_43_method_23_code 7 = .ok (.iload 5, 2) := by decide +kernel
theorem d18_9 : decode jdk_43_method_23_code 9 = .ok (.iload_n 3, 1) := by decide +kernel
theorem d18_10 : decode jdk_43_method_23_code 10 = .ok (.if_icmp .ge 21, 3) := by decide +kernel
theorem d18_13 : decode jdk_43_method_23_code 13 = .ok (.aload_n 0, 1) := by decide +kernel
theorem d18_14 : decode jdk_43_method_23_code 14 = .ok (.iload 5, 2) := by decide +kernel
theorem d18_16 : decode jdk_43_method_23_code 16 = .ok (.baload, 1) := by decide +kernel
theorem d18_17 : decode jdk_43_method_23_code 17 = .ok (.iload 4, 2) := by decide +kernel
theorem d18_19 : decode jdk_43_method_23_code 19 = .ok (.if_icmp .ne 6, 3) := by decide +kernel
theorem d18_22 : decode jdk_43_method_23_code 22 = .ok (.iload 5, 2) := by decide +kernel
theorem d18_24 : decode jdk_43_method_23_code 24 = .ok (.ireturn, 1) := by decide +kernel
theorem d18_25 : decode jdk_43_method_23_code 25 = .ok (.iinc 5 1, 3) := by decide +kernel
theorem d18_28 : decode jdk_43_method_23_code 28 = .ok (.goto (-21), 3) := by decide +kernel
theorem d18_31 : decode jdk_43_method_23_code 31 = .ok (.iconst (-1), 1) := by decide +kernel
theorem d18_32 : decode jdk_43_method_23_code 32 = .ok (.ireturn, 1) := by decide +kernel
theorem ef_ioc (m : MethodId) (t : Addr) (cs : List Int32) (q : Int32) (i : Nat) : entryFrame m #[(.ref t), (.int q), (.int (Int32.ofNat i)), (.int (Int32.ofNat cs.length))] 6 = mkF m 0 #[.val (.ref t), .val (.int q), .val (.int (Int32.ofNat i)), .val (.int (Int32.ofNat cs.length)), .unset, .unset] [] := by first | (simp [entryFrame, mkF, argsToLocals, Value.category]; done) | rfl
def Q_ioc (Z : State) (t : Addr) (k : ClassId) (cs : List Int32) (q : Int32) (i : Nat) (h0 : Heap) (n0 : Nat) (v : Option Value) (h : Heap) (L : List Loc) : Prop := (∃ r : Nat, v = some (.int (Int32.ofNat r)) ∧ Fr n0 L ∧ h = h0 ∧ (First q cs i r)) ∨ (v = some (.int (-1)) ∧ Fr n0 L ∧ h = h0 ∧ (Nowhere q cs i))
set_option maxRecDepth 65536 in
set_option maxHeartbeats 40000000 in
theorem rm_ioc (l : Launch) (Z : State) (a0 : Array Value) (hw : ∀ d ∈ tables_1, d.before a0 Z = true) (ws : List Jvm.Cond) (t : Addr) (k : ClassId) (cs : List Int32) (q : Int32) (i : Nat) (h0 : Heap) (n0 : Nat) (Z0 : n0 ≤ h0.size) (pf0 : Arv Z h0 t k .byte (Int32.ofNat cs.length) ((cs.map (fun c => c.toInt8.toInt32)).map Value.int) (.int 0)) (hr : Rng cs) (hl : cs.length ≤ 8) (hq0 : ¬ (q < (0 : Int32))) (hq1 : ¬ ((255 : Int32) < q)) (hi : i ≤ cs.length) :
    MetFree l (⟨"java/lang/StringLatin1", "indexOfChar", "([BIII)I"⟩ : MethodName) (head1 (Jvm.Cond.code (⟨"java/lang/StringLatin1", "indexOfChar", "([BIII)I"⟩ : MethodName) jdk_43_method_23_code 6 (some .int) :: ws) ({ frames := 0, cells := 0, slots := 0, locals := 0 } : Room)) (fun aa U => aa = #[(.ref t), (.int q), (.int (Int32.ofNat i)), (.int (Int32.ofNat cs.length))] ∧ Z.Warmed39 U.vm ∧ U.heap = h0) (fun _ _ _ _ _ => True) (fun _ U o U' => ∃ v L, o = .returned v ∧ Q_ioc Z t k cs q i h0 n0 v U'.heap L ∧ FrameEnd U o U' L ({ frames := 0, cells := 0, slots := 0, locals := 0 } : Room).cells ({ frames := 0, cells := 0, slots := 0, locals := 0 } : Room).slots) := by
  refine MetFree.of_bodySF (plainFor_of_name pn_java_lang_StringLatin1) hisR ?_
  intro p e s m args below meth c s₁ Bd hml0 hP hK
  obtain ⟨rfl, hZ, hh⟩ := hP
  have hx := Bd.exec
  have hby := Bd.bytes
  have hlk : meth.locks = false := BodyLoose.notSynchronized Bd
  have hml : c.maxLocals = 6 := hml0
  have hown : s.vm.findClass "java/lang/StringLatin1" = some m.cls := findClass_of_methodNamed Bd.named
  have hnm := (name_of_methodNamed Bd.named Bd.method).1
  have X0 : Stand p l e ({ frames := 0, cells := 0, slots := 0, locals := 0 } : Room) s m #[(.ref t), (.int q), (.int (Int32.ofNat i)), (.int (Int32.ofNat cs.length))] below meth c s₁ [] 0 0 := Stand.of_body Bd
  have e0 : s₁.heap = h0 := by rw [← hh, Bd.state]; rfl
  have N0 := Fr.nil n0
  show Gl p.tables e below (EndN s (Q_ioc Z t k cs q i h0 n0) ({ frames := 0, cells := 0, slots := 0, locals := 0 } : Room).cells ({ frames := 0, cells := 0, slots := 0, locals := 0 } : Room).slots) _
  refine Gl.cast (ef_ioc m t cs q i) ?_
  show Gl p.tables e below _ (s₁.setTop (mkF m 0 #[.val (.ref t), .val (.int q), .val (.int (Int32.ofNat i)), .val (.int (Int32.ofNat cs.length)), .unset, .unset] []))
  refine Gl.st (fun _ kq => XS.iloadN X0.here hx rfl (hb hby d18_0) rfl kq) ?_
  show Gl p.tables e below _ (s₁.setTop (mkF m 1 #[.val (.ref t), .val (.int q), .val (.int (Int32.ofNat i)), .val (.int (Int32.ofNat cs.length)), .unset, .unset] [(.int q)]))
  refine Gl.st (fun _ kq => XS.i2b X0.here hx rfl (hb hby d18_1) rfl kq) ?_
  show Gl p.tables e below _ (s₁.setTop (mkF m 2 #[.val (.ref t), .val (.int q), .val (.int (Int32.ofNat i)), .val (.int (Int32.ofNat cs.length)), .unset, .unset] [(.int (q.toInt8.toInt32))]))
  refine Gl.st (fun _ kq => XS.istore X0.here hx rfl (hb hby d18_2) rfl (l' := #[.val (.ref t), .val (.int q), .val (.int (Int32.ofNat i)), .val (.int (Int32.ofNat cs.length)), .val (.int (q.toInt8.toInt32)), .unset]) rfl kq) ?_
  show Gl p.tables e below _ (s₁.setTop (mkF m 4 #[.val (.ref t), .val (.int q), .val (.int (Int32.ofNat i)), .val (.int (Int32.ofNat cs.length)), .val (.int (q.toInt8.toInt32)), .unset] []))
  refine Gl.st (fun _ kq => XS.iloadN X0.here hx rfl (hb hby d18_4) rfl kq) ?_
  show Gl p.tables e below _ (s₁.setTop (mkF m 5 #[.val (.ref t), .val (.int q), .val (.int (Int32.ofNat i)), .val (.int (Int32.ofNat cs.length)), .val (.int (q.toInt8.toInt32)), .unset] [(.int (Int32.ofNat i))]))
  refine Gl.st (fun _ kq => XS.istore X0.here hx rfl (hb hby d18_5) rfl (l' := #[.val (.ref t), .val (.int q), .val (.int (Int32.ofNat i)), .val (.int (Int32.ofNat cs.length)), .val (.int (q.toInt8.toInt32)), .val (.int (Int32.ofNat i))]) rfl kq) ?_
  show Gl p.tables e below _ (s₁.setTop (mkF m 7 #[.val (.ref t), .val (.int q), .val (.int (Int32.ofNat i)), .val (.int (Int32.ofNat cs.length)), .val (.int (q.toInt8.toInt32)), .val (.int (Int32.ofNat i))] []))
  have loop : ∀ (d j : Nat) (Ti : State) (Li : List Loc) (Xi : Stand p l e ({ frames := 0, cells := 0, slots := 0, locals := 0 } : Room) s m #[(.ref t), (.int q), (.int (Int32.ofNat i)), (.int (Int32.ofNat cs.length))] below meth c Ti Li 0 0) (ei : Ti.heap = h0) (Ni : Fr n0 Li) (hj : j + d = cs.length) (hij : i ≤ j) (hb4 : ∀ k, i ≤ k → k < j → ¬ cs.getD k 0 = q), Gl p.tables e below (EndN s (Q_ioc Z t k cs q i h0 n0) ({ frames := 0, cells := 0, slots := 0, locals := 0 } : Room).cells ({ frames := 0, cells := 0, slots := 0, locals := 0 } : Room).slots) (Ti.setTop (mkF m 7 #[.val (.ref t), .val (.int q), .val (.int (Int32.ofNat i)), .val (.int (Int32.ofNat cs.length)), .val (.int (q.toInt8.toInt32)), .val (.int (Int32.ofNat j))] [])) := by
    intro d
    induction d with
    | zero =>
      intro j Ti Li Xi ei Ni hj hij hb4
      have hlt := n32_nlt (i := j) (j := cs.length) (by omega) (by omega) (by omega)
      have hno : Nowhere q cs i := fun k h1 h2 => hb4 k h1 (by omega)
      show Gl p.tables e below _ (Ti.setTop (mkF m 7 #[.val (.ref t), .val (.int q), .val (.int (Int32.ofNat i)), .val (.int (Int32.ofNat cs.length)), .val (.int (q.toInt8.toInt32)), .val (.int (Int32.ofNat j))] []))
      refine Gl.st (fun _ kq => XS.iload Xi.here hx rfl (hb hby d18_7) rfl kq) ?_
      show Gl p.tables e below _ (Ti.setTop (mkF m 9 #[.val (.ref t), .val (.int q), .val (.int (Int32.ofNat i)), .val (.int (Int32.ofNat cs.length)), .val (.int (q.toInt8.toInt32)), .val (.int (Int32.ofNat j))] [(.int (Int32.ofNat j))]))
      refine Gl.st (fun _ kq => XS.iloadN Xi.here hx rfl (hb hby d18_9) rfl kq) ?_
      show Gl p.tables e below _ (Ti.setTop (mkF m 10 #[.val (.ref t), .val (.int q), .val (.int (Int32.ofNat i)), .val (.int (Int32.ofNat cs.length)), .val (.int (q.toInt8.toInt32)), .val (.int (Int32.ofNat j))] [(.int (Int32.ofNat cs.length)), (.int (Int32.ofNat j))]))
      refine Gl.st (fun _ kq => XS.icmpYes Xi.here hx rfl (pc0 := 10) (pc' := 31) rfl (hb hby d18_10) rfl (flt (hlt : ¬ ((Int32.ofNat j) < (Int32.ofNat cs.length)))).2.1 (by decide) (by decide) kq) ?_
      show Gl p.tables e below _ (Ti.setTop (mkF m 31 #[.val (.ref t), .val (.int q), .val (.int (Int32.ofNat i)), .val (.int (Int32.ofNat cs.length)), .val (.int (q.toInt8.toInt32)), .val (.int (Int32.ofNat j))] []))
      refine Gl.st (fun _ kq => XS.iconst Xi.here hx rfl (hb hby d18_31) kq) ?_
      show Gl p.tables e below _ (Ti.setTop (mkF m 32 #[.val (.ref t), .val (.int q), .val (.int (Int32.ofNat i)), .val (.int (Int32.ofNat cs.length)), .val (.int (q.toInt8.toInt32)), .val (.int (Int32.ofNat j))] [(.int (-1))]))
      exact Gl.retI Xi hx Bd.returns (hb hby d18_32) hlk (by decide) (by decide) (by rw [ei]; exact (Or.inr (⟨rfl, Ni, rfl, hno⟩)))
    | succ d ih =>
      intro j Ti Li Xi ei Ni hj hij hb4
      have hjl : j < cs.length := by omega
      have hlt := n32_plt (i := j) (j := cs.length) (by omega) (by omega)
      show Gl p.tables e below _ (Ti.setTop (mkF m 7 #[.val (.ref t), .val (.int q), .val (.int (Int32.ofNat i)), .val (.int (Int32.ofNat cs.length)), .val (.int (q.toInt8.toInt32)), .val (.int (Int32.ofNat j))] []))
      refine Gl.st (fun _ kq => XS.iload Xi.here hx rfl (hb hby d18_7) rfl kq) ?_
      show Gl p.tables e below _ (Ti.setTop (mkF m 9 #[.val (.ref t), .val (.int q), .val (.int (Int32.ofNat i)), .val (.int (Int32.ofNat cs.length)), .val (.int (q.toInt8.toInt32)), .val (.int (Int32.ofNat j))] [(.int (Int32.ofNat j))]))
      refine Gl.st (fun _ kq => XS.iloadN Xi.here hx rfl (hb hby d18_9) rfl kq) ?_
      show Gl p.tables e below _ (Ti.setTop (mkF m 10 #[.val (.ref t), .val (.int q), .val (.int (Int32.ofNat i)), .val (.int (Int32.ofNat cs.length)), .val (.int (q.toInt8.toInt32)), .val (.int (Int32.ofNat j))] [(.int (Int32.ofNat cs.length)), (.int (Int32.ofNat j))]))
      refine Gl.st (fun _ kq => XS.icmpNo Xi.here hx rfl (hb hby d18_10) rfl (tlt (hlt : (Int32.ofNat j) < (Int32.ofNat cs.length))).2.1 kq) ?_
      show Gl p.tables e below _ (Ti.setTop (mkF m 13 #[.val (.ref t), .val (.int q), .val (.int (Int32.ofNat i)), .val (.int (Int32.ofNat cs.length)), .val (.int (q.toInt8.toInt32)), .val (.int (Int32.ofNat j))] []))
      refine Gl.st (fun _ kq => XS.aloadN Xi.here hx rfl (hb hby d18_13) rfl rfl kq) ?_
      show Gl p.tables e below _ (Ti.setTop (mkF m 14 #[.val (.ref t), .val (.int q), .val (.int (Int32.ofNat i)), .val (.int (Int32.ofNat cs.length)), .val (.int (q.toInt8.toInt32)), .val (.int (Int32.ofNat j))] [(.ref t)]))
      refine Gl.st (fun _ kq => XS.iload Xi.here hx rfl (hb hby d18_14) rfl kq) ?_
      show Gl p.tables e below _ (Ti.setTop (mkF m 16 #[.val (.ref t), .val (.int q), .val (.int (Int32.ofNat i)), .val (.int (Int32.ofNat cs.length)), .val (.int (q.toInt8.toInt32)), .val (.int (Int32.ofNat j))] [(.int (Int32.ofNat j)), (.ref t)]))
      obtain ⟨c1, a1, q1, S1, M1, H1, G1⟩ := id pf0
      refine Gl.st (fun _ kq => Xi.baloadBytes hx (j := (Int32.ofNat j)) (v := (.int ((cs.getD j 0).toInt8.toInt32))) (by rw [ei]; exact a1.1) (State.isArrayOf_alike hZ.alike a1.2.1) a1.2.2 (inb_of S1 ⟨n32_nn (by omega), n32_plt hjl (by omega)⟩) (Has.at H1 (inb_of S1 ⟨n32_nn (by omega), n32_plt hjl (by omega)⟩) (by rw [n32_cl (by omega)]; exact lo_get hjl)) (g := (mkF m 16 #[.val (.ref t), .val (.int q), .val (.int (Int32.ofNat i)), .val (.int (Int32.ofNat cs.length)), .val (.int (q.toInt8.toInt32)), .val (.int (Int32.ofNat j))] [(.int (Int32.ofNat j)), (.ref t)])) rfl rfl (hb hby d18_16) _ kq) ?_
      show Gl p.tables e below _ (Ti.setTop (mkF m 17 #[.val (.ref t), .val (.int q), .val (.int (Int32.ofNat i)), .val (.int (Int32.ofNat cs.length)), .val (.int (q.toInt8.toInt32)), .val (.int (Int32.ofNat j))] [(.int ((cs.getD j 0).toInt8.toInt32))]))
      refine Gl.st (fun _ kq => XS.iload Xi.here hx rfl (hb hby d18_17) rfl kq) ?_
      show Gl p.tables e below _ (Ti.setTop (mkF m 19 #[.val (.ref t), .val (.int q), .val (.int (Int32.ofNat i)), .val (.int (Int32.ofNat cs.length)), .val (.int (q.toInt8.toInt32)), .val (.int (Int32.ofNat j))] [(.int (q.toInt8.toInt32)), (.int ((cs.getD j 0).toInt8.toInt32))]))
      by_cases hc2 : ((cs.getD j 0).toInt8.toInt32) = (q.toInt8.toInt32)
      · have heq : cs.getD j 0 = q := lo_inj (mem_get hr hjl).1 (mem_get hr hjl).2 hq0 hq1 hc2
        refine Gl.st (fun _ kq => XS.icmpNo Xi.here hx rfl (hb hby d18_19) rfl (teq (hc2 : ((cs.getD j 0).toInt8.toInt32) = (q.toInt8.toInt32))).2 kq) ?_
        show Gl p.tables e below _ (Ti.setTop (mkF m 22 #[.val (.ref t), .val (.int q), .val (.int (Int32.ofNat i)), .val (.int (Int32.ofNat cs.length)), .val (.int (q.toInt8.toInt32)), .val (.int (Int32.ofNat j))] []))
        refine Gl.st (fun _ kq => XS.iload Xi.here hx rfl (hb hby d18_22) rfl kq) ?_
        show Gl p.tables e below _ (Ti.setTop (mkF m 24 #[.val (.ref t), .val (.int q), .val (.int (Int32.ofNat i)), .val (.int (Int32.ofNat cs.length)), .val (.int (q.toInt8.toInt32)), .val (.int (Int32.ofNat j))] [(.int (Int32.ofNat j))]))
        exact Gl.retI Xi hx Bd.returns (hb hby d18_24) hlk (by decide) (by decide) (by rw [ei]; exact (Or.inl ⟨j, rfl, Ni, rfl, ⟨hij, hjl, heq, hb4⟩⟩))
      · have hne : ¬ cs.getD j 0 = q := fun e => hc2 (e ▸ rfl)
        refine Gl.st (fun _ kq => XS.icmpYes Xi.here hx rfl (pc0 := 19) (pc' := 25) rfl (hb hby d18_19) rfl (feq (hc2 : ¬ (((cs.getD j 0).toInt8.toInt32) = (q.toInt8.toInt32)))).2 (by decide) (by decide) kq) ?_
        show Gl p.tables e below _ (Ti.setTop (mkF m 25 #[.val (.ref t), .val (.int q), .val (.int (Int32.ofNat i)), .val (.int (Int32.ofNat cs.length)), .val (.int (q.toInt8.toInt32)), .val (.int (Int32.ofNat j))] []))
        refine Gl.st (fun _ kq => XS.iinc Xi.here hx rfl (hb hby d18_25) rfl (l' := #[.val (.ref t), .val (.int q), .val (.int (Int32.ofNat i)), .val (.int (Int32.ofNat cs.length)), .val (.int (q.toInt8.toInt32)), .val (.int ((Int32.ofNat j) + (1 : Int32)))]) rfl kq) ?_
        show Gl p.tables e below _ (Ti.setTop (mkF m 28 #[.val (.ref t), .val (.int q), .val (.int (Int32.ofNat i)), .val (.int (Int32.ofNat cs.length)), .val (.int (q.toInt8.toInt32)), .val (.int ((Int32.ofNat j) + (1 : Int32)))] []))
        refine Gl.st (fun _ kq => XS.goto Xi.here hx rfl (pc0 := 28) (pc' := 7) rfl (hb hby d18_28) (by decide) (by decide) kq) ?_
        show Gl p.tables e below _ (Ti.setTop (mkF m 7 #[.val (.ref t), .val (.int q), .val (.int (Int32.ofNat i)), .val (.int (Int32.ofNat cs.length)), .val (.int (q.toInt8.toInt32)), .val (.int ((Int32.ofNat j) + (1 : Int32)))] []))
        rw [n32_inc j]
        exact ih (j + 1) _ _ Xi ei Ni (by omega) (by omega) (fun k h1 h2 => by by_cases e : k = j; exact e ▸ hne; exact hb4 k h1 (by omega))
  exact loop (cs.length - i) i _ _ (X0.more (by decide) (by decide)) e0 N0 (by omega) (Nat.le_refl _) (fun k h1 h2 => absurd h2 (by omega))
theorem d14_0 : decode jdk_43_method_22_code 0 = .ok (.iload_n 1, 1) := by decide +kernel
theorem d14_1 : decode jdk_43_method_22_code 1 = .ok (.invokestatic 88, 3) := by decide +kernel
theorem d14_4 : decode jdk_43_method_22_code 4 = .ok (.ifCond .ne 5, 3) := by decide +kernel
theorem d14_9 : decode jdk_43_method_22_code 9 = .ok (.iload_n 2, 1) := by decide +kernel
theorem d14_10 : decode jdk_43_method_22_code 10 = .ok (.iconst 0, 1) := by decide +kernel
theorem d14_11 : decode jdk_43_method_22_code 11 = .ok (.invokestatic 92, 3) := by decide +kernel
theorem d14_14 : decode jdk_43_method_22_code 14 = .ok (.istore_n 2, 1) := by decide +kernel
theorem d14_15 : decode jdk_43_method_22_code 15 = .ok (.iload_n 3, 1) := by decide +kernel
theorem d14_16 : decode jdk_43_method_22_code 16 = .ok (.aload_n 0, 1) := by decide +kernel
theorem d14_17 : decode jdk_43_method_22_code 17 = .ok (.arraylength, 1) := by decide +kernel
theorem d14_18 : decode jdk_43_method_22_code 18 = .ok (.invokestatic 38, 3) := by decide +kernel
theorem d14_21 : decode jdk_43_method_22_code 21 = .ok (.istore_n 3, 1) := by decide +kernel
theorem d14_22 : decode jdk_43_method_22_code 22 = .ok (.iload_n 2, 1) := by decide +kernel
theorem d14_23 : decode jdk_43_method_22_code 23 = .ok (.iload_n 3, 1) := by decide +kernel
theorem d14_24 : decode jdk_43_method_22_code 24 = .ok (.if_icmp .lt 5, 3) := by decide +kernel
theorem d14_27 : decode jdk_43_method_22_code 27 = .ok (.iconst (-1), 1) := by decide +kernel
theorem d14_28 : decode jdk_43_method_22_code 28 = .ok (.ireturn, 1) := by decide +kernel
theorem d14_29 : decode jdk_43_method_22_code 29 = .ok (.aload_n 0, 1) := by decide +kernel
theorem d14_30 : decode jdk_43_method_22_code 30 = .ok (.iload_n 1, 1) := by decide +kernel
theorem d14_31 : decode jdk_43_method_22_code 31 = .ok (.iload_n 2, 1) := by decide +kernel
theorem d14_32 : decode jdk_43_method_22_code 32 = .ok (.iload_n 3, 1) := by decide +kernel
theorem d14_33 : decode jdk_43_method_22_code 33 = .ok (.invokestatic 95, 3) := by decide +kernel
theorem d14_36 : decode jdk_43_method_22_code 36 = .ok (.ireturn, 1) := by decide +kernel
theorem ef_lio (m : MethodId) (t : Addr) (cs : List Int32) (q : Int32) (i : Nat) : entryFrame m #[(.ref t), (.int q), (.int (Int32.ofNat i)), (.int (Int32.ofNat cs.length))] 4 = mkF m 0 #[.val (.ref t), .val (.int q), .val (.int (Int32.ofNat i)), .val (.int (Int32.ofNat cs.length))] [] := by first | (simp [entryFrame, mkF, argsToLocals, Value.category]; done) | rfl
def Q_lio (Z : State) (t : Addr) (k : ClassId) (cs : List Int32) (q : Int32) (i : Nat) (h0 : Heap) (n0 : Nat) (v : Option Value) (h : Heap) (L : List Loc) : Prop := (∃ r : Nat, v = some (.int (Int32.ofNat r)) ∧ Fr n0 L ∧ h = h0 ∧ (First q cs i r)) ∨ (v = some (.int (-1)) ∧ Fr n0 L ∧ h = h0 ∧ (Nowhere q cs i))
set_option maxRecDepth 65536 in
set_option maxHeartbeats 40000000 in
theorem rm_lio (l : Launch) (Z : State) (a0 : Array Value) (hw : ∀ d ∈ tables_1, d.before a0 Z = true) (ws : List Jvm.Cond) (t : Addr) (k : ClassId) (cs : List Int32) (q : Int32) (i : Nat) (h0 : Heap) (n0 : Nat) (Z0 : n0 ≤ h0.size) (pf0 : Arv Z h0 t k .byte (Int32.ofNat cs.length) ((cs.map (fun c => c.toInt8.toInt32)).map Value.int) (.int 0)) (hr : Rng cs) (hl : cs.length ≤ 8) (hq0 : ¬ (q < (0 : Int32))) (hq1 : ¬ ((255 : Int32) < q)) (hi : i ≤ cs.length) :
    MetFree l (⟨"java/lang/StringLatin1", "indexOf", "([BIII)I"⟩ : MethodName) (head1 (Jvm.Cond.code (⟨"java/lang/StringLatin1", "indexOf", "([BIII)I"⟩ : MethodName) jdk_43_method_22_code 4 (some .int) :: ws) ({ frames := 1, cells := 0, slots := 0, locals := 17 } : Room)) (fun aa U => aa = #[(.ref t), (.int q), (.int (Int32.ofNat i)), (.int (Int32.ofNat cs.length))] ∧ Z.Warmed39 U.vm ∧ U.heap = h0) (fun _ _ _ _ _ => True) (fun _ U o U' => ∃ v L, o = .returned v ∧ Q_lio Z t k cs q i h0 n0 v U'.heap L ∧ FrameEnd U o U' L ({ frames := 1, cells := 0, slots := 0, locals := 17 } : Room).cells ({ frames := 1, cells := 0, slots := 0, locals := 17 } : Room).slots) := by
  refine MetFree.of_bodySF (plainFor_of_name pn_java_lang_StringLatin1) hisR ?_
  intro p e s m args below meth c s₁ Bd hml0 hP hK
  obtain ⟨rfl, hZ, hh⟩ := hP
  have hx := Bd.exec
  have hby := Bd.bytes
  have hlk : meth.locks = false := BodyLoose.notSynchronized Bd
  have hml : c.maxLocals = 4 := hml0
  have hown : s.vm.findClass "java/lang/StringLatin1" = some m.cls := findClass_of_methodNamed Bd.named
  have hnm := (name_of_methodNamed Bd.named Bd.method).1
  have X0 : Stand p l e ({ frames := 1, cells := 0, slots := 0, locals := 17 } : Room) s m #[(.ref t), (.int q), (.int (Int32.ofNat i)), (.int (Int32.ofNat cs.length))] below meth c s₁ [] 0 0 := Stand.of_body Bd
  have e0 : s₁.heap = h0 := by rw [← hh, Bd.state]; rfl
  have N0 := Fr.nil n0
  show Gl p.tables e below (EndN s (Q_lio Z t k cs q i h0 n0) ({ frames := 1, cells := 0, slots := 0, locals := 17 } : Room).cells ({ frames := 1, cells := 0, slots := 0, locals := 17 } : Room).slots) _
  refine Gl.cast (ef_lio m t cs q i) ?_
  show Gl p.tables e below _ (s₁.setTop (mkF m 0 #[.val (.ref t), .val (.int q), .val (.int (Int32.ofNat i)), .val (.int (Int32.ofNat cs.length))] []))
  refine Gl.st (fun _ kq => XS.iloadN X0.here hx rfl (hb hby d14_0) rfl kq) ?_
  show Gl p.tables e below _ (s₁.setTop (mkF m 1 #[.val (.ref t), .val (.int q), .val (.int (Int32.ofNat i)), .val (.int (Int32.ofNat cs.length))] [(.int q)]))
  obtain ⟨_, _, ⟨T1, L1, k1, n1⟩, -, X1, ⟨Lc1, hQ1, l1, y1, z1⟩, st1⟩ := Jvm.LawKit.callS X0 hx (y := (⟨"java/lang/StringLatin1", "canEncode", "(I)Z"⟩ : MethodName)) hown (mvT hZ (tw hw 74 rfl)) (mvT hZ (tw hw 75 rfl)) (mvT hZ (tw hw 72 rfl)) (mvT hZ (tw hw 76 rfl)) (by decide) (backOf (W := 0) (rm_cei l Z a0 hw [] (q) h0 n0 Z0 hq0 hq1) hZ (tw hw 76 rfl) (tw hw 72 rfl) (by decide) (by decide)) (g := (mkF m 1 #[.val (.ref t), .val (.int q), .val (.int (Int32.ofNat i)), .val (.int (Int32.ofNat cs.length))] [(.int q)])) rfl (by rw [hml]; rfl) (argsL := [(.int q)]) (rest := []) (lenOf pd__I_Z rfl) rfl (by show 2 * 0 + _ ≤ _; exact Nat.le_of_eq rfl) (hb hby d14_1) (fun _ _ => ⟨rfl, e0, (by decide : 0 + 0 ≤ _), (by decide : 0 + 0 ≤ _)⟩)
  dsimp only [Pt.U, Pt.locs, Pt.cells, Pt.slots] at X1 l1 y1 z1 st1 hQ1
  subst l1 y1 z1
  obtain ⟨rfl, N1, e1⟩ := hQ1
  have M1 := Fr.app N0 N1
  refine Gl.st st1 ?_
  show Gl p.tables e below _ (T1.setTop (mkF m 4 #[.val (.ref t), .val (.int q), .val (.int (Int32.ofNat i)), .val (.int (Int32.ofNat cs.length))] [(.int 1)]))
  show Gl p.tables e below _ (T1.setTop (mkF m 4 #[.val (.ref t), .val (.int q), .val (.int (Int32.ofNat i)), .val (.int (Int32.ofNat cs.length))] [(.int 1)]))
  refine Gl.st (fun _ kq => XS.ifYes X1.here hx rfl (pc0 := 4) (pc' := 9) rfl (hb hby d14_4) rfl ((if0 _ _).trans (feq ((by decide) : ¬ ((1 : Int32) = (0 : Int32)))).2) (by decide) (by decide) kq) ?_
  show Gl p.tables e below _ (T1.setTop (mkF m 9 #[.val (.ref t), .val (.int q), .val (.int (Int32.ofNat i)), .val (.int (Int32.ofNat cs.length))] []))
  refine Gl.st (fun _ kq => XS.iloadN X1.here hx rfl (hb hby d14_9) rfl kq) ?_
  show Gl p.tables e below _ (T1.setTop (mkF m 10 #[.val (.ref t), .val (.int q), .val (.int (Int32.ofNat i)), .val (.int (Int32.ofNat cs.length))] [(.int (Int32.ofNat i))]))
  refine Gl.st (fun _ kq => XS.iconst X1.here hx rfl (hb hby d14_10) kq) ?_
  show Gl p.tables e below _ (T1.setTop (mkF m 11 #[.val (.ref t), .val (.int q), .val (.int (Int32.ofNat i)), .val (.int (Int32.ofNat cs.length))] [(.int 0), (.int (Int32.ofNat i))]))
  obtain ⟨_, _, ⟨T2, L2, k2, n2⟩, -, X2, ⟨Lc2, hQ2, l2, y2, z2⟩, st2⟩ := Jvm.LawKit.callS X1 hx (y := (⟨"java/lang/Math", "max", "(II)I"⟩ : MethodName)) hown (mvT hZ (tw hw 77 rfl)) (mvT hZ (tw hw 78 rfl)) (mvT hZ (tw hw 79 rfl)) (mvT hZ (tw hw 80 rfl)) (by decide) (backOf (W := 0) (rm_mx l Z a0 hw [] ((Int32.ofNat i)) ((0 : Int32)) h0 n0 Z0 ) hZ (tw hw 80 rfl) (tw hw 79 rfl) (by decide) (by decide)) (g := (mkF m 11 #[.val (.ref t), .val (.int q), .val (.int (Int32.ofNat i)), .val (.int (Int32.ofNat cs.length))] [(.int 0), (.int (Int32.ofNat i))])) rfl (by rw [hml]; rfl) (argsL := [(.int (Int32.ofNat i)), (.int 0)]) (rest := []) (lenOf pd__II_I rfl) rfl (by show 2 * 0 + _ ≤ _; exact Nat.le_of_eq rfl) (hb hby d14_11) (fun _ _ => ⟨rfl, e1, (by decide : 0 + 0 ≤ _), (by decide : 0 + 0 ≤ _)⟩)
  dsimp only [Pt.U, Pt.locs, Pt.cells, Pt.slots] at X2 l2 y2 z2 st2 hQ2
  subst l2 y2 z2
  rcases hQ2 with ⟨rfl, N2, e2, y2_0⟩ | ⟨rfl, N2, e2, y2_0⟩
  · have M2 := Fr.app M1 N2
    refine Gl.st st2 ?_
    show Gl p.tables e below _ (T2.setTop (mkF m 14 #[.val (.ref t), .val (.int q), .val (.int (Int32.ofNat i)), .val (.int (Int32.ofNat cs.length))] [(.int (Int32.ofNat i))]))
    refine Gl.st (fun _ kq => XS.istoreN X2.here hx rfl (hb hby d14_14) rfl (l' := #[.val (.ref t), .val (.int q), .val (.int (Int32.ofNat i)), .val (.int (Int32.ofNat cs.length))]) rfl kq) ?_
    show Gl p.tables e below _ (T2.setTop (mkF m 15 #[.val (.ref t), .val (.int q), .val (.int (Int32.ofNat i)), .val (.int (Int32.ofNat cs.length))] []))
    refine Gl.st (fun _ kq => XS.iloadN X2.here hx rfl (hb hby d14_15) rfl kq) ?_
    show Gl p.tables e below _ (T2.setTop (mkF m 16 #[.val (.ref t), .val (.int q), .val (.int (Int32.ofNat i)), .val (.int (Int32.ofNat cs.length))] [(.int (Int32.ofNat cs.length))]))
    refine Gl.st (fun _ kq => XS.aloadN X2.here hx rfl (hb hby d14_16) rfl rfl kq) ?_
    show Gl p.tables e below _ (T2.setTop (mkF m 17 #[.val (.ref t), .val (.int q), .val (.int (Int32.ofNat i)), .val (.int (Int32.ofNat cs.length))] [(.ref t), (.int (Int32.ofNat cs.length))]))
    obtain ⟨c3, a3, q3, S3, M3, H3, G3⟩ := id pf0
    refine Gl.st (fun _ kq => X2.arraylength hx (by rw [e2]; exact a3.1) (State.isArrayOf_alike hZ.alike a3.2.1) (g := (mkF m 17 #[.val (.ref t), .val (.int q), .val (.int (Int32.ofNat i)), .val (.int (Int32.ofNat cs.length))] [(.ref t), (.int (Int32.ofNat cs.length))])) rfl rfl (hb hby d14_17) _ kq) ?_
    rw [len_of S3 M3]
    show Gl p.tables e below _ (T2.setTop (mkF m 18 #[.val (.ref t), .val (.int q), .val (.int (Int32.ofNat i)), .val (.int (Int32.ofNat cs.length))] [(.int (Int32.ofNat cs.length)), (.int (Int32.ofNat cs.length))]))
    obtain ⟨_, _, ⟨T4, L4, k4, n4⟩, -, X4, ⟨Lc4, hQ4, l4, y4, z4⟩, st4⟩ := Jvm.LawKit.callS X2 hx (y := (⟨"java/lang/Math", "min", "(II)I"⟩ : MethodName)) hown (mvT hZ (tw hw 81 rfl)) (mvT hZ (tw hw 82 rfl)) (mvT hZ (tw hw 79 rfl)) (mvT hZ (tw hw 83 rfl)) (by decide) (backOf (W := 0) (rm_mi l Z a0 hw [] ((Int32.ofNat cs.length)) ((Int32.ofNat cs.length)) h0 n0 Z0 ) hZ (tw hw 83 rfl) (tw hw 79 rfl) (by decide) (by decide)) (g := (mkF m 18 #[.val (.ref t), .val (.int q), .val (.int (Int32.ofNat i)), .val (.int (Int32.ofNat cs.length))] [(.int (Int32.ofNat cs.length)), (.int (Int32.ofNat cs.length))])) rfl (by rw [hml]; rfl) (argsL := [(.int (Int32.ofNat cs.length)), (.int (Int32.ofNat cs.length))]) (rest := []) (lenOf pd__II_I rfl) rfl (by show 2 * 0 + _ ≤ _; exact Nat.le_of_eq rfl) (hb hby d14_18) (fun _ _ => ⟨rfl, e2, (by decide : 0 + 0 ≤ _), (by decide : 0 + 0 ≤ _)⟩)
    dsimp only [Pt.U, Pt.locs, Pt.cells, Pt.slots] at X4 l4 y4 z4 st4 hQ4
    subst l4 y4 z4
    rcases hQ4 with ⟨rfl, N4, e4, y4_0⟩ | ⟨rfl, N4, e4, y4_0⟩
    · have M4 := Fr.app M2 N4
      refine Gl.st st4 ?_
      show Gl p.tables e below _ (T4.setTop (mkF m 21 #[.val (.ref t), .val (.int q), .val (.int (Int32.ofNat i)), .val (.int (Int32.ofNat cs.length))] [(.int (Int32.ofNat cs.length))]))
      refine Gl.st (fun _ kq => XS.istoreN X4.here hx rfl (hb hby d14_21) rfl (l' := #[.val (.ref t), .val (.int q), .val (.int (Int32.ofNat i)), .val (.int (Int32.ofNat cs.length))]) rfl kq) ?_
      show Gl p.tables e below _ (T4.setTop (mkF m 22 #[.val (.ref t), .val (.int q), .val (.int (Int32.ofNat i)), .val (.int (Int32.ofNat cs.length))] []))
      refine Gl.st (fun _ kq => XS.iloadN X4.here hx rfl (hb hby d14_22) rfl kq) ?_
      show Gl p.tables e below _ (T4.setTop (mkF m 23 #[.val (.ref t), .val (.int q), .val (.int (Int32.ofNat i)), .val (.int (Int32.ofNat cs.length))] [(.int (Int32.ofNat i))]))
      refine Gl.st (fun _ kq => XS.iloadN X4.here hx rfl (hb hby d14_23) rfl kq) ?_
      show Gl p.tables e below _ (T4.setTop (mkF m 24 #[.val (.ref t), .val (.int q), .val (.int (Int32.ofNat i)), .val (.int (Int32.ofNat cs.length))] [(.int (Int32.ofNat cs.length)), (.int (Int32.ofNat i))]))
      by_cases hc5 : (Int32.ofNat i) < (Int32.ofNat cs.length)
      · refine Gl.st (fun _ kq => XS.icmpYes X4.here hx rfl (pc0 := 24) (pc' := 29) rfl (hb hby d14_24) rfl (tlt (hc5 : (Int32.ofNat i) < (Int32.ofNat cs.length))).1 (by decide) (by decide) kq) ?_
        show Gl p.tables e below _ (T4.setTop (mkF m 29 #[.val (.ref t), .val (.int q), .val (.int (Int32.ofNat i)), .val (.int (Int32.ofNat cs.length))] []))
        refine Gl.st (fun _ kq => XS.aloadN X4.here hx rfl (hb hby d14_29) rfl rfl kq) ?_
        show Gl p.tables e below _ (T4.setTop (mkF m 30 #[.val (.ref t), .val (.int q), .val (.int (Int32.ofNat i)), .val (.int (Int32.ofNat cs.length))] [(.ref t)]))
        refine Gl.st (fun _ kq => XS.iloadN X4.here hx rfl (hb hby d14_30) rfl kq) ?_
        show Gl p.tables e below _ (T4.setTop (mkF m 31 #[.val (.ref t), .val (.int q), .val (.int (Int32.ofNat i)), .val (.int (Int32.ofNat cs.length))] [(.int q), (.ref t)]))
        refine Gl.st (fun _ kq => XS.iloadN X4.here hx rfl (hb hby d14_31) rfl kq) ?_
        show Gl p.tables e below _ (T4.setTop (mkF m 32 #[.val (.ref t), .val (.int q), .val (.int (Int32.ofNat i)), .val (.int (Int32.ofNat cs.length))] [(.int (Int32.ofNat i)), (.int q), (.ref t)]))
        refine Gl.st (fun _ kq => XS.iloadN X4.here hx rfl (hb hby d14_32) rfl kq) ?_
        show Gl p.tables e below _ (T4.setTop (mkF m 33 #[.val (.ref t), .val (.int q), .val (.int (Int32.ofNat i)), .val (.int (Int32.ofNat cs.length))] [(.int (Int32.ofNat cs.length)), (.int (Int32.ofNat i)), (.int q), (.ref t)]))
        obtain ⟨_, _, ⟨T7, L7, k7, n7⟩, -, X7, ⟨Lc7, hQ7, l7, y7, z7⟩, st7⟩ := Jvm.LawKit.callS X4 hx (y := (⟨"java/lang/StringLatin1", "indexOfChar", "([BIII)I"⟩ : MethodName)) hown (mvT hZ (tw hw 84 rfl)) (mvT hZ (tw hw 85 rfl)) (mvT hZ (tw hw 72 rfl)) (mvT hZ (tw hw 86 rfl)) (by decide) (backOf (W := 0) (rm_ioc l Z a0 hw [] (t) (k) (cs) (q) (i) h0 n0 Z0 pf0 hr hl hq0 hq1 hi) hZ (tw hw 86 rfl) (tw hw 72 rfl) (by decide) (by decide)) (g := (mkF m 33 #[.val (.ref t), .val (.int q), .val (.int (Int32.ofNat i)), .val (.int (Int32.ofNat cs.length))] [(.int (Int32.ofNat cs.length)), (.int (Int32.ofNat i)), (.int q), (.ref t)])) rfl (by rw [hml]; rfl) (argsL := [(.ref t), (.int q), (.int (Int32.ofNat i)), (.int (Int32.ofNat cs.length))]) (rest := []) (lenOf pd___BIII_I rfl) rfl (by show 2 * 0 + _ ≤ _; exact Nat.le_of_eq rfl) (hb hby d14_33) (fun _ _ => ⟨rfl, e4, (by decide : 0 + 0 ≤ _), (by decide : 0 + 0 ≤ _)⟩)
        dsimp only [Pt.U, Pt.locs, Pt.cells, Pt.slots] at X7 l7 y7 z7 st7 hQ7
        subst l7 y7 z7
        rcases hQ7 with ⟨v6, rfl, N7, e7, y7_0⟩ | ⟨rfl, N7, e7, y7_0⟩
        · have M7 := Fr.app M4 N7
          refine Gl.st st7 ?_
          show Gl p.tables e below _ (T7.setTop (mkF m 36 #[.val (.ref t), .val (.int q), .val (.int (Int32.ofNat i)), .val (.int (Int32.ofNat cs.length))] [(.int (Int32.ofNat v6))]))
          exact Gl.retI X7 hx Bd.returns (hb hby d14_36) hlk (by decide) (by decide) (by rw [e7]; exact (Or.inl ⟨v6, rfl, M7, rfl, y7_0⟩))
        · have M7 := Fr.app M4 N7
          refine Gl.st st7 ?_
          show Gl p.tables e below _ (T7.setTop (mkF m 36 #[.val (.ref t), .val (.int q), .val (.int (Int32.ofNat i)), .val (.int (Int32.ofNat cs.length))] [(.int (-1))]))
          exact Gl.retI X7 hx Bd.returns (hb hby d14_36) hlk (by decide) (by decide) (by rw [e7]; exact (Or.inr (⟨rfl, M7, rfl, y7_0⟩)))
      · have hno : Nowhere q cs i := fun k h1 h2 => absurd (n32_plt (i := i) (j := cs.length) (by omega) (by omega)) hc5
        refine Gl.st (fun _ kq => XS.icmpNo X4.here hx rfl (hb hby d14_24) rfl (flt (hc5 : ¬ ((Int32.ofNat i) < (Int32.ofNat cs.length)))).1 kq) ?_
        show Gl p.tables e below _ (T4.setTop (mkF m 27 #[.val (.ref t), .val (.int q), .val (.int (Int32.ofNat i)), .val (.int (Int32.ofNat cs.length))] []))
        refine Gl.st (fun _ kq => XS.iconst X4.here hx rfl (hb hby d14_27) kq) ?_
        show Gl p.tables e below _ (T4.setTop (mkF m 28 #[.val (.ref t), .val (.int q), .val (.int (Int32.ofNat i)), .val (.int (Int32.ofNat cs.length))] [(.int (-1))]))
        exact Gl.retI X4 hx Bd.returns (hb hby d14_28) hlk (by decide) (by decide) (by rw [e4]; exact (Or.inr (⟨rfl, M4, rfl, hno⟩)))
    · exact absurd y4_0 Int32.lt_irrefl
  · exact absurd y2_0 (n32_nn (by omega))
theorem d10_0 : decode jdk_42_method_80_code 0 = .ok (.aload_n 0, 1) := by decide +kernel
theorem d10_1 : decode jdk_42_method_80_code 1 = .ok (.invokevirtual 492, 3) := by decide +kernel
theorem d10_4 : decode jdk_42_method_80_code 4 = .ok (.ifCond .eq 19, 3) := by decide +kernel
theorem d10_7 : decode jdk_42_method_80_code 7 = .ok (.aload_n 0, 1) := by decide +kernel
theorem d10_8 : decode jdk_42_method_80_code 8 = .ok (.getfield 9, 3) := by decide +kernel
theorem d10_11 : decode jdk_42_method_80_code 11 = .ok (.iload_n 1, 1) := by decide +kernel
theorem d10_12 : decode jdk_42_method_80_code 12 = .ok (.iload_n 2, 1) := by decide +kernel
theorem d10_13 : decode jdk_42_method_80_code 13 = .ok (.aload_n 0, 1) := by decide +kernel
theorem d10_14 : decode jdk_42_method_80_code 14 = .ok (.invokevirtual 505, 3) := by decide +kernel
theorem d10_17 : decode jdk_42_method_80_code 17 = .ok (.invokestatic 637, 3) := by decide +kernel
theorem d10_20 : decode jdk_42_method_80_code 20 = .ok (.goto 16, 3) := by decide +kernel
theorem d10_36 : decode jdk_42_method_80_code 36 = .ok (.ireturn, 1) := by decide +kernel
theorem ef_sio (m : MethodId) (b : Addr) (q : Int32) (i : Nat) : entryFrame m #[(.ref b), (.int q), (.int (Int32.ofNat i))] 3 = mkF m 0 #[.val (.ref b), .val (.int q), .val (.int (Int32.ofNat i))] [] := by first | (simp [entryFrame, mkF, argsToLocals, Value.category]; done) | rfl
def Q_sio (Z : State) (b : Addr) (t : Addr) (k : ClassId) (cs : List Int32) (q : Int32) (i : Nat) (G1 : Int32) (h0 : Heap) (n0 : Nat) (v : Option Value) (h : Heap) (L : List Loc) : Prop := (∃ r : Nat, v = some (.int (Int32.ofNat r)) ∧ Fr n0 L ∧ h = h0 ∧ (First q cs i r)) ∨ (v = some (.int (-1)) ∧ Fr n0 L ∧ h = h0 ∧ (Nowhere q cs i))
set_option maxRecDepth 65536 in
set_option maxHeartbeats 40000000 in
theorem rm_sio (l : Launch) (Z : State) (a0 : Array Value) (hw : ∀ d ∈ tables_1, d.before a0 Z = true) (ws : List Jvm.Cond) (b : Addr) (t : Addr) (k : ClassId) (cs : List Int32) (q : Int32) (i : Nat) (G1 : Int32) (h0 : Heap) (n0 : Nat) (Z0 : n0 ≤ h0.size) (pf0 : Exa Z h0 b "java/lang/String") (pf1 : Fld Z h0 b "java/lang/String" "coder" "B" (.int 0)) (pf2 : Fld Z h0 b "java/lang/String" "value" "[B" (.ref t)) (pf3 : Arv Z h0 t k .byte (Int32.ofNat cs.length) ((cs.map (fun c => c.toInt8.toInt32)).map Value.int) (.int 0)) (pf4 : Old Z n0 h0) (hr : Rng cs) (hl : cs.length ≤ 8) (hq0 : ¬ (q < (0 : Int32))) (hq1 : ¬ ((255 : Int32) < q)) (hi : i ≤ cs.length) (O2 : Sta Z Z.heap "java/lang/String" "COMPACT_STRINGS" "Z" (.int G1)) (P5 : ¬ (G1 = (0 : Int32))) :
    MetFree l (⟨"java/lang/String", "indexOf", "(II)I"⟩ : MethodName) (head1 (Jvm.Cond.code (⟨"java/lang/String", "indexOf", "(II)I"⟩ : MethodName) jdk_42_method_80_code 3 (some .int) :: ws) ({ frames := 2, cells := 0, slots := 0, locals := 32 } : Room)) (fun aa U => aa = #[(.ref b), (.int q), (.int (Int32.ofNat i))] ∧ Z.Warmed39 U.vm ∧ U.heap = h0) (fun _ _ _ _ _ => True) (fun _ U o U' => ∃ v L, o = .returned v ∧ Q_sio Z b t k cs q i G1 h0 n0 v U'.heap L ∧ FrameEnd U o U' L ({ frames := 2, cells := 0, slots := 0, locals := 32 } : Room).cells ({ frames := 2, cells := 0, slots := 0, locals := 32 } : Room).slots) := by
  refine MetFree.of_bodySF (plainFor_of_name pn_java_lang_String) hisR ?_
  intro p e s m args below meth c s₁ Bd hml0 hP hK
  obtain ⟨rfl, hZ, hh⟩ := hP
  have hx := Bd.exec
  have hby := Bd.bytes
  have hlk : meth.locks = false := BodyLoose.notSynchronized Bd
  have hml : c.maxLocals = 3 := hml0
  have hown : s.vm.findClass "java/lang/String" = some m.cls := findClass_of_methodNamed Bd.named
  have hnm := (name_of_methodNamed Bd.named Bd.method).1
  have X0 : Stand p l e ({ frames := 2, cells := 0, slots := 0, locals := 32 } : Room) s m #[(.ref b), (.int q), (.int (Int32.ofNat i))] below meth c s₁ [] 0 0 := Stand.of_body Bd
  have e0 : s₁.heap = h0 := by rw [← hh, Bd.state]; rfl
  have N0 := Fr.nil n0
  show Gl p.tables e below (EndN s (Q_sio Z b t k cs q i G1 h0 n0) ({ frames := 2, cells := 0, slots := 0, locals := 32 } : Room).cells ({ frames := 2, cells := 0, slots := 0, locals := 32 } : Room).slots) _
  refine Gl.cast (ef_sio m b q i) ?_
  show Gl p.tables e below _ (s₁.setTop (mkF m 0 #[.val (.ref b), .val (.int q), .val (.int (Int32.ofNat i))] []))
  refine Gl.st (fun _ kq => XS.aloadN X0.here hx rfl (hb hby d10_0) rfl rfl kq) ?_
  show Gl p.tables e below _ (s₁.setTop (mkF m 1 #[.val (.ref b), .val (.int q), .val (.int (Int32.ofNat i))] [(.ref b)]))
  obtain ⟨cq1, kq1, q1a, q1b, q1c⟩ := isOf hZ e0 pf0
  obtain ⟨_, _, ⟨T1, L1, k1, n1⟩, -, X1, ⟨Lc1, hQ1, l1, y1, z1⟩, st1⟩ := X0.virtualBack hx (y := (⟨"java/lang/String", "isLatin1", "()Z"⟩ : MethodName)) (z := (⟨"java/lang/String", "isLatin1", "()Z"⟩ : MethodName)) hown (mvT hZ (tw hw 55 rfl)) (mvT hZ (tw hw 56 rfl)) (notFace_of_selects (args := #[]) (mvT hZ (tw hw 58 rfl))) (mvT hZ (tw hw 58 rfl)) (mvT hZ (tw hw 57 rfl)) (by decide) (backOf (W := 0) (rm_isl l Z a0 hw [] (b) (G1) h0 n0 Z0 pf1 pf4 O2 P5) hZ (tw hw 59 rfl) (tw hw 6 rfl) (by decide) (by decide)) q1a q1c (g := (mkF m 1 #[.val (.ref b), .val (.int q), .val (.int (Int32.ofNat i))] [(.ref b)])) rfl (by rw [hml]; rfl) (Steps.refl _) (argsL := []) (rest := []) (lenOf pd___Z rfl) rfl (by show 2 * 0 + _ ≤ _; exact Nat.le_of_eq rfl) (hb hby d10_1) (fun _ _ => ⟨rfl, e0, (by decide : 0 + 0 ≤ _), (by decide : 0 + 0 ≤ _)⟩)
  dsimp only [Pt.U, Pt.locs, Pt.cells, Pt.slots] at X1 l1 y1 z1 st1 hQ1
  subst l1 y1 z1
  obtain ⟨rfl, N1, e1⟩ := hQ1
  have M1 := Fr.app N0 N1
  refine Gl.to st1 ?_
  show Gl p.tables e below _ (T1.setTop (mkF m 4 #[.val (.ref b), .val (.int q), .val (.int (Int32.ofNat i))] [(.int 1)]))
  show Gl p.tables e below _ (T1.setTop (mkF m 4 #[.val (.ref b), .val (.int q), .val (.int (Int32.ofNat i))] [(.int 1)]))
  refine Gl.st (fun _ kq => XS.ifNo X1.here hx rfl (hb hby d10_4) rfl ((if0 _ _).trans (feq ((by decide) : ¬ ((1 : Int32) = (0 : Int32)))).1) kq) ?_
  show Gl p.tables e below _ (T1.setTop (mkF m 7 #[.val (.ref b), .val (.int q), .val (.int (Int32.ofNat i))] []))
  refine Gl.st (fun _ kq => XS.aloadN X1.here hx rfl (hb hby d10_7) rfl rfl kq) ?_
  show Gl p.tables e below _ (T1.setTop (mkF m 8 #[.val (.ref b), .val (.int q), .val (.int (Int32.ofNat i))] [(.ref b)]))
  obtain ⟨T2, X2, e2, st2⟩ := getF X1 hx hZ hown (host := "") (Or.inl (tw hw 31 rfl)) Via.refl e1 pf2 (g := (mkF m 8 #[.val (.ref b), .val (.int q), .val (.int (Int32.ofNat i))] [(.ref b)])) rfl rfl (hb hby d10_8)
  refine Gl.st st2 ?_
  show Gl p.tables e below _ (T2.setTop (mkF m 11 #[.val (.ref b), .val (.int q), .val (.int (Int32.ofNat i))] [(.ref t)]))
  refine Gl.st (fun _ kq => XS.iloadN X2.here hx rfl (hb hby d10_11) rfl kq) ?_
  show Gl p.tables e below _ (T2.setTop (mkF m 12 #[.val (.ref b), .val (.int q), .val (.int (Int32.ofNat i))] [(.int q), (.ref t)]))
  refine Gl.st (fun _ kq => XS.iloadN X2.here hx rfl (hb hby d10_12) rfl kq) ?_
  show Gl p.tables e below _ (T2.setTop (mkF m 13 #[.val (.ref b), .val (.int q), .val (.int (Int32.ofNat i))] [(.int (Int32.ofNat i)), (.int q), (.ref t)]))
  refine Gl.st (fun _ kq => XS.aloadN X2.here hx rfl (hb hby d10_13) rfl rfl kq) ?_
  show Gl p.tables e below _ (T2.setTop (mkF m 14 #[.val (.ref b), .val (.int q), .val (.int (Int32.ofNat i))] [(.ref b), (.int (Int32.ofNat i)), (.int q), (.ref t)]))
  obtain ⟨cq3, kq3, q3a, q3b, q3c⟩ := isOf hZ e2 pf0
  obtain ⟨_, _, ⟨T3, L3, k3, n3⟩, -, X3, ⟨Lc3, hQ3, l3, y3, z3⟩, st3⟩ := X2.virtualBack hx (y := (⟨"java/lang/String", "length", "()I"⟩ : MethodName)) (z := (⟨"java/lang/String", "length", "()I"⟩ : MethodName)) hown (mvT hZ (tw hw 60 rfl)) (mvT hZ (tw hw 61 rfl)) (notFace_of_selects (args := #[]) (mvT hZ (tw hw 63 rfl))) (mvT hZ (tw hw 63 rfl)) (mvT hZ (tw hw 62 rfl)) (by decide) (StrChars.Road.lenW (W := 3) hZ (wdLen hw) (kI := 4) (tw hw 5 rfl) pf0 pf2 pf1 pf3 (StrChars.Road.codOf (cs := cs) rfl (fun x hx => (hr x hx).2)) (up255 _ hr) (O2.ext pf4.2) P5 (Nat.le_trans hl (by decide)) (by decide) (by decide)) q3a q3c (g := (mkF m 14 #[.val (.ref b), .val (.int q), .val (.int (Int32.ofNat i))] [(.ref b), (.int (Int32.ofNat i)), (.int q), (.ref t)])) rfl (by rw [hml]; rfl) (Steps.refl _) (argsL := []) (rest := [(.int (Int32.ofNat i)), (.int q), (.ref t)]) (lenOf pd___I rfl) rfl (by show 2 * 0 + _ ≤ _; exact Nat.le_of_eq rfl) (hb hby d10_14) (fun _ _ => ⟨rfl, e2, (by decide : 0 + 0 ≤ _), (by decide : 0 + 0 ≤ _)⟩)
  dsimp only [Pt.U, Pt.locs, Pt.cells, Pt.slots] at X3 l3 y3 z3 st3 hQ3
  subst l3 y3 z3
  obtain ⟨rfl, rfl, e3⟩ := hQ3
  have N3 : Fr n0 ([] : List Loc) := Fr.nil n0
  have M3 := Fr.app M1 N3
  refine Gl.to st3 ?_
  show Gl p.tables e below _ (T3.setTop (mkF m 17 #[.val (.ref b), .val (.int q), .val (.int (Int32.ofNat i))] [(.int (Int32.ofNat cs.length)), (.int (Int32.ofNat i)), (.int q), (.ref t)]))
  show Gl p.tables e below _ (T3.setTop (mkF m 17 #[.val (.ref b), .val (.int q), .val (.int (Int32.ofNat i))] [(.int (Int32.ofNat cs.length)), (.int (Int32.ofNat i)), (.int q), (.ref t)]))
  obtain ⟨_, _, ⟨T5, L5, k5, n5⟩, -, X5, ⟨Lc5, hQ5, l5, y5, z5⟩, st5⟩ := Jvm.LawKit.callS X3 hx (y := (⟨"java/lang/StringLatin1", "indexOf", "([BIII)I"⟩ : MethodName)) hown (mvT hZ (tw hw 70 rfl)) (mvT hZ (tw hw 71 rfl)) (mvT hZ (tw hw 72 rfl)) (mvT hZ (tw hw 73 rfl)) (by decide) (backOf (W := 0) (rm_lio l Z a0 hw [] (t) (k) (cs) (q) (i) h0 n0 Z0 pf3 hr hl hq0 hq1 hi) hZ (tw hw 73 rfl) (tw hw 72 rfl) (by decide) (by decide)) (g := (mkF m 17 #[.val (.ref b), .val (.int q), .val (.int (Int32.ofNat i))] [(.int (Int32.ofNat cs.length)), (.int (Int32.ofNat i)), (.int q), (.ref t)])) rfl (by rw [hml]; rfl) (argsL := [(.ref t), (.int q), (.int (Int32.ofNat i)), (.int (Int32.ofNat cs.length))]) (rest := []) (lenOf pd___BIII_I rfl) rfl (by show 2 * 0 + _ ≤ _; exact Nat.le_of_eq rfl) (hb hby d10_17) (fun _ _ => ⟨rfl, e3, (by decide : 0 + 0 ≤ _), (by decide : 0 + 0 ≤ _)⟩)
  dsimp only [Pt.U, Pt.locs, Pt.cells, Pt.slots] at X5 l5 y5 z5 st5 hQ5
  subst l5 y5 z5
  rcases hQ5 with ⟨v4, rfl, N5, e5, y5_0⟩ | ⟨rfl, N5, e5, y5_0⟩
  · have M5 := Fr.app M3 N5
    refine Gl.st st5 ?_
    show Gl p.tables e below _ (T5.setTop (mkF m 20 #[.val (.ref b), .val (.int q), .val (.int (Int32.ofNat i))] [(.int (Int32.ofNat v4))]))
    refine Gl.st (fun _ kq => XS.goto X5.here hx rfl (pc0 := 20) (pc' := 36) rfl (hb hby d10_20) (by decide) (by decide) kq) ?_
    show Gl p.tables e below _ (T5.setTop (mkF m 36 #[.val (.ref b), .val (.int q), .val (.int (Int32.ofNat i))] [(.int (Int32.ofNat v4))]))
    exact Gl.retI X5 hx Bd.returns (hb hby d10_36) hlk (by decide) (by decide) (by rw [e5]; exact (Or.inl ⟨v4, rfl, M5, rfl, y5_0⟩))
  · have M5 := Fr.app M3 N5
    refine Gl.st st5 ?_
    show Gl p.tables e below _ (T5.setTop (mkF m 20 #[.val (.ref b), .val (.int q), .val (.int (Int32.ofNat i))] [(.int (-1))]))
    refine Gl.st (fun _ kq => XS.goto X5.here hx rfl (pc0 := 20) (pc' := 36) rfl (hb hby d10_20) (by decide) (by decide) kq) ?_
    show Gl p.tables e below _ (T5.setTop (mkF m 36 #[.val (.ref b), .val (.int q), .val (.int (Int32.ofNat i))] [(.int (-1))]))
    exact Gl.retI X5 hx Bd.returns (hb hby d10_36) hlk (by decide) (by decide) (by rw [e5]; exact (Or.inr (⟨rfl, M5, rfl, y5_0⟩)))
theorem d21_0 : decode jdk_41_method_12_code 0 = .ok (.iload_n 0, 1) := by decide +kernel
theorem d21_1 : decode jdk_41_method_12_code 1 = .ok (.ifCond .lt 13, 3) := by decide +kernel
theorem d21_4 : decode jdk_41_method_12_code 4 = .ok (.iload_n 0, 1) := by decide +kernel
theorem d21_5 : decode jdk_41_method_12_code 5 = .ok (.iload_n 1, 1) := by decide +kernel
theorem d21_6 : decode jdk_41_method_12_code 6 = .ok (.if_icmp .gt 8, 3) := by decide +kernel
theorem d21_9 : decode jdk_41_method_12_code 9 = .ok (.iload_n 1, 1) := by decide +kernel
theorem d21_10 : decode jdk_41_method_12_code 10 = .ok (.iload_n 2, 1) := by decide +kernel
theorem d21_11 : decode jdk_41_method_12_code 11 = .ok (.if_icmp .le 11, 3) := by decide +kernel
theorem d21_22 : decode jdk_41_method_12_code 22 = .ok (.iload_n 0, 1) := by decide +kernel
theorem d21_23 : decode jdk_41_method_12_code 23 = .ok (.ireturn, 1) := by decide +kernel
theorem ef_cft (m : MethodId) (x : Nat) (y : Nat) (n : Nat) (fm : Value) (hfm : fm.isRef = true) : entryFrame m #[(.int (Int32.ofNat x)), (.int (Int32.ofNat y)), (.int (Int32.ofNat n)), fm] 4 = mkF m 0 #[.val (.int (Int32.ofNat x)), .val (.int (Int32.ofNat y)), .val (.int (Int32.ofNat n)), .val fm] [] := by simp [entryFrame, mkF, argsToLocals, refc hfm, show ∀ a, (Value.ref a).category = 1 from fun _ => rfl, show ∀ a, (Value.int a).category = 1 from fun _ => rfl]
def Q_cft (Z : State) (x : Nat) (y : Nat) (n : Nat) (fm : Value) (h0 : Heap) (n0 : Nat) (v : Option Value) (h : Heap) (L : List Loc) : Prop := (v = some (.int (Int32.ofNat x)) ∧ Fr n0 L ∧ h = h0)
set_option maxRecDepth 65536 in
set_option maxHeartbeats 40000000 in
theorem rm_cft (l : Launch) (Z : State) (a0 : Array Value) (hw : ∀ d ∈ tables_1, d.before a0 Z = true) (ws : List Jvm.Cond) (x : Nat) (y : Nat) (n : Nat) (fm : Value) (h0 : Heap) (n0 : Nat) (Z0 : n0 ≤ h0.size) (h1 : ¬ ((Int32.ofNat x) < (0 : Int32))) (h2 : ¬ ((Int32.ofNat y) < (Int32.ofNat x))) (h3 : ¬ ((Int32.ofNat n) < (Int32.ofNat y))) (hf : fm.isRef = true) :
    MetFree l (⟨"jdk/internal/util/Preconditions", "checkFromToIndex", "(IIILjava/util/function/BiFunction;)I"⟩ : MethodName) (head1 (Jvm.Cond.code (⟨"jdk/internal/util/Preconditions", "checkFromToIndex", "(IIILjava/util/function/BiFunction;)I"⟩ : MethodName) jdk_41_method_12_code 4 (some .int) :: ws) ({ frames := 0, cells := 0, slots := 0, locals := 0 } : Room)) (fun aa U => aa = #[(.int (Int32.ofNat x)), (.int (Int32.ofNat y)), (.int (Int32.ofNat n)), fm] ∧ Z.Warmed39 U.vm ∧ U.heap = h0) (fun _ _ _ _ _ => True) (fun _ U o U' => ∃ v L, o = .returned v ∧ Q_cft Z x y n fm h0 n0 v U'.heap L ∧ FrameEnd U o U' L ({ frames := 0, cells := 0, slots := 0, locals := 0 } : Room).cells ({ frames := 0, cells := 0, slots := 0, locals := 0 } : Room).slots) := by
  refine MetFree.of_bodySF (plainFor_of_name pn_jdk_internal_util_Preconditions) hisR ?_
  intro p e s m args below meth c s₁ Bd hml0 hP hK
  obtain ⟨rfl, hZ, hh⟩ := hP
  have hx := Bd.exec
  have hby := Bd.bytes
  have hlk : meth.locks = false := BodyLoose.notSynchronized Bd
  have hml : c.maxLocals = 4 := hml0
  have hown : s.vm.findClass "jdk/internal/util/Preconditions" = some m.cls := findClass_of_methodNamed Bd.named
  have hnm := (name_of_methodNamed Bd.named Bd.method).1
  have X0 : Stand p l e ({ frames := 0, cells := 0, slots := 0, locals := 0 } : Room) s m #[(.int (Int32.ofNat x)), (.int (Int32.ofNat y)), (.int (Int32.ofNat n)), fm] below meth c s₁ [] 0 0 := Stand.of_body Bd
  have e0 : s₁.heap = h0 := by rw [← hh, Bd.state]; rfl
  have N0 := Fr.nil n0
  show Gl p.tables e below (EndN s (Q_cft Z x y n fm h0 n0) ({ frames := 0, cells := 0, slots := 0, locals := 0 } : Room).cells ({ frames := 0, cells := 0, slots := 0, locals := 0 } : Room).slots) _
  refine Gl.cast (ef_cft m x y n fm hf) ?_
  show Gl p.tables e below _ (s₁.setTop (mkF m 0 #[.val (.int (Int32.ofNat x)), .val (.int (Int32.ofNat y)), .val (.int (Int32.ofNat n)), .val fm] []))
  refine Gl.st (fun _ kq => XS.iloadN X0.here hx rfl (hb hby d21_0) rfl kq) ?_
  show Gl p.tables e below _ (s₁.setTop (mkF m 1 #[.val (.int (Int32.ofNat x)), .val (.int (Int32.ofNat y)), .val (.int (Int32.ofNat n)), .val fm] [(.int (Int32.ofNat x))]))
  refine Gl.st (fun _ kq => XS.ifNo X0.here hx rfl (hb hby d21_1) rfl ((if0 _ _).trans (flt (h1 : ¬ ((Int32.ofNat x) < (0 : Int32)))).1) kq) ?_
  show Gl p.tables e below _ (s₁.setTop (mkF m 4 #[.val (.int (Int32.ofNat x)), .val (.int (Int32.ofNat y)), .val (.int (Int32.ofNat n)), .val fm] []))
  refine Gl.st (fun _ kq => XS.iloadN X0.here hx rfl (hb hby d21_4) rfl kq) ?_
  show Gl p.tables e below _ (s₁.setTop (mkF m 5 #[.val (.int (Int32.ofNat x)), .val (.int (Int32.ofNat y)), .val (.int (Int32.ofNat n)), .val fm] [(.int (Int32.ofNat x))]))
  refine Gl.st (fun _ kq => XS.iloadN X0.here hx rfl (hb hby d21_5) rfl kq) ?_
  show Gl p.tables e below _ (s₁.setTop (mkF m 6 #[.val (.int (Int32.ofNat x)), .val (.int (Int32.ofNat y)), .val (.int (Int32.ofNat n)), .val fm] [(.int (Int32.ofNat y)), (.int (Int32.ofNat x))]))
  refine Gl.st (fun _ kq => XS.icmpNo X0.here hx rfl (hb hby d21_6) rfl (flt (h2 : ¬ ((Int32.ofNat y) < (Int32.ofNat x)))).2.2.1 kq) ?_
  show Gl p.tables e below _ (s₁.setTop (mkF m 9 #[.val (.int (Int32.ofNat x)), .val (.int (Int32.ofNat y)), .val (.int (Int32.ofNat n)), .val fm] []))
  refine Gl.st (fun _ kq => XS.iloadN X0.here hx rfl (hb hby d21_9) rfl kq) ?_
  show Gl p.tables e below _ (s₁.setTop (mkF m 10 #[.val (.int (Int32.ofNat x)), .val (.int (Int32.ofNat y)), .val (.int (Int32.ofNat n)), .val fm] [(.int (Int32.ofNat y))]))
  refine Gl.st (fun _ kq => XS.iloadN X0.here hx rfl (hb hby d21_10) rfl kq) ?_
  show Gl p.tables e below _ (s₁.setTop (mkF m 11 #[.val (.int (Int32.ofNat x)), .val (.int (Int32.ofNat y)), .val (.int (Int32.ofNat n)), .val fm] [(.int (Int32.ofNat n)), (.int (Int32.ofNat y))]))
  refine Gl.st (fun _ kq => XS.icmpYes X0.here hx rfl (pc0 := 11) (pc' := 22) rfl (hb hby d21_11) rfl (flt (h3 : ¬ ((Int32.ofNat n) < (Int32.ofNat y)))).2.2.2 (by decide) (by decide) kq) ?_
  show Gl p.tables e below _ (s₁.setTop (mkF m 22 #[.val (.int (Int32.ofNat x)), .val (.int (Int32.ofNat y)), .val (.int (Int32.ofNat n)), .val fm] []))
  refine Gl.st (fun _ kq => XS.iloadN X0.here hx rfl (hb hby d21_22) rfl kq) ?_
  show Gl p.tables e below _ (s₁.setTop (mkF m 23 #[.val (.int (Int32.ofNat x)), .val (.int (Int32.ofNat y)), .val (.int (Int32.ofNat n)), .val fm] [(.int (Int32.ofNat x))]))
  exact Gl.retI X0 hx Bd.returns (hb hby d21_23) hlk (by decide) (by decide) (by rw [e0]; exact ⟨rfl, N0, rfl⟩)
theorem d20_0 : decode jdk_42_method_158_code 0 = .ok (.iload_n 0, 1) := by decide +kernel
theorem d20_1 : decode jdk_42_method_158_code 1 = .ok (.iload_n 1, 1) := by decide +kernel
theorem d20_2 : decode jdk_42_method_158_code 2 = .ok (.iload_n 2, 1) := by decide +kernel
theorem d20_3 : decode jdk_42_method_158_code 3 = .ok (.getstatic 1053, 3) := by decide +kernel
theorem d20_6 : decode jdk_42_method_158_code 6 = .ok (.invokestatic 1062, 3) := by decide +kernel
theorem d20_9 : decode jdk_42_method_158_code 9 = .ok (.pop, 1) := by decide +kernel
theorem d20_10 : decode jdk_42_method_158_code 10 = .ok (.return_, 1) := by decide +kernel
theorem ef_cbe (m : MethodId) (x : Nat) (y : Nat) (n : Nat) : entryFrame m #[(.int (Int32.ofNat x)), (.int (Int32.ofNat y)), (.int (Int32.ofNat n))] 3 = mkF m 0 #[.val (.int (Int32.ofNat x)), .val (.int (Int32.ofNat y)), .val (.int (Int32.ofNat n))] [] := by first | (simp [entryFrame, mkF, argsToLocals, Value.category]; done) | rfl
def Q_cbe (Z : State) (x : Nat) (y : Nat) (n : Nat) (G3 : Value) (h0 : Heap) (n0 : Nat) (v : Option Value) (h : Heap) (L : List Loc) : Prop := (v = none ∧ Fr n0 L ∧ h = h0)
set_option maxRecDepth 65536 in
set_option maxHeartbeats 40000000 in
theorem rm_cbe (l : Launch) (Z : State) (a0 : Array Value) (hw : ∀ d ∈ tables_1, d.before a0 Z = true) (ws : List Jvm.Cond) (x : Nat) (y : Nat) (n : Nat) (G3 : Value) (h0 : Heap) (n0 : Nat) (Z0 : n0 ≤ h0.size) (pf0 : Old Z n0 h0) (h1 : ¬ ((Int32.ofNat x) < (0 : Int32))) (h2 : ¬ ((Int32.ofNat y) < (Int32.ofNat x))) (h3 : ¬ ((Int32.ofNat n) < (Int32.ofNat y))) (O4 : Sta Z Z.heap "jdk/internal/util/Preconditions" "SIOOBE_FORMATTER" "Ljava/util/function/BiFunction;" G3) (rG3 : G3.isRef = true) :
    MetFree l (⟨"java/lang/String", "checkBoundsBeginEnd", "(III)V"⟩ : MethodName) (head1 (Jvm.Cond.code (⟨"java/lang/String", "checkBoundsBeginEnd", "(III)V"⟩ : MethodName) jdk_42_method_158_code 3 none :: ws) ({ frames := 1, cells := 0, slots := 0, locals := 15 } : Room)) (fun aa U => aa = #[(.int (Int32.ofNat x)), (.int (Int32.ofNat y)), (.int (Int32.ofNat n))] ∧ Z.Warmed39 U.vm ∧ U.heap = h0) (fun _ _ _ _ _ => True) (fun _ U o U' => ∃ v L, o = .returned v ∧ Q_cbe Z x y n G3 h0 n0 v U'.heap L ∧ FrameEnd U o U' L ({ frames := 1, cells := 0, slots := 0, locals := 15 } : Room).cells ({ frames := 1, cells := 0, slots := 0, locals := 15 } : Room).slots) := by
  refine MetFree.of_bodySF (plainFor_of_name pn_java_lang_String) hisR ?_
  intro p e s m args below meth c s₁ Bd hml0 hP hK
  obtain ⟨rfl, hZ, hh⟩ := hP
  have hx := Bd.exec
  have hby := Bd.bytes
  have hlk : meth.locks = false := BodyLoose.notSynchronized Bd
  have hml : c.maxLocals = 3 := hml0
  have hown : s.vm.findClass "java/lang/String" = some m.cls := findClass_of_methodNamed Bd.named
  have hnm := (name_of_methodNamed Bd.named Bd.method).1
  have X0 : Stand p l e ({ frames := 1, cells := 0, slots := 0, locals := 15 } : Room) s m #[(.int (Int32.ofNat x)), (.int (Int32.ofNat y)), (.int (Int32.ofNat n))] below meth c s₁ [] 0 0 := Stand.of_body Bd
  have e0 : s₁.heap = h0 := by rw [← hh, Bd.state]; rfl
  have N0 := Fr.nil n0
  show Gl p.tables e below (EndN s (Q_cbe Z x y n G3 h0 n0) ({ frames := 1, cells := 0, slots := 0, locals := 15 } : Room).cells ({ frames := 1, cells := 0, slots := 0, locals := 15 } : Room).slots) _
  refine Gl.cast (ef_cbe m x y n) ?_
  show Gl p.tables e below _ (s₁.setTop (mkF m 0 #[.val (.int (Int32.ofNat x)), .val (.int (Int32.ofNat y)), .val (.int (Int32.ofNat n))] []))
  refine Gl.st (fun _ kq => XS.iloadN X0.here hx rfl (hb hby d20_0) rfl kq) ?_
  show Gl p.tables e below _ (s₁.setTop (mkF m 1 #[.val (.int (Int32.ofNat x)), .val (.int (Int32.ofNat y)), .val (.int (Int32.ofNat n))] [(.int (Int32.ofNat x))]))
  refine Gl.st (fun _ kq => XS.iloadN X0.here hx rfl (hb hby d20_1) rfl kq) ?_
  show Gl p.tables e below _ (s₁.setTop (mkF m 2 #[.val (.int (Int32.ofNat x)), .val (.int (Int32.ofNat y)), .val (.int (Int32.ofNat n))] [(.int (Int32.ofNat y)), (.int (Int32.ofNat x))]))
  refine Gl.st (fun _ kq => XS.iloadN X0.here hx rfl (hb hby d20_2) rfl kq) ?_
  show Gl p.tables e below _ (s₁.setTop (mkF m 3 #[.val (.int (Int32.ofNat x)), .val (.int (Int32.ofNat y)), .val (.int (Int32.ofNat n))] [(.int (Int32.ofNat n)), (.int (Int32.ofNat y)), (.int (Int32.ofNat x))]))
  obtain ⟨T1, X1, e1, st1⟩ := getS2 X0 hx hZ hown (host := "") (Or.inl (tw hw 95 rfl)) Via.refl e0 (O4.ext pf0.2) (g := (mkF m 3 #[.val (.int (Int32.ofNat x)), .val (.int (Int32.ofNat y)), .val (.int (Int32.ofNat n))] [(.int (Int32.ofNat n)), (.int (Int32.ofNat y)), (.int (Int32.ofNat x))])) rfl (hb hby d20_3)
  refine Gl.st st1 ?_
  show Gl p.tables e below _ (T1.setTop (mkF m 6 #[.val (.int (Int32.ofNat x)), .val (.int (Int32.ofNat y)), .val (.int (Int32.ofNat n))] [G3, (.int (Int32.ofNat n)), (.int (Int32.ofNat y)), (.int (Int32.ofNat x))]))
  obtain ⟨_, _, ⟨T2, L2, k2, n2⟩, -, X2, ⟨Lc2, hQ2, l2, y2, z2⟩, st2⟩ := Jvm.LawKit.callS X1 hx (y := (⟨"jdk/internal/util/Preconditions", "checkFromToIndex", "(IIILjava/util/function/BiFunction;)I"⟩ : MethodName)) hown (mvT hZ (tw hw 97 rfl)) (mvT hZ (tw hw 98 rfl)) (mvT hZ (tw hw 96 rfl)) (mvT hZ (tw hw 99 rfl)) (by decide) (backOf (W := 0) (rm_cft l Z a0 hw [] (x) (y) (n) (G3) h0 n0 Z0 h1 h2 h3 rG3) hZ (tw hw 99 rfl) (tw hw 96 rfl) (by decide) (by decide)) (g := (mkF m 6 #[.val (.int (Int32.ofNat x)), .val (.int (Int32.ofNat y)), .val (.int (Int32.ofNat n))] [G3, (.int (Int32.ofNat n)), (.int (Int32.ofNat y)), (.int (Int32.ofNat x))])) rfl (by rw [hml]; rfl) (argsL := [(.int (Int32.ofNat x)), (.int (Int32.ofNat y)), (.int (Int32.ofNat n)), G3]) (rest := []) (lenOf pd__IIILjava_util_function_BiFunction__I rfl) rfl (by show 2 * 0 + _ ≤ _; exact Nat.le_of_eq rfl) (hb hby d20_6) (fun _ _ => ⟨rfl, e1, (by decide : 0 + 0 ≤ _), (by decide : 0 + 0 ≤ _)⟩)
  dsimp only [Pt.U, Pt.locs, Pt.cells, Pt.slots] at X2 l2 y2 z2 st2 hQ2
  subst l2 y2 z2
  obtain ⟨rfl, N2, e2⟩ := hQ2
  have M2 := Fr.app N0 N2
  refine Gl.st st2 ?_
  show Gl p.tables e below _ (T2.setTop (mkF m 9 #[.val (.int (Int32.ofNat x)), .val (.int (Int32.ofNat y)), .val (.int (Int32.ofNat n))] [(.int (Int32.ofNat x))]))
  show Gl p.tables e below _ (T2.setTop (mkF m 9 #[.val (.int (Int32.ofNat x)), .val (.int (Int32.ofNat y)), .val (.int (Int32.ofNat n))] [(.int (Int32.ofNat x))]))
  refine Gl.st (fun _ kq => XS.pop X2.here hx rfl (hb hby d20_9) rfl rfl kq) ?_
  show Gl p.tables e below _ (T2.setTop (mkF m 10 #[.val (.int (Int32.ofNat x)), .val (.int (Int32.ofNat y)), .val (.int (Int32.ofNat n))] []))
  exact Gl.ret0 X2 hx Bd.returns (hb hby d20_10) hlk (by decide) (by decide) (by rw [e2]; exact ⟨rfl, M2, rfl⟩)
theorem d26_0 : decode jdk_65_method_131_code 0 = .ok (.iload_n 1, 1) := by decide +kernel
theorem d26_1 : decode jdk_65_method_131_code 1 = .ok (.iload_n 0, 1) := by decide +kernel
theorem d26_2 : decode jdk_65_method_131_code 2 = .ok (.if_icmp .ge 35, 3) := by decide +kernel
theorem d26_37 : decode jdk_65_method_131_code 37 = .ok (.return_, 1) := by decide +kernel
theorem ef_ckl (m : MethodId) (x : Nat) (y : Nat) : entryFrame m #[(.int (Int32.ofNat x)), (.int (Int32.ofNat y))] 2 = mkF m 0 #[.val (.int (Int32.ofNat x)), .val (.int (Int32.ofNat y))] [] := by first | (simp [entryFrame, mkF, argsToLocals, Value.category]; done) | rfl
def Q_ckl (Z : State) (x : Nat) (y : Nat) (h0 : Heap) (n0 : Nat) (v : Option Value) (h : Heap) (L : List Loc) : Prop := (v = none ∧ Fr n0 L ∧ h = h0)
set_option maxRecDepth 65536 in
set_option maxHeartbeats 40000000 in
theorem rm_ckl (l : Launch) (Z : State) (a0 : Array Value) (hw : ∀ d ∈ tables_1, d.before a0 Z = true) (ws : List Jvm.Cond) (x : Nat) (y : Nat) (h0 : Heap) (n0 : Nat) (Z0 : n0 ≤ h0.size) (h1 : ¬ ((Int32.ofNat y) < (Int32.ofNat x))) :
    MetFree l (⟨"java/util/Arrays", "checkLength", "(II)V"⟩ : MethodName) (head1 (Jvm.Cond.code (⟨"java/util/Arrays", "checkLength", "(II)V"⟩ : MethodName) jdk_65_method_131_code 2 none :: ws) ({ frames := 0, cells := 0, slots := 0, locals := 0 } : Room)) (fun aa U => aa = #[(.int (Int32.ofNat x)), (.int (Int32.ofNat y))] ∧ Z.Warmed39 U.vm ∧ U.heap = h0) (fun _ _ _ _ _ => True) (fun _ U o U' => ∃ v L, o = .returned v ∧ Q_ckl Z x y h0 n0 v U'.heap L ∧ FrameEnd U o U' L ({ frames := 0, cells := 0, slots := 0, locals := 0 } : Room).cells ({ frames := 0, cells := 0, slots := 0, locals := 0 } : Room).slots) := by
  refine MetFree.of_bodySF (plainFor_of_name pn_java_util_Arrays) hisR ?_
  intro p e s m args below meth c s₁ Bd hml0 hP hK
  obtain ⟨rfl, hZ, hh⟩ := hP
  have hx := Bd.exec
  have hby := Bd.bytes
  have hlk : meth.locks = false := BodyLoose.notSynchronized Bd
  have hml : c.maxLocals = 2 := hml0
  have hown : s.vm.findClass "java/util/Arrays" = some m.cls := findClass_of_methodNamed Bd.named
  have hnm := (name_of_methodNamed Bd.named Bd.method).1
  have X0 : Stand p l e ({ frames := 0, cells := 0, slots := 0, locals := 0 } : Room) s m #[(.int (Int32.ofNat x)), (.int (Int32.ofNat y))] below meth c s₁ [] 0 0 := Stand.of_body Bd
  have e0 : s₁.heap = h0 := by rw [← hh, Bd.state]; rfl
  have N0 := Fr.nil n0
  show Gl p.tables e below (EndN s (Q_ckl Z x y h0 n0) ({ frames := 0, cells := 0, slots := 0, locals := 0 } : Room).cells ({ frames := 0, cells := 0, slots := 0, locals := 0 } : Room).slots) _
  refine Gl.cast (ef_ckl m x y) ?_
  show Gl p.tables e below _ (s₁.setTop (mkF m 0 #[.val (.int (Int32.ofNat x)), .val (.int (Int32.ofNat y))] []))
  refine Gl.st (fun _ kq => XS.iloadN X0.here hx rfl (hb hby d26_0) rfl kq) ?_
  show Gl p.tables e below _ (s₁.setTop (mkF m 1 #[.val (.int (Int32.ofNat x)), .val (.int (Int32.ofNat y))] [(.int (Int32.ofNat y))]))
  refine Gl.st (fun _ kq => XS.iloadN X0.here hx rfl (hb hby d26_1) rfl kq) ?_
  show Gl p.tables e below _ (s₁.setTop (mkF m 2 #[.val (.int (Int32.ofNat x)), .val (.int (Int32.ofNat y))] [(.int (Int32.ofNat x)), (.int (Int32.ofNat y))]))
  refine Gl.st (fun _ kq => XS.icmpYes X0.here hx rfl (pc0 := 2) (pc' := 37) rfl (hb hby d26_2) rfl (flt (h1 : ¬ ((Int32.ofNat y) < (Int32.ofNat x)))).2.1 (by decide) (by decide) kq) ?_
  show Gl p.tables e below _ (s₁.setTop (mkF m 37 #[.val (.int (Int32.ofNat x)), .val (.int (Int32.ofNat y))] []))
  exact Gl.ret0 X0 hx Bd.returns (hb hby d26_37) hlk (by decide) (by decide) (by rw [e0]; exact ⟨rfl, N0, rfl⟩)
theorem d25_0 : decode jdk_65_method_133_code 0 = .ok (.iload_n 1, 1) := by decide +kernel
theorem d25_1 : decode jdk_65_method_133_code 1 = .ok (.iload_n 2, 1) := by decide +kernel
theorem d25_2 : decode jdk_65_method_133_code 2 = .ok (.invokestatic 343, 3) := by decide +kernel
theorem d25_5 : decode jdk_65_method_133_code 5 = .ok (.iload_n 2, 1) := by decide +kernel
theorem d25_6 : decode jdk_65_method_133_code 6 = .ok (.iload_n 1, 1) := by decide +kernel
theorem d25_7 : decode jdk_65_method_133_code 7 = .ok (.isub, 1) := by decide +kernel
theorem d25_8 : decode jdk_65_method_133_code 8 = .ok (.istore_n 3, 1) := by decide +kernel
theorem d25_9 : decode jdk_65_method_133_code 9 = .ok (.iload_n 3, 1) := by decide +kernel
theorem d25_10 : decode jdk_65_method_133_code 10 = .ok (.newarray .byte, 2) := by decide +kernel
theorem d25_12 : decode jdk_65_method_133_code 12 = .ok (.astore 4, 2) := by decide +kernel
theorem d25_14 : decode jdk_65_method_133_code 14 = .ok (.aload_n 0, 1) := by decide +kernel
theorem d25_15 : decode jdk_65_method_133_code 15 = .ok (.iload_n 1, 1) := by decide +kernel
theorem d25_16 : decode jdk_65_method_133_code 16 = .ok (.aload 4, 2) := by decide +kernel
theorem d25_18 : decode jdk_65_method_133_code 18 = .ok (.iconst 0, 1) := by decide +kernel
theorem d25_19 : decode jdk_65_method_133_code 19 = .ok (.aload_n 0, 1) := by decide +kernel
theorem d25_20 : decode jdk_65_method_133_code 20 = .ok (.arraylength, 1) := by decide +kernel
theorem d25_21 : decode jdk_65_method_133_code 21 = .ok (.iload_n 1, 1) := by decide +kernel
theorem d25_22 : decode jdk_65_method_133_code 22 = .ok (.isub, 1) := by decide +kernel
theorem d25_23 : decode jdk_65_method_133_code 23 = .ok (.iload_n 3, 1) := by decide +kernel
theorem d25_24 : decode jdk_65_method_133_code 24 = .ok (.invokestatic 304, 3) := by decide +kernel
theorem d25_27 : decode jdk_65_method_133_code 27 = .ok (.invokestatic 150, 3) := by decide +kernel
theorem d25_30 : decode jdk_65_method_133_code 30 = .ok (.aload 4, 2) := by decide +kernel
theorem d25_32 : decode jdk_65_method_133_code 32 = .ok (.areturn, 1) := by decide +kernel
theorem ef_crb (m : MethodId) (t : Addr) (x : Nat) (d : Nat) : entryFrame m #[(.ref t), (.int (Int32.ofNat x)), (.int (Int32.ofNat (x + d)))] 5 = mkF m 0 #[.val (.ref t), .val (.int (Int32.ofNat x)), .val (.int (Int32.ofNat (x + d))), .unset, .unset] [] := by first | (simp [entryFrame, mkF, argsToLocals, Value.category]; done) | rfl
def Q_crb (Z : State) (t : Addr) (k : ClassId) (cs : List Int32) (x : Nat) (d : Nat) (h0 : Heap) (n0 : Nat) (v : Option Value) (h : Heap) (L : List Loc) : Prop := (∃ t2 : Addr, ∃ k2 : ClassId, v = some (.ref t2) ∧ Fr n0 L ∧ Keep h0 h [] ∧ Arv Z h t2 k2 .byte (Int32.ofNat d) ((((cs.drop x).take d).map (fun c => c.toInt8.toInt32)).map Value.int) (.int 0) ∧ (h0.size ≤ t2))
set_option maxRecDepth 65536 in
set_option maxHeartbeats 40000000 in
theorem rm_crb (l : Launch) (Z : State) (a0 : Array Value) (hw : ∀ d ∈ tables_1, d.before a0 Z = true) (ws : List Jvm.Cond) (t : Addr) (k : ClassId) (cs : List Int32) (x : Nat) (d : Nat) (h0 : Heap) (n0 : Nat) (Z0 : n0 ≤ h0.size) (pf0 : Arv Z h0 t k .byte (Int32.ofNat cs.length) ((cs.map (fun c => c.toInt8.toInt32)).map Value.int) (.int 0)) (hl : cs.length ≤ 8) (hx1 : x + d ≤ cs.length) :
    MetFree l (⟨"java/util/Arrays", "copyOfRangeByte", "([BII)[B"⟩ : MethodName) (head1 (Jvm.Cond.code (⟨"java/util/Arrays", "copyOfRangeByte", "([BII)[B"⟩ : MethodName) jdk_65_method_133_code 5 (some (.array .byte)) :: ws) ({ frames := 1, cells := 1, slots := 8, locals := 18 } : Room)) (fun aa U => aa = #[(.ref t), (.int (Int32.ofNat x)), (.int (Int32.ofNat (x + d)))] ∧ Z.Warmed39 U.vm ∧ U.heap = h0) (fun _ _ _ _ _ => True) (fun _ U o U' => ∃ v L, o = .returned v ∧ Q_crb Z t k cs x d h0 n0 v U'.heap L ∧ FrameEnd U o U' L ({ frames := 1, cells := 1, slots := 8, locals := 18 } : Room).cells ({ frames := 1, cells := 1, slots := 8, locals := 18 } : Room).slots) := by
  refine MetFree.of_bodySF (plainFor_of_name pn_java_util_Arrays) hisR ?_
  intro p e s m args below meth c s₁ Bd hml0 hP hK
  obtain ⟨rfl, hZ, hh⟩ := hP
  have hx := Bd.exec
  have hby := Bd.bytes
  have hlk : meth.locks = false := BodyLoose.notSynchronized Bd
  have hml : c.maxLocals = 5 := hml0
  have hown : s.vm.findClass "java/util/Arrays" = some m.cls := findClass_of_methodNamed Bd.named
  have hnm := (name_of_methodNamed Bd.named Bd.method).1
  have X0 : Stand p l e ({ frames := 1, cells := 1, slots := 8, locals := 18 } : Room) s m #[(.ref t), (.int (Int32.ofNat x)), (.int (Int32.ofNat (x + d)))] below meth c s₁ [] 0 0 := Stand.of_body Bd
  have e0 : s₁.heap = h0 := by rw [← hh, Bd.state]; rfl
  have N0 := Fr.nil n0
  show Gl p.tables e below (EndN s (Q_crb Z t k cs x d h0 n0) ({ frames := 1, cells := 1, slots := 8, locals := 18 } : Room).cells ({ frames := 1, cells := 1, slots := 8, locals := 18 } : Room).slots) _
  refine Gl.cast (ef_crb m t x d) ?_
  show Gl p.tables e below _ (s₁.setTop (mkF m 0 #[.val (.ref t), .val (.int (Int32.ofNat x)), .val (.int (Int32.ofNat (x + d))), .unset, .unset] []))
  refine Gl.st (fun _ kq => XS.iloadN X0.here hx rfl (hb hby d25_0) rfl kq) ?_
  show Gl p.tables e below _ (s₁.setTop (mkF m 1 #[.val (.ref t), .val (.int (Int32.ofNat x)), .val (.int (Int32.ofNat (x + d))), .unset, .unset] [(.int (Int32.ofNat x))]))
  refine Gl.st (fun _ kq => XS.iloadN X0.here hx rfl (hb hby d25_1) rfl kq) ?_
  show Gl p.tables e below _ (s₁.setTop (mkF m 2 #[.val (.ref t), .val (.int (Int32.ofNat x)), .val (.int (Int32.ofNat (x + d))), .unset, .unset] [(.int (Int32.ofNat (x + d))), (.int (Int32.ofNat x))]))
  obtain ⟨_, _, ⟨T1, L1, k1, n1⟩, -, X1, ⟨Lc1, hQ1, l1, y1, z1⟩, st1⟩ := Jvm.LawKit.callS X0 hx (y := (⟨"java/util/Arrays", "checkLength", "(II)V"⟩ : MethodName)) hown (mvT hZ (tw hw 118 rfl)) (mvT hZ (tw hw 119 rfl)) (mvT hZ (tw hw 113 rfl)) (mvT hZ (tw hw 120 rfl)) (by decide) (backOf (W := 0) (rm_ckl l Z a0 hw [] (x) ((x + d)) h0 n0 Z0 (n32_nlt (i := (x + d)) (j := x) (by omega) (by omega) (by omega))) hZ (tw hw 120 rfl) (tw hw 113 rfl) (by decide) (by decide)) (g := (mkF m 2 #[.val (.ref t), .val (.int (Int32.ofNat x)), .val (.int (Int32.ofNat (x + d))), .unset, .unset] [(.int (Int32.ofNat (x + d))), (.int (Int32.ofNat x))])) rfl (by rw [hml]; rfl) (argsL := [(.int (Int32.ofNat x)), (.int (Int32.ofNat (x + d)))]) (rest := []) (lenOf pd__II_V rfl) rfl (by show 2 * 0 + _ ≤ _; exact Nat.le_of_eq rfl) (hb hby d25_2) (fun _ _ => ⟨rfl, e0, (by decide : 0 + 0 ≤ _), (by decide : 0 + 0 ≤ _)⟩)
  dsimp only [Pt.U, Pt.locs, Pt.cells, Pt.slots] at X1 l1 y1 z1 st1 hQ1
  subst l1 y1 z1
  obtain ⟨rfl, N1, e1⟩ := hQ1
  have M1 := Fr.app N0 N1
  refine Gl.st st1 ?_
  show Gl p.tables e below _ (T1.setTop (mkF m 5 #[.val (.ref t), .val (.int (Int32.ofNat x)), .val (.int (Int32.ofNat (x + d))), .unset, .unset] []))
  show Gl p.tables e below _ (T1.setTop (mkF m 5 #[.val (.ref t), .val (.int (Int32.ofNat x)), .val (.int (Int32.ofNat (x + d))), .unset, .unset] []))
  refine Gl.st (fun _ kq => XS.iloadN X1.here hx rfl (hb hby d25_5) rfl kq) ?_
  show Gl p.tables e below _ (T1.setTop (mkF m 6 #[.val (.ref t), .val (.int (Int32.ofNat x)), .val (.int (Int32.ofNat (x + d))), .unset, .unset] [(.int (Int32.ofNat (x + d)))]))
  refine Gl.st (fun _ kq => XS.iloadN X1.here hx rfl (hb hby d25_6) rfl kq) ?_
  show Gl p.tables e below _ (T1.setTop (mkF m 7 #[.val (.ref t), .val (.int (Int32.ofNat x)), .val (.int (Int32.ofNat (x + d))), .unset, .unset] [(.int (Int32.ofNat x)), (.int (Int32.ofNat (x + d)))]))
  refine Gl.st (fun _ kq => XS.isub X1.here hx rfl (hb hby d25_7) rfl kq) ?_
  show Gl p.tables e below _ (T1.setTop (mkF m 8 #[.val (.ref t), .val (.int (Int32.ofNat x)), .val (.int (Int32.ofNat (x + d))), .unset, .unset] [(.int ((Int32.ofNat (x + d)) - (Int32.ofNat x)))]))
  rw [show Int32.ofNat (x + d) - Int32.ofNat x = Int32.ofNat d from by rw [n32_sub (by omega)]; congr 1; omega]
  show Gl p.tables e below _ (T1.setTop (mkF m 8 #[.val (.ref t), .val (.int (Int32.ofNat x)), .val (.int (Int32.ofNat (x + d))), .unset, .unset] [(.int (Int32.ofNat d))]))
  refine Gl.st (fun _ kq => XS.istoreN X1.here hx rfl (hb hby d25_8) rfl (l' := #[.val (.ref t), .val (.int (Int32.ofNat x)), .val (.int (Int32.ofNat (x + d))), .val (.int (Int32.ofNat d)), .unset]) rfl kq) ?_
  show Gl p.tables e below _ (T1.setTop (mkF m 9 #[.val (.ref t), .val (.int (Int32.ofNat x)), .val (.int (Int32.ofNat (x + d))), .val (.int (Int32.ofNat d)), .unset] []))
  refine Gl.st (fun _ kq => XS.iloadN X1.here hx rfl (hb hby d25_9) rfl kq) ?_
  show Gl p.tables e below _ (T1.setTop (mkF m 10 #[.val (.ref t), .val (.int (Int32.ofNat x)), .val (.int (Int32.ofNat (x + d))), .val (.int (Int32.ofNat d)), .unset] [(.int (Int32.ofNat d))]))
  obtain ⟨T2, h2, k2, X2, e2, E2, A2, st2⟩ := newP X1 hx hZ (tw hw 22 rfl) e1 (g := (mkF m 10 #[.val (.ref t), .val (.int (Int32.ofNat x)), .val (.int (Int32.ofNat (x + d))), .val (.int (Int32.ofNat d)), .unset] [(.int (Int32.ofNat d))])) rfl (hb hby d25_10) rfl (n32_nn (by omega)) (cap := 8) (by rw [n32_cl (by omega)]; omega) (by decide) (by decide) (by decide)
  obtain ⟨b2, g2⟩ : ∃ z, z = h0.size := ⟨_, rfl⟩
  rw [← g2] at A2 st2
  refine Gl.st st2 ?_
  have g3 : n0 ≤ b2 := Nat.le_trans Z0 (Nat.le_of_eq g2.symm)
  have s4 : h0.size ≤ b2 := Nat.le_trans (Nat.le_refl _) (Nat.le_of_eq g2.symm)
  have V2 : Arv Z h2 b2 k2 .byte (Int32.ofNat d) ([] ++ List.replicate d (.int 0)) (.int 0) := (Arv.new A2 (n32_nn (by omega))).pad (pad_rep [] (.int 0) d)
  show Gl p.tables e below _ (T2.setTop (mkF m 12 #[.val (.ref t), .val (.int (Int32.ofNat x)), .val (.int (Int32.ofNat (x + d))), .val (.int (Int32.ofNat d)), .unset] [(.ref b2)]))
  refine Gl.st (fun _ kq => XS.astore X2.here hx rfl (hb hby d25_12) rfl rfl (l' := #[.val (.ref t), .val (.int (Int32.ofNat x)), .val (.int (Int32.ofNat (x + d))), .val (.int (Int32.ofNat d)), .val (.ref b2)]) rfl kq) ?_
  show Gl p.tables e below _ (T2.setTop (mkF m 14 #[.val (.ref t), .val (.int (Int32.ofNat x)), .val (.int (Int32.ofNat (x + d))), .val (.int (Int32.ofNat d)), .val (.ref b2)] []))
  refine Gl.st (fun _ kq => XS.aloadN X2.here hx rfl (hb hby d25_14) rfl rfl kq) ?_
  show Gl p.tables e below _ (T2.setTop (mkF m 15 #[.val (.ref t), .val (.int (Int32.ofNat x)), .val (.int (Int32.ofNat (x + d))), .val (.int (Int32.ofNat d)), .val (.ref b2)] [(.ref t)]))
  refine Gl.st (fun _ kq => XS.iloadN X2.here hx rfl (hb hby d25_15) rfl kq) ?_
  show Gl p.tables e below _ (T2.setTop (mkF m 16 #[.val (.ref t), .val (.int (Int32.ofNat x)), .val (.int (Int32.ofNat (x + d))), .val (.int (Int32.ofNat d)), .val (.ref b2)] [(.int (Int32.ofNat x)), (.ref t)]))
  refine Gl.st (fun _ kq => XS.aload X2.here hx rfl (hb hby d25_16) rfl rfl kq) ?_
  show Gl p.tables e below _ (T2.setTop (mkF m 18 #[.val (.ref t), .val (.int (Int32.ofNat x)), .val (.int (Int32.ofNat (x + d))), .val (.int (Int32.ofNat d)), .val (.ref b2)] [(.ref b2), (.int (Int32.ofNat x)), (.ref t)]))
  refine Gl.st (fun _ kq => XS.iconst X2.here hx rfl (hb hby d25_18) kq) ?_
  show Gl p.tables e below _ (T2.setTop (mkF m 19 #[.val (.ref t), .val (.int (Int32.ofNat x)), .val (.int (Int32.ofNat (x + d))), .val (.int (Int32.ofNat d)), .val (.ref b2)] [(.int 0), (.ref b2), (.int (Int32.ofNat x)), (.ref t)]))
  refine Gl.st (fun _ kq => XS.aloadN X2.here hx rfl (hb hby d25_19) rfl rfl kq) ?_
  show Gl p.tables e below _ (T2.setTop (mkF m 20 #[.val (.ref t), .val (.int (Int32.ofNat x)), .val (.int (Int32.ofNat (x + d))), .val (.int (Int32.ofNat d)), .val (.ref b2)] [(.ref t), (.int 0), (.ref b2), (.int (Int32.ofNat x)), (.ref t)]))
  have f5 : Arv Z h2 t k .byte (Int32.ofNat cs.length) ((cs.map (fun c => c.toInt8.toInt32)).map Value.int) (.int 0) := (pf0.ext E2)
  obtain ⟨c6, a6, q6, S6, M6, H6, G6⟩ := id f5
  refine Gl.st (fun _ kq => X2.arraylength hx (by rw [e2]; exact a6.1) (State.isArrayOf_alike hZ.alike a6.2.1) (g := (mkF m 20 #[.val (.ref t), .val (.int (Int32.ofNat x)), .val (.int (Int32.ofNat (x + d))), .val (.int (Int32.ofNat d)), .val (.ref b2)] [(.ref t), (.int 0), (.ref b2), (.int (Int32.ofNat x)), (.ref t)])) rfl rfl (hb hby d25_20) _ kq) ?_
  rw [len_of S6 M6]
  show Gl p.tables e below _ (T2.setTop (mkF m 21 #[.val (.ref t), .val (.int (Int32.ofNat x)), .val (.int (Int32.ofNat (x + d))), .val (.int (Int32.ofNat d)), .val (.ref b2)] [(.int (Int32.ofNat cs.length)), (.int 0), (.ref b2), (.int (Int32.ofNat x)), (.ref t)]))
  refine Gl.st (fun _ kq => XS.iloadN X2.here hx rfl (hb hby d25_21) rfl kq) ?_
  show Gl p.tables e below _ (T2.setTop (mkF m 22 #[.val (.ref t), .val (.int (Int32.ofNat x)), .val (.int (Int32.ofNat (x + d))), .val (.int (Int32.ofNat d)), .val (.ref b2)] [(.int (Int32.ofNat x)), (.int (Int32.ofNat cs.length)), (.int 0), (.ref b2), (.int (Int32.ofNat x)), (.ref t)]))
  refine Gl.st (fun _ kq => XS.isub X2.here hx rfl (hb hby d25_22) rfl kq) ?_
  show Gl p.tables e below _ (T2.setTop (mkF m 23 #[.val (.ref t), .val (.int (Int32.ofNat x)), .val (.int (Int32.ofNat (x + d))), .val (.int (Int32.ofNat d)), .val (.ref b2)] [(.int ((Int32.ofNat cs.length) - (Int32.ofNat x))), (.int 0), (.ref b2), (.int (Int32.ofNat x)), (.ref t)]))
  rw [n32_sub (i := cs.length) (j := x) (by omega)]
  show Gl p.tables e below _ (T2.setTop (mkF m 23 #[.val (.ref t), .val (.int (Int32.ofNat x)), .val (.int (Int32.ofNat (x + d))), .val (.int (Int32.ofNat d)), .val (.ref b2)] [(.int (Int32.ofNat (cs.length - x))), (.int 0), (.ref b2), (.int (Int32.ofNat x)), (.ref t)]))
  refine Gl.st (fun _ kq => XS.iloadN X2.here hx rfl (hb hby d25_23) rfl kq) ?_
  show Gl p.tables e below _ (T2.setTop (mkF m 24 #[.val (.ref t), .val (.int (Int32.ofNat x)), .val (.int (Int32.ofNat (x + d))), .val (.int (Int32.ofNat d)), .val (.ref b2)] [(.int (Int32.ofNat d)), (.int (Int32.ofNat (cs.length - x))), (.int 0), (.ref b2), (.int (Int32.ofNat x)), (.ref t)]))
  obtain ⟨_, _, ⟨T7, L7, k7, n7⟩, -, X7, ⟨Lc7, hQ7, l7, y7, z7⟩, st7⟩ := Jvm.LawKit.callS X2 hx (y := (⟨"java/lang/Math", "min", "(II)I"⟩ : MethodName)) hown (mvT hZ (tw hw 121 rfl)) (mvT hZ (tw hw 82 rfl)) (mvT hZ (tw hw 79 rfl)) (mvT hZ (tw hw 83 rfl)) (by decide) (backOf (W := 4) (rm_mi l Z a0 hw [] ((Int32.ofNat (cs.length - x))) ((Int32.ofNat d)) h2 n0 (Nat.le_trans Z0 E2.1) ) hZ (tw hw 83 rfl) (tw hw 79 rfl) (by decide) (by decide)) (g := (mkF m 24 #[.val (.ref t), .val (.int (Int32.ofNat x)), .val (.int (Int32.ofNat (x + d))), .val (.int (Int32.ofNat d)), .val (.ref b2)] [(.int (Int32.ofNat d)), (.int (Int32.ofNat (cs.length - x))), (.int 0), (.ref b2), (.int (Int32.ofNat x)), (.ref t)])) rfl (by rw [hml]; rfl) (argsL := [(.int (Int32.ofNat (cs.length - x))), (.int (Int32.ofNat d))]) (rest := [(.int 0), (.ref b2), (.int (Int32.ofNat x)), (.ref t)]) (lenOf pd__II_I rfl) rfl (by show 2 * 0 + _ ≤ _; exact Nat.le_of_eq rfl) (hb hby d25_24) (fun _ _ => ⟨rfl, e2, (by decide : 1 + 0 ≤ _), (by decide : 8 + 0 ≤ _)⟩)
  dsimp only [Pt.U, Pt.locs, Pt.cells, Pt.slots] at X7 l7 y7 z7 st7 hQ7
  subst l7 y7 z7
  rcases hQ7 with ⟨rfl, N7, e7, y7_0⟩ | ⟨rfl, N7, e7, y7_0⟩
  · have M7 := Fr.app M1 N7
    refine Gl.st st7 ?_
    show Gl p.tables e below _ (T7.setTop (mkF m 27 #[.val (.ref t), .val (.int (Int32.ofNat x)), .val (.int (Int32.ofNat (x + d))), .val (.int (Int32.ofNat d)), .val (.ref b2)] [(.int (Int32.ofNat (cs.length - x))), (.int 0), (.ref b2), (.int (Int32.ofNat x)), (.ref t)]))
    have hd : cs.length - x = d := by have q1 := y7_0; by_cases q2 : d < cs.length - x; exact absurd (n32_plt q2 (by omega)) q1; omega
    rw [hd]
    show Gl p.tables e below _ (T7.setTop (mkF m 27 #[.val (.ref t), .val (.int (Int32.ofNat x)), .val (.int (Int32.ofNat (x + d))), .val (.int (Int32.ofNat d)), .val (.ref b2)] [(.int (Int32.ofNat d)), (.int 0), (.ref b2), (.int (Int32.ofNat x)), (.ref t)]))
    obtain ⟨T8, h8, L8, X8, e8, N8, K8, V8, st8⟩ := cpA X7 hx hZ hown (tw hw 122 rfl) (tw hw 125 rfl) (tw hw 123 rfl) (tw hw 124 rfl) e7 f5 V2 (us := (List.range d).map fun i => (((cs.map (fun c => c.toInt8.toInt32)).map Value.int).getD (x + i) (.int 0))) (sp := (Int32.ofNat x)) (dp := (0 : Int32)) (nn := (Int32.ofNat d)) (Or.inl ⟨rfl, rfl⟩) (n32_nn (by omega)) (by decide) (n32_nn (by omega)) (by rw [n32_cl (by omega), n32_cl (by omega), n32_cl (by omega)]; omega) (by rw [n32_cl (i := d) (by omega)]; show 0 + d ≤ d; omega) (by rw [n32_cl (by omega), n32_cl (by omega)]) (by rw [n32_cl (i := d) (by omega)]; show 0 + d ≤ _; simp) M7 g3 (g := (mkF m 27 #[.val (.ref t), .val (.int (Int32.ofNat x)), .val (.int (Int32.ofNat (x + d))), .val (.int (Int32.ofNat d)), .val (.ref b2)] [(.int (Int32.ofNat d)), (.int 0), (.ref b2), (.int (Int32.ofNat x)), (.ref t)])) rfl (by rw [hml]; rfl) rfl (hb hby d25_27) (by decide) (W := 0) (by show 2 * 0 + _ ≤ _; exact Nat.le_of_eq rfl) (by decide)
    refine Gl.st st8 ?_
    rw [n32_cl (i := d) (by omega)] at V8
    have V8 : Arv Z h8 b2 k2 .byte (Int32.ofNat d) ((((cs.drop x).take d).map (fun c => c.toInt8.toInt32)).map Value.int) (.int 0) := V8.pad (by rw [show (0 : Int32).toNatClampNeg = 0 from by decide]; exact own_copied (by omega))
    show Gl p.tables e below _ (T8.setTop (mkF m 30 #[.val (.ref t), .val (.int (Int32.ofNat x)), .val (.int (Int32.ofNat (x + d))), .val (.int (Int32.ofNat d)), .val (.ref b2)] []))
    refine Gl.st (fun _ kq => XS.aload X8.here hx rfl (hb hby d25_30) rfl rfl kq) ?_
    show Gl p.tables e below _ (T8.setTop (mkF m 32 #[.val (.ref t), .val (.int (Int32.ofNat x)), .val (.int (Int32.ofNat (x + d))), .val (.int (Int32.ofNat d)), .val (.ref b2)] [(.ref b2)]))
    have K9 : Keep h0 h8 [] := (((Keep.refl h0 []).ext E2).trans K8 (allS (Or.inr s4) all0))
    exact Gl.retA X8 hx Bd.returns rfl rfl (hb hby d25_32) hlk (by decide) (by decide) (by rw [e8]; exact ⟨b2, k2, rfl, N8, K9, V8, s4⟩)
  · have M7 := Fr.app M1 N7
    refine Gl.st st7 ?_
    show Gl p.tables e below _ (T7.setTop (mkF m 27 #[.val (.ref t), .val (.int (Int32.ofNat x)), .val (.int (Int32.ofNat (x + d))), .val (.int (Int32.ofNat d)), .val (.ref b2)] [(.int (Int32.ofNat d)), (.int 0), (.ref b2), (.int (Int32.ofNat x)), (.ref t)]))
    obtain ⟨T10, h10, L10, X10, e10, N10, K10, V10, st10⟩ := cpA X7 hx hZ hown (tw hw 122 rfl) (tw hw 125 rfl) (tw hw 123 rfl) (tw hw 124 rfl) e7 f5 V2 (us := (List.range d).map fun i => (((cs.map (fun c => c.toInt8.toInt32)).map Value.int).getD (x + i) (.int 0))) (sp := (Int32.ofNat x)) (dp := (0 : Int32)) (nn := (Int32.ofNat d)) (Or.inl ⟨rfl, rfl⟩) (n32_nn (by omega)) (by decide) (n32_nn (by omega)) (by rw [n32_cl (by omega), n32_cl (by omega), n32_cl (by omega)]; omega) (by rw [n32_cl (i := d) (by omega)]; show 0 + d ≤ d; omega) (by rw [n32_cl (by omega), n32_cl (by omega)]) (by rw [n32_cl (i := d) (by omega)]; show 0 + d ≤ _; simp) M7 g3 (g := (mkF m 27 #[.val (.ref t), .val (.int (Int32.ofNat x)), .val (.int (Int32.ofNat (x + d))), .val (.int (Int32.ofNat d)), .val (.ref b2)] [(.int (Int32.ofNat d)), (.int 0), (.ref b2), (.int (Int32.ofNat x)), (.ref t)])) rfl (by rw [hml]; rfl) rfl (hb hby d25_27) (by decide) (W := 0) (by show 2 * 0 + _ ≤ _; exact Nat.le_of_eq rfl) (by decide)
    refine Gl.st st10 ?_
    rw [n32_cl (i := d) (by omega)] at V10
    have V10 : Arv Z h10 b2 k2 .byte (Int32.ofNat d) ((((cs.drop x).take d).map (fun c => c.toInt8.toInt32)).map Value.int) (.int 0) := V10.pad (by rw [show (0 : Int32).toNatClampNeg = 0 from by decide]; exact own_copied (by omega))
    show Gl p.tables e below _ (T10.setTop (mkF m 30 #[.val (.ref t), .val (.int (Int32.ofNat x)), .val (.int (Int32.ofNat (x + d))), .val (.int (Int32.ofNat d)), .val (.ref b2)] []))
    refine Gl.st (fun _ kq => XS.aload X10.here hx rfl (hb hby d25_30) rfl rfl kq) ?_
    show Gl p.tables e below _ (T10.setTop (mkF m 32 #[.val (.ref t), .val (.int (Int32.ofNat x)), .val (.int (Int32.ofNat (x + d))), .val (.int (Int32.ofNat d)), .val (.ref b2)] [(.ref b2)]))
    have K11 : Keep h0 h10 [] := (((Keep.refl h0 []).ext E2).trans K10 (allS (Or.inr s4) all0))
    exact Gl.retA X10 hx Bd.returns rfl rfl (hb hby d25_32) hlk (by decide) (by decide) (by rw [e10]; exact ⟨b2, k2, rfl, N10, K11, V10, s4⟩)
theorem d24_0 : decode jdk_65_method_132_code 0 = .ok (.iload_n 1, 1) := by decide +kernel
theorem d24_1 : decode jdk_65_method_132_code 1 = .ok (.ifCond .ne 9, 3) := by decide +kernel
theorem d24_4 : decode jdk_65_method_132_code 4 = .ok (.iload_n 2, 1) := by decide +kernel
theorem d24_5 : decode jdk_65_method_132_code 5 = .ok (.aload_n 0, 1) := by decide +kernel
theorem d24_6 : decode jdk_65_method_132_code 6 = .ok (.arraylength, 1) := by decide +kernel
theorem d24_7 : decode jdk_65_method_132_code 7 = .ok (.if_icmp .eq 10, 3) := by decide +kernel
theorem d24_10 : decode jdk_65_method_132_code 10 = .ok (.aload_n 0, 1) := by decide +kernel
theorem d24_11 : decode jdk_65_method_132_code 11 = .ok (.iload_n 1, 1) := by decide +kernel
theorem d24_12 : decode jdk_65_method_132_code 12 = .ok (.iload_n 2, 1) := by decide +kernel
theorem d24_13 : decode jdk_65_method_132_code 13 = .ok (.invokestatic 339, 3) := by decide +kernel
theorem d24_16 : decode jdk_65_method_132_code 16 = .ok (.areturn, 1) := by decide +kernel
theorem ef_cor (m : MethodId) (t : Addr) (x : Nat) (d : Nat) : entryFrame m #[(.ref t), (.int (Int32.ofNat x)), (.int (Int32.ofNat (x + d)))] 3 = mkF m 0 #[.val (.ref t), .val (.int (Int32.ofNat x)), .val (.int (Int32.ofNat (x + d)))] [] := by first | (simp [entryFrame, mkF, argsToLocals, Value.category]; done) | rfl
def Q_cor (Z : State) (t : Addr) (k : ClassId) (cs : List Int32) (x : Nat) (d : Nat) (h0 : Heap) (n0 : Nat) (v : Option Value) (h : Heap) (L : List Loc) : Prop := (∃ t2 : Addr, ∃ k2 : ClassId, v = some (.ref t2) ∧ Fr n0 L ∧ Keep h0 h [] ∧ Arv Z h t2 k2 .byte (Int32.ofNat d) ((((cs.drop x).take d).map (fun c => c.toInt8.toInt32)).map Value.int) (.int 0) ∧ (h0.size ≤ t2))
set_option maxRecDepth 65536 in
set_option maxHeartbeats 40000000 in
theorem rm_cor (l : Launch) (Z : State) (a0 : Array Value) (hw : ∀ d ∈ tables_1, d.before a0 Z = true) (ws : List Jvm.Cond) (t : Addr) (k : ClassId) (cs : List Int32) (x : Nat) (d : Nat) (h0 : Heap) (n0 : Nat) (Z0 : n0 ≤ h0.size) (pf0 : Arv Z h0 t k .byte (Int32.ofNat cs.length) ((cs.map (fun c => c.toInt8.toInt32)).map Value.int) (.int 0)) (hl : cs.length ≤ 8) (hx1 : x + d ≤ cs.length) (hnw : ¬ (x = 0 ∧ x + d = cs.length)) :
    MetFree l (⟨"java/util/Arrays", "copyOfRange", "([BII)[B"⟩ : MethodName) (head1 (Jvm.Cond.code (⟨"java/util/Arrays", "copyOfRange", "([BII)[B"⟩ : MethodName) jdk_65_method_132_code 3 (some (.array .byte)) :: ws) ({ frames := 2, cells := 1, slots := 8, locals := 34 } : Room)) (fun aa U => aa = #[(.ref t), (.int (Int32.ofNat x)), (.int (Int32.ofNat (x + d)))] ∧ Z.Warmed39 U.vm ∧ U.heap = h0) (fun _ _ _ _ _ => True) (fun _ U o U' => ∃ v L, o = .returned v ∧ Q_cor Z t k cs x d h0 n0 v U'.heap L ∧ FrameEnd U o U' L ({ frames := 2, cells := 1, slots := 8, locals := 34 } : Room).cells ({ frames := 2, cells := 1, slots := 8, locals := 34 } : Room).slots) := by
  refine MetFree.of_bodySF (plainFor_of_name pn_java_util_Arrays) hisR ?_
  intro p e s m args below meth c s₁ Bd hml0 hP hK
  obtain ⟨rfl, hZ, hh⟩ := hP
  have hx := Bd.exec
  have hby := Bd.bytes
  have hlk : meth.locks = false := BodyLoose.notSynchronized Bd
  have hml : c.maxLocals = 3 := hml0
  have hown : s.vm.findClass "java/util/Arrays" = some m.cls := findClass_of_methodNamed Bd.named
  have hnm := (name_of_methodNamed Bd.named Bd.method).1
  have X0 : Stand p l e ({ frames := 2, cells := 1, slots := 8, locals := 34 } : Room) s m #[(.ref t), (.int (Int32.ofNat x)), (.int (Int32.ofNat (x + d)))] below meth c s₁ [] 0 0 := Stand.of_body Bd
  have e0 : s₁.heap = h0 := by rw [← hh, Bd.state]; rfl
  have N0 := Fr.nil n0
  show Gl p.tables e below (EndN s (Q_cor Z t k cs x d h0 n0) ({ frames := 2, cells := 1, slots := 8, locals := 34 } : Room).cells ({ frames := 2, cells := 1, slots := 8, locals := 34 } : Room).slots) _
  refine Gl.cast (ef_cor m t x d) ?_
  show Gl p.tables e below _ (s₁.setTop (mkF m 0 #[.val (.ref t), .val (.int (Int32.ofNat x)), .val (.int (Int32.ofNat (x + d)))] []))
  refine Gl.st (fun _ kq => XS.iloadN X0.here hx rfl (hb hby d24_0) rfl kq) ?_
  show Gl p.tables e below _ (s₁.setTop (mkF m 1 #[.val (.ref t), .val (.int (Int32.ofNat x)), .val (.int (Int32.ofNat (x + d)))] [(.int (Int32.ofNat x))]))
  by_cases hc1 : (Int32.ofNat x) = (0 : Int32)
  · refine Gl.st (fun _ kq => XS.ifNo X0.here hx rfl (hb hby d24_1) rfl ((if0 _ _).trans (teq (hc1 : (Int32.ofNat x) = (0 : Int32))).2) kq) ?_
    show Gl p.tables e below _ (s₁.setTop (mkF m 4 #[.val (.ref t), .val (.int (Int32.ofNat x)), .val (.int (Int32.ofNat (x + d)))] []))
    refine Gl.st (fun _ kq => XS.iloadN X0.here hx rfl (hb hby d24_4) rfl kq) ?_
    show Gl p.tables e below _ (s₁.setTop (mkF m 5 #[.val (.ref t), .val (.int (Int32.ofNat x)), .val (.int (Int32.ofNat (x + d)))] [(.int (Int32.ofNat (x + d)))]))
    refine Gl.st (fun _ kq => XS.aloadN X0.here hx rfl (hb hby d24_5) rfl rfl kq) ?_
    show Gl p.tables e below _ (s₁.setTop (mkF m 6 #[.val (.ref t), .val (.int (Int32.ofNat x)), .val (.int (Int32.ofNat (x + d)))] [(.ref t), (.int (Int32.ofNat (x + d)))]))
    obtain ⟨c2, a2, q2, S2, M2, H2, G2⟩ := id pf0
    refine Gl.st (fun _ kq => X0.arraylength hx (by rw [e0]; exact a2.1) (State.isArrayOf_alike hZ.alike a2.2.1) (g := (mkF m 6 #[.val (.ref t), .val (.int (Int32.ofNat x)), .val (.int (Int32.ofNat (x + d)))] [(.ref t), (.int (Int32.ofNat (x + d)))])) rfl rfl (hb hby d24_6) _ kq) ?_
    rw [len_of S2 M2]
    show Gl p.tables e below _ (s₁.setTop (mkF m 7 #[.val (.ref t), .val (.int (Int32.ofNat x)), .val (.int (Int32.ofNat (x + d)))] [(.int (Int32.ofNat cs.length)), (.int (Int32.ofNat (x + d)))]))
    refine Gl.st (fun _ kq => XS.icmpNo X0.here hx rfl (hb hby d24_7) rfl (feq ((fun q => hnw ⟨(n32_eq0 (by omega)).mp hc1, (n32_eq (by omega) (by omega)).mp q⟩) : ¬ ((Int32.ofNat (x + d)) = (Int32.ofNat cs.length)))).1 kq) ?_
    show Gl p.tables e below _ (s₁.setTop (mkF m 10 #[.val (.ref t), .val (.int (Int32.ofNat x)), .val (.int (Int32.ofNat (x + d)))] []))
    refine Gl.st (fun _ kq => XS.aloadN X0.here hx rfl (hb hby d24_10) rfl rfl kq) ?_
    show Gl p.tables e below _ (s₁.setTop (mkF m 11 #[.val (.ref t), .val (.int (Int32.ofNat x)), .val (.int (Int32.ofNat (x + d)))] [(.ref t)]))
    refine Gl.st (fun _ kq => XS.iloadN X0.here hx rfl (hb hby d24_11) rfl kq) ?_
    show Gl p.tables e below _ (s₁.setTop (mkF m 12 #[.val (.ref t), .val (.int (Int32.ofNat x)), .val (.int (Int32.ofNat (x + d)))] [(.int (Int32.ofNat x)), (.ref t)]))
    refine Gl.st (fun _ kq => XS.iloadN X0.here hx rfl (hb hby d24_12) rfl kq) ?_
    show Gl p.tables e below _ (s₁.setTop (mkF m 13 #[.val (.ref t), .val (.int (Int32.ofNat x)), .val (.int (Int32.ofNat (x + d)))] [(.int (Int32.ofNat (x + d))), (.int (Int32.ofNat x)), (.ref t)]))
    obtain ⟨_, _, ⟨T5, L5, k5, n5⟩, -, X5, ⟨Lc5, hQ5, l5, y5, z5⟩, st5⟩ := Jvm.LawKit.callS X0 hx (y := (⟨"java/util/Arrays", "copyOfRangeByte", "([BII)[B"⟩ : MethodName)) hown (mvT hZ (tw hw 115 rfl)) (mvT hZ (tw hw 116 rfl)) (mvT hZ (tw hw 113 rfl)) (mvT hZ (tw hw 117 rfl)) (by decide) (backOf (W := 0) (rm_crb l Z a0 hw [] (t) (k) (cs) (x) (d) h0 n0 Z0 pf0 hl hx1) hZ (tw hw 117 rfl) (tw hw 113 rfl) (by decide) (by decide)) (g := (mkF m 13 #[.val (.ref t), .val (.int (Int32.ofNat x)), .val (.int (Int32.ofNat (x + d)))] [(.int (Int32.ofNat (x + d))), (.int (Int32.ofNat x)), (.ref t)])) rfl (by rw [hml]; rfl) (argsL := [(.ref t), (.int (Int32.ofNat x)), (.int (Int32.ofNat (x + d)))]) (rest := []) (lenOf pd___BII__B rfl) rfl (by show 2 * 0 + _ ≤ _; exact Nat.le_of_eq rfl) (hb hby d24_13) (fun _ _ => ⟨rfl, e0, (by decide : 0 + 1 ≤ _), (by decide : 0 + 8 ≤ _)⟩)
    dsimp only [Pt.U, Pt.locs, Pt.cells, Pt.slots] at X5 l5 y5 z5 st5 hQ5
    subst l5 y5 z5
    obtain ⟨v3, v4, rfl, N5, K5, q5_0, y5_0⟩ := hQ5
    have M5 := Fr.app N0 N5
    have g6 : n0 ≤ v3 := Nat.le_trans Z0 y5_0
    have s7 : h0.size ≤ v3 := Nat.le_trans (Nat.le_refl _) y5_0
    refine Gl.st st5 ?_
    show Gl p.tables e below _ (T5.setTop (mkF m 16 #[.val (.ref t), .val (.int (Int32.ofNat x)), .val (.int (Int32.ofNat (x + d)))] [(.ref v3)]))
    show Gl p.tables e below _ (T5.setTop (mkF m 16 #[.val (.ref t), .val (.int (Int32.ofNat x)), .val (.int (Int32.ofNat (x + d)))] [(.ref v3)]))
    have K8 : Keep h0 T5.heap [] := ((Keep.refl h0 []).trans K5 all0)
    exact Gl.retA X5 hx Bd.returns rfl rfl (hb hby d24_16) hlk (by decide) (by decide) ⟨v3, v4, rfl, M5, K8, q5_0, s7⟩
  · refine Gl.st (fun _ kq => XS.ifYes X0.here hx rfl (pc0 := 1) (pc' := 10) rfl (hb hby d24_1) rfl ((if0 _ _).trans (feq (hc1 : ¬ ((Int32.ofNat x) = (0 : Int32)))).2) (by decide) (by decide) kq) ?_
    show Gl p.tables e below _ (s₁.setTop (mkF m 10 #[.val (.ref t), .val (.int (Int32.ofNat x)), .val (.int (Int32.ofNat (x + d)))] []))
    refine Gl.st (fun _ kq => XS.aloadN X0.here hx rfl (hb hby d24_10) rfl rfl kq) ?_
    show Gl p.tables e below _ (s₁.setTop (mkF m 11 #[.val (.ref t), .val (.int (Int32.ofNat x)), .val (.int (Int32.ofNat (x + d)))] [(.ref t)]))
    refine Gl.st (fun _ kq => XS.iloadN X0.here hx rfl (hb hby d24_11) rfl kq) ?_
    show Gl p.tables e below _ (s₁.setTop (mkF m 12 #[.val (.ref t), .val (.int (Int32.ofNat x)), .val (.int (Int32.ofNat (x + d)))] [(.int (Int32.ofNat x)), (.ref t)]))
    refine Gl.st (fun _ kq => XS.iloadN X0.here hx rfl (hb hby d24_12) rfl kq) ?_
    show Gl p.tables e below _ (s₁.setTop (mkF m 13 #[.val (.ref t), .val (.int (Int32.ofNat x)), .val (.int (Int32.ofNat (x + d)))] [(.int (Int32.ofNat (x + d))), (.int (Int32.ofNat x)), (.ref t)]))
    obtain ⟨_, _, ⟨T11, L11, k11, n11⟩, -, X11, ⟨Lc11, hQ11, l11, y11, z11⟩, st11⟩ := Jvm.LawKit.callS X0 hx (y := (⟨"java/util/Arrays", "copyOfRangeByte", "([BII)[B"⟩ : MethodName)) hown (mvT hZ (tw hw 115 rfl)) (mvT hZ (tw hw 116 rfl)) (mvT hZ (tw hw 113 rfl)) (mvT hZ (tw hw 117 rfl)) (by decide) (backOf (W := 0) (rm_crb l Z a0 hw [] (t) (k) (cs) (x) (d) h0 n0 Z0 pf0 hl hx1) hZ (tw hw 117 rfl) (tw hw 113 rfl) (by decide) (by decide)) (g := (mkF m 13 #[.val (.ref t), .val (.int (Int32.ofNat x)), .val (.int (Int32.ofNat (x + d)))] [(.int (Int32.ofNat (x + d))), (.int (Int32.ofNat x)), (.ref t)])) rfl (by rw [hml]; rfl) (argsL := [(.ref t), (.int (Int32.ofNat x)), (.int (Int32.ofNat (x + d)))]) (rest := []) (lenOf pd___BII__B rfl) rfl (by show 2 * 0 + _ ≤ _; exact Nat.le_of_eq rfl) (hb hby d24_13) (fun _ _ => ⟨rfl, e0, (by decide : 0 + 1 ≤ _), (by decide : 0 + 8 ≤ _)⟩)
    dsimp only [Pt.U, Pt.locs, Pt.cells, Pt.slots] at X11 l11 y11 z11 st11 hQ11
    subst l11 y11 z11
    obtain ⟨v9, v10, rfl, N11, K11, q11_0, y11_0⟩ := hQ11
    have M11 := Fr.app N0 N11
    have g12 : n0 ≤ v9 := Nat.le_trans Z0 y11_0
    have s13 : h0.size ≤ v9 := Nat.le_trans (Nat.le_refl _) y11_0
    refine Gl.st st11 ?_
    show Gl p.tables e below _ (T11.setTop (mkF m 16 #[.val (.ref t), .val (.int (Int32.ofNat x)), .val (.int (Int32.ofNat (x + d)))] [(.ref v9)]))
    show Gl p.tables e below _ (T11.setTop (mkF m 16 #[.val (.ref t), .val (.int (Int32.ofNat x)), .val (.int (Int32.ofNat (x + d)))] [(.ref v9)]))
    have K14 : Keep h0 T11.heap [] := ((Keep.refl h0 []).trans K11 all0)
    exact Gl.retA X11 hx Bd.returns rfl rfl (hb hby d24_16) hlk (by decide) (by decide) ⟨v9, v10, rfl, M11, K14, q11_0, s13⟩
theorem d27_0 : decode jdk_42_method_151_code 0 = .ok (.aload_n 0, 1) := by decide +kernel
theorem d27_1 : decode jdk_42_method_151_code 1 = .ok (.invokespecial 1, 3) := by decide +kernel
theorem d27_4 : decode jdk_42_method_151_code 4 = .ok (.aload_n 0, 1) := by decide +kernel
theorem d27_5 : decode jdk_42_method_151_code 5 = .ok (.aload_n 1, 1) := by decide +kernel
theorem d27_6 : decode jdk_42_method_151_code 6 = .ok (.putfield 9, 3) := by decide +kernel
theorem d27_9 : decode jdk_42_method_151_code 9 = .ok (.aload_n 0, 1) := by decide +kernel
theorem d27_10 : decode jdk_42_method_151_code 10 = .ok (.iload_n 2, 1) := by decide +kernel
theorem d27_11 : decode jdk_42_method_151_code 11 = .ok (.putfield 15, 3) := by decide +kernel
theorem d27_14 : decode jdk_42_method_151_code 14 = .ok (.return_, 1) := by decide +kernel
theorem ef_si (m : MethodId) (a : Addr) (t : Addr) : entryFrame m #[(.ref a), (.ref t), (.int 0)] 3 = mkF m 0 #[.val (.ref a), .val (.ref t), .val (.int 0)] [] := by first | (simp [entryFrame, mkF, argsToLocals, Value.category]; done) | rfl
def Q_si (Z : State) (a : Addr) (t : Addr) (o1 : Value) (o2 : Int32) (h0 : Heap) (n0 : Nat) (v : Option Value) (h : Heap) (L : List Loc) : Prop := (v = none ∧ Fr n0 L ∧ Keep h0 h [a] ∧ Exa Z h a "java/lang/String" ∧ Fld Z h a "java/lang/String" "value" "[B" (.ref t) ∧ Fld Z h a "java/lang/String" "coder" "B" (.int 0))
set_option maxRecDepth 65536 in
set_option maxHeartbeats 40000000 in
theorem rm_si (l : Launch) (Z : State) (a0 : Array Value) (hw : ∀ d ∈ tables_1, d.before a0 Z = true) (ws : List Jvm.Cond) (a : Addr) (t : Addr) (o1 : Value) (o2 : Int32) (h0 : Heap) (n0 : Nat) (Z0 : n0 ≤ h0.size) (pf0 : Exa Z h0 a "java/lang/String") (pf1 : Fld Z h0 a "java/lang/String" "value" "[B" o1) (pf2 : Fld Z h0 a "java/lang/String" "coder" "B" (.int o2)) (ga : n0 ≤ a) :
    MetFree l (⟨"java/lang/String", "<init>", "([BB)V"⟩ : MethodName) (head1 (Jvm.Cond.code (⟨"java/lang/String", "<init>", "([BB)V"⟩ : MethodName) jdk_42_method_151_code 3 none :: ws) ({ frames := 1, cells := 0, slots := 0, locals := 12 } : Room)) (fun aa U => aa = #[(.ref a), (.ref t), (.int 0)] ∧ Z.Warmed39 U.vm ∧ U.heap = h0) (fun _ _ _ _ _ => True) (fun _ U o U' => ∃ v L, o = .returned v ∧ Q_si Z a t o1 o2 h0 n0 v U'.heap L ∧ FrameEnd U o U' L ({ frames := 1, cells := 0, slots := 0, locals := 12 } : Room).cells ({ frames := 1, cells := 0, slots := 0, locals := 12 } : Room).slots) := by
  refine MetFree.of_bodySF (plainFor_of_name pn_java_lang_String) hisR ?_
  intro p e s m args below meth c s₁ Bd hml0 hP hK
  obtain ⟨rfl, hZ, hh⟩ := hP
  have hx := Bd.exec
  have hby := Bd.bytes
  have hlk : meth.locks = false := BodyLoose.notSynchronized Bd
  have hml : c.maxLocals = 3 := hml0
  have hown : s.vm.findClass "java/lang/String" = some m.cls := findClass_of_methodNamed Bd.named
  have hnm := (name_of_methodNamed Bd.named Bd.method).1
  have X0 : Stand p l e ({ frames := 1, cells := 0, slots := 0, locals := 12 } : Room) s m #[(.ref a), (.ref t), (.int 0)] below meth c s₁ [] 0 0 := Stand.of_body Bd
  have e0 : s₁.heap = h0 := by rw [← hh, Bd.state]; rfl
  have N0 := Fr.nil n0
  show Gl p.tables e below (EndN s (Q_si Z a t o1 o2 h0 n0) ({ frames := 1, cells := 0, slots := 0, locals := 12 } : Room).cells ({ frames := 1, cells := 0, slots := 0, locals := 12 } : Room).slots) _
  refine Gl.cast (ef_si m a t) ?_
  show Gl p.tables e below _ (s₁.setTop (mkF m 0 #[.val (.ref a), .val (.ref t), .val (.int 0)] []))
  refine Gl.st (fun _ kq => XS.aloadN X0.here hx rfl (hb hby d27_0) rfl rfl kq) ?_
  show Gl p.tables e below _ (s₁.setTop (mkF m 1 #[.val (.ref a), .val (.ref t), .val (.int 0)] [(.ref a)]))
  obtain ⟨T1, X1, e1, st1⟩ := initO X0 hx hZ hown (tw hw 14 rfl) (tw hw 15 rfl) (tw hw 16 rfl) e0 (g := (mkF m 1 #[.val (.ref a), .val (.ref t), .val (.int 0)] [(.ref a)])) rfl (by rw [hml]; rfl) rfl (hb hby d27_1) (by decide) (W := 0) (by show 2 * 0 + _ ≤ _; exact Nat.le_of_eq rfl) (by decide)
  refine Gl.st st1 ?_
  show Gl p.tables e below _ (T1.setTop (mkF m 4 #[.val (.ref a), .val (.ref t), .val (.int 0)] []))
  refine Gl.st (fun _ kq => XS.aloadN X1.here hx rfl (hb hby d27_4) rfl rfl kq) ?_
  show Gl p.tables e below _ (T1.setTop (mkF m 5 #[.val (.ref a), .val (.ref t), .val (.int 0)] [(.ref a)]))
  refine Gl.st (fun _ kq => XS.aloadN X1.here hx rfl (hb hby d27_5) rfl rfl kq) ?_
  show Gl p.tables e below _ (T1.setTop (mkF m 6 #[.val (.ref a), .val (.ref t), .val (.int 0)] [(.ref t), (.ref a)]))
  obtain ⟨T2, h2, X2, e2, W2, st2⟩ := putF X1 hx hZ hown (host := "") (Or.inl (tw hw 31 rfl)) Via.refl e1 pf1 pf0 (Or.inr ⟨(tw hw 32 rfl), rfl, hnm⟩) (tw hw 5 rfl) (ty := (.array .byte)) (by decide) rfl rfl (g := (mkF m 6 #[.val (.ref a), .val (.ref t), .val (.int 0)] [(.ref t), (.ref a)])) rfl rfl (hb hby d27_6)
  refine Gl.st st2 ?_
  have F2 : Fld Z h2 a "java/lang/String" "value" "[B" (.ref t) := Fld.same W2 pf1
  have N2 := Fr.snoc X2 N0 ga
  show Gl p.tables e below _ (T2.setTop (mkF m 9 #[.val (.ref a), .val (.ref t), .val (.int 0)] []))
  refine Gl.st (fun _ kq => XS.aloadN X2.here hx rfl (hb hby d27_9) rfl rfl kq) ?_
  show Gl p.tables e below _ (T2.setTop (mkF m 10 #[.val (.ref a), .val (.ref t), .val (.int 0)] [(.ref a)]))
  refine Gl.st (fun _ kq => XS.iloadN X2.here hx rfl (hb hby d27_10) rfl kq) ?_
  show Gl p.tables e below _ (T2.setTop (mkF m 11 #[.val (.ref a), .val (.ref t), .val (.int 0)] [(.int 0), (.ref a)]))
  have f3 : Fld Z h2 a "java/lang/String" "coder" "B" (.int o2) := (pf2.other W2 (Or.inr (slot_ne (Or.inr (tw hw 30 rfl)) (Or.inr (tw hw 32 rfl)) (by decide) (t := .byte) (t' := (.array .byte)) (by decide) (by decide))))
  have f4 : Exa Z h2 a "java/lang/String" := (pf0.wr W2)
  obtain ⟨T5, h5, X5, e5, W5, st5⟩ := putFN X2 hx hZ hown (tw hw 29 rfl) Via.refl e2 f3 f4 (Or.inr ⟨(tw hw 30 rfl), rfl, hnm⟩) (tw hw 5 rfl) (ty := .byte) (v' := (.int 0)) (by decide) rfl (by decide) (g := (mkF m 11 #[.val (.ref a), .val (.ref t), .val (.int 0)] [(.int 0), (.ref a)])) rfl rfl (hb hby d27_11)
  refine Gl.st st5 ?_
  have F5 : Fld Z h5 a "java/lang/String" "coder" "B" (.int 0) := Fld.same W5 f3
  have N5 := Fr.snoc X5 N2 ga
  show Gl p.tables e below _ (T5.setTop (mkF m 14 #[.val (.ref a), .val (.ref t), .val (.int 0)] []))
  have K6 : Keep h0 h5 [a] := (((Keep.refl h0 [a]).wr W2 (Or.inl (List.mem_of_getElem? (i := 0) rfl))).wr W5 (Or.inl (List.mem_of_getElem? (i := 0) rfl)))
  have f7 : Exa Z h5 a "java/lang/String" := (f4.wr W5)
  have f8 : Fld Z h5 a "java/lang/String" "value" "[B" (.ref t) := (F2.other W5 (Or.inr (slot_ne (Or.inr (tw hw 32 rfl)) (Or.inr (tw hw 30 rfl)) (by decide) (t := (.array .byte)) (t' := .byte) (by decide) (by decide))))
  exact Gl.ret0 X5 hx Bd.returns (hb hby d27_14) hlk (by decide) (by decide) (by rw [e5]; exact ⟨rfl, N5, K6, f7, f8, F5⟩)
theorem d22_0 : decode jdk_43_method_47_code 0 = .ok (.iload_n 2, 1) := by decide +kernel
theorem d22_1 : decode jdk_43_method_47_code 1 = .ok (.ifCond .ne 6, 3) := by decide +kernel
theorem d22_4 : decode jdk_43_method_47_code 4 = .ok (.ldc 151, 2) := by decide +kernel
theorem d22_6 : decode jdk_43_method_47_code 6 = .ok (.areturn, 1) := by decide +kernel
theorem d22_7 : decode jdk_43_method_47_code 7 = .ok (.new 1, 3) := by decide +kernel
theorem d22_10 : decode jdk_43_method_47_code 10 = .ok (.dup, 1) := by decide +kernel
theorem d22_11 : decode jdk_43_method_47_code 11 = .ok (.aload_n 0, 1) := by decide +kernel
theorem d22_12 : decode jdk_43_method_47_code 12 = .ok (.iload_n 1, 1) := by decide +kernel
theorem d22_13 : decode jdk_43_method_47_code 13 = .ok (.iload_n 1, 1) := by decide +kernel
theorem d22_14 : decode jdk_43_method_47_code 14 = .ok (.iload_n 2, 1) := by decide +kernel
theorem d22_15 : decode jdk_43_method_47_code 15 = .ok (.iadd, 1) := by decide +kernel
theorem d22_16 : decode jdk_43_method_47_code 16 = .ok (.invokestatic 232, 3) := by decide +kernel
theorem d22_19 : decode jdk_43_method_47_code 19 = .ok (.iconst 0, 1) := by decide +kernel
theorem d22_20 : decode jdk_43_method_47_code 20 = .ok (.invokespecial 112, 3) := by decide +kernel
theorem d22_23 : decode jdk_43_method_47_code 23 = .ok (.areturn, 1) := by decide +kernel
theorem ef_nst (m : MethodId) (t : Addr) (x : Nat) (d : Nat) : entryFrame m #[(.ref t), (.int (Int32.ofNat x)), (.int (Int32.ofNat d))] 3 = mkF m 0 #[.val (.ref t), .val (.int (Int32.ofNat x)), .val (.int (Int32.ofNat d))] [] := by first | (simp [entryFrame, mkF, argsToLocals, Value.category]; done) | rfl
def Q_nst (Z : State) (t : Addr) (k : ClassId) (cs : List Int32) (x : Nat) (d : Nat) (h0 : Heap) (n0 : Nat) (v : Option Value) (h : Heap) (L : List Loc) : Prop := (∃ r : Addr, ∃ t2 : Addr, ∃ k2 : ClassId, ∃ ds : List Int32, v = some (.ref r) ∧ Fr n0 L ∧ Keep h0 h [] ∧ Exa Z h r "java/lang/String" ∧ Fld Z h r "java/lang/String" "coder" "B" (.int 0) ∧ Fld Z h r "java/lang/String" "value" "[B" (.ref t2) ∧ Arv Z h t2 k2 .byte (Int32.ofNat ds.length) ((ds.map (fun c => c.toInt8.toInt32)).map Value.int) (.int 0) ∧ (ds = (cs.drop x).take d))
set_option maxRecDepth 65536 in
set_option maxHeartbeats 40000000 in
theorem rm_nst (l : Launch) (Z : State) (a0 : Array Value) (hw : ∀ d ∈ tables_1, d.before a0 Z = true) (ws : List Jvm.Cond) (t : Addr) (k : ClassId) (cs : List Int32) (x : Nat) (d : Nat) (h0 : Heap) (n0 : Nat) (Z0 : n0 ≤ h0.size) (pf0 : Arv Z h0 t k .byte (Int32.ofNat cs.length) ((cs.map (fun c => c.toInt8.toInt32)).map Value.int) (.int 0)) (hl : cs.length ≤ 8) (hx1 : x + d ≤ cs.length) (hnw : ¬ (x = 0 ∧ x + d = cs.length)) :
    MetFree l (⟨"java/lang/StringLatin1", "newString", "([BII)Ljava/lang/String;"⟩ : MethodName) (head1 (Jvm.Cond.code (⟨"java/lang/StringLatin1", "newString", "([BII)Ljava/lang/String;"⟩ : MethodName) jdk_43_method_47_code 3 (some (.object "java/lang/String")) :: ws) ({ frames := 3, cells := 2, slots := 12, locals := 50 } : Room)) (fun aa U => aa = #[(.ref t), (.int (Int32.ofNat x)), (.int (Int32.ofNat d))] ∧ Z.Warmed39 U.vm ∧ U.heap = h0 ∧ CHv Z consts_1 U.vm h0) (fun _ _ _ _ _ => True) (fun _ U o U' => ∃ v L, o = .returned v ∧ Q_nst Z t k cs x d h0 n0 v U'.heap L ∧ CHr Z consts_1 U.vm U.heap U'.vm U'.heap ∧ ReturnedEndW U o U' L ({ frames := 3, cells := 2, slots := 12, locals := 50 } : Room).cells ({ frames := 3, cells := 2, slots := 12, locals := 50 } : Room).slots) := by
  refine MetFree.of_bodySF (plainFor_of_name pn_java_lang_StringLatin1) hisR ?_
  intro p e s m args below meth c s₁ Bd hml0 hP hK
  obtain ⟨rfl, hZ, hh, hH⟩ := hP
  have hx := Bd.exec
  have hby := Bd.bytes
  have hlk : meth.locks = false := BodyLoose.notSynchronized Bd
  have hml : c.maxLocals = 3 := hml0
  have hown : s.vm.findClass "java/lang/StringLatin1" = some m.cls := findClass_of_methodNamed Bd.named
  have hnm := (name_of_methodNamed Bd.named Bd.method).1
  have X0 : Stand p l e ({ frames := 3, cells := 2, slots := 12, locals := 50 } : Room) (s.setVm s.vm) m #[(.ref t), (.int (Int32.ofNat x)), (.int (Int32.ofNat d))] below meth c s₁ [] 0 0 := Stand.of_body Bd
  have e0 : s₁.heap = h0 := by rw [← hh, Bd.state]; rfl
  have N0 := Fr.nil n0
  show Gl p.tables e below (EndH s Z consts_1 (Q_nst Z t k cs x d h0 n0) ({ frames := 3, cells := 2, slots := 12, locals := 50 } : Room).cells ({ frames := 3, cells := 2, slots := 12, locals := 50 } : Room).slots) _
  refine Gl.cast (ef_nst m t x d) ?_
  show Gl p.tables e below _ (s₁.setTop (mkF m 0 #[.val (.ref t), .val (.int (Int32.ofNat x)), .val (.int (Int32.ofNat d))] []))
  have hS0 : s.Since s.vm s₁.heap.size := (State.WarmedH.refl s).since _
  have C0 : CHr Z consts_1 s.vm h0 s.vm h0 := CHr.refl hH
  refine Gl.st (fun _ kq => XS.iloadN X0.here hx rfl (hb hby d22_0) rfl kq) ?_
  show Gl p.tables e below _ (s₁.setTop (mkF m 1 #[.val (.ref t), .val (.int (Int32.ofNat x)), .val (.int (Int32.ofNat d))] [(.int (Int32.ofNat d))]))
  by_cases hc1 : (Int32.ofNat d) = (0 : Int32)
  · refine Gl.st (fun _ kq => XS.ifNo X0.here hx rfl (hb hby d22_1) rfl ((if0 _ _).trans (teq (hc1 : (Int32.ofNat d) = (0 : Int32))).2) kq) ?_
    show Gl p.tables e below _ (s₁.setTop (mkF m 4 #[.val (.ref t), .val (.int (Int32.ofNat x)), .val (.int (Int32.ofNat d))] []))
    obtain ⟨b2, T2, h2, k2, t2, kc2, X2, e2, E2, S2, q2, hZ2, ho2, A2, F2, G2, V2, la2, lb2, R2, L2, sa2, st2⟩ := ldcCH X0 hx hZ hown (tw hw 103 rfl) (strW hw) e0 hS0 (Nat.le_of_eq (congrArg Array.size e0)) (elW hw) (by decide) C0.1 (vs := []) (z := (0 : Int32)) (litc_103) (by decide) (by decide) (g := (mkF m 4 #[.val (.ref t), .val (.int (Int32.ofNat x)), .val (.int (Int32.ofNat d))] [])) rfl (hb hby d22_4) (n := 0) (by decide) (by decide) (by decide) (by decide)
    refine Gl.st st2 ?_
    have C3 : CHr Z consts_1 s.vm h0 T2.vm h2 := C0.trans R2
    have V2 : Arv Z h2 t2 kc2 .byte (Int32.ofNat ([] : List Int32).length) ((([] : List Int32).map (fun c => c.toInt8.toInt32)).map Value.int) (.int 0) := V2
    show Gl p.tables e below _ (T2.setTop (mkF m 6 #[.val (.ref t), .val (.int (Int32.ofNat x)), .val (.int (Int32.ofNat d))] [(.ref b2)]))
    have K4 : Keep h0 h2 [] := ((Keep.refl h0 []).ext E2)
    exact Gl.retAH X2 hx S2 (Nat.le_trans q2 (Nat.le_of_eq (congrArg Array.size e2).symm)) (by rw [hh, e2]; exact C3.trans (CHv.at X2 hZ2 (elW hw) C3.1)) Bd.returns rfl rfl (hb hby d22_6) hlk (by decide) (by decide) (by rw [e2]; exact ⟨b2, t2, kc2, ([] : List Int32), rfl, N0, K4, A2, F2, G2, V2, (by rw [(n32_eq0 (i := d) (by omega)).mp hc1]; simp)⟩)
  · refine Gl.st (fun _ kq => XS.ifYes X0.here hx rfl (pc0 := 1) (pc' := 7) rfl (hb hby d22_1) rfl ((if0 _ _).trans (feq (hc1 : ¬ ((Int32.ofNat d) = (0 : Int32)))).2) (by decide) (by decide) kq) ?_
    show Gl p.tables e below _ (s₁.setTop (mkF m 7 #[.val (.ref t), .val (.int (Int32.ofNat x)), .val (.int (Int32.ofNat d))] []))
    obtain ⟨T5, h5, X5, e5, E5, A5, D5, U5, st5⟩ := newO X0 hx hZ hown (tw hw 110 rfl) (tw hw 5 rfl) (tw hw 6 rfl) e0 (g := (mkF m 7 #[.val (.ref t), .val (.int (Int32.ofNat x)), .val (.int (Int32.ofNat d))] [])) rfl (hb hby d22_7) (by decide) (by decide)
    obtain ⟨b5, g5⟩ : ∃ z, z = h0.size := ⟨_, rfl⟩
    rw [← g5] at A5 D5 U5 st5
    refine Gl.st st5 ?_
    have g6 : n0 ≤ b5 := Nat.le_trans Z0 (Nat.le_of_eq g5.symm)
    have s7 : h0.size ≤ b5 := Nat.le_trans (Nat.le_refl _) (Nat.le_of_eq g5.symm)
    have C8 : CHr Z consts_1 s.vm h0 s.vm h5 := C0.trans (CHr.ext E5 C0.1)
    have F5_30 : Fld Z h5 b5 "java/lang/String" "coder" "B" (.int 0) := D5 (Or.inr (tw hw 30 rfl)) (ty := .byte) (by decide)
    have F5_32 : Fld Z h5 b5 "java/lang/String" "value" "[B" .null := D5 (Or.inr (tw hw 32 rfl)) (ty := (.array .byte)) (by decide)
    show Gl p.tables e below _ (T5.setTop (mkF m 10 #[.val (.ref t), .val (.int (Int32.ofNat x)), .val (.int (Int32.ofNat d))] [(.ref b5)]))
    refine Gl.st (fun _ kq => XS.dup X5.here hx rfl (hb hby d22_10) rfl rfl kq) ?_
    show Gl p.tables e below _ (T5.setTop (mkF m 11 #[.val (.ref t), .val (.int (Int32.ofNat x)), .val (.int (Int32.ofNat d))] [(.ref b5), (.ref b5)]))
    refine Gl.st (fun _ kq => XS.aloadN X5.here hx rfl (hb hby d22_11) rfl rfl kq) ?_
    show Gl p.tables e below _ (T5.setTop (mkF m 12 #[.val (.ref t), .val (.int (Int32.ofNat x)), .val (.int (Int32.ofNat d))] [(.ref t), (.ref b5), (.ref b5)]))
    refine Gl.st (fun _ kq => XS.iloadN X5.here hx rfl (hb hby d22_12) rfl kq) ?_
    show Gl p.tables e below _ (T5.setTop (mkF m 13 #[.val (.ref t), .val (.int (Int32.ofNat x)), .val (.int (Int32.ofNat d))] [(.int (Int32.ofNat x)), (.ref t), (.ref b5), (.ref b5)]))
    refine Gl.st (fun _ kq => XS.iloadN X5.here hx rfl (hb hby d22_13) rfl kq) ?_
    show Gl p.tables e below _ (T5.setTop (mkF m 14 #[.val (.ref t), .val (.int (Int32.ofNat x)), .val (.int (Int32.ofNat d))] [(.int (Int32.ofNat x)), (.int (Int32.ofNat x)), (.ref t), (.ref b5), (.ref b5)]))
    refine Gl.st (fun _ kq => XS.iloadN X5.here hx rfl (hb hby d22_14) rfl kq) ?_
    show Gl p.tables e below _ (T5.setTop (mkF m 15 #[.val (.ref t), .val (.int (Int32.ofNat x)), .val (.int (Int32.ofNat d))] [(.int (Int32.ofNat d)), (.int (Int32.ofNat x)), (.int (Int32.ofNat x)), (.ref t), (.ref b5), (.ref b5)]))
    refine Gl.st (fun _ kq => XS.iadd X5.here hx rfl (hb hby d22_15) rfl kq) ?_
    show Gl p.tables e below _ (T5.setTop (mkF m 16 #[.val (.ref t), .val (.int (Int32.ofNat x)), .val (.int (Int32.ofNat d))] [(.int ((Int32.ofNat x) + (Int32.ofNat d))), (.int (Int32.ofNat x)), (.ref t), (.ref b5), (.ref b5)]))
    rw [n32_add x d]
    show Gl p.tables e below _ (T5.setTop (mkF m 16 #[.val (.ref t), .val (.int (Int32.ofNat x)), .val (.int (Int32.ofNat d))] [(.int (Int32.ofNat (x + d))), (.int (Int32.ofNat x)), (.ref t), (.ref b5), (.ref b5)]))
    have f9 : Arv Z h5 t k .byte (Int32.ofNat cs.length) ((cs.map (fun c => c.toInt8.toInt32)).map Value.int) (.int 0) := (pf0.ext E5)
    obtain ⟨_, _, ⟨T12, L12, k12, n12⟩, -, X12, ⟨Lc12, hQ12, l12, y12, z12⟩, st12⟩ := Jvm.LawKit.callS X5 hx (y := (⟨"java/util/Arrays", "copyOfRange", "([BII)[B"⟩ : MethodName)) hown (mvT hZ (tw hw 111 rfl)) (mvT hZ (tw hw 112 rfl)) (mvT hZ (tw hw 113 rfl)) (mvT hZ (tw hw 114 rfl)) (by decide) (backOf (W := 2) (rm_cor l Z a0 hw [] (t) (k) (cs) (x) (d) h5 n0 (Nat.le_trans Z0 E5.1) f9 hl hx1 hnw) hZ (tw hw 114 rfl) (tw hw 113 rfl) (by decide) (by decide)) (g := (mkF m 16 #[.val (.ref t), .val (.int (Int32.ofNat x)), .val (.int (Int32.ofNat d))] [(.int (Int32.ofNat (x + d))), (.int (Int32.ofNat x)), (.ref t), (.ref b5), (.ref b5)])) rfl (by rw [hml]; rfl) (argsL := [(.ref t), (.int (Int32.ofNat x)), (.int (Int32.ofNat (x + d)))]) (rest := [(.ref b5), (.ref b5)]) (lenOf pd___BII__B rfl) rfl (by show 2 * 0 + _ ≤ _; exact Nat.le_of_eq rfl) (hb hby d22_16) (fun _ _ => ⟨rfl, e5, (by decide : 1 + 1 ≤ _), (by decide : 4 + 8 ≤ _)⟩)
    dsimp only [Pt.U, Pt.locs, Pt.cells, Pt.slots] at X12 l12 y12 z12 st12 hQ12
    subst l12 y12 z12
    obtain ⟨v10, v11, rfl, N12, K12, q12_0, y12_0⟩ := hQ12
    have C13 : CHr Z consts_1 s.vm h0 s.vm T12.heap := C8.trans (CHr.keep K12 sf0 C8.1)
    have M12 := Fr.app N0 N12
    have g14 : n0 ≤ v10 := Nat.le_trans (Nat.le_trans Z0 E5.1) y12_0
    have s15 : h0.size ≤ v10 := Nat.le_trans (Nat.le_trans (Nat.le_refl _) E5.1) y12_0
    refine Gl.st st12 ?_
    show Gl p.tables e below _ (T12.setTop (mkF m 19 #[.val (.ref t), .val (.int (Int32.ofNat x)), .val (.int (Int32.ofNat d))] [(.ref v10), (.ref b5), (.ref b5)]))
    show Gl p.tables e below _ (T12.setTop (mkF m 19 #[.val (.ref t), .val (.int (Int32.ofNat x)), .val (.int (Int32.ofNat d))] [(.ref v10), (.ref b5), (.ref b5)]))
    refine Gl.st (fun _ kq => XS.iconst X12.here hx rfl (hb hby d22_19) kq) ?_
    show Gl p.tables e below _ (T12.setTop (mkF m 20 #[.val (.ref t), .val (.int (Int32.ofNat x)), .val (.int (Int32.ofNat d))] [(.int 0), (.ref v10), (.ref b5), (.ref b5)]))
    have f16 : Exa Z T12.heap b5 "java/lang/String" := (A5.keep K12)
    have f17 : Fld Z T12.heap b5 "java/lang/String" "value" "[B" .null := (F5_32.keep K12 nin0)
    have f18 : Fld Z T12.heap b5 "java/lang/String" "coder" "B" (.int 0) := (F5_30.keep K12 nin0)
    have Sf20 : Safe Z consts_1 s.vm T12.heap b5 := (Safe.keep K12 sf0 C8.1 (Safe.ext E5 C0.1 (Safe.new (EL := consts_1) (vm := s.vm) (Nat.le_of_eq g5.symm))))
    obtain ⟨_, _, ⟨T19, L19, k19, n19⟩, -, X19, ⟨Lc19, hQ19, l19, y19, z19⟩, st19⟩ := X12.specialBack hx (y := (⟨"java/lang/String", "<init>", "([BB)V"⟩ : MethodName)) rfl hown (mvT hZ (tw hw 126 rfl)) (mvT hZ (tw hw 127 rfl)) (mvT hZ (tw hw 128 rfl)) (by decide) (backOf (W := 1) (rm_si l Z a0 hw [] (b5) (v10) (.null) ((0 : Int32)) T12.heap n0 (Nat.le_trans (Nat.le_trans Z0 E5.1) K12.1) f16 f17 f18 g6) hZ (tw hw 128 rfl) (tw hw 6 rfl) (by decide) (by decide)) (g := (mkF m 20 #[.val (.ref t), .val (.int (Int32.ofNat x)), .val (.int (Int32.ofNat d))] [(.int 0), (.ref v10), (.ref b5), (.ref b5)])) rfl (by rw [hml]; rfl) (Steps.refl _) (a := b5) (argsL := [(.ref v10), (.int 0)]) (rest := [(.ref b5)]) (lenOf pd___BB_V rfl) rfl (by show 2 * 0 + _ ≤ _; exact Nat.le_of_eq rfl) (hb hby d22_20) (fun _ _ => ⟨rfl, rfl, (by decide : 2 + 0 ≤ _), (by decide : 12 + 0 ≤ _)⟩)
    dsimp only [Pt.U, Pt.locs, Pt.cells, Pt.slots] at X19 l19 y19 z19 st19 hQ19
    subst l19 y19 z19
    obtain ⟨rfl, N19, K19, q19_0, q19_1, q19_2⟩ := hQ19
    have C21 : CHr Z consts_1 s.vm h0 s.vm T19.heap := C13.trans (CHr.keep K19 (sfS Sf20 sf0) C13.1)
    have M19 := Fr.app M12 N19
    refine Gl.to st19 ?_
    show Gl p.tables e below _ (T19.setTop (mkF m 23 #[.val (.ref t), .val (.int (Int32.ofNat x)), .val (.int (Int32.ofNat d))] [(.ref b5)]))
    show Gl p.tables e below _ (T19.setTop (mkF m 23 #[.val (.ref t), .val (.int (Int32.ofNat x)), .val (.int (Int32.ofNat d))] [(.ref b5)]))
    have K22 : Keep h0 T19.heap [] := ((((Keep.refl h0 []).ext E5).trans K12 all0).trans K19 (allS (Or.inr s7) all0))
    have ne23 : v10 ≠ b5 := Ne.symm (Nat.ne_of_lt (Nat.lt_of_lt_of_le A5.lt y12_0))
    have f24 : Arv Z T19.heap v10 v11 .byte (Int32.ofNat d) ((((cs.drop x).take d).map (fun c => c.toInt8.toInt32)).map Value.int) (.int 0) := (q12_0.keep K19 (ninS ne23 nin0))
    exact Gl.retAH X19 hx hS0 (Nat.le_trans (Nat.le_trans (Nat.le_trans (Nat.le_of_eq (congrArg Array.size e0)) E5.1) K12.1) K19.1) (by rw [hh]; exact C21.trans (CHv.at X19 hZ (elW hw) C21.1)) Bd.returns rfl rfl (hb hby d22_23) hlk (by decide) (by decide) ⟨b5, v10, v11, ((cs.drop x).take d), rfl, M19, K22, q19_0, q19_2, q19_1, (by rw [show ((cs.drop x).take d).length = d from by simp; omega]; exact f24), rfl⟩
theorem d19_0 : decode jdk_42_method_92_code 0 = .ok (.aload_n 0, 1) := by decide +kernel
theorem d19_1 : decode jdk_42_method_92_code 1 = .ok (.invokevirtual 505, 3) := by decide +kernel
theorem d19_4 : decode jdk_42_method_92_code 4 = .ok (.istore_n 3, 1) := by decide +kernel
theorem d19_5 : decode jdk_42_method_92_code 5 = .ok (.iload_n 1, 1) := by decide +kernel
theorem d19_6 : decode jdk_42_method_92_code 6 = .ok (.iload_n 2, 1) := by decide +kernel
theorem d19_7 : decode jdk_42_method_92_code 7 = .ok (.iload_n 3, 1) := by decide +kernel
theorem d19_8 : decode jdk_42_method_92_code 8 = .ok (.invokestatic 521, 3) := by decide +kernel
theorem d19_11 : decode jdk_42_method_92_code 11 = .ok (.iload_n 1, 1) := by decide +kernel
theorem d19_12 : decode jdk_42_method_92_code 12 = .ok (.ifCond .ne 10, 3) := by decide +kernel
theorem d19_15 : decode jdk_42_method_92_code 15 = .ok (.iload_n 2, 1) := by decide +kernel
theorem d19_16 : decode jdk_42_method_92_code 16 = .ok (.iload_n 3, 1) := by decide +kernel
theorem d19_17 : decode jdk_42_method_92_code 17 = .ok (.if_icmp .ne 5, 3) := by decide +kernel
theorem d19_20 : decode jdk_42_method_92_code 20 = .ok (.aload_n 0, 1) := by decide +kernel
theorem d19_21 : decode jdk_42_method_92_code 21 = .ok (.areturn, 1) := by decide +kernel
theorem d19_22 : decode jdk_42_method_92_code 22 = .ok (.iload_n 2, 1) := by decide +kernel
theorem d19_23 : decode jdk_42_method_92_code 23 = .ok (.iload_n 1, 1) := by decide +kernel
theorem d19_24 : decode jdk_42_method_92_code 24 = .ok (.isub, 1) := by decide +kernel
theorem d19_25 : decode jdk_42_method_92_code 25 = .ok (.istore 4, 2) := by decide +kernel
theorem d19_27 : decode jdk_42_method_92_code 27 = .ok (.aload_n 0, 1) := by decide +kernel
theorem d19_28 : decode jdk_42_method_92_code 28 = .ok (.invokevirtual 492, 3) := by decide +kernel
theorem d19_31 : decode jdk_42_method_92_code 31 = .ok (.ifCond .eq 16, 3) := by decide +kernel
theorem d19_34 : decode jdk_42_method_92_code 34 = .ok (.aload_n 0, 1) := by decide +kernel
theorem d19_35 : decode jdk_42_method_92_code 35 = .ok (.getfield 9, 3) := by decide +kernel
theorem d19_38 : decode jdk_42_method_92_code 38 = .ok (.iload_n 1, 1) := by decide +kernel
theorem d19_39 : decode jdk_42_method_92_code 39 = .ok (.iload 4, 2) := by decide +kernel
theorem d19_41 : decode jdk_42_method_92_code 41 = .ok (.invokestatic 685, 3) := by decide +kernel
theorem d19_44 : decode jdk_42_method_92_code 44 = .ok (.goto 13, 3) := by decide +kernel
theorem d19_57 : decode jdk_42_method_92_code 57 = .ok (.areturn, 1) := by decide +kernel
theorem ef_ss2 (m : MethodId) (b : Addr) (x : Nat) (y : Nat) : entryFrame m #[(.ref b), (.int (Int32.ofNat x)), (.int (Int32.ofNat y))] 5 = mkF m 0 #[.val (.ref b), .val (.int (Int32.ofNat x)), .val (.int (Int32.ofNat y)), .unset, .unset] [] := by first | (simp [entryFrame, mkF, argsToLocals, Value.category]; done) | rfl
def Q_ss2 (Z : State) (b : Addr) (t : Addr) (k : ClassId) (cs : List Int32) (x : Nat) (y : Nat) (G1 : Int32) (G3 : Value) (h0 : Heap) (n0 : Nat) (v : Option Value) (h : Heap) (L : List Loc) : Prop := (∃ r : Addr, ∃ t2 : Addr, ∃ k2 : ClassId, ∃ ds : List Int32, v = some (.ref r) ∧ Fr n0 L ∧ Keep h0 h [] ∧ Exa Z h r "java/lang/String" ∧ Fld Z h r "java/lang/String" "coder" "B" (.int 0) ∧ Fld Z h r "java/lang/String" "value" "[B" (.ref t2) ∧ Arv Z h t2 k2 .byte (Int32.ofNat ds.length) ((ds.map (fun c => c.toInt8.toInt32)).map Value.int) (.int 0) ∧ (ds = (cs.drop x).take (y - x)))
set_option maxRecDepth 65536 in
set_option maxHeartbeats 40000000 in
theorem rm_ss2 (l : Launch) (Z : State) (a0 : Array Value) (hw : ∀ d ∈ tables_1, d.before a0 Z = true) (ws : List Jvm.Cond) (b : Addr) (t : Addr) (k : ClassId) (cs : List Int32) (x : Nat) (y : Nat) (G1 : Int32) (G3 : Value) (h0 : Heap) (n0 : Nat) (Z0 : n0 ≤ h0.size) (pf0 : Exa Z h0 b "java/lang/String") (pf1 : Fld Z h0 b "java/lang/String" "coder" "B" (.int 0)) (pf2 : Fld Z h0 b "java/lang/String" "value" "[B" (.ref t)) (pf3 : Arv Z h0 t k .byte (Int32.ofNat cs.length) ((cs.map (fun c => c.toInt8.toInt32)).map Value.int) (.int 0)) (pf4 : Old Z n0 h0) (hr : Rng cs) (hl : cs.length ≤ 8) (hxy : x ≤ y) (hyn : y ≤ cs.length) (O2 : Sta Z Z.heap "java/lang/String" "COMPACT_STRINGS" "Z" (.int G1)) (P5 : ¬ (G1 = (0 : Int32))) (O4 : Sta Z Z.heap "jdk/internal/util/Preconditions" "SIOOBE_FORMATTER" "Ljava/util/function/BiFunction;" G3) (rG3 : G3.isRef = true) :
    MetFree l (⟨"java/lang/String", "substring", "(II)Ljava/lang/String;"⟩ : MethodName) (head1 (Jvm.Cond.code (⟨"java/lang/String", "substring", "(II)Ljava/lang/String;"⟩ : MethodName) jdk_42_method_92_code 5 (some (.object "java/lang/String")) :: ws) ({ frames := 4, cells := 2, slots := 12, locals := 64 } : Room)) (fun aa U => aa = #[(.ref b), (.int (Int32.ofNat x)), (.int (Int32.ofNat y))] ∧ Z.Warmed39 U.vm ∧ U.heap = h0 ∧ CHv Z consts_1 U.vm h0) (fun _ _ _ _ _ => True) (fun _ U o U' => ∃ v L, o = .returned v ∧ Q_ss2 Z b t k cs x y G1 G3 h0 n0 v U'.heap L ∧ CHr Z consts_1 U.vm U.heap U'.vm U'.heap ∧ ReturnedEndW U o U' L ({ frames := 4, cells := 2, slots := 12, locals := 64 } : Room).cells ({ frames := 4, cells := 2, slots := 12, locals := 64 } : Room).slots) := by
  refine MetFree.of_bodySF (plainFor_of_name pn_java_lang_String) hisR ?_
  intro p e s m args below meth c s₁ Bd hml0 hP hK
  obtain ⟨rfl, hZ, hh, hH⟩ := hP
  have hx := Bd.exec
  have hby := Bd.bytes
  have hlk : meth.locks = false := BodyLoose.notSynchronized Bd
  have hml : c.maxLocals = 5 := hml0
  have hown : s.vm.findClass "java/lang/String" = some m.cls := findClass_of_methodNamed Bd.named
  have hnm := (name_of_methodNamed Bd.named Bd.method).1
  have X0 : Stand p l e ({ frames := 4, cells := 2, slots := 12, locals := 64 } : Room) (s.setVm s.vm) m #[(.ref b), (.int (Int32.ofNat x)), (.int (Int32.ofNat y))] below meth c s₁ [] 0 0 := Stand.of_body Bd
  have e0 : s₁.heap = h0 := by rw [← hh, Bd.state]; rfl
  have N0 := Fr.nil n0
  show Gl p.tables e below (EndH s Z consts_1 (Q_ss2 Z b t k cs x y G1 G3 h0 n0) ({ frames := 4, cells := 2, slots := 12, locals := 64 } : Room).cells ({ frames := 4, cells := 2, slots := 12, locals := 64 } : Room).slots) _
  refine Gl.cast (ef_ss2 m b x y) ?_
  show Gl p.tables e below _ (s₁.setTop (mkF m 0 #[.val (.ref b), .val (.int (Int32.ofNat x)), .val (.int (Int32.ofNat y)), .unset, .unset] []))
  have hS0 : s.Since s.vm s₁.heap.size := (State.WarmedH.refl s).since _
  have C0 : CHr Z consts_1 s.vm h0 s.vm h0 := CHr.refl hH
  refine Gl.st (fun _ kq => XS.aloadN X0.here hx rfl (hb hby d19_0) rfl rfl kq) ?_
  show Gl p.tables e below _ (s₁.setTop (mkF m 1 #[.val (.ref b), .val (.int (Int32.ofNat x)), .val (.int (Int32.ofNat y)), .unset, .unset] [(.ref b)]))
  obtain ⟨cq1, kq1, q1a, q1b, q1c⟩ := isOf hZ e0 pf0
  obtain ⟨_, _, ⟨T1, L1, k1, n1⟩, -, X1, ⟨Lc1, hQ1, l1, y1, z1⟩, st1⟩ := X0.virtualBack hx (y := (⟨"java/lang/String", "length", "()I"⟩ : MethodName)) (z := (⟨"java/lang/String", "length", "()I"⟩ : MethodName)) hown (mvT hZ (tw hw 60 rfl)) (mvT hZ (tw hw 61 rfl)) (notFace_of_selects (args := #[]) (mvT hZ (tw hw 63 rfl))) (mvT hZ (tw hw 63 rfl)) (mvT hZ (tw hw 62 rfl)) (by decide) (StrChars.Road.lenW (W := 0) hZ (wdLen hw) (kI := 4) (tw hw 5 rfl) pf0 pf2 pf1 pf3 (StrChars.Road.codOf (cs := cs) rfl (fun x hx => (hr x hx).2)) (up255 _ hr) (O2.ext pf4.2) P5 (Nat.le_trans hl (by decide)) (by decide) (by decide)) q1a q1c (g := (mkF m 1 #[.val (.ref b), .val (.int (Int32.ofNat x)), .val (.int (Int32.ofNat y)), .unset, .unset] [(.ref b)])) rfl (by rw [hml]; rfl) (Steps.refl _) (argsL := []) (rest := []) (lenOf pd___I rfl) rfl (by show 2 * 0 + _ ≤ _; exact Nat.le_of_eq rfl) (hb hby d19_1) (fun _ _ => ⟨rfl, e0, (by decide : 0 + 0 ≤ _), (by decide : 0 + 0 ≤ _)⟩)
  dsimp only [Pt.U, Pt.locs, Pt.cells, Pt.slots] at X1 l1 y1 z1 st1 hQ1
  subst l1 y1 z1
  obtain ⟨rfl, rfl, e1⟩ := hQ1
  have N1 : Fr n0 ([] : List Loc) := Fr.nil n0
  have M1 := Fr.app N0 N1
  refine Gl.to st1 ?_
  show Gl p.tables e below _ (T1.setTop (mkF m 4 #[.val (.ref b), .val (.int (Int32.ofNat x)), .val (.int (Int32.ofNat y)), .unset, .unset] [(.int (Int32.ofNat cs.length))]))
  show Gl p.tables e below _ (T1.setTop (mkF m 4 #[.val (.ref b), .val (.int (Int32.ofNat x)), .val (.int (Int32.ofNat y)), .unset, .unset] [(.int (Int32.ofNat cs.length))]))
  refine Gl.st (fun _ kq => XS.istoreN X1.here hx rfl (hb hby d19_4) rfl (l' := #[.val (.ref b), .val (.int (Int32.ofNat x)), .val (.int (Int32.ofNat y)), .val (.int (Int32.ofNat cs.length)), .unset]) rfl kq) ?_
  show Gl p.tables e below _ (T1.setTop (mkF m 5 #[.val (.ref b), .val (.int (Int32.ofNat x)), .val (.int (Int32.ofNat y)), .val (.int (Int32.ofNat cs.length)), .unset] []))
  refine Gl.st (fun _ kq => XS.iloadN X1.here hx rfl (hb hby d19_5) rfl kq) ?_
  show Gl p.tables e below _ (T1.setTop (mkF m 6 #[.val (.ref b), .val (.int (Int32.ofNat x)), .val (.int (Int32.ofNat y)), .val (.int (Int32.ofNat cs.length)), .unset] [(.int (Int32.ofNat x))]))
  refine Gl.st (fun _ kq => XS.iloadN X1.here hx rfl (hb hby d19_6) rfl kq) ?_
  show Gl p.tables e below _ (T1.setTop (mkF m 7 #[.val (.ref b), .val (.int (Int32.ofNat x)), .val (.int (Int32.ofNat y)), .val (.int (Int32.ofNat cs.length)), .unset] [(.int (Int32.ofNat y)), (.int (Int32.ofNat x))]))
  refine Gl.st (fun _ kq => XS.iloadN X1.here hx rfl (hb hby d19_7) rfl kq) ?_
  show Gl p.tables e below _ (T1.setTop (mkF m 8 #[.val (.ref b), .val (.int (Int32.ofNat x)), .val (.int (Int32.ofNat y)), .val (.int (Int32.ofNat cs.length)), .unset] [(.int (Int32.ofNat cs.length)), (.int (Int32.ofNat y)), (.int (Int32.ofNat x))]))
  obtain ⟨_, _, ⟨T2, L2, k2, n2⟩, -, X2, ⟨Lc2, hQ2, l2, y2, z2⟩, st2⟩ := Jvm.LawKit.callS X1 hx (y := (⟨"java/lang/String", "checkBoundsBeginEnd", "(III)V"⟩ : MethodName)) hown (mvT hZ (tw hw 92 rfl)) (mvT hZ (tw hw 93 rfl)) (mvT hZ (tw hw 6 rfl)) (mvT hZ (tw hw 94 rfl)) (by decide) (backOf (W := 0) (rm_cbe l Z a0 hw [] (x) (y) (cs.length) (G3) h0 n0 Z0 pf4 (n32_nn (i := x) (by omega)) (n32_nlt (i := y) (j := x) (by omega) (by omega) (by omega)) (n32_nlt (i := cs.length) (j := y) (by omega) (by omega) (by omega)) O4 rG3) hZ (tw hw 94 rfl) (tw hw 6 rfl) (by decide) (by decide)) (g := (mkF m 8 #[.val (.ref b), .val (.int (Int32.ofNat x)), .val (.int (Int32.ofNat y)), .val (.int (Int32.ofNat cs.length)), .unset] [(.int (Int32.ofNat cs.length)), (.int (Int32.ofNat y)), (.int (Int32.ofNat x))])) rfl (by rw [hml]; rfl) (argsL := [(.int (Int32.ofNat x)), (.int (Int32.ofNat y)), (.int (Int32.ofNat cs.length))]) (rest := []) (lenOf pd__III_V rfl) rfl (by show 2 * 0 + _ ≤ _; exact Nat.le_of_eq rfl) (hb hby d19_8) (fun _ _ => ⟨rfl, e1, (by decide : 0 + 0 ≤ _), (by decide : 0 + 0 ≤ _)⟩)
  dsimp only [Pt.U, Pt.locs, Pt.cells, Pt.slots] at X2 l2 y2 z2 st2 hQ2
  subst l2 y2 z2
  obtain ⟨rfl, N2, e2⟩ := hQ2
  have M2 := Fr.app M1 N2
  refine Gl.st st2 ?_
  show Gl p.tables e below _ (T2.setTop (mkF m 11 #[.val (.ref b), .val (.int (Int32.ofNat x)), .val (.int (Int32.ofNat y)), .val (.int (Int32.ofNat cs.length)), .unset] []))
  show Gl p.tables e below _ (T2.setTop (mkF m 11 #[.val (.ref b), .val (.int (Int32.ofNat x)), .val (.int (Int32.ofNat y)), .val (.int (Int32.ofNat cs.length)), .unset] []))
  refine Gl.st (fun _ kq => XS.iloadN X2.here hx rfl (hb hby d19_11) rfl kq) ?_
  show Gl p.tables e below _ (T2.setTop (mkF m 12 #[.val (.ref b), .val (.int (Int32.ofNat x)), .val (.int (Int32.ofNat y)), .val (.int (Int32.ofNat cs.length)), .unset] [(.int (Int32.ofNat x))]))
  by_cases hc3 : (Int32.ofNat x) = (0 : Int32)
  · refine Gl.st (fun _ kq => XS.ifNo X2.here hx rfl (hb hby d19_12) rfl ((if0 _ _).trans (teq (hc3 : (Int32.ofNat x) = (0 : Int32))).2) kq) ?_
    show Gl p.tables e below _ (T2.setTop (mkF m 15 #[.val (.ref b), .val (.int (Int32.ofNat x)), .val (.int (Int32.ofNat y)), .val (.int (Int32.ofNat cs.length)), .unset] []))
    refine Gl.st (fun _ kq => XS.iloadN X2.here hx rfl (hb hby d19_15) rfl kq) ?_
    show Gl p.tables e below _ (T2.setTop (mkF m 16 #[.val (.ref b), .val (.int (Int32.ofNat x)), .val (.int (Int32.ofNat y)), .val (.int (Int32.ofNat cs.length)), .unset] [(.int (Int32.ofNat y))]))
    refine Gl.st (fun _ kq => XS.iloadN X2.here hx rfl (hb hby d19_16) rfl kq) ?_
    show Gl p.tables e below _ (T2.setTop (mkF m 17 #[.val (.ref b), .val (.int (Int32.ofNat x)), .val (.int (Int32.ofNat y)), .val (.int (Int32.ofNat cs.length)), .unset] [(.int (Int32.ofNat cs.length)), (.int (Int32.ofNat y))]))
    by_cases hc4 : (Int32.ofNat y) = (Int32.ofNat cs.length)
    · refine Gl.st (fun _ kq => XS.icmpNo X2.here hx rfl (hb hby d19_17) rfl (teq (hc4 : (Int32.ofNat y) = (Int32.ofNat cs.length))).2 kq) ?_
      show Gl p.tables e below _ (T2.setTop (mkF m 20 #[.val (.ref b), .val (.int (Int32.ofNat x)), .val (.int (Int32.ofNat y)), .val (.int (Int32.ofNat cs.length)), .unset] []))
      refine Gl.st (fun _ kq => XS.aloadN X2.here hx rfl (hb hby d19_20) rfl rfl kq) ?_
      show Gl p.tables e below _ (T2.setTop (mkF m 21 #[.val (.ref b), .val (.int (Int32.ofNat x)), .val (.int (Int32.ofNat y)), .val (.int (Int32.ofNat cs.length)), .unset] [(.ref b)]))
      exact Gl.retAH X2 hx hS0 (Nat.le_trans (Nat.le_of_eq (congrArg Array.size e0)) (Nat.le_of_eq (congrArg Array.size e2).symm)) (by rw [hh, e2]; exact C0.trans (CHv.at X2 hZ (elW hw) C0.1)) Bd.returns rfl rfl (hb hby d19_21) hlk (by decide) (by decide) (by rw [e2]; exact ⟨b, t, k, cs, rfl, M2, (Keep.refl h0 []), pf0, pf1, pf2, pf3, (by rw [(n32_eq0 (i := x) (by omega)).mp hc3, (n32_eq (i := y) (by omega) (by omega)).mp hc4]; simp)⟩)
    · refine Gl.st (fun _ kq => XS.icmpYes X2.here hx rfl (pc0 := 17) (pc' := 22) rfl (hb hby d19_17) rfl (feq (hc4 : ¬ ((Int32.ofNat y) = (Int32.ofNat cs.length)))).2 (by decide) (by decide) kq) ?_
      show Gl p.tables e below _ (T2.setTop (mkF m 22 #[.val (.ref b), .val (.int (Int32.ofNat x)), .val (.int (Int32.ofNat y)), .val (.int (Int32.ofNat cs.length)), .unset] []))
      refine Gl.st (fun _ kq => XS.iloadN X2.here hx rfl (hb hby d19_22) rfl kq) ?_
      show Gl p.tables e below _ (T2.setTop (mkF m 23 #[.val (.ref b), .val (.int (Int32.ofNat x)), .val (.int (Int32.ofNat y)), .val (.int (Int32.ofNat cs.length)), .unset] [(.int (Int32.ofNat y))]))
      refine Gl.st (fun _ kq => XS.iloadN X2.here hx rfl (hb hby d19_23) rfl kq) ?_
      show Gl p.tables e below _ (T2.setTop (mkF m 24 #[.val (.ref b), .val (.int (Int32.ofNat x)), .val (.int (Int32.ofNat y)), .val (.int (Int32.ofNat cs.length)), .unset] [(.int (Int32.ofNat x)), (.int (Int32.ofNat y))]))
      refine Gl.st (fun _ kq => XS.isub X2.here hx rfl (hb hby d19_24) rfl kq) ?_
      show Gl p.tables e below _ (T2.setTop (mkF m 25 #[.val (.ref b), .val (.int (Int32.ofNat x)), .val (.int (Int32.ofNat y)), .val (.int (Int32.ofNat cs.length)), .unset] [(.int ((Int32.ofNat y) - (Int32.ofNat x)))]))
      rw [n32_sub (i := y) (j := x) hxy]
      show Gl p.tables e below _ (T2.setTop (mkF m 25 #[.val (.ref b), .val (.int (Int32.ofNat x)), .val (.int (Int32.ofNat y)), .val (.int (Int32.ofNat cs.length)), .unset] [(.int (Int32.ofNat (y - x)))]))
      refine Gl.st (fun _ kq => XS.istore X2.here hx rfl (hb hby d19_25) rfl (l' := #[.val (.ref b), .val (.int (Int32.ofNat x)), .val (.int (Int32.ofNat y)), .val (.int (Int32.ofNat cs.length)), .val (.int (Int32.ofNat (y - x)))]) rfl kq) ?_
      show Gl p.tables e below _ (T2.setTop (mkF m 27 #[.val (.ref b), .val (.int (Int32.ofNat x)), .val (.int (Int32.ofNat y)), .val (.int (Int32.ofNat cs.length)), .val (.int (Int32.ofNat (y - x)))] []))
      refine Gl.st (fun _ kq => XS.aloadN X2.here hx rfl (hb hby d19_27) rfl rfl kq) ?_
      show Gl p.tables e below _ (T2.setTop (mkF m 28 #[.val (.ref b), .val (.int (Int32.ofNat x)), .val (.int (Int32.ofNat y)), .val (.int (Int32.ofNat cs.length)), .val (.int (Int32.ofNat (y - x)))] [(.ref b)]))
      obtain ⟨cq5, kq5, q5a, q5b, q5c⟩ := isOf hZ e2 pf0
      obtain ⟨_, _, ⟨T5, L5, k5, n5⟩, -, X5, ⟨Lc5, hQ5, l5, y5, z5⟩, st5⟩ := X2.virtualBack hx (y := (⟨"java/lang/String", "isLatin1", "()Z"⟩ : MethodName)) (z := (⟨"java/lang/String", "isLatin1", "()Z"⟩ : MethodName)) hown (mvT hZ (tw hw 55 rfl)) (mvT hZ (tw hw 56 rfl)) (notFace_of_selects (args := #[]) (mvT hZ (tw hw 58 rfl))) (mvT hZ (tw hw 58 rfl)) (mvT hZ (tw hw 57 rfl)) (by decide) (backOf (W := 0) (rm_isl l Z a0 hw [] (b) (G1) h0 n0 Z0 pf1 pf4 O2 P5) hZ (tw hw 59 rfl) (tw hw 6 rfl) (by decide) (by decide)) q5a q5c (g := (mkF m 28 #[.val (.ref b), .val (.int (Int32.ofNat x)), .val (.int (Int32.ofNat y)), .val (.int (Int32.ofNat cs.length)), .val (.int (Int32.ofNat (y - x)))] [(.ref b)])) rfl (by rw [hml]; rfl) (Steps.refl _) (argsL := []) (rest := []) (lenOf pd___Z rfl) rfl (by show 2 * 0 + _ ≤ _; exact Nat.le_of_eq rfl) (hb hby d19_28) (fun _ _ => ⟨rfl, e2, (by decide : 0 + 0 ≤ _), (by decide : 0 + 0 ≤ _)⟩)
      dsimp only [Pt.U, Pt.locs, Pt.cells, Pt.slots] at X5 l5 y5 z5 st5 hQ5
      subst l5 y5 z5
      obtain ⟨rfl, N5, e5⟩ := hQ5
      have M5 := Fr.app M2 N5
      refine Gl.to st5 ?_
      show Gl p.tables e below _ (T5.setTop (mkF m 31 #[.val (.ref b), .val (.int (Int32.ofNat x)), .val (.int (Int32.ofNat y)), .val (.int (Int32.ofNat cs.length)), .val (.int (Int32.ofNat (y - x)))] [(.int 1)]))
      show Gl p.tables e below _ (T5.setTop (mkF m 31 #[.val (.ref b), .val (.int (Int32.ofNat x)), .val (.int (Int32.ofNat y)), .val (.int (Int32.ofNat cs.length)), .val (.int (Int32.ofNat (y - x)))] [(.int 1)]))
      refine Gl.st (fun _ kq => XS.ifNo X5.here hx rfl (hb hby d19_31) rfl ((if0 _ _).trans (feq ((by decide) : ¬ ((1 : Int32) = (0 : Int32)))).1) kq) ?_
      show Gl p.tables e below _ (T5.setTop (mkF m 34 #[.val (.ref b), .val (.int (Int32.ofNat x)), .val (.int (Int32.ofNat y)), .val (.int (Int32.ofNat cs.length)), .val (.int (Int32.ofNat (y - x)))] []))
      refine Gl.st (fun _ kq => XS.aloadN X5.here hx rfl (hb hby d19_34) rfl rfl kq) ?_
      show Gl p.tables e below _ (T5.setTop (mkF m 35 #[.val (.ref b), .val (.int (Int32.ofNat x)), .val (.int (Int32.ofNat y)), .val (.int (Int32.ofNat cs.length)), .val (.int (Int32.ofNat (y - x)))] [(.ref b)]))
      obtain ⟨T6, X6, e6, st6⟩ := getF X5 hx hZ hown (host := "") (Or.inl (tw hw 31 rfl)) Via.refl e5 pf2 (g := (mkF m 35 #[.val (.ref b), .val (.int (Int32.ofNat x)), .val (.int (Int32.ofNat y)), .val (.int (Int32.ofNat cs.length)), .val (.int (Int32.ofNat (y - x)))] [(.ref b)])) rfl rfl (hb hby d19_35)
      refine Gl.st st6 ?_
      show Gl p.tables e below _ (T6.setTop (mkF m 38 #[.val (.ref b), .val (.int (Int32.ofNat x)), .val (.int (Int32.ofNat y)), .val (.int (Int32.ofNat cs.length)), .val (.int (Int32.ofNat (y - x)))] [(.ref t)]))
      refine Gl.st (fun _ kq => XS.iloadN X6.here hx rfl (hb hby d19_38) rfl kq) ?_
      show Gl p.tables e below _ (T6.setTop (mkF m 39 #[.val (.ref b), .val (.int (Int32.ofNat x)), .val (.int (Int32.ofNat y)), .val (.int (Int32.ofNat cs.length)), .val (.int (Int32.ofNat (y - x)))] [(.int (Int32.ofNat x)), (.ref t)]))
      refine Gl.st (fun _ kq => XS.iload X6.here hx rfl (hb hby d19_39) rfl kq) ?_
      show Gl p.tables e below _ (T6.setTop (mkF m 41 #[.val (.ref b), .val (.int (Int32.ofNat x)), .val (.int (Int32.ofNat y)), .val (.int (Int32.ofNat cs.length)), .val (.int (Int32.ofNat (y - x)))] [(.int (Int32.ofNat (y - x))), (.int (Int32.ofNat x)), (.ref t)]))
      obtain ⟨_, _, ⟨T11, L11, k11, n11⟩, -, X11, S11, g11, ⟨Lc11, hQ11, l11, y11, z11, R11⟩, st11⟩ := callSS X6 hx (y := (⟨"java/lang/StringLatin1", "newString", "([BII)Ljava/lang/String;"⟩ : MethodName)) hown (mvT hZ (tw hw 100 rfl)) (mvT hZ (tw hw 101 rfl)) (mvT hZ (tw hw 72 rfl)) (mvT hZ (tw hw 102 rfl)) (by decide) (backOfSH (W := 0) (rm_nst l Z a0 hw [] (t) (k) (cs) (x) ((y - x)) h0 n0 Z0 pf3 hl (by omega) (fun q => hc4 ((n32_eq (by omega) (by omega)).mpr (by omega)))) hZ (tw hw 102 rfl) (tw hw 72 rfl) (by decide) (by decide) (elW hw) C0.1) (g := (mkF m 41 #[.val (.ref b), .val (.int (Int32.ofNat x)), .val (.int (Int32.ofNat y)), .val (.int (Int32.ofNat cs.length)), .val (.int (Int32.ofNat (y - x)))] [(.int (Int32.ofNat (y - x))), (.int (Int32.ofNat x)), (.ref t)])) rfl (by rw [hml]; rfl) (argsL := [(.ref t), (.int (Int32.ofNat x)), (.int (Int32.ofNat (y - x)))]) (rest := []) (lenOf pd___BII_Ljava_lang_String_ rfl) rfl (by show 2 * 0 + _ ≤ _; exact Nat.le_of_eq rfl) (hb hby d19_41) (fun _ _ => ⟨rfl, e6, (by decide : 0 + 2 ≤ _), (by decide : 0 + 12 ≤ _)⟩)
      dsimp only [Pt.U, Pt.locs, Pt.cells, Pt.slots] at X11 l11 y11 z11 st11 hQ11 R11
      subst l11 y11 z11
      obtain ⟨X11, S11, hZ11, ho11⟩ := rebS hS0 (Nat.le_trans (Nat.le_of_eq (congrArg Array.size e0)) (Nat.le_of_eq (congrArg Array.size e6).symm)) X11 S11 g11 hZ hown
      obtain ⟨v7, v8, v9, v10, rfl, N11, K11, q11_0, q11_1, q11_2, q11_3, y11_0⟩ := hQ11
      have C12 : CHr Z consts_1 s.vm h0 T11.vm T11.heap := C0.trans R11
      have M11 := Fr.app M5 N11
      refine Gl.to st11 ?_
      show Gl p.tables e below _ (T11.setTop (mkF m 44 #[.val (.ref b), .val (.int (Int32.ofNat x)), .val (.int (Int32.ofNat y)), .val (.int (Int32.ofNat cs.length)), .val (.int (Int32.ofNat (y - x)))] [(.ref v7)]))
      show Gl p.tables e below _ (T11.setTop (mkF m 44 #[.val (.ref b), .val (.int (Int32.ofNat x)), .val (.int (Int32.ofNat y)), .val (.int (Int32.ofNat cs.length)), .val (.int (Int32.ofNat (y - x)))] [(.ref v7)]))
      refine Gl.st (fun _ kq => XS.goto X11.here hx rfl (pc0 := 44) (pc' := 57) rfl (hb hby d19_44) (by decide) (by decide) kq) ?_
      show Gl p.tables e below _ (T11.setTop (mkF m 57 #[.val (.ref b), .val (.int (Int32.ofNat x)), .val (.int (Int32.ofNat y)), .val (.int (Int32.ofNat cs.length)), .val (.int (Int32.ofNat (y - x)))] [(.ref v7)]))
      have K13 : Keep h0 T11.heap [] := ((Keep.refl h0 []).trans K11 all0)
      exact Gl.retAH X11 hx S11 (Nat.le_refl _) (by rw [hh]; exact C12.trans (CHv.at X11 hZ11 (elW hw) C12.1)) Bd.returns rfl rfl (hb hby d19_57) hlk (by decide) (by decide) ⟨v7, v8, v9, v10, rfl, M11, K13, q11_0, q11_1, q11_2, q11_3, y11_0⟩
  · refine Gl.st (fun _ kq => XS.ifYes X2.here hx rfl (pc0 := 12) (pc' := 22) rfl (hb hby d19_12) rfl ((if0 _ _).trans (feq (hc3 : ¬ ((Int32.ofNat x) = (0 : Int32)))).2) (by decide) (by decide) kq) ?_
    show Gl p.tables e below _ (T2.setTop (mkF m 22 #[.val (.ref b), .val (.int (Int32.ofNat x)), .val (.int (Int32.ofNat y)), .val (.int (Int32.ofNat cs.length)), .unset] []))
    refine Gl.st (fun _ kq => XS.iloadN X2.here hx rfl (hb hby d19_22) rfl kq) ?_
    show Gl p.tables e below _ (T2.setTop (mkF m 23 #[.val (.ref b), .val (.int (Int32.ofNat x)), .val (.int (Int32.ofNat y)), .val (.int (Int32.ofNat cs.length)), .unset] [(.int (Int32.ofNat y))]))
    refine Gl.st (fun _ kq => XS.iloadN X2.here hx rfl (hb hby d19_23) rfl kq) ?_
    show Gl p.tables e below _ (T2.setTop (mkF m 24 #[.val (.ref b), .val (.int (Int32.ofNat x)), .val (.int (Int32.ofNat y)), .val (.int (Int32.ofNat cs.length)), .unset] [(.int (Int32.ofNat x)), (.int (Int32.ofNat y))]))
    refine Gl.st (fun _ kq => XS.isub X2.here hx rfl (hb hby d19_24) rfl kq) ?_
    show Gl p.tables e below _ (T2.setTop (mkF m 25 #[.val (.ref b), .val (.int (Int32.ofNat x)), .val (.int (Int32.ofNat y)), .val (.int (Int32.ofNat cs.length)), .unset] [(.int ((Int32.ofNat y) - (Int32.ofNat x)))]))
    rw [n32_sub (i := y) (j := x) hxy]
    show Gl p.tables e below _ (T2.setTop (mkF m 25 #[.val (.ref b), .val (.int (Int32.ofNat x)), .val (.int (Int32.ofNat y)), .val (.int (Int32.ofNat cs.length)), .unset] [(.int (Int32.ofNat (y - x)))]))
    refine Gl.st (fun _ kq => XS.istore X2.here hx rfl (hb hby d19_25) rfl (l' := #[.val (.ref b), .val (.int (Int32.ofNat x)), .val (.int (Int32.ofNat y)), .val (.int (Int32.ofNat cs.length)), .val (.int (Int32.ofNat (y - x)))]) rfl kq) ?_
    show Gl p.tables e below _ (T2.setTop (mkF m 27 #[.val (.ref b), .val (.int (Int32.ofNat x)), .val (.int (Int32.ofNat y)), .val (.int (Int32.ofNat cs.length)), .val (.int (Int32.ofNat (y - x)))] []))
    refine Gl.st (fun _ kq => XS.aloadN X2.here hx rfl (hb hby d19_27) rfl rfl kq) ?_
    show Gl p.tables e below _ (T2.setTop (mkF m 28 #[.val (.ref b), .val (.int (Int32.ofNat x)), .val (.int (Int32.ofNat y)), .val (.int (Int32.ofNat cs.length)), .val (.int (Int32.ofNat (y - x)))] [(.ref b)]))
    obtain ⟨cq14, kq14, q14a, q14b, q14c⟩ := isOf hZ e2 pf0
    obtain ⟨_, _, ⟨T14, L14, k14, n14⟩, -, X14, ⟨Lc14, hQ14, l14, y14, z14⟩, st14⟩ := X2.virtualBack hx (y := (⟨"java/lang/String", "isLatin1", "()Z"⟩ : MethodName)) (z := (⟨"java/lang/String", "isLatin1", "()Z"⟩ : MethodName)) hown (mvT hZ (tw hw 55 rfl)) (mvT hZ (tw hw 56 rfl)) (notFace_of_selects (args := #[]) (mvT hZ (tw hw 58 rfl))) (mvT hZ (tw hw 58 rfl)) (mvT hZ (tw hw 57 rfl)) (by decide) (backOf (W := 0) (rm_isl l Z a0 hw [] (b) (G1) h0 n0 Z0 pf1 pf4 O2 P5) hZ (tw hw 59 rfl) (tw hw 6 rfl) (by decide) (by decide)) q14a q14c (g := (mkF m 28 #[.val (.ref b), .val (.int (Int32.ofNat x)), .val (.int (Int32.ofNat y)), .val (.int (Int32.ofNat cs.length)), .val (.int (Int32.ofNat (y - x)))] [(.ref b)])) rfl (by rw [hml]; rfl) (Steps.refl _) (argsL := []) (rest := []) (lenOf pd___Z rfl) rfl (by show 2 * 0 + _ ≤ _; exact Nat.le_of_eq rfl) (hb hby d19_28) (fun _ _ => ⟨rfl, e2, (by decide : 0 + 0 ≤ _), (by decide : 0 + 0 ≤ _)⟩)
    dsimp only [Pt.U, Pt.locs, Pt.cells, Pt.slots] at X14 l14 y14 z14 st14 hQ14
    subst l14 y14 z14
    obtain ⟨rfl, N14, e14⟩ := hQ14
    have M14 := Fr.app M2 N14
    refine Gl.to st14 ?_
    show Gl p.tables e below _ (T14.setTop (mkF m 31 #[.val (.ref b), .val (.int (Int32.ofNat x)), .val (.int (Int32.ofNat y)), .val (.int (Int32.ofNat cs.length)), .val (.int (Int32.ofNat (y - x)))] [(.int 1)]))
    show Gl p.tables e below _ (T14.setTop (mkF m 31 #[.val (.ref b), .val (.int (Int32.ofNat x)), .val (.int (Int32.ofNat y)), .val (.int (Int32.ofNat cs.length)), .val (.int (Int32.ofNat (y - x)))] [(.int 1)]))
    refine Gl.st (fun _ kq => XS.ifNo X14.here hx rfl (hb hby d19_31) rfl ((if0 _ _).trans (feq ((by decide) : ¬ ((1 : Int32) = (0 : Int32)))).1) kq) ?_
    show Gl p.tables e below _ (T14.setTop (mkF m 34 #[.val (.ref b), .val (.int (Int32.ofNat x)), .val (.int (Int32.ofNat y)), .val (.int (Int32.ofNat cs.length)), .val (.int (Int32.ofNat (y - x)))] []))
    refine Gl.st (fun _ kq => XS.aloadN X14.here hx rfl (hb hby d19_34) rfl rfl kq) ?_
    show Gl p.tables e below _ (T14.setTop (mkF m 35 #[.val (.ref b), .val (.int (Int32.ofNat x)), .val (.int (Int32.ofNat y)), .val (.int (Int32.ofNat cs.length)), .val (.int (Int32.ofNat (y - x)))] [(.ref b)]))
    obtain ⟨T15, X15, e15, st15⟩ := getF X14 hx hZ hown (host := "") (Or.inl (tw hw 31 rfl)) Via.refl e14 pf2 (g := (mkF m 35 #[.val (.ref b), .val (.int (Int32.ofNat x)), .val (.int (Int32.ofNat y)), .val (.int (Int32.ofNat cs.length)), .val (.int (Int32.ofNat (y - x)))] [(.ref b)])) rfl rfl (hb hby d19_35)
    refine Gl.st st15 ?_
    show Gl p.tables e below _ (T15.setTop (mkF m 38 #[.val (.ref b), .val (.int (Int32.ofNat x)), .val (.int (Int32.ofNat y)), .val (.int (Int32.ofNat cs.length)), .val (.int (Int32.ofNat (y - x)))] [(.ref t)]))
    refine Gl.st (fun _ kq => XS.iloadN X15.here hx rfl (hb hby d19_38) rfl kq) ?_
    show Gl p.tables e below _ (T15.setTop (mkF m 39 #[.val (.ref b), .val (.int (Int32.ofNat x)), .val (.int (Int32.ofNat y)), .val (.int (Int32.ofNat cs.length)), .val (.int (Int32.ofNat (y - x)))] [(.int (Int32.ofNat x)), (.ref t)]))
    refine Gl.st (fun _ kq => XS.iload X15.here hx rfl (hb hby d19_39) rfl kq) ?_
    show Gl p.tables e below _ (T15.setTop (mkF m 41 #[.val (.ref b), .val (.int (Int32.ofNat x)), .val (.int (Int32.ofNat y)), .val (.int (Int32.ofNat cs.length)), .val (.int (Int32.ofNat (y - x)))] [(.int (Int32.ofNat (y - x))), (.int (Int32.ofNat x)), (.ref t)]))
    obtain ⟨_, _, ⟨T20, L20, k20, n20⟩, -, X20, S20, g20, ⟨Lc20, hQ20, l20, y20, z20, R20⟩, st20⟩ := callSS X15 hx (y := (⟨"java/lang/StringLatin1", "newString", "([BII)Ljava/lang/String;"⟩ : MethodName)) hown (mvT hZ (tw hw 100 rfl)) (mvT hZ (tw hw 101 rfl)) (mvT hZ (tw hw 72 rfl)) (mvT hZ (tw hw 102 rfl)) (by decide) (backOfSH (W := 0) (rm_nst l Z a0 hw [] (t) (k) (cs) (x) ((y - x)) h0 n0 Z0 pf3 hl (by omega) (fun q => hc3 ((n32_eq0 (by omega)).mpr q.1))) hZ (tw hw 102 rfl) (tw hw 72 rfl) (by decide) (by decide) (elW hw) C0.1) (g := (mkF m 41 #[.val (.ref b), .val (.int (Int32.ofNat x)), .val (.int (Int32.ofNat y)), .val (.int (Int32.ofNat cs.length)), .val (.int (Int32.ofNat (y - x)))] [(.int (Int32.ofNat (y - x))), (.int (Int32.ofNat x)), (.ref t)])) rfl (by rw [hml]; rfl) (argsL := [(.ref t), (.int (Int32.ofNat x)), (.int (Int32.ofNat (y - x)))]) (rest := []) (lenOf pd___BII_Ljava_lang_String_ rfl) rfl (by show 2 * 0 + _ ≤ _; exact Nat.le_of_eq rfl) (hb hby d19_41) (fun _ _ => ⟨rfl, e15, (by decide : 0 + 2 ≤ _), (by decide : 0 + 12 ≤ _)⟩)
    dsimp only [Pt.U, Pt.locs, Pt.cells, Pt.slots] at X20 l20 y20 z20 st20 hQ20 R20
    subst l20 y20 z20
    obtain ⟨X20, S20, hZ20, ho20⟩ := rebS hS0 (Nat.le_trans (Nat.le_of_eq (congrArg Array.size e0)) (Nat.le_of_eq (congrArg Array.size e15).symm)) X20 S20 g20 hZ hown
    obtain ⟨v16, v17, v18, v19, rfl, N20, K20, q20_0, q20_1, q20_2, q20_3, y20_0⟩ := hQ20
    have C21 : CHr Z consts_1 s.vm h0 T20.vm T20.heap := C0.trans R20
    have M20 := Fr.app M14 N20
    refine Gl.to st20 ?_
    show Gl p.tables e below _ (T20.setTop (mkF m 44 #[.val (.ref b), .val (.int (Int32.ofNat x)), .val (.int (Int32.ofNat y)), .val (.int (Int32.ofNat cs.length)), .val (.int (Int32.ofNat (y - x)))] [(.ref v16)]))
    show Gl p.tables e below _ (T20.setTop (mkF m 44 #[.val (.ref b), .val (.int (Int32.ofNat x)), .val (.int (Int32.ofNat y)), .val (.int (Int32.ofNat cs.length)), .val (.int (Int32.ofNat (y - x)))] [(.ref v16)]))
    refine Gl.st (fun _ kq => XS.goto X20.here hx rfl (pc0 := 44) (pc' := 57) rfl (hb hby d19_44) (by decide) (by decide) kq) ?_
    show Gl p.tables e below _ (T20.setTop (mkF m 57 #[.val (.ref b), .val (.int (Int32.ofNat x)), .val (.int (Int32.ofNat y)), .val (.int (Int32.ofNat cs.length)), .val (.int (Int32.ofNat (y - x)))] [(.ref v16)]))
    have K22 : Keep h0 T20.heap [] := ((Keep.refl h0 []).trans K20 all0)
    exact Gl.retAH X20 hx S20 (Nat.le_refl _) (by rw [hh]; exact C21.trans (CHv.at X20 hZ20 (elW hw) C21.1)) Bd.returns rfl rfl (hb hby d19_57) hlk (by decide) (by decide) ⟨v16, v17, v18, v19, rfl, M20, K22, q20_0, q20_1, q20_2, q20_3, y20_0⟩
theorem d7_0 : decode prog_24_method_1_code 0 = .ok (.aload_n 0, 1) := by decide +kernel
theorem d7_1 : decode prog_24_method_1_code 1 = .ok (.invokespecial 1, 3) := by decide +kernel
theorem d7_4 : decode prog_24_method_1_code 4 = .ok (.aload_n 0, 1) := by decide +kernel
theorem d7_5 : decode prog_24_method_1_code 5 = .ok (.aload_n 1, 1) := by decide +kernel
theorem d7_6 : decode prog_24_method_1_code 6 = .ok (.putfield 7, 3) := by decide +kernel
theorem d7_9 : decode prog_24_method_1_code 9 = .ok (.return_, 1) := by decide +kernel
theorem ef_ini (m : MethodId) (a : Addr) (b : Addr) : entryFrame m #[(.ref a), (.ref b)] 2 = mkF m 0 #[.val (.ref a), .val (.ref b)] [] := by first | (simp [entryFrame, mkF, argsToLocals, Value.category]; done) | rfl
def Q_ini (Z : State) (a : Addr) (b : Addr) (o1 : Value) (w : Int32) (h0 : Heap) (n0 : Nat) (v : Option Value) (h : Heap) (L : List Loc) : Prop := (v = none ∧ Fr n0 L ∧ Keep h0 h [a] ∧ Exa Z h a "com/example/lean_connector/leanconnector/server/FieldReader" ∧ Fld Z h a "com/example/lean_connector/leanconnector/server/FieldReader" "value" "Ljava/lang/String;" (.ref b) ∧ Fld Z h a "com/example/lean_connector/leanconnector/server/FieldReader" "at" "I" (.int w))
set_option maxRecDepth 65536 in
set_option maxHeartbeats 40000000 in
theorem rm_ini (l : Launch) (Z : State) (a0 : Array Value) (hw : ∀ d ∈ tables_1, d.before a0 Z = true) (ws : List Jvm.Cond) (a : Addr) (b : Addr) (o1 : Value) (w : Int32) (h0 : Heap) (n0 : Nat) (Z0 : n0 ≤ h0.size) (pf0 : Exa Z h0 a "com/example/lean_connector/leanconnector/server/FieldReader") (pf1 : Fld Z h0 a "com/example/lean_connector/leanconnector/server/FieldReader" "value" "Ljava/lang/String;" o1) (pf2 : Fld Z h0 a "com/example/lean_connector/leanconnector/server/FieldReader" "at" "I" (.int w)) (ga : n0 ≤ a) :
    MetFree l (⟨"com/example/lean_connector/leanconnector/server/FieldReader", "<init>", "(Ljava/lang/String;)V"⟩ : MethodName) (head1 (Jvm.Cond.code (⟨"com/example/lean_connector/leanconnector/server/FieldReader", "<init>", "(Ljava/lang/String;)V"⟩ : MethodName) prog_24_method_1_code 2 none :: ws) ({ frames := 1, cells := 0, slots := 0, locals := 12 } : Room)) (fun aa U => aa = #[(.ref a), (.ref b)] ∧ Z.Warmed39 U.vm ∧ U.heap = h0) (fun _ _ _ _ _ => True) (fun _ U o U' => ∃ v L, o = .returned v ∧ Q_ini Z a b o1 w h0 n0 v U'.heap L ∧ FrameEnd U o U' L ({ frames := 1, cells := 0, slots := 0, locals := 12 } : Room).cells ({ frames := 1, cells := 0, slots := 0, locals := 12 } : Room).slots) := by
  refine MetFree.of_bodySF (plainFor_of_name pn_com_example_lean_connector_leanconnector_server_FieldReader) hisR ?_
  intro p e s m args below meth c s₁ Bd hml0 hP hK
  obtain ⟨rfl, hZ, hh⟩ := hP
  have hx := Bd.exec
  have hby := Bd.bytes
  have hlk : meth.locks = false := BodyLoose.notSynchronized Bd
  have hml : c.maxLocals = 2 := hml0
  have hown : s.vm.findClass "com/example/lean_connector/leanconnector/server/FieldReader" = some m.cls := findClass_of_methodNamed Bd.named
  have hnm := (name_of_methodNamed Bd.named Bd.method).1
  have X0 : Stand p l e ({ frames := 1, cells := 0, slots := 0, locals := 12 } : Room) s m #[(.ref a), (.ref b)] below meth c s₁ [] 0 0 := Stand.of_body Bd
  have e0 : s₁.heap = h0 := by rw [← hh, Bd.state]; rfl
  have N0 := Fr.nil n0
  show Gl p.tables e below (EndN s (Q_ini Z a b o1 w h0 n0) ({ frames := 1, cells := 0, slots := 0, locals := 12 } : Room).cells ({ frames := 1, cells := 0, slots := 0, locals := 12 } : Room).slots) _
  refine Gl.cast (ef_ini m a b) ?_
  show Gl p.tables e below _ (s₁.setTop (mkF m 0 #[.val (.ref a), .val (.ref b)] []))
  refine Gl.st (fun _ kq => XS.aloadN X0.here hx rfl (hb hby d7_0) rfl rfl kq) ?_
  show Gl p.tables e below _ (s₁.setTop (mkF m 1 #[.val (.ref a), .val (.ref b)] [(.ref a)]))
  obtain ⟨T1, X1, e1, st1⟩ := initO X0 hx hZ hown (tw hw 36 rfl) (tw hw 15 rfl) (tw hw 16 rfl) e0 (g := (mkF m 1 #[.val (.ref a), .val (.ref b)] [(.ref a)])) rfl (by rw [hml]; rfl) rfl (hb hby d7_1) (by decide) (W := 0) (by show 2 * 0 + _ ≤ _; exact Nat.le_of_eq rfl) (by decide)
  refine Gl.st st1 ?_
  show Gl p.tables e below _ (T1.setTop (mkF m 4 #[.val (.ref a), .val (.ref b)] []))
  refine Gl.st (fun _ kq => XS.aloadN X1.here hx rfl (hb hby d7_4) rfl rfl kq) ?_
  show Gl p.tables e below _ (T1.setTop (mkF m 5 #[.val (.ref a), .val (.ref b)] [(.ref a)]))
  refine Gl.st (fun _ kq => XS.aloadN X1.here hx rfl (hb hby d7_5) rfl rfl kq) ?_
  show Gl p.tables e below _ (T1.setTop (mkF m 6 #[.val (.ref a), .val (.ref b)] [(.ref b), (.ref a)]))
  obtain ⟨T2, h2, X2, e2, W2, st2⟩ := putF X1 hx hZ hown (host := "") (Or.inl (tw hw 37 rfl)) Via.refl e1 pf1 pf0 (Or.inr ⟨(tw hw 38 rfl), rfl, hnm⟩) (tw hw 2 rfl) (ty := (.object "java/lang/String")) (by decide) rfl rfl (g := (mkF m 6 #[.val (.ref a), .val (.ref b)] [(.ref b), (.ref a)])) rfl rfl (hb hby d7_6)
  refine Gl.st st2 ?_
  have F2 : Fld Z h2 a "com/example/lean_connector/leanconnector/server/FieldReader" "value" "Ljava/lang/String;" (.ref b) := Fld.same W2 pf1
  have N2 := Fr.snoc X2 N0 ga
  show Gl p.tables e below _ (T2.setTop (mkF m 9 #[.val (.ref a), .val (.ref b)] []))
  have K3 : Keep h0 h2 [a] := ((Keep.refl h0 [a]).wr W2 (Or.inl (List.mem_of_getElem? (i := 0) rfl)))
  have f4 : Exa Z h2 a "com/example/lean_connector/leanconnector/server/FieldReader" := (pf0.wr W2)
  have f5 : Fld Z h2 a "com/example/lean_connector/leanconnector/server/FieldReader" "at" "I" (.int w) := (pf2.other W2 (Or.inr (slot_ne (Or.inl (tw hw 49 rfl)) (Or.inr (tw hw 38 rfl)) (by decide) (t := .int) (t' := (.object "java/lang/String")) (by decide) (by decide))))
  exact Gl.ret0 X2 hx Bd.returns (hb hby d7_9) hlk (by decide) (by decide) (by rw [e2]; exact ⟨rfl, N2, K3, f4, F2, f5⟩)
theorem d8_0 : decode method_3_code 0 = .ok (.iload_n 2, 1) := by decide +kernel
theorem d8_1 : decode method_3_code 1 = .ok (.ifCond .gt 12, 3) := by decide +kernel
theorem d8_4 : decode method_3_code 4 = .ok (.aload_n 0, 1) := by decide +kernel
theorem d8_5 : decode method_3_code 5 = .ok (.iconst 0, 1) := by decide +kernel
theorem d8_6 : decode method_3_code 6 = .ok (.caload, 1) := by decide +kernel
theorem d8_7 : decode method_3_code 7 = .ok (.iload_n 1, 1) := by decide +kernel
theorem d8_8 : decode method_3_code 8 = .ok (.if_icmp .ne 5, 3) := by decide +kernel
theorem d8_11 : decode method_3_code 11 = .ok (.iconst 0, 1) := by decide +kernel
theorem d8_12 : decode method_3_code 12 = .ok (.ireturn, 1) := by decide +kernel
theorem d8_13 : decode method_3_code 13 = .ok (.iload_n 2, 1) := by decide +kernel
theorem d8_14 : decode method_3_code 14 = .ok (.iconst 1, 1) := by decide +kernel
theorem d8_15 : decode method_3_code 15 = .ok (.if_icmp .gt 12, 3) := by decide +kernel
theorem d8_18 : decode method_3_code 18 = .ok (.aload_n 0, 1) := by decide +kernel
theorem d8_19 : decode method_3_code 19 = .ok (.iconst 1, 1) := by decide +kernel
theorem d8_20 : decode method_3_code 20 = .ok (.caload, 1) := by decide +kernel
theorem d8_21 : decode method_3_code 21 = .ok (.iload_n 1, 1) := by decide +kernel
theorem d8_22 : decode method_3_code 22 = .ok (.if_icmp .ne 5, 3) := by decide +kernel
theorem d8_25 : decode method_3_code 25 = .ok (.iconst 1, 1) := by decide +kernel
theorem d8_26 : decode method_3_code 26 = .ok (.ireturn, 1) := by decide +kernel
theorem d8_27 : decode method_3_code 27 = .ok (.iload_n 2, 1) := by decide +kernel
theorem d8_28 : decode method_3_code 28 = .ok (.iconst 2, 1) := by decide +kernel
theorem d8_29 : decode method_3_code 29 = .ok (.if_icmp .gt 12, 3) := by decide +kernel
theorem d8_32 : decode method_3_code 32 = .ok (.aload_n 0, 1) := by decide +kernel
theorem d8_33 : decode method_3_code 33 = .ok (.iconst 2, 1) := by decide +kernel
theorem d8_34 : decode method_3_code 34 = .ok (.caload, 1) := by decide +kernel
theorem d8_35 : decode method_3_code 35 = .ok (.iload_n 1, 1) := by decide +kernel
theorem d8_36 : decode method_3_code 36 = .ok (.if_icmp .ne 5, 3) := by decide +kernel
theorem d8_39 : decode method_3_code 39 = .ok (.iconst 2, 1) := by decide +kernel
theorem d8_40 : decode method_3_code 40 = .ok (.ireturn, 1) := by decide +kernel
theorem d8_41 : decode method_3_code 41 = .ok (.iload_n 2, 1) := by decide +kernel
theorem d8_42 : decode method_3_code 42 = .ok (.iconst 3, 1) := by decide +kernel
theorem d8_43 : decode method_3_code 43 = .ok (.if_icmp .gt 12, 3) := by decide +kernel
theorem d8_46 : decode method_3_code 46 = .ok (.aload_n 0, 1) := by decide +kernel
theorem d8_47 : decode method_3_code 47 = .ok (.iconst 3, 1) := by decide +kernel
theorem d8_48 : decode method_3_code 48 = .ok (.caload, 1) := by decide +kernel
theorem d8_49 : decode method_3_code 49 = .ok (.iload_n 1, 1) := by decide +kernel
theorem d8_50 : decode method_3_code 50 = .ok (.if_icmp .ne 5, 3) := by decide +kernel
theorem d8_53 : decode method_3_code 53 = .ok (.iconst 3, 1) := by decide +kernel
theorem d8_54 : decode method_3_code 54 = .ok (.ireturn, 1) := by decide +kernel
theorem d8_55 : decode method_3_code 55 = .ok (.iload_n 2, 1) := by decide +kernel
theorem d8_56 : decode method_3_code 56 = .ok (.iconst 4, 1) := by decide +kernel
theorem d8_57 : decode method_3_code 57 = .ok (.if_icmp .gt 12, 3) := by decide +kernel
theorem d8_60 : decode method_3_code 60 = .ok (.aload_n 0, 1) := by decide +kernel
theorem d8_61 : decode method_3_code 61 = .ok (.iconst 4, 1) := by decide +kernel
theorem d8_62 : decode method_3_code 62 = .ok (.caload, 1) := by decide +kernel
theorem d8_63 : decode method_3_code 63 = .ok (.iload_n 1, 1) := by decide +kernel
theorem d8_64 : decode method_3_code 64 = .ok (.if_icmp .ne 5, 3) := by decide +kernel
theorem d8_67 : decode method_3_code 67 = .ok (.iconst 4, 1) := by decide +kernel
theorem d8_68 : decode method_3_code 68 = .ok (.ireturn, 1) := by decide +kernel
theorem d8_69 : decode method_3_code 69 = .ok (.iload_n 2, 1) := by decide +kernel
theorem d8_70 : decode method_3_code 70 = .ok (.iconst 5, 1) := by decide +kernel
theorem d8_71 : decode method_3_code 71 = .ok (.if_icmp .gt 12, 3) := by decide +kernel
theorem d8_74 : decode method_3_code 74 = .ok (.aload_n 0, 1) := by decide +kernel
theorem d8_75 : decode method_3_code 75 = .ok (.iconst 5, 1) := by decide +kernel
theorem d8_76 : decode method_3_code 76 = .ok (.caload, 1) := by decide +kernel
theorem d8_77 : decode method_3_code 77 = .ok (.iload_n 1, 1) := by decide +kernel
theorem d8_78 : decode method_3_code 78 = .ok (.if_icmp .ne 5, 3) := by decide +kernel
theorem d8_81 : decode method_3_code 81 = .ok (.iconst 5, 1) := by decide +kernel
theorem d8_82 : decode method_3_code 82 = .ok (.ireturn, 1) := by decide +kernel
theorem d8_83 : decode method_3_code 83 = .ok (.iload_n 2, 1) := by decide +kernel
theorem d8_84 : decode method_3_code 84 = .ok (.bipush 6, 2) := by decide +kernel
theorem d8_86 : decode method_3_code 86 = .ok (.if_icmp .gt 14, 3) := by decide +kernel
theorem d8_89 : decode method_3_code 89 = .ok (.aload_n 0, 1) := by decide +kernel
theorem d8_90 : decode method_3_code 90 = .ok (.bipush 6, 2) := by decide +kernel
theorem d8_92 : decode method_3_code 92 = .ok (.caload, 1) := by decide +kernel
theorem d8_93 : decode method_3_code 93 = .ok (.iload_n 1, 1) := by decide +kernel
theorem d8_94 : decode method_3_code 94 = .ok (.if_icmp .ne 6, 3) := by decide +kernel
theorem d8_97 : decode method_3_code 97 = .ok (.bipush 6, 2) := by decide +kernel
theorem d8_99 : decode method_3_code 99 = .ok (.ireturn, 1) := by decide +kernel
theorem d8_100 : decode method_3_code 100 = .ok (.iload_n 2, 1) := by decide +kernel
theorem d8_101 : decode method_3_code 101 = .ok (.bipush 7, 2) := by decide +kernel
theorem d8_103 : decode method_3_code 103 = .ok (.if_icmp .gt 14, 3) := by decide +kernel
theorem d8_106 : decode method_3_code 106 = .ok (.aload_n 0, 1) := by decide +kernel
theorem d8_107 : decode method_3_code 107 = .ok (.bipush 7, 2) := by decide +kernel
theorem d8_109 : decode method_3_code 109 = .ok (.caload, 1) := by decide +kernel
theorem d8_110 : decode method_3_code 110 = .ok (.iload_n 1, 1) := by decide +kernel
theorem d8_111 : decode method_3_code 111 = .ok (.if_icmp .ne 6, 3) := by decide +kernel
theorem d8_114 : decode method_3_code 114 = .ok (.bipush 7, 2) := by decide +kernel
theorem d8_116 : decode method_3_code 116 = .ok (.ireturn, 1) := by decide +kernel
theorem d8_117 : decode method_3_code 117 = .ok (.iconst (-1), 1) := by decide +kernel
theorem d8_118 : decode method_3_code 118 = .ok (.ireturn, 1) := by decide +kernel
theorem ef_fi (m : MethodId) (tc : Addr) (q : Int32) (i : Nat) : entryFrame m #[(.ref tc), (.int q), (.int (Int32.ofNat i))] 3 = mkF m 0 #[.val (.ref tc), .val (.int q), .val (.int (Int32.ofNat i))] [] := by first | (simp [entryFrame, mkF, argsToLocals, Value.category]; done) | rfl
def Q_fi (Z : State) (tc : Addr) (kc : ClassId) (v0 : Int32) (v1 : Int32) (v2 : Int32) (v3 : Int32) (v4 : Int32) (v5 : Int32) (v6 : Int32) (v7 : Int32) (q : Int32) (i : Nat) (h0 : Heap) (n0 : Nat) (v : Option Value) (h : Heap) (L : List Loc) : Prop := (∃ r : Nat, v = some (.int (Int32.ofNat r)) ∧ Fr n0 L ∧ h = h0 ∧ (First q ([v0, v1, v2, v3, v4, v5, v6, v7] : List Int32) i r)) ∨ (v = some (.int (-1)) ∧ Fr n0 L ∧ h = h0 ∧ (Nowhere q ([v0, v1, v2, v3, v4, v5, v6, v7] : List Int32) i))
set_option maxRecDepth 65536 in
set_option maxHeartbeats 40000000 in
theorem rm_fi (l : Launch) (Z : State) (a0 : Array Value) (hw : ∀ d ∈ tables_1, d.before a0 Z = true) (ws : List Jvm.Cond) (tc : Addr) (kc : ClassId) (v0 : Int32) (v1 : Int32) (v2 : Int32) (v3 : Int32) (v4 : Int32) (v5 : Int32) (v6 : Int32) (v7 : Int32) (q : Int32) (i : Nat) (h0 : Heap) (n0 : Nat) (Z0 : n0 ≤ h0.size) (pf0 : Arv Z h0 tc kc .char (8 : Int32) [(.int v0), (.int v1), (.int v2), (.int v3), (.int v4), (.int v5), (.int v6), (.int v7)] (.int 0)) (hi : i ≤ 8) :
    MetFree l (⟨"com/example/lean_connector/leanconnector/server/FieldReaderUpToPinLaw", "first", "([CCI)I"⟩ : MethodName) (head1 (Jvm.Cond.code (⟨"com/example/lean_connector/leanconnector/server/FieldReaderUpToPinLaw", "first", "([CCI)I"⟩ : MethodName) method_3_code 3 (some .int) :: ws) ({ frames := 0, cells := 0, slots := 0, locals := 0 } : Room)) (fun aa U => aa = #[(.ref tc), (.int q), (.int (Int32.ofNat i))] ∧ Z.Warmed39 U.vm ∧ U.heap = h0) (fun _ _ _ _ _ => True) (fun _ U o U' => ∃ v L, o = .returned v ∧ Q_fi Z tc kc v0 v1 v2 v3 v4 v5 v6 v7 q i h0 n0 v U'.heap L ∧ FrameEnd U o U' L ({ frames := 0, cells := 0, slots := 0, locals := 0 } : Room).cells ({ frames := 0, cells := 0, slots := 0, locals := 0 } : Room).slots) := by
  refine MetFree.of_bodySF (plainFor_of_name pn_com_example_lean_connector_leanconnector_server_FieldReaderUpToPinLaw) hisR ?_
  intro p e s m args below meth c s₁ Bd hml0 hP hK
  obtain ⟨rfl, hZ, hh⟩ := hP
  have hx := Bd.exec
  have hby := Bd.bytes
  have hlk : meth.locks = false := BodyLoose.notSynchronized Bd
  have hml : c.maxLocals = 3 := hml0
  have hown : s.vm.findClass "com/example/lean_connector/leanconnector/server/FieldReaderUpToPinLaw" = some m.cls := findClass_of_methodNamed Bd.named
  have hnm := (name_of_methodNamed Bd.named Bd.method).1
  have X0 : Stand p l e ({ frames := 0, cells := 0, slots := 0, locals := 0 } : Room) s m #[(.ref tc), (.int q), (.int (Int32.ofNat i))] below meth c s₁ [] 0 0 := Stand.of_body Bd
  have e0 : s₁.heap = h0 := by rw [← hh, Bd.state]; rfl
  have N0 := Fr.nil n0
  show Gl p.tables e below (EndN s (Q_fi Z tc kc v0 v1 v2 v3 v4 v5 v6 v7 q i h0 n0) ({ frames := 0, cells := 0, slots := 0, locals := 0 } : Room).cells ({ frames := 0, cells := 0, slots := 0, locals := 0 } : Room).slots) _
  refine Gl.cast (ef_fi m tc q i) ?_
  show Gl p.tables e below _ (s₁.setTop (mkF m 0 #[.val (.ref tc), .val (.int q), .val (.int (Int32.ofNat i))] []))
  have Jc8 : ∀ (Tc8 : State) (Lc8 : List Loc) (Xc8 : Stand p l e ({ frames := 0, cells := 0, slots := 0, locals := 0 } : Room) s m #[(.ref tc), (.int q), (.int (Int32.ofNat i))] below meth c Tc8 Lc8 0 0) (ec8 : Tc8.heap = h0) (Nc8 : Fr n0 Lc8)  (yc8_0 : Upto q ([v0, v1, v2, v3, v4, v5, v6, v7] : List Int32) i 8), Gl p.tables e below (EndN s (Q_fi Z tc kc v0 v1 v2 v3 v4 v5 v6 v7 q i h0 n0) ({ frames := 0, cells := 0, slots := 0, locals := 0 } : Room).cells ({ frames := 0, cells := 0, slots := 0, locals := 0 } : Room).slots) (Tc8.setTop (mkF m 117 #[.val (.ref tc), .val (.int q), .val (.int (Int32.ofNat i))] [])) := by
    intro Tc8 Lc8 Xc8 ec8 Nc8 yc8_0
    show Gl p.tables e below _ (Tc8.setTop (mkF m 117 #[.val (.ref tc), .val (.int q), .val (.int (Int32.ofNat i))] []))
    refine Gl.st (fun _ kq => XS.iconst Xc8.here hx rfl (hb hby d8_117) kq) ?_
    show Gl p.tables e below _ (Tc8.setTop (mkF m 118 #[.val (.ref tc), .val (.int q), .val (.int (Int32.ofNat i))] [(.int (-1))]))
    exact Gl.retI Xc8 hx Bd.returns (hb hby d8_118) hlk (by decide) (by decide) (by rw [ec8]; exact (Or.inr (⟨rfl, Nc8, rfl, (fun k h1 h2 => yc8_0 k h1 (by simpa using h2))⟩)))
  have Jc7 : ∀ (Tc7 : State) (Lc7 : List Loc) (Xc7 : Stand p l e ({ frames := 0, cells := 0, slots := 0, locals := 0 } : Room) s m #[(.ref tc), (.int q), (.int (Int32.ofNat i))] below meth c Tc7 Lc7 0 0) (ec7 : Tc7.heap = h0) (Nc7 : Fr n0 Lc7)  (yc7_0 : Upto q ([v0, v1, v2, v3, v4, v5, v6, v7] : List Int32) i 7), Gl p.tables e below (EndN s (Q_fi Z tc kc v0 v1 v2 v3 v4 v5 v6 v7 q i h0 n0) ({ frames := 0, cells := 0, slots := 0, locals := 0 } : Room).cells ({ frames := 0, cells := 0, slots := 0, locals := 0 } : Room).slots) (Tc7.setTop (mkF m 100 #[.val (.ref tc), .val (.int q), .val (.int (Int32.ofNat i))] [])) := by
    intro Tc7 Lc7 Xc7 ec7 Nc7 yc7_0
    show Gl p.tables e below _ (Tc7.setTop (mkF m 100 #[.val (.ref tc), .val (.int q), .val (.int (Int32.ofNat i))] []))
    refine Gl.st (fun _ kq => XS.iloadN Xc7.here hx rfl (hb hby d8_100) rfl kq) ?_
    show Gl p.tables e below _ (Tc7.setTop (mkF m 101 #[.val (.ref tc), .val (.int q), .val (.int (Int32.ofNat i))] [(.int (Int32.ofNat i))]))
    refine Gl.st (fun _ kq => XS.bipush Xc7.here hx rfl (hb hby d8_101) kq) ?_
    show Gl p.tables e below _ (Tc7.setTop (mkF m 103 #[.val (.ref tc), .val (.int q), .val (.int (Int32.ofNat i))] [(.int 7), (.int (Int32.ofNat i))]))
    by_cases hc1 : (7 : Int32) < (Int32.ofNat i)
    · refine Gl.st (fun _ kq => XS.icmpYes Xc7.here hx rfl (pc0 := 103) (pc' := 117) rfl (hb hby d8_103) rfl (tlt (hc1 : (7 : Int32) < (Int32.ofNat i))).2.2.1 (by decide) (by decide) kq) ?_
      show Gl p.tables e below _ (Tc7.setTop (mkF m 117 #[.val (.ref tc), .val (.int q), .val (.int (Int32.ofNat i))] []))
      exact Jc8 _ _ (Xc7.more (by decide) (by decide)) ec7 Nc7   (upto_lt yc7_0 ((n32_lt (i := 7) (j := i) (by omega) (by omega)).mp hc1))
    · refine Gl.st (fun _ kq => XS.icmpNo Xc7.here hx rfl (hb hby d8_103) rfl (flt (hc1 : ¬ ((7 : Int32) < (Int32.ofNat i)))).2.2.1 kq) ?_
      show Gl p.tables e below _ (Tc7.setTop (mkF m 106 #[.val (.ref tc), .val (.int q), .val (.int (Int32.ofNat i))] []))
      refine Gl.st (fun _ kq => XS.aloadN Xc7.here hx rfl (hb hby d8_106) rfl rfl kq) ?_
      show Gl p.tables e below _ (Tc7.setTop (mkF m 107 #[.val (.ref tc), .val (.int q), .val (.int (Int32.ofNat i))] [(.ref tc)]))
      refine Gl.st (fun _ kq => XS.bipush Xc7.here hx rfl (hb hby d8_107) kq) ?_
      show Gl p.tables e below _ (Tc7.setTop (mkF m 109 #[.val (.ref tc), .val (.int q), .val (.int (Int32.ofNat i))] [(.int 7), (.ref tc)]))
      obtain ⟨c2, a2, q2, S2, M2, H2, G2⟩ := id pf0
      refine Gl.st (fun _ kq => Xc7.caload hx (j := (7 : Int32)) (v := (.int v7)) (by rw [ec7]; exact a2.1) (State.isArrayOf_alike hZ.alike a2.2.1) a2.2.2 (inb_of S2 ⟨by decide, by decide⟩) (Has.at H2 (inb_of S2 ⟨by decide, by decide⟩) rfl) (g := (mkF m 109 #[.val (.ref tc), .val (.int q), .val (.int (Int32.ofNat i))] [(.int 7), (.ref tc)])) rfl rfl (hb hby d8_109) _ kq) ?_
      show Gl p.tables e below _ (Tc7.setTop (mkF m 110 #[.val (.ref tc), .val (.int q), .val (.int (Int32.ofNat i))] [(.int v7)]))
      refine Gl.st (fun _ kq => XS.iloadN Xc7.here hx rfl (hb hby d8_110) rfl kq) ?_
      show Gl p.tables e below _ (Tc7.setTop (mkF m 111 #[.val (.ref tc), .val (.int q), .val (.int (Int32.ofNat i))] [(.int q), (.int v7)]))
      by_cases hc3 : v7 = q
      · refine Gl.st (fun _ kq => XS.icmpNo Xc7.here hx rfl (hb hby d8_111) rfl (teq (hc3 : v7 = q)).2 kq) ?_
        show Gl p.tables e below _ (Tc7.setTop (mkF m 114 #[.val (.ref tc), .val (.int q), .val (.int (Int32.ofNat i))] []))
        refine Gl.st (fun _ kq => XS.bipush Xc7.here hx rfl (hb hby d8_114) kq) ?_
        show Gl p.tables e below _ (Tc7.setTop (mkF m 116 #[.val (.ref tc), .val (.int q), .val (.int (Int32.ofNat i))] [(.int 7)]))
        exact Gl.retI Xc7 hx Bd.returns (hb hby d8_116) hlk (by decide) (by decide) (by rw [ec7]; exact Or.inl ⟨7, rfl, Nc7, rfl, ⟨by have q1 := hc1; by_cases z : 7 < i; exact absurd (n32_plt (i := 7) (j := i) z (by omega)) q1; omega, by simp, hc3, yc7_0⟩⟩)
      · refine Gl.st (fun _ kq => XS.icmpYes Xc7.here hx rfl (pc0 := 111) (pc' := 117) rfl (hb hby d8_111) rfl (feq (hc3 : ¬ (v7 = q))).2 (by decide) (by decide) kq) ?_
        show Gl p.tables e below _ (Tc7.setTop (mkF m 117 #[.val (.ref tc), .val (.int q), .val (.int (Int32.ofNat i))] []))
        exact Jc8 _ _ (Xc7.more (by decide) (by decide)) ec7 Nc7   (upto_ne yc7_0 hc3)
  have Jc6 : ∀ (Tc6 : State) (Lc6 : List Loc) (Xc6 : Stand p l e ({ frames := 0, cells := 0, slots := 0, locals := 0 } : Room) s m #[(.ref tc), (.int q), (.int (Int32.ofNat i))] below meth c Tc6 Lc6 0 0) (ec6 : Tc6.heap = h0) (Nc6 : Fr n0 Lc6)  (yc6_0 : Upto q ([v0, v1, v2, v3, v4, v5, v6, v7] : List Int32) i 6), Gl p.tables e below (EndN s (Q_fi Z tc kc v0 v1 v2 v3 v4 v5 v6 v7 q i h0 n0) ({ frames := 0, cells := 0, slots := 0, locals := 0 } : Room).cells ({ frames := 0, cells := 0, slots := 0, locals := 0 } : Room).slots) (Tc6.setTop (mkF m 83 #[.val (.ref tc), .val (.int q), .val (.int (Int32.ofNat i))] [])) := by
    intro Tc6 Lc6 Xc6 ec6 Nc6 yc6_0
    show Gl p.tables e below _ (Tc6.setTop (mkF m 83 #[.val (.ref tc), .val (.int q), .val (.int (Int32.ofNat i))] []))
    refine Gl.st (fun _ kq => XS.iloadN Xc6.here hx rfl (hb hby d8_83) rfl kq) ?_
    show Gl p.tables e below _ (Tc6.setTop (mkF m 84 #[.val (.ref tc), .val (.int q), .val (.int (Int32.ofNat i))] [(.int (Int32.ofNat i))]))
    refine Gl.st (fun _ kq => XS.bipush Xc6.here hx rfl (hb hby d8_84) kq) ?_
    show Gl p.tables e below _ (Tc6.setTop (mkF m 86 #[.val (.ref tc), .val (.int q), .val (.int (Int32.ofNat i))] [(.int 6), (.int (Int32.ofNat i))]))
    by_cases hc4 : (6 : Int32) < (Int32.ofNat i)
    · refine Gl.st (fun _ kq => XS.icmpYes Xc6.here hx rfl (pc0 := 86) (pc' := 100) rfl (hb hby d8_86) rfl (tlt (hc4 : (6 : Int32) < (Int32.ofNat i))).2.2.1 (by decide) (by decide) kq) ?_
      show Gl p.tables e below _ (Tc6.setTop (mkF m 100 #[.val (.ref tc), .val (.int q), .val (.int (Int32.ofNat i))] []))
      exact Jc7 _ _ (Xc6.more (by decide) (by decide)) ec6 Nc6   (upto_lt yc6_0 ((n32_lt (i := 6) (j := i) (by omega) (by omega)).mp hc4))
    · refine Gl.st (fun _ kq => XS.icmpNo Xc6.here hx rfl (hb hby d8_86) rfl (flt (hc4 : ¬ ((6 : Int32) < (Int32.ofNat i)))).2.2.1 kq) ?_
      show Gl p.tables e below _ (Tc6.setTop (mkF m 89 #[.val (.ref tc), .val (.int q), .val (.int (Int32.ofNat i))] []))
      refine Gl.st (fun _ kq => XS.aloadN Xc6.here hx rfl (hb hby d8_89) rfl rfl kq) ?_
      show Gl p.tables e below _ (Tc6.setTop (mkF m 90 #[.val (.ref tc), .val (.int q), .val (.int (Int32.ofNat i))] [(.ref tc)]))
      refine Gl.st (fun _ kq => XS.bipush Xc6.here hx rfl (hb hby d8_90) kq) ?_
      show Gl p.tables e below _ (Tc6.setTop (mkF m 92 #[.val (.ref tc), .val (.int q), .val (.int (Int32.ofNat i))] [(.int 6), (.ref tc)]))
      obtain ⟨c5, a5, q5, S5, M5, H5, G5⟩ := id pf0
      refine Gl.st (fun _ kq => Xc6.caload hx (j := (6 : Int32)) (v := (.int v6)) (by rw [ec6]; exact a5.1) (State.isArrayOf_alike hZ.alike a5.2.1) a5.2.2 (inb_of S5 ⟨by decide, by decide⟩) (Has.at H5 (inb_of S5 ⟨by decide, by decide⟩) rfl) (g := (mkF m 92 #[.val (.ref tc), .val (.int q), .val (.int (Int32.ofNat i))] [(.int 6), (.ref tc)])) rfl rfl (hb hby d8_92) _ kq) ?_
      show Gl p.tables e below _ (Tc6.setTop (mkF m 93 #[.val (.ref tc), .val (.int q), .val (.int (Int32.ofNat i))] [(.int v6)]))
      refine Gl.st (fun _ kq => XS.iloadN Xc6.here hx rfl (hb hby d8_93) rfl kq) ?_
      show Gl p.tables e below _ (Tc6.setTop (mkF m 94 #[.val (.ref tc), .val (.int q), .val (.int (Int32.ofNat i))] [(.int q), (.int v6)]))
      by_cases hc6 : v6 = q
      · refine Gl.st (fun _ kq => XS.icmpNo Xc6.here hx rfl (hb hby d8_94) rfl (teq (hc6 : v6 = q)).2 kq) ?_
        show Gl p.tables e below _ (Tc6.setTop (mkF m 97 #[.val (.ref tc), .val (.int q), .val (.int (Int32.ofNat i))] []))
        refine Gl.st (fun _ kq => XS.bipush Xc6.here hx rfl (hb hby d8_97) kq) ?_
        show Gl p.tables e below _ (Tc6.setTop (mkF m 99 #[.val (.ref tc), .val (.int q), .val (.int (Int32.ofNat i))] [(.int 6)]))
        exact Gl.retI Xc6 hx Bd.returns (hb hby d8_99) hlk (by decide) (by decide) (by rw [ec6]; exact Or.inl ⟨6, rfl, Nc6, rfl, ⟨by have q1 := hc4; by_cases z : 6 < i; exact absurd (n32_plt (i := 6) (j := i) z (by omega)) q1; omega, by simp, hc6, yc6_0⟩⟩)
      · refine Gl.st (fun _ kq => XS.icmpYes Xc6.here hx rfl (pc0 := 94) (pc' := 100) rfl (hb hby d8_94) rfl (feq (hc6 : ¬ (v6 = q))).2 (by decide) (by decide) kq) ?_
        show Gl p.tables e below _ (Tc6.setTop (mkF m 100 #[.val (.ref tc), .val (.int q), .val (.int (Int32.ofNat i))] []))
        exact Jc7 _ _ (Xc6.more (by decide) (by decide)) ec6 Nc6   (upto_ne yc6_0 hc6)
  have Jc5 : ∀ (Tc5 : State) (Lc5 : List Loc) (Xc5 : Stand p l e ({ frames := 0, cells := 0, slots := 0, locals := 0 } : Room) s m #[(.ref tc), (.int q), (.int (Int32.ofNat i))] below meth c Tc5 Lc5 0 0) (ec5 : Tc5.heap = h0) (Nc5 : Fr n0 Lc5)  (yc5_0 : Upto q ([v0, v1, v2, v3, v4, v5, v6, v7] : List Int32) i 5), Gl p.tables e below (EndN s (Q_fi Z tc kc v0 v1 v2 v3 v4 v5 v6 v7 q i h0 n0) ({ frames := 0, cells := 0, slots := 0, locals := 0 } : Room).cells ({ frames := 0, cells := 0, slots := 0, locals := 0 } : Room).slots) (Tc5.setTop (mkF m 69 #[.val (.ref tc), .val (.int q), .val (.int (Int32.ofNat i))] [])) := by
    intro Tc5 Lc5 Xc5 ec5 Nc5 yc5_0
    show Gl p.tables e below _ (Tc5.setTop (mkF m 69 #[.val (.ref tc), .val (.int q), .val (.int (Int32.ofNat i))] []))
    refine Gl.st (fun _ kq => XS.iloadN Xc5.here hx rfl (hb hby d8_69) rfl kq) ?_
    show Gl p.tables e below _ (Tc5.setTop (mkF m 70 #[.val (.ref tc), .val (.int q), .val (.int (Int32.ofNat i))] [(.int (Int32.ofNat i))]))
    refine Gl.st (fun _ kq => XS.iconst Xc5.here hx rfl (hb hby d8_70) kq) ?_
    show Gl p.tables e below _ (Tc5.setTop (mkF m 71 #[.val (.ref tc), .val (.int q), .val (.int (Int32.ofNat i))] [(.int 5), (.int (Int32.ofNat i))]))
    by_cases hc7 : (5 : Int32) < (Int32.ofNat i)
    · refine Gl.st (fun _ kq => XS.icmpYes Xc5.here hx rfl (pc0 := 71) (pc' := 83) rfl (hb hby d8_71) rfl (tlt (hc7 : (5 : Int32) < (Int32.ofNat i))).2.2.1 (by decide) (by decide) kq) ?_
      show Gl p.tables e below _ (Tc5.setTop (mkF m 83 #[.val (.ref tc), .val (.int q), .val (.int (Int32.ofNat i))] []))
      exact Jc6 _ _ (Xc5.more (by decide) (by decide)) ec5 Nc5   (upto_lt yc5_0 ((n32_lt (i := 5) (j := i) (by omega) (by omega)).mp hc7))
    · refine Gl.st (fun _ kq => XS.icmpNo Xc5.here hx rfl (hb hby d8_71) rfl (flt (hc7 : ¬ ((5 : Int32) < (Int32.ofNat i)))).2.2.1 kq) ?_
      show Gl p.tables e below _ (Tc5.setTop (mkF m 74 #[.val (.ref tc), .val (.int q), .val (.int (Int32.ofNat i))] []))
      refine Gl.st (fun _ kq => XS.aloadN Xc5.here hx rfl (hb hby d8_74) rfl rfl kq) ?_
      show Gl p.tables e below _ (Tc5.setTop (mkF m 75 #[.val (.ref tc), .val (.int q), .val (.int (Int32.ofNat i))] [(.ref tc)]))
      refine Gl.st (fun _ kq => XS.iconst Xc5.here hx rfl (hb hby d8_75) kq) ?_
      show Gl p.tables e below _ (Tc5.setTop (mkF m 76 #[.val (.ref tc), .val (.int q), .val (.int (Int32.ofNat i))] [(.int 5), (.ref tc)]))
      obtain ⟨c8, a8, q8, S8, M8, H8, G8⟩ := id pf0
      refine Gl.st (fun _ kq => Xc5.caload hx (j := (5 : Int32)) (v := (.int v5)) (by rw [ec5]; exact a8.1) (State.isArrayOf_alike hZ.alike a8.2.1) a8.2.2 (inb_of S8 ⟨by decide, by decide⟩) (Has.at H8 (inb_of S8 ⟨by decide, by decide⟩) rfl) (g := (mkF m 76 #[.val (.ref tc), .val (.int q), .val (.int (Int32.ofNat i))] [(.int 5), (.ref tc)])) rfl rfl (hb hby d8_76) _ kq) ?_
      show Gl p.tables e below _ (Tc5.setTop (mkF m 77 #[.val (.ref tc), .val (.int q), .val (.int (Int32.ofNat i))] [(.int v5)]))
      refine Gl.st (fun _ kq => XS.iloadN Xc5.here hx rfl (hb hby d8_77) rfl kq) ?_
      show Gl p.tables e below _ (Tc5.setTop (mkF m 78 #[.val (.ref tc), .val (.int q), .val (.int (Int32.ofNat i))] [(.int q), (.int v5)]))
      by_cases hc9 : v5 = q
      · refine Gl.st (fun _ kq => XS.icmpNo Xc5.here hx rfl (hb hby d8_78) rfl (teq (hc9 : v5 = q)).2 kq) ?_
        show Gl p.tables e below _ (Tc5.setTop (mkF m 81 #[.val (.ref tc), .val (.int q), .val (.int (Int32.ofNat i))] []))
        refine Gl.st (fun _ kq => XS.iconst Xc5.here hx rfl (hb hby d8_81) kq) ?_
        show Gl p.tables e below _ (Tc5.setTop (mkF m 82 #[.val (.ref tc), .val (.int q), .val (.int (Int32.ofNat i))] [(.int 5)]))
        exact Gl.retI Xc5 hx Bd.returns (hb hby d8_82) hlk (by decide) (by decide) (by rw [ec5]; exact Or.inl ⟨5, rfl, Nc5, rfl, ⟨by have q1 := hc7; by_cases z : 5 < i; exact absurd (n32_plt (i := 5) (j := i) z (by omega)) q1; omega, by simp, hc9, yc5_0⟩⟩)
      · refine Gl.st (fun _ kq => XS.icmpYes Xc5.here hx rfl (pc0 := 78) (pc' := 83) rfl (hb hby d8_78) rfl (feq (hc9 : ¬ (v5 = q))).2 (by decide) (by decide) kq) ?_
        show Gl p.tables e below _ (Tc5.setTop (mkF m 83 #[.val (.ref tc), .val (.int q), .val (.int (Int32.ofNat i))] []))
        exact Jc6 _ _ (Xc5.more (by decide) (by decide)) ec5 Nc5   (upto_ne yc5_0 hc9)
  have Jc4 : ∀ (Tc4 : State) (Lc4 : List Loc) (Xc4 : Stand p l e ({ frames := 0, cells := 0, slots := 0, locals := 0 } : Room) s m #[(.ref tc), (.int q), (.int (Int32.ofNat i))] below meth c Tc4 Lc4 0 0) (ec4 : Tc4.heap = h0) (Nc4 : Fr n0 Lc4)  (yc4_0 : Upto q ([v0, v1, v2, v3, v4, v5, v6, v7] : List Int32) i 4), Gl p.tables e below (EndN s (Q_fi Z tc kc v0 v1 v2 v3 v4 v5 v6 v7 q i h0 n0) ({ frames := 0, cells := 0, slots := 0, locals := 0 } : Room).cells ({ frames := 0, cells := 0, slots := 0, locals := 0 } : Room).slots) (Tc4.setTop (mkF m 55 #[.val (.ref tc), .val (.int q), .val (.int (Int32.ofNat i))] [])) := by
    intro Tc4 Lc4 Xc4 ec4 Nc4 yc4_0
    show Gl p.tables e below _ (Tc4.setTop (mkF m 55 #[.val (.ref tc), .val (.int q), .val (.int (Int32.ofNat i))] []))
    refine Gl.st (fun _ kq => XS.iloadN Xc4.here hx rfl (hb hby d8_55) rfl kq) ?_
    show Gl p.tables e below _ (Tc4.setTop (mkF m 56 #[.val (.ref tc), .val (.int q), .val (.int (Int32.ofNat i))] [(.int (Int32.ofNat i))]))
    refine Gl.st (fun _ kq => XS.iconst Xc4.here hx rfl (hb hby d8_56) kq) ?_
    show Gl p.tables e below _ (Tc4.setTop (mkF m 57 #[.val (.ref tc), .val (.int q), .val (.int (Int32.ofNat i))] [(.int 4), (.int (Int32.ofNat i))]))
    by_cases hc10 : (4 : Int32) < (Int32.ofNat i)
    · refine Gl.st (fun _ kq => XS.icmpYes Xc4.here hx rfl (pc0 := 57) (pc' := 69) rfl (hb hby d8_57) rfl (tlt (hc10 : (4 : Int32) < (Int32.ofNat i))).2.2.1 (by decide) (by decide) kq) ?_
      show Gl p.tables e below _ (Tc4.setTop (mkF m 69 #[.val (.ref tc), .val (.int q), .val (.int (Int32.ofNat i))] []))
      exact Jc5 _ _ (Xc4.more (by decide) (by decide)) ec4 Nc4   (upto_lt yc4_0 ((n32_lt (i := 4) (j := i) (by omega) (by omega)).mp hc10))
    · refine Gl.st (fun _ kq => XS.icmpNo Xc4.here hx rfl (hb hby d8_57) rfl (flt (hc10 : ¬ ((4 : Int32) < (Int32.ofNat i)))).2.2.1 kq) ?_
      show Gl p.tables e below _ (Tc4.setTop (mkF m 60 #[.val (.ref tc), .val (.int q), .val (.int (Int32.ofNat i))] []))
      refine Gl.st (fun _ kq => XS.aloadN Xc4.here hx rfl (hb hby d8_60) rfl rfl kq) ?_
      show Gl p.tables e below _ (Tc4.setTop (mkF m 61 #[.val (.ref tc), .val (.int q), .val (.int (Int32.ofNat i))] [(.ref tc)]))
      refine Gl.st (fun _ kq => XS.iconst Xc4.here hx rfl (hb hby d8_61) kq) ?_
      show Gl p.tables e below _ (Tc4.setTop (mkF m 62 #[.val (.ref tc), .val (.int q), .val (.int (Int32.ofNat i))] [(.int 4), (.ref tc)]))
      obtain ⟨c11, a11, q11, S11, M11, H11, G11⟩ := id pf0
      refine Gl.st (fun _ kq => Xc4.caload hx (j := (4 : Int32)) (v := (.int v4)) (by rw [ec4]; exact a11.1) (State.isArrayOf_alike hZ.alike a11.2.1) a11.2.2 (inb_of S11 ⟨by decide, by decide⟩) (Has.at H11 (inb_of S11 ⟨by decide, by decide⟩) rfl) (g := (mkF m 62 #[.val (.ref tc), .val (.int q), .val (.int (Int32.ofNat i))] [(.int 4), (.ref tc)])) rfl rfl (hb hby d8_62) _ kq) ?_
      show Gl p.tables e below _ (Tc4.setTop (mkF m 63 #[.val (.ref tc), .val (.int q), .val (.int (Int32.ofNat i))] [(.int v4)]))
      refine Gl.st (fun _ kq => XS.iloadN Xc4.here hx rfl (hb hby d8_63) rfl kq) ?_
      show Gl p.tables e below _ (Tc4.setTop (mkF m 64 #[.val (.ref tc), .val (.int q), .val (.int (Int32.ofNat i))] [(.int q), (.int v4)]))
      by_cases hc12 : v4 = q
      · refine Gl.st (fun _ kq => XS.icmpNo Xc4.here hx rfl (hb hby d8_64) rfl (teq (hc12 : v4 = q)).2 kq) ?_
        show Gl p.tables e below _ (Tc4.setTop (mkF m 67 #[.val (.ref tc), .val (.int q), .val (.int (Int32.ofNat i))] []))
        refine Gl.st (fun _ kq => XS.iconst Xc4.here hx rfl (hb hby d8_67) kq) ?_
        show Gl p.tables e below _ (Tc4.setTop (mkF m 68 #[.val (.ref tc), .val (.int q), .val (.int (Int32.ofNat i))] [(.int 4)]))
        exact Gl.retI Xc4 hx Bd.returns (hb hby d8_68) hlk (by decide) (by decide) (by rw [ec4]; exact Or.inl ⟨4, rfl, Nc4, rfl, ⟨by have q1 := hc10; by_cases z : 4 < i; exact absurd (n32_plt (i := 4) (j := i) z (by omega)) q1; omega, by simp, hc12, yc4_0⟩⟩)
      · refine Gl.st (fun _ kq => XS.icmpYes Xc4.here hx rfl (pc0 := 64) (pc' := 69) rfl (hb hby d8_64) rfl (feq (hc12 : ¬ (v4 = q))).2 (by decide) (by decide) kq) ?_
        show Gl p.tables e below _ (Tc4.setTop (mkF m 69 #[.val (.ref tc), .val (.int q), .val (.int (Int32.ofNat i))] []))
        exact Jc5 _ _ (Xc4.more (by decide) (by decide)) ec4 Nc4   (upto_ne yc4_0 hc12)
  have Jc3 : ∀ (Tc3 : State) (Lc3 : List Loc) (Xc3 : Stand p l e ({ frames := 0, cells := 0, slots := 0, locals := 0 } : Room) s m #[(.ref tc), (.int q), (.int (Int32.ofNat i))] below meth c Tc3 Lc3 0 0) (ec3 : Tc3.heap = h0) (Nc3 : Fr n0 Lc3)  (yc3_0 : Upto q ([v0, v1, v2, v3, v4, v5, v6, v7] : List Int32) i 3), Gl p.tables e below (EndN s (Q_fi Z tc kc v0 v1 v2 v3 v4 v5 v6 v7 q i h0 n0) ({ frames := 0, cells := 0, slots := 0, locals := 0 } : Room).cells ({ frames := 0, cells := 0, slots := 0, locals := 0 } : Room).slots) (Tc3.setTop (mkF m 41 #[.val (.ref tc), .val (.int q), .val (.int (Int32.ofNat i))] [])) := by
    intro Tc3 Lc3 Xc3 ec3 Nc3 yc3_0
    show Gl p.tables e below _ (Tc3.setTop (mkF m 41 #[.val (.ref tc), .val (.int q), .val (.int (Int32.ofNat i))] []))
    refine Gl.st (fun _ kq => XS.iloadN Xc3.here hx rfl (hb hby d8_41) rfl kq) ?_
    show Gl p.tables e below _ (Tc3.setTop (mkF m 42 #[.val (.ref tc), .val (.int q), .val (.int (Int32.ofNat i))] [(.int (Int32.ofNat i))]))
    refine Gl.st (fun _ kq => XS.iconst Xc3.here hx rfl (hb hby d8_42) kq) ?_
    show Gl p.tables e below _ (Tc3.setTop (mkF m 43 #[.val (.ref tc), .val (.int q), .val (.int (Int32.ofNat i))] [(.int 3), (.int (Int32.ofNat i))]))
    by_cases hc13 : (3 : Int32) < (Int32.ofNat i)
    · refine Gl.st (fun _ kq => XS.icmpYes Xc3.here hx rfl (pc0 := 43) (pc' := 55) rfl (hb hby d8_43) rfl (tlt (hc13 : (3 : Int32) < (Int32.ofNat i))).2.2.1 (by decide) (by decide) kq) ?_
      show Gl p.tables e below _ (Tc3.setTop (mkF m 55 #[.val (.ref tc), .val (.int q), .val (.int (Int32.ofNat i))] []))
      exact Jc4 _ _ (Xc3.more (by decide) (by decide)) ec3 Nc3   (upto_lt yc3_0 ((n32_lt (i := 3) (j := i) (by omega) (by omega)).mp hc13))
    · refine Gl.st (fun _ kq => XS.icmpNo Xc3.here hx rfl (hb hby d8_43) rfl (flt (hc13 : ¬ ((3 : Int32) < (Int32.ofNat i)))).2.2.1 kq) ?_
      show Gl p.tables e below _ (Tc3.setTop (mkF m 46 #[.val (.ref tc), .val (.int q), .val (.int (Int32.ofNat i))] []))
      refine Gl.st (fun _ kq => XS.aloadN Xc3.here hx rfl (hb hby d8_46) rfl rfl kq) ?_
      show Gl p.tables e below _ (Tc3.setTop (mkF m 47 #[.val (.ref tc), .val (.int q), .val (.int (Int32.ofNat i))] [(.ref tc)]))
      refine Gl.st (fun _ kq => XS.iconst Xc3.here hx rfl (hb hby d8_47) kq) ?_
      show Gl p.tables e below _ (Tc3.setTop (mkF m 48 #[.val (.ref tc), .val (.int q), .val (.int (Int32.ofNat i))] [(.int 3), (.ref tc)]))
      obtain ⟨c14, a14, q14, S14, M14, H14, G14⟩ := id pf0
      refine Gl.st (fun _ kq => Xc3.caload hx (j := (3 : Int32)) (v := (.int v3)) (by rw [ec3]; exact a14.1) (State.isArrayOf_alike hZ.alike a14.2.1) a14.2.2 (inb_of S14 ⟨by decide, by decide⟩) (Has.at H14 (inb_of S14 ⟨by decide, by decide⟩) rfl) (g := (mkF m 48 #[.val (.ref tc), .val (.int q), .val (.int (Int32.ofNat i))] [(.int 3), (.ref tc)])) rfl rfl (hb hby d8_48) _ kq) ?_
      show Gl p.tables e below _ (Tc3.setTop (mkF m 49 #[.val (.ref tc), .val (.int q), .val (.int (Int32.ofNat i))] [(.int v3)]))
      refine Gl.st (fun _ kq => XS.iloadN Xc3.here hx rfl (hb hby d8_49) rfl kq) ?_
      show Gl p.tables e below _ (Tc3.setTop (mkF m 50 #[.val (.ref tc), .val (.int q), .val (.int (Int32.ofNat i))] [(.int q), (.int v3)]))
      by_cases hc15 : v3 = q
      · refine Gl.st (fun _ kq => XS.icmpNo Xc3.here hx rfl (hb hby d8_50) rfl (teq (hc15 : v3 = q)).2 kq) ?_
        show Gl p.tables e below _ (Tc3.setTop (mkF m 53 #[.val (.ref tc), .val (.int q), .val (.int (Int32.ofNat i))] []))
        refine Gl.st (fun _ kq => XS.iconst Xc3.here hx rfl (hb hby d8_53) kq) ?_
        show Gl p.tables e below _ (Tc3.setTop (mkF m 54 #[.val (.ref tc), .val (.int q), .val (.int (Int32.ofNat i))] [(.int 3)]))
        exact Gl.retI Xc3 hx Bd.returns (hb hby d8_54) hlk (by decide) (by decide) (by rw [ec3]; exact Or.inl ⟨3, rfl, Nc3, rfl, ⟨by have q1 := hc13; by_cases z : 3 < i; exact absurd (n32_plt (i := 3) (j := i) z (by omega)) q1; omega, by simp, hc15, yc3_0⟩⟩)
      · refine Gl.st (fun _ kq => XS.icmpYes Xc3.here hx rfl (pc0 := 50) (pc' := 55) rfl (hb hby d8_50) rfl (feq (hc15 : ¬ (v3 = q))).2 (by decide) (by decide) kq) ?_
        show Gl p.tables e below _ (Tc3.setTop (mkF m 55 #[.val (.ref tc), .val (.int q), .val (.int (Int32.ofNat i))] []))
        exact Jc4 _ _ (Xc3.more (by decide) (by decide)) ec3 Nc3   (upto_ne yc3_0 hc15)
  have Jc2 : ∀ (Tc2 : State) (Lc2 : List Loc) (Xc2 : Stand p l e ({ frames := 0, cells := 0, slots := 0, locals := 0 } : Room) s m #[(.ref tc), (.int q), (.int (Int32.ofNat i))] below meth c Tc2 Lc2 0 0) (ec2 : Tc2.heap = h0) (Nc2 : Fr n0 Lc2)  (yc2_0 : Upto q ([v0, v1, v2, v3, v4, v5, v6, v7] : List Int32) i 2), Gl p.tables e below (EndN s (Q_fi Z tc kc v0 v1 v2 v3 v4 v5 v6 v7 q i h0 n0) ({ frames := 0, cells := 0, slots := 0, locals := 0 } : Room).cells ({ frames := 0, cells := 0, slots := 0, locals := 0 } : Room).slots) (Tc2.setTop (mkF m 27 #[.val (.ref tc), .val (.int q), .val (.int (Int32.ofNat i))] [])) := by
    intro Tc2 Lc2 Xc2 ec2 Nc2 yc2_0
    show Gl p.tables e below _ (Tc2.setTop (mkF m 27 #[.val (.ref tc), .val (.int q), .val (.int (Int32.ofNat i))] []))
    refine Gl.st (fun _ kq => XS.iloadN Xc2.here hx rfl (hb hby d8_27) rfl kq) ?_
    show Gl p.tables e below _ (Tc2.setTop (mkF m 28 #[.val (.ref tc), .val (.int q), .val (.int (Int32.ofNat i))] [(.int (Int32.ofNat i))]))
    refine Gl.st (fun _ kq => XS.iconst Xc2.here hx rfl (hb hby d8_28) kq) ?_
    show Gl p.tables e below _ (Tc2.setTop (mkF m 29 #[.val (.ref tc), .val (.int q), .val (.int (Int32.ofNat i))] [(.int 2), (.int (Int32.ofNat i))]))
    by_cases hc16 : (2 : Int32) < (Int32.ofNat i)
    · refine Gl.st (fun _ kq => XS.icmpYes Xc2.here hx rfl (pc0 := 29) (pc' := 41) rfl (hb hby d8_29) rfl (tlt (hc16 : (2 : Int32) < (Int32.ofNat i))).2.2.1 (by decide) (by decide) kq) ?_
      show Gl p.tables e below _ (Tc2.setTop (mkF m 41 #[.val (.ref tc), .val (.int q), .val (.int (Int32.ofNat i))] []))
      exact Jc3 _ _ (Xc2.more (by decide) (by decide)) ec2 Nc2   (upto_lt yc2_0 ((n32_lt (i := 2) (j := i) (by omega) (by omega)).mp hc16))
    · refine Gl.st (fun _ kq => XS.icmpNo Xc2.here hx rfl (hb hby d8_29) rfl (flt (hc16 : ¬ ((2 : Int32) < (Int32.ofNat i)))).2.2.1 kq) ?_
      show Gl p.tables e below _ (Tc2.setTop (mkF m 32 #[.val (.ref tc), .val (.int q), .val (.int (Int32.ofNat i))] []))
      refine Gl.st (fun _ kq => XS.aloadN Xc2.here hx rfl (hb hby d8_32) rfl rfl kq) ?_
      show Gl p.tables e below _ (Tc2.setTop (mkF m 33 #[.val (.ref tc), .val (.int q), .val (.int (Int32.ofNat i))] [(.ref tc)]))
      refine Gl.st (fun _ kq => XS.iconst Xc2.here hx rfl (hb hby d8_33) kq) ?_
      show Gl p.tables e below _ (Tc2.setTop (mkF m 34 #[.val (.ref tc), .val (.int q), .val (.int (Int32.ofNat i))] [(.int 2), (.ref tc)]))
      obtain ⟨c17, a17, q17, S17, M17, H17, G17⟩ := id pf0
      refine Gl.st (fun _ kq => Xc2.caload hx (j := (2 : Int32)) (v := (.int v2)) (by rw [ec2]; exact a17.1) (State.isArrayOf_alike hZ.alike a17.2.1) a17.2.2 (inb_of S17 ⟨by decide, by decide⟩) (Has.at H17 (inb_of S17 ⟨by decide, by decide⟩) rfl) (g := (mkF m 34 #[.val (.ref tc), .val (.int q), .val (.int (Int32.ofNat i))] [(.int 2), (.ref tc)])) rfl rfl (hb hby d8_34) _ kq) ?_
      show Gl p.tables e below _ (Tc2.setTop (mkF m 35 #[.val (.ref tc), .val (.int q), .val (.int (Int32.ofNat i))] [(.int v2)]))
      refine Gl.st (fun _ kq => XS.iloadN Xc2.here hx rfl (hb hby d8_35) rfl kq) ?_
      show Gl p.tables e below _ (Tc2.setTop (mkF m 36 #[.val (.ref tc), .val (.int q), .val (.int (Int32.ofNat i))] [(.int q), (.int v2)]))
      by_cases hc18 : v2 = q
      · refine Gl.st (fun _ kq => XS.icmpNo Xc2.here hx rfl (hb hby d8_36) rfl (teq (hc18 : v2 = q)).2 kq) ?_
        show Gl p.tables e below _ (Tc2.setTop (mkF m 39 #[.val (.ref tc), .val (.int q), .val (.int (Int32.ofNat i))] []))
        refine Gl.st (fun _ kq => XS.iconst Xc2.here hx rfl (hb hby d8_39) kq) ?_
        show Gl p.tables e below _ (Tc2.setTop (mkF m 40 #[.val (.ref tc), .val (.int q), .val (.int (Int32.ofNat i))] [(.int 2)]))
        exact Gl.retI Xc2 hx Bd.returns (hb hby d8_40) hlk (by decide) (by decide) (by rw [ec2]; exact Or.inl ⟨2, rfl, Nc2, rfl, ⟨by have q1 := hc16; by_cases z : 2 < i; exact absurd (n32_plt (i := 2) (j := i) z (by omega)) q1; omega, by simp, hc18, yc2_0⟩⟩)
      · refine Gl.st (fun _ kq => XS.icmpYes Xc2.here hx rfl (pc0 := 36) (pc' := 41) rfl (hb hby d8_36) rfl (feq (hc18 : ¬ (v2 = q))).2 (by decide) (by decide) kq) ?_
        show Gl p.tables e below _ (Tc2.setTop (mkF m 41 #[.val (.ref tc), .val (.int q), .val (.int (Int32.ofNat i))] []))
        exact Jc3 _ _ (Xc2.more (by decide) (by decide)) ec2 Nc2   (upto_ne yc2_0 hc18)
  have Jc1 : ∀ (Tc1 : State) (Lc1 : List Loc) (Xc1 : Stand p l e ({ frames := 0, cells := 0, slots := 0, locals := 0 } : Room) s m #[(.ref tc), (.int q), (.int (Int32.ofNat i))] below meth c Tc1 Lc1 0 0) (ec1 : Tc1.heap = h0) (Nc1 : Fr n0 Lc1)  (yc1_0 : Upto q ([v0, v1, v2, v3, v4, v5, v6, v7] : List Int32) i 1), Gl p.tables e below (EndN s (Q_fi Z tc kc v0 v1 v2 v3 v4 v5 v6 v7 q i h0 n0) ({ frames := 0, cells := 0, slots := 0, locals := 0 } : Room).cells ({ frames := 0, cells := 0, slots := 0, locals := 0 } : Room).slots) (Tc1.setTop (mkF m 13 #[.val (.ref tc), .val (.int q), .val (.int (Int32.ofNat i))] [])) := by
    intro Tc1 Lc1 Xc1 ec1 Nc1 yc1_0
    show Gl p.tables e below _ (Tc1.setTop (mkF m 13 #[.val (.ref tc), .val (.int q), .val (.int (Int32.ofNat i))] []))
    refine Gl.st (fun _ kq => XS.iloadN Xc1.here hx rfl (hb hby d8_13) rfl kq) ?_
    show Gl p.tables e below _ (Tc1.setTop (mkF m 14 #[.val (.ref tc), .val (.int q), .val (.int (Int32.ofNat i))] [(.int (Int32.ofNat i))]))
    refine Gl.st (fun _ kq => XS.iconst Xc1.here hx rfl (hb hby d8_14) kq) ?_
    show Gl p.tables e below _ (Tc1.setTop (mkF m 15 #[.val (.ref tc), .val (.int q), .val (.int (Int32.ofNat i))] [(.int 1), (.int (Int32.ofNat i))]))
    by_cases hc19 : (1 : Int32) < (Int32.ofNat i)
    · refine Gl.st (fun _ kq => XS.icmpYes Xc1.here hx rfl (pc0 := 15) (pc' := 27) rfl (hb hby d8_15) rfl (tlt (hc19 : (1 : Int32) < (Int32.ofNat i))).2.2.1 (by decide) (by decide) kq) ?_
      show Gl p.tables e below _ (Tc1.setTop (mkF m 27 #[.val (.ref tc), .val (.int q), .val (.int (Int32.ofNat i))] []))
      exact Jc2 _ _ (Xc1.more (by decide) (by decide)) ec1 Nc1   (upto_lt yc1_0 ((n32_lt (i := 1) (j := i) (by omega) (by omega)).mp hc19))
    · refine Gl.st (fun _ kq => XS.icmpNo Xc1.here hx rfl (hb hby d8_15) rfl (flt (hc19 : ¬ ((1 : Int32) < (Int32.ofNat i)))).2.2.1 kq) ?_
      show Gl p.tables e below _ (Tc1.setTop (mkF m 18 #[.val (.ref tc), .val (.int q), .val (.int (Int32.ofNat i))] []))
      refine Gl.st (fun _ kq => XS.aloadN Xc1.here hx rfl (hb hby d8_18) rfl rfl kq) ?_
      show Gl p.tables e below _ (Tc1.setTop (mkF m 19 #[.val (.ref tc), .val (.int q), .val (.int (Int32.ofNat i))] [(.ref tc)]))
      refine Gl.st (fun _ kq => XS.iconst Xc1.here hx rfl (hb hby d8_19) kq) ?_
      show Gl p.tables e below _ (Tc1.setTop (mkF m 20 #[.val (.ref tc), .val (.int q), .val (.int (Int32.ofNat i))] [(.int 1), (.ref tc)]))
      obtain ⟨c20, a20, q20, S20, M20, H20, G20⟩ := id pf0
      refine Gl.st (fun _ kq => Xc1.caload hx (j := (1 : Int32)) (v := (.int v1)) (by rw [ec1]; exact a20.1) (State.isArrayOf_alike hZ.alike a20.2.1) a20.2.2 (inb_of S20 ⟨by decide, by decide⟩) (Has.at H20 (inb_of S20 ⟨by decide, by decide⟩) rfl) (g := (mkF m 20 #[.val (.ref tc), .val (.int q), .val (.int (Int32.ofNat i))] [(.int 1), (.ref tc)])) rfl rfl (hb hby d8_20) _ kq) ?_
      show Gl p.tables e below _ (Tc1.setTop (mkF m 21 #[.val (.ref tc), .val (.int q), .val (.int (Int32.ofNat i))] [(.int v1)]))
      refine Gl.st (fun _ kq => XS.iloadN Xc1.here hx rfl (hb hby d8_21) rfl kq) ?_
      show Gl p.tables e below _ (Tc1.setTop (mkF m 22 #[.val (.ref tc), .val (.int q), .val (.int (Int32.ofNat i))] [(.int q), (.int v1)]))
      by_cases hc21 : v1 = q
      · refine Gl.st (fun _ kq => XS.icmpNo Xc1.here hx rfl (hb hby d8_22) rfl (teq (hc21 : v1 = q)).2 kq) ?_
        show Gl p.tables e below _ (Tc1.setTop (mkF m 25 #[.val (.ref tc), .val (.int q), .val (.int (Int32.ofNat i))] []))
        refine Gl.st (fun _ kq => XS.iconst Xc1.here hx rfl (hb hby d8_25) kq) ?_
        show Gl p.tables e below _ (Tc1.setTop (mkF m 26 #[.val (.ref tc), .val (.int q), .val (.int (Int32.ofNat i))] [(.int 1)]))
        exact Gl.retI Xc1 hx Bd.returns (hb hby d8_26) hlk (by decide) (by decide) (by rw [ec1]; exact Or.inl ⟨1, rfl, Nc1, rfl, ⟨by have q1 := hc19; by_cases z : 1 < i; exact absurd (n32_plt (i := 1) (j := i) z (by omega)) q1; omega, by simp, hc21, yc1_0⟩⟩)
      · refine Gl.st (fun _ kq => XS.icmpYes Xc1.here hx rfl (pc0 := 22) (pc' := 27) rfl (hb hby d8_22) rfl (feq (hc21 : ¬ (v1 = q))).2 (by decide) (by decide) kq) ?_
        show Gl p.tables e below _ (Tc1.setTop (mkF m 27 #[.val (.ref tc), .val (.int q), .val (.int (Int32.ofNat i))] []))
        exact Jc2 _ _ (Xc1.more (by decide) (by decide)) ec1 Nc1   (upto_ne yc1_0 hc21)
  show Gl p.tables e below _ (s₁.setTop (mkF m 0 #[.val (.ref tc), .val (.int q), .val (.int (Int32.ofNat i))] []))
  refine Gl.st (fun _ kq => XS.iloadN X0.here hx rfl (hb hby d8_0) rfl kq) ?_
  show Gl p.tables e below _ (s₁.setTop (mkF m 1 #[.val (.ref tc), .val (.int q), .val (.int (Int32.ofNat i))] [(.int (Int32.ofNat i))]))
  by_cases hc22 : (0 : Int32) < (Int32.ofNat i)
  · refine Gl.st (fun _ kq => XS.ifYes X0.here hx rfl (pc0 := 1) (pc' := 13) rfl (hb hby d8_1) rfl ((if0 _ _).trans (tlt (hc22 : (0 : Int32) < (Int32.ofNat i))).2.2.1) (by decide) (by decide) kq) ?_
    show Gl p.tables e below _ (s₁.setTop (mkF m 13 #[.val (.ref tc), .val (.int q), .val (.int (Int32.ofNat i))] []))
    exact Jc1 _ _ (X0.more (by decide) (by decide)) e0 N0   (upto_lt upto_0 ((n32_lt (i := 0) (j := i) (by omega) (by omega)).mp hc22))
  · refine Gl.st (fun _ kq => XS.ifNo X0.here hx rfl (hb hby d8_1) rfl ((if0 _ _).trans (flt (hc22 : ¬ ((0 : Int32) < (Int32.ofNat i)))).2.2.1) kq) ?_
    show Gl p.tables e below _ (s₁.setTop (mkF m 4 #[.val (.ref tc), .val (.int q), .val (.int (Int32.ofNat i))] []))
    refine Gl.st (fun _ kq => XS.aloadN X0.here hx rfl (hb hby d8_4) rfl rfl kq) ?_
    show Gl p.tables e below _ (s₁.setTop (mkF m 5 #[.val (.ref tc), .val (.int q), .val (.int (Int32.ofNat i))] [(.ref tc)]))
    refine Gl.st (fun _ kq => XS.iconst X0.here hx rfl (hb hby d8_5) kq) ?_
    show Gl p.tables e below _ (s₁.setTop (mkF m 6 #[.val (.ref tc), .val (.int q), .val (.int (Int32.ofNat i))] [(.int 0), (.ref tc)]))
    obtain ⟨c23, a23, q23, S23, M23, H23, G23⟩ := id pf0
    refine Gl.st (fun _ kq => X0.caload hx (j := (0 : Int32)) (v := (.int v0)) (by rw [e0]; exact a23.1) (State.isArrayOf_alike hZ.alike a23.2.1) a23.2.2 (inb_of S23 ⟨by decide, by decide⟩) (Has.at H23 (inb_of S23 ⟨by decide, by decide⟩) rfl) (g := (mkF m 6 #[.val (.ref tc), .val (.int q), .val (.int (Int32.ofNat i))] [(.int 0), (.ref tc)])) rfl rfl (hb hby d8_6) _ kq) ?_
    show Gl p.tables e below _ (s₁.setTop (mkF m 7 #[.val (.ref tc), .val (.int q), .val (.int (Int32.ofNat i))] [(.int v0)]))
    refine Gl.st (fun _ kq => XS.iloadN X0.here hx rfl (hb hby d8_7) rfl kq) ?_
    show Gl p.tables e below _ (s₁.setTop (mkF m 8 #[.val (.ref tc), .val (.int q), .val (.int (Int32.ofNat i))] [(.int q), (.int v0)]))
    by_cases hc24 : v0 = q
    · refine Gl.st (fun _ kq => XS.icmpNo X0.here hx rfl (hb hby d8_8) rfl (teq (hc24 : v0 = q)).2 kq) ?_
      show Gl p.tables e below _ (s₁.setTop (mkF m 11 #[.val (.ref tc), .val (.int q), .val (.int (Int32.ofNat i))] []))
      refine Gl.st (fun _ kq => XS.iconst X0.here hx rfl (hb hby d8_11) kq) ?_
      show Gl p.tables e below _ (s₁.setTop (mkF m 12 #[.val (.ref tc), .val (.int q), .val (.int (Int32.ofNat i))] [(.int 0)]))
      exact Gl.retI X0 hx Bd.returns (hb hby d8_12) hlk (by decide) (by decide) (by rw [e0]; exact Or.inl ⟨0, rfl, N0, rfl, ⟨by have q1 := hc22; by_cases z : 0 < i; exact absurd (n32_plt (i := 0) (j := i) z (by omega)) q1; omega, by simp, hc24, upto_0⟩⟩)
    · refine Gl.st (fun _ kq => XS.icmpYes X0.here hx rfl (pc0 := 8) (pc' := 13) rfl (hb hby d8_8) rfl (feq (hc24 : ¬ (v0 = q))).2 (by decide) (by decide) kq) ?_
      show Gl p.tables e below _ (s₁.setTop (mkF m 13 #[.val (.ref tc), .val (.int q), .val (.int (Int32.ofNat i))] []))
      exact Jc1 _ _ (X0.more (by decide) (by decide)) e0 N0   (upto_ne upto_0 hc24)
theorem d9_0 : decode prog_24_method_9_code 0 = .ok (.aload_n 0, 1) := by decide +kernel
theorem d9_1 : decode prog_24_method_9_code 1 = .ok (.getfield 63, 3) := by decide +kernel
theorem d9_4 : decode prog_24_method_9_code 4 = .ok (.istore_n 2, 1) := by decide +kernel
theorem d9_5 : decode prog_24_method_9_code 5 = .ok (.aload_n 0, 1) := by decide +kernel
theorem d9_6 : decode prog_24_method_9_code 6 = .ok (.getfield 7, 3) := by decide +kernel
theorem d9_9 : decode prog_24_method_9_code 9 = .ok (.iload_n 1, 1) := by decide +kernel
theorem d9_10 : decode prog_24_method_9_code 10 = .ok (.iload_n 2, 1) := by decide +kernel
theorem d9_11 : decode prog_24_method_9_code 11 = .ok (.invokevirtual 136, 3) := by decide +kernel
theorem d9_14 : decode prog_24_method_9_code 14 = .ok (.istore_n 3, 1) := by decide +kernel
theorem d9_15 : decode prog_24_method_9_code 15 = .ok (.iload_n 3, 1) := by decide +kernel
theorem d9_16 : decode prog_24_method_9_code 16 = .ok (.ifCond .ge 23, 3) := by decide +kernel
theorem d9_39 : decode prog_24_method_9_code 39 = .ok (.aload_n 0, 1) := by decide +kernel
theorem d9_40 : decode prog_24_method_9_code 40 = .ok (.iload_n 3, 1) := by decide +kernel
theorem d9_41 : decode prog_24_method_9_code 41 = .ok (.iconst 1, 1) := by decide +kernel
theorem d9_42 : decode prog_24_method_9_code 42 = .ok (.iadd, 1) := by decide +kernel
theorem d9_43 : decode prog_24_method_9_code 43 = .ok (.putfield 63, 3) := by decide +kernel
theorem d9_46 : decode prog_24_method_9_code 46 = .ok (.aload_n 0, 1) := by decide +kernel
theorem d9_47 : decode prog_24_method_9_code 47 = .ok (.getfield 7, 3) := by decide +kernel
theorem d9_50 : decode prog_24_method_9_code 50 = .ok (.iload_n 2, 1) := by decide +kernel
theorem d9_51 : decode prog_24_method_9_code 51 = .ok (.iload_n 3, 1) := by decide +kernel
theorem d9_52 : decode prog_24_method_9_code 52 = .ok (.invokevirtual 42, 3) := by decide +kernel
theorem d9_55 : decode prog_24_method_9_code 55 = .ok (.areturn, 1) := by decide +kernel
theorem ef_ut (m : MethodId) (a : Addr) (q : Int32) : entryFrame m #[(.ref a), (.int q)] 4 = mkF m 0 #[.val (.ref a), .val (.int q), .unset, .unset] [] := by first | (simp [entryFrame, mkF, argsToLocals, Value.category]; done) | rfl
def Q_ut (Z : State) (a : Addr) (b : Addr) (t : Addr) (k : ClassId) (cs : List Int32) (q : Int32) (i : Nat) (r0 : Nat) (G1 : Int32) (G3 : Value) (h0 : Heap) (n0 : Nat) (v : Option Value) (h : Heap) (L : List Loc) : Prop := (∃ x : Nat, ∃ r : Addr, ∃ t2 : Addr, ∃ k2 : ClassId, ∃ ds : List Int32, v = some (.ref r) ∧ Fr n0 L ∧ Keep h0 h [a] ∧ Exa Z h a "com/example/lean_connector/leanconnector/server/FieldReader" ∧ Fld Z h a "com/example/lean_connector/leanconnector/server/FieldReader" "value" "Ljava/lang/String;" (.ref b) ∧ Fld Z h a "com/example/lean_connector/leanconnector/server/FieldReader" "at" "I" (.int (Int32.ofNat (x + 1))) ∧ Exa Z h r "java/lang/String" ∧ Fld Z h r "java/lang/String" "coder" "B" (.int 0) ∧ Fld Z h r "java/lang/String" "value" "[B" (.ref t2) ∧ Arv Z h t2 k2 .byte (Int32.ofNat ds.length) ((ds.map (fun c => c.toInt8.toInt32)).map Value.int) (.int 0) ∧ (First q cs i x) ∧ (ds = (cs.drop i).take (x - i)))
set_option maxRecDepth 65536 in
set_option maxHeartbeats 40000000 in
theorem rm_ut (l : Launch) (Z : State) (a0 : Array Value) (hw : ∀ d ∈ tables_1, d.before a0 Z = true) (ws : List Jvm.Cond) (a : Addr) (b : Addr) (t : Addr) (k : ClassId) (cs : List Int32) (q : Int32) (i : Nat) (r0 : Nat) (G1 : Int32) (G3 : Value) (h0 : Heap) (n0 : Nat) (Z0 : n0 ≤ h0.size) (pf0 : Exa Z h0 a "com/example/lean_connector/leanconnector/server/FieldReader") (pf1 : Fld Z h0 a "com/example/lean_connector/leanconnector/server/FieldReader" "value" "Ljava/lang/String;" (.ref b)) (pf2 : Fld Z h0 a "com/example/lean_connector/leanconnector/server/FieldReader" "at" "I" (.int (Int32.ofNat i))) (pf3 : Exa Z h0 b "java/lang/String") (pf4 : Fld Z h0 b "java/lang/String" "coder" "B" (.int 0)) (pf5 : Fld Z h0 b "java/lang/String" "value" "[B" (.ref t)) (pf6 : Arv Z h0 t k .byte (Int32.ofNat cs.length) ((cs.map (fun c => c.toInt8.toInt32)).map Value.int) (.int 0)) (pf7 : Old Z n0 h0) (hr : Rng cs) (hl : cs.length ≤ 8) (hq0 : ¬ (q < (0 : Int32))) (hq1 : ¬ ((255 : Int32) < q)) (hi : i ≤ cs.length) (hex : First q cs i r0) (ga : n0 ≤ a) (O2 : Sta Z Z.heap "java/lang/String" "COMPACT_STRINGS" "Z" (.int G1)) (P5 : ¬ (G1 = (0 : Int32))) (O4 : Sta Z Z.heap "jdk/internal/util/Preconditions" "SIOOBE_FORMATTER" "Ljava/util/function/BiFunction;" G3) (rG3 : G3.isRef = true) :
    MetFree l (⟨"com/example/lean_connector/leanconnector/server/FieldReader", "upTo", "(C)Ljava/lang/String;"⟩ : MethodName) (head1 (Jvm.Cond.code (⟨"com/example/lean_connector/leanconnector/server/FieldReader", "upTo", "(C)Ljava/lang/String;"⟩ : MethodName) prog_24_method_9_code 4 (some (.object "java/lang/String")) :: ws) ({ frames := 5, cells := 2, slots := 12, locals := 80 } : Room)) (fun aa U => aa = #[(.ref a), (.int q)] ∧ Z.Warmed39 U.vm ∧ U.heap = h0 ∧ CHv Z consts_1 U.vm h0) (fun _ _ _ _ _ => True) (fun _ U o U' => ∃ v L, o = .returned v ∧ Q_ut Z a b t k cs q i r0 G1 G3 h0 n0 v U'.heap L ∧ CHr Z consts_1 U.vm U.heap U'.vm U'.heap ∧ ReturnedEndW U o U' L ({ frames := 5, cells := 2, slots := 12, locals := 80 } : Room).cells ({ frames := 5, cells := 2, slots := 12, locals := 80 } : Room).slots) := by
  refine MetFree.of_bodySF (plainFor_of_name pn_com_example_lean_connector_leanconnector_server_FieldReader) hisR ?_
  intro p e s m args below meth c s₁ Bd hml0 hP hK
  obtain ⟨rfl, hZ, hh, hH⟩ := hP
  have hx := Bd.exec
  have hby := Bd.bytes
  have hlk : meth.locks = false := BodyLoose.notSynchronized Bd
  have hml : c.maxLocals = 4 := hml0
  have hown : s.vm.findClass "com/example/lean_connector/leanconnector/server/FieldReader" = some m.cls := findClass_of_methodNamed Bd.named
  have hnm := (name_of_methodNamed Bd.named Bd.method).1
  have X0 : Stand p l e ({ frames := 5, cells := 2, slots := 12, locals := 80 } : Room) (s.setVm s.vm) m #[(.ref a), (.int q)] below meth c s₁ [] 0 0 := Stand.of_body Bd
  have e0 : s₁.heap = h0 := by rw [← hh, Bd.state]; rfl
  have N0 := Fr.nil n0
  show Gl p.tables e below (EndH s Z consts_1 (Q_ut Z a b t k cs q i r0 G1 G3 h0 n0) ({ frames := 5, cells := 2, slots := 12, locals := 80 } : Room).cells ({ frames := 5, cells := 2, slots := 12, locals := 80 } : Room).slots) _
  refine Gl.cast (ef_ut m a q) ?_
  show Gl p.tables e below _ (s₁.setTop (mkF m 0 #[.val (.ref a), .val (.int q), .unset, .unset] []))
  have hS0 : s.Since s.vm s₁.heap.size := (State.WarmedH.refl s).since _
  have C0 : CHr Z consts_1 s.vm h0 s.vm h0 := CHr.refl hH
  refine Gl.st (fun _ kq => XS.aloadN X0.here hx rfl (hb hby d9_0) rfl rfl kq) ?_
  show Gl p.tables e below _ (s₁.setTop (mkF m 1 #[.val (.ref a), .val (.int q), .unset, .unset] [(.ref a)]))
  obtain ⟨T1, X1, e1, st1⟩ := getF X0 hx hZ hown (host := "") (Or.inl (tw hw 48 rfl)) Via.refl e0 pf2 (g := (mkF m 1 #[.val (.ref a), .val (.int q), .unset, .unset] [(.ref a)])) rfl rfl (hb hby d9_1)
  refine Gl.st st1 ?_
  show Gl p.tables e below _ (T1.setTop (mkF m 4 #[.val (.ref a), .val (.int q), .unset, .unset] [(.int (Int32.ofNat i))]))
  refine Gl.st (fun _ kq => XS.istoreN X1.here hx rfl (hb hby d9_4) rfl (l' := #[.val (.ref a), .val (.int q), .val (.int (Int32.ofNat i)), .unset]) rfl kq) ?_
  show Gl p.tables e below _ (T1.setTop (mkF m 5 #[.val (.ref a), .val (.int q), .val (.int (Int32.ofNat i)), .unset] []))
  refine Gl.st (fun _ kq => XS.aloadN X1.here hx rfl (hb hby d9_5) rfl rfl kq) ?_
  show Gl p.tables e below _ (T1.setTop (mkF m 6 #[.val (.ref a), .val (.int q), .val (.int (Int32.ofNat i)), .unset] [(.ref a)]))
  obtain ⟨T2, X2, e2, st2⟩ := getF X1 hx hZ hown (host := "") (Or.inl (tw hw 37 rfl)) Via.refl e1 pf1 (g := (mkF m 6 #[.val (.ref a), .val (.int q), .val (.int (Int32.ofNat i)), .unset] [(.ref a)])) rfl rfl (hb hby d9_6)
  refine Gl.st st2 ?_
  show Gl p.tables e below _ (T2.setTop (mkF m 9 #[.val (.ref a), .val (.int q), .val (.int (Int32.ofNat i)), .unset] [(.ref b)]))
  refine Gl.st (fun _ kq => XS.iloadN X2.here hx rfl (hb hby d9_9) rfl kq) ?_
  show Gl p.tables e below _ (T2.setTop (mkF m 10 #[.val (.ref a), .val (.int q), .val (.int (Int32.ofNat i)), .unset] [(.int q), (.ref b)]))
  refine Gl.st (fun _ kq => XS.iloadN X2.here hx rfl (hb hby d9_10) rfl kq) ?_
  show Gl p.tables e below _ (T2.setTop (mkF m 11 #[.val (.ref a), .val (.int q), .val (.int (Int32.ofNat i)), .unset] [(.int (Int32.ofNat i)), (.int q), (.ref b)]))
  obtain ⟨cq4, kq4, q4a, q4b, q4c⟩ := isOf hZ e2 pf3
  obtain ⟨_, _, ⟨T4, L4, k4, n4⟩, -, X4, ⟨Lc4, hQ4, l4, y4, z4⟩, st4⟩ := X2.virtualBack hx (y := (⟨"java/lang/String", "indexOf", "(II)I"⟩ : MethodName)) (z := (⟨"java/lang/String", "indexOf", "(II)I"⟩ : MethodName)) hown (mvT hZ (tw hw 50 rfl)) (mvT hZ (tw hw 51 rfl)) (notFace_of_selects (args := #[]) (mvT hZ (tw hw 53 rfl))) (mvT hZ (tw hw 53 rfl)) (mvT hZ (tw hw 52 rfl)) (by decide) (backOf (W := 0) (rm_sio l Z a0 hw [] (b) (t) (k) (cs) (q) (i) (G1) h0 n0 Z0 pf3 pf4 pf5 pf6 pf7 hr hl hq0 hq1 hi O2 P5) hZ (tw hw 54 rfl) (tw hw 6 rfl) (by decide) (by decide)) q4a q4c (g := (mkF m 11 #[.val (.ref a), .val (.int q), .val (.int (Int32.ofNat i)), .unset] [(.int (Int32.ofNat i)), (.int q), (.ref b)])) rfl (by rw [hml]; rfl) (Steps.refl _) (argsL := [(.int q), (.int (Int32.ofNat i))]) (rest := []) (lenOf pd__II_I rfl) rfl (by show 2 * 0 + _ ≤ _; exact Nat.le_of_eq rfl) (hb hby d9_11) (fun _ _ => ⟨rfl, e2, (by decide : 0 + 0 ≤ _), (by decide : 0 + 0 ≤ _)⟩)
  dsimp only [Pt.U, Pt.locs, Pt.cells, Pt.slots] at X4 l4 y4 z4 st4 hQ4
  subst l4 y4 z4
  rcases hQ4 with ⟨v3, rfl, N4, e4, y4_0⟩ | ⟨rfl, N4, e4, y4_0⟩
  · have M4 := Fr.app N0 N4
    refine Gl.to st4 ?_
    show Gl p.tables e below _ (T4.setTop (mkF m 14 #[.val (.ref a), .val (.int q), .val (.int (Int32.ofNat i)), .unset] [(.int (Int32.ofNat v3))]))
    refine Gl.st (fun _ kq => XS.istoreN X4.here hx rfl (hb hby d9_14) rfl (l' := #[.val (.ref a), .val (.int q), .val (.int (Int32.ofNat i)), .val (.int (Int32.ofNat v3))]) rfl kq) ?_
    show Gl p.tables e below _ (T4.setTop (mkF m 15 #[.val (.ref a), .val (.int q), .val (.int (Int32.ofNat i)), .val (.int (Int32.ofNat v3))] []))
    refine Gl.st (fun _ kq => XS.iloadN X4.here hx rfl (hb hby d9_15) rfl kq) ?_
    show Gl p.tables e below _ (T4.setTop (mkF m 16 #[.val (.ref a), .val (.int q), .val (.int (Int32.ofNat i)), .val (.int (Int32.ofNat v3))] [(.int (Int32.ofNat v3))]))
    refine Gl.st (fun _ kq => XS.ifYes X4.here hx rfl (pc0 := 16) (pc' := 39) rfl (hb hby d9_16) rfl ((if0 _ _).trans (flt ((n32_nn (by have q2 := y4_0.2.1; omega)) : ¬ ((Int32.ofNat v3) < (0 : Int32)))).2.1) (by decide) (by decide) kq) ?_
    show Gl p.tables e below _ (T4.setTop (mkF m 39 #[.val (.ref a), .val (.int q), .val (.int (Int32.ofNat i)), .val (.int (Int32.ofNat v3))] []))
    refine Gl.st (fun _ kq => XS.aloadN X4.here hx rfl (hb hby d9_39) rfl rfl kq) ?_
    show Gl p.tables e below _ (T4.setTop (mkF m 40 #[.val (.ref a), .val (.int q), .val (.int (Int32.ofNat i)), .val (.int (Int32.ofNat v3))] [(.ref a)]))
    refine Gl.st (fun _ kq => XS.iloadN X4.here hx rfl (hb hby d9_40) rfl kq) ?_
    show Gl p.tables e below _ (T4.setTop (mkF m 41 #[.val (.ref a), .val (.int q), .val (.int (Int32.ofNat i)), .val (.int (Int32.ofNat v3))] [(.int (Int32.ofNat v3)), (.ref a)]))
    refine Gl.st (fun _ kq => XS.iconst X4.here hx rfl (hb hby d9_41) kq) ?_
    show Gl p.tables e below _ (T4.setTop (mkF m 42 #[.val (.ref a), .val (.int q), .val (.int (Int32.ofNat i)), .val (.int (Int32.ofNat v3))] [(.int 1), (.int (Int32.ofNat v3)), (.ref a)]))
    refine Gl.st (fun _ kq => XS.iadd X4.here hx rfl (hb hby d9_42) rfl kq) ?_
    show Gl p.tables e below _ (T4.setTop (mkF m 43 #[.val (.ref a), .val (.int q), .val (.int (Int32.ofNat i)), .val (.int (Int32.ofNat v3))] [(.int ((Int32.ofNat v3) + (1 : Int32))), (.ref a)]))
    rw [n32_inc v3]
    show Gl p.tables e below _ (T4.setTop (mkF m 43 #[.val (.ref a), .val (.int q), .val (.int (Int32.ofNat i)), .val (.int (Int32.ofNat v3))] [(.int (Int32.ofNat (v3 + 1))), (.ref a)]))
    obtain ⟨T5, h5, X5, e5, W5, st5⟩ := putF X4 hx hZ hown (host := "") (Or.inl (tw hw 48 rfl)) Via.refl e4 pf2 pf0 (Or.inl (tw hw 49 rfl)) (tw hw 2 rfl) (ty := .int) (by decide) rfl rfl (g := (mkF m 43 #[.val (.ref a), .val (.int q), .val (.int (Int32.ofNat i)), .val (.int (Int32.ofNat v3))] [(.int (Int32.ofNat (v3 + 1))), (.ref a)])) rfl rfl (hb hby d9_43)
    refine Gl.st st5 ?_
    have C6 : CHr Z consts_1 s.vm h0 s.vm h5 := C0.trans (CHr.wr W5 (Safe.exa hZ.alike pf0 (by decide) (by decide)) C0.1)
    have F5 : Fld Z h5 a "com/example/lean_connector/leanconnector/server/FieldReader" "at" "I" (.int (Int32.ofNat (v3 + 1))) := Fld.same W5 pf2
    have N5 := Fr.snoc X5 M4 ga
    show Gl p.tables e below _ (T5.setTop (mkF m 46 #[.val (.ref a), .val (.int q), .val (.int (Int32.ofNat i)), .val (.int (Int32.ofNat v3))] []))
    refine Gl.st (fun _ kq => XS.aloadN X5.here hx rfl (hb hby d9_46) rfl rfl kq) ?_
    show Gl p.tables e below _ (T5.setTop (mkF m 47 #[.val (.ref a), .val (.int q), .val (.int (Int32.ofNat i)), .val (.int (Int32.ofNat v3))] [(.ref a)]))
    have f7 : Fld Z h5 a "com/example/lean_connector/leanconnector/server/FieldReader" "value" "Ljava/lang/String;" (.ref b) := (pf1.other W5 (Or.inr (slot_ne (Or.inr (tw hw 38 rfl)) (Or.inl (tw hw 49 rfl)) (by decide) (t := (.object "java/lang/String")) (t' := .int) (by decide) (by decide))))
    obtain ⟨T8, X8, e8, st8⟩ := getF X5 hx hZ hown (host := "") (Or.inl (tw hw 37 rfl)) Via.refl e5 f7 (g := (mkF m 47 #[.val (.ref a), .val (.int q), .val (.int (Int32.ofNat i)), .val (.int (Int32.ofNat v3))] [(.ref a)])) rfl rfl (hb hby d9_47)
    refine Gl.st st8 ?_
    show Gl p.tables e below _ (T8.setTop (mkF m 50 #[.val (.ref a), .val (.int q), .val (.int (Int32.ofNat i)), .val (.int (Int32.ofNat v3))] [(.ref b)]))
    refine Gl.st (fun _ kq => XS.iloadN X8.here hx rfl (hb hby d9_50) rfl kq) ?_
    show Gl p.tables e below _ (T8.setTop (mkF m 51 #[.val (.ref a), .val (.int q), .val (.int (Int32.ofNat i)), .val (.int (Int32.ofNat v3))] [(.int (Int32.ofNat i)), (.ref b)]))
    refine Gl.st (fun _ kq => XS.iloadN X8.here hx rfl (hb hby d9_51) rfl kq) ?_
    show Gl p.tables e below _ (T8.setTop (mkF m 52 #[.val (.ref a), .val (.int q), .val (.int (Int32.ofNat i)), .val (.int (Int32.ofNat v3))] [(.int (Int32.ofNat v3)), (.int (Int32.ofNat i)), (.ref b)]))
    have f9 : Exa Z h5 b "java/lang/String" := (pf3.wr W5)
    have f10 : Fld Z h5 b "java/lang/String" "coder" "B" (.int 0) := (pf4.other W5 (Or.inl (Exa.ne pf3 pf0 (by decide))))
    have f11 : Fld Z h5 b "java/lang/String" "value" "[B" (.ref t) := (pf5.other W5 (Or.inl (Exa.ne pf3 pf0 (by decide))))
    have f12 : Arv Z h5 t k .byte (Int32.ofNat cs.length) ((cs.map (fun c => c.toInt8.toInt32)).map Value.int) (.int 0) := (pf6.other W5 (Ne.symm (Exa.neArv pf0 pf6 (tw hw 2 rfl))))
    have f13 : Old Z n0 h5 := (pf7.wr W5 ga)
    obtain ⟨cq18, kq18, q18a, q18b, q18c⟩ := isOf hZ e8 f9
    obtain ⟨_, _, ⟨T18, L18, k18, n18⟩, -, X18, S18, g18, ⟨Lc18, hQ18, l18, y18, z18, R18⟩, st18⟩ := X8.virtualBackS hx (y := (⟨"java/lang/String", "substring", "(II)Ljava/lang/String;"⟩ : MethodName)) (z := (⟨"java/lang/String", "substring", "(II)Ljava/lang/String;"⟩ : MethodName)) hown (mvT hZ (tw hw 87 rfl)) (mvT hZ (tw hw 88 rfl)) (notFace_of_selects (args := #[]) (mvT hZ (tw hw 90 rfl))) (mvT hZ (tw hw 90 rfl)) (mvT hZ (tw hw 89 rfl)) (by decide) (backOfSH (W := 0) (rm_ss2 l Z a0 hw [] (b) (t) (k) (cs) (i) (v3) (G1) (G3) h5 n0 (Nat.le_trans Z0 (Keep.of_wr W5).1) f9 f10 f11 f12 f13 hr hl (by have q1 := y4_0.1; have q2 := y4_0.2.1; omega) (by have q1 := y4_0.1; have q2 := y4_0.2.1; omega) O2 P5 O4 rG3) hZ (tw hw 91 rfl) (tw hw 6 rfl) (by decide) (by decide) (elW hw) C6.1) q18a q18c (g := (mkF m 52 #[.val (.ref a), .val (.int q), .val (.int (Int32.ofNat i)), .val (.int (Int32.ofNat v3))] [(.int (Int32.ofNat v3)), (.int (Int32.ofNat i)), (.ref b)])) rfl (by rw [hml]; rfl) (Steps.refl _) (argsL := [(.int (Int32.ofNat i)), (.int (Int32.ofNat v3))]) (rest := []) (lenOf pd__II_Ljava_lang_String_ rfl) rfl (by show 2 * 0 + _ ≤ _; exact Nat.le_of_eq rfl) (hb hby d9_52) (fun _ _ => ⟨rfl, e8, (by decide : 0 + 2 ≤ _), (by decide : 0 + 12 ≤ _)⟩)
    dsimp only [Pt.U, Pt.locs, Pt.cells, Pt.slots] at X18 l18 y18 z18 st18 hQ18 R18
    subst l18 y18 z18
    obtain ⟨X18, S18, hZ18, ho18⟩ := rebS hS0 (Nat.le_trans (Nat.le_trans (Nat.le_of_eq (congrArg Array.size e0)) (Keep.of_wr W5).1) (Nat.le_of_eq (congrArg Array.size e8).symm)) X18 S18 g18 hZ hown
    obtain ⟨v14, v15, v16, v17, rfl, N18, K18, q18_0, q18_1, q18_2, q18_3, y18_0⟩ := hQ18
    have C19 : CHr Z consts_1 s.vm h0 T18.vm T18.heap := C6.trans R18
    have M18 := Fr.app N5 N18
    refine Gl.to st18 ?_
    show Gl p.tables e below _ (T18.setTop (mkF m 55 #[.val (.ref a), .val (.int q), .val (.int (Int32.ofNat i)), .val (.int (Int32.ofNat v3))] [(.ref v14)]))
    show Gl p.tables e below _ (T18.setTop (mkF m 55 #[.val (.ref a), .val (.int q), .val (.int (Int32.ofNat i)), .val (.int (Int32.ofNat v3))] [(.ref v14)]))
    have K20 : Keep h0 T18.heap [a] := (((Keep.refl h0 [a]).wr W5 (Or.inl (List.mem_of_getElem? (i := 0) rfl))).trans K18 all0)
    have f21 : Exa Z T18.heap a "com/example/lean_connector/leanconnector/server/FieldReader" := ((pf0.wr W5).keep K18)
    have f22 : Fld Z T18.heap a "com/example/lean_connector/leanconnector/server/FieldReader" "value" "Ljava/lang/String;" (.ref b) := (f7.keep K18 nin0)
    have f23 : Fld Z T18.heap a "com/example/lean_connector/leanconnector/server/FieldReader" "at" "I" (.int (Int32.ofNat (v3 + 1))) := (F5.keep K18 nin0)
    exact Gl.retAH X18 hx S18 (Nat.le_refl _) (by rw [hh]; exact C19.trans (CHv.at X18 hZ18 (elW hw) C19.1)) Bd.returns rfl rfl (hb hby d9_55) hlk (by decide) (by decide) ⟨v3, v14, v15, v16, v17, rfl, M18, K20, f21, f22, f23, q18_0, q18_1, q18_2, q18_3, y4_0, y18_0⟩
  · exact (first_no hex y4_0).elim
theorem d23_0 : decode method_4_code 0 = .ok (.iload_n 3, 1) := by decide +kernel
theorem d23_1 : decode method_4_code 1 = .ok (.iload_n 2, 1) := by decide +kernel
theorem d23_2 : decode method_4_code 2 = .ok (.isub, 1) := by decide +kernel
theorem d23_3 : decode method_4_code 3 = .ok (.istore 4, 2) := by decide +kernel
theorem d23_5 : decode method_4_code 5 = .ok (.aload_n 0, 1) := by decide +kernel
theorem d23_6 : decode method_4_code 6 = .ok (.invokevirtual 31, 3) := by decide +kernel
theorem d23_9 : decode method_4_code 9 = .ok (.iload 4, 2) := by decide +kernel
theorem d23_11 : decode method_4_code 11 = .ok (.if_icmp .eq 5, 3) := by decide +kernel
theorem d23_16 : decode method_4_code 16 = .ok (.iconst 1, 1) := by decide +kernel
theorem d23_17 : decode method_4_code 17 = .ok (.istore 5, 2) := by decide +kernel
theorem d23_19 : decode method_4_code 19 = .ok (.iload 4, 2) := by decide +kernel
theorem d23_21 : decode method_4_code 21 = .ok (.ifCond .le 26, 3) := by decide +kernel
theorem d23_24 : decode method_4_code 24 = .ok (.iload 5, 2) := by decide +kernel
theorem d23_26 : decode method_4_code 26 = .ok (.ifCond .eq 18, 3) := by decide +kernel
theorem d23_29 : decode method_4_code 29 = .ok (.aload_n 0, 1) := by decide +kernel
theorem d23_30 : decode method_4_code 30 = .ok (.iconst 0, 1) := by decide +kernel
theorem d23_31 : decode method_4_code 31 = .ok (.invokevirtual 35, 3) := by decide +kernel
theorem d23_34 : decode method_4_code 34 = .ok (.aload_n 1, 1) := by decide +kernel
theorem d23_35 : decode method_4_code 35 = .ok (.iload_n 2, 1) := by decide +kernel
theorem d23_36 : decode method_4_code 36 = .ok (.caload, 1) := by decide +kernel
theorem d23_37 : decode method_4_code 37 = .ok (.if_icmp .ne 7, 3) := by decide +kernel
theorem d23_40 : decode method_4_code 40 = .ok (.iconst 1, 1) := by decide +kernel
theorem d23_41 : decode method_4_code 41 = .ok (.goto 4, 3) := by decide +kernel
theorem d23_45 : decode method_4_code 45 = .ok (.istore 5, 2) := by decide +kernel
theorem d23_47 : decode method_4_code 47 = .ok (.iload 4, 2) := by decide +kernel
theorem d23_49 : decode method_4_code 49 = .ok (.iconst 1, 1) := by decide +kernel
theorem d23_50 : decode method_4_code 50 = .ok (.if_icmp .le 28, 3) := by decide +kernel
theorem d23_53 : decode method_4_code 53 = .ok (.iload 5, 2) := by decide +kernel
theorem d23_55 : decode method_4_code 55 = .ok (.ifCond .eq 20, 3) := by decide +kernel
theorem d23_58 : decode method_4_code 58 = .ok (.aload_n 0, 1) := by decide +kernel
theorem d23_59 : decode method_4_code 59 = .ok (.iconst 1, 1) := by decide +kernel
theorem d23_60 : decode method_4_code 60 = .ok (.invokevirtual 35, 3) := by decide +kernel
theorem d23_63 : decode method_4_code 63 = .ok (.aload_n 1, 1) := by decide +kernel
theorem d23_64 : decode method_4_code 64 = .ok (.iload_n 2, 1) := by decide +kernel
theorem d23_65 : decode method_4_code 65 = .ok (.iconst 1, 1) := by decide +kernel
theorem d23_66 : decode method_4_code 66 = .ok (.iadd, 1) := by decide +kernel
theorem d23_67 : decode method_4_code 67 = .ok (.caload, 1) := by decide +kernel
theorem d23_68 : decode method_4_code 68 = .ok (.if_icmp .ne 7, 3) := by decide +kernel
theorem d23_71 : decode method_4_code 71 = .ok (.iconst 1, 1) := by decide +kernel
theorem d23_72 : decode method_4_code 72 = .ok (.goto 4, 3) := by decide +kernel
theorem d23_76 : decode method_4_code 76 = .ok (.istore 5, 2) := by decide +kernel
theorem d23_78 : decode method_4_code 78 = .ok (.iload 4, 2) := by decide +kernel
theorem d23_80 : decode method_4_code 80 = .ok (.iconst 2, 1) := by decide +kernel
theorem d23_81 : decode method_4_code 81 = .ok (.if_icmp .le 28, 3) := by decide +kernel
theorem d23_84 : decode method_4_code 84 = .ok (.iload 5, 2) := by decide +kernel
theorem d23_86 : decode method_4_code 86 = .ok (.ifCond .eq 20, 3) := by decide +kernel
theorem d23_89 : decode method_4_code 89 = .ok (.aload_n 0, 1) := by decide +kernel
theorem d23_90 : decode method_4_code 90 = .ok (.iconst 2, 1) := by decide +kernel
theorem d23_91 : decode method_4_code 91 = .ok (.invokevirtual 35, 3) := by decide +kernel
theorem d23_94 : decode method_4_code 94 = .ok (.aload_n 1, 1) := by decide +kernel
theorem d23_95 : decode method_4_code 95 = .ok (.iload_n 2, 1) := by decide +kernel
theorem d23_96 : decode method_4_code 96 = .ok (.iconst 2, 1) := by decide +kernel
theorem d23_97 : decode method_4_code 97 = .ok (.iadd, 1) := by decide +kernel
theorem d23_98 : decode method_4_code 98 = .ok (.caload, 1) := by decide +kernel
theorem d23_99 : decode method_4_code 99 = .ok (.if_icmp .ne 7, 3) := by decide +kernel
theorem d23_102 : decode method_4_code 102 = .ok (.iconst 1, 1) := by decide +kernel
theorem d23_103 : decode method_4_code 103 = .ok (.goto 4, 3) := by decide +kernel
theorem d23_107 : decode method_4_code 107 = .ok (.istore 5, 2) := by decide +kernel
theorem d23_109 : decode method_4_code 109 = .ok (.iload 4, 2) := by decide +kernel
theorem d23_111 : decode method_4_code 111 = .ok (.iconst 3, 1) := by decide +kernel
theorem d23_112 : decode method_4_code 112 = .ok (.if_icmp .le 28, 3) := by decide +kernel
theorem d23_115 : decode method_4_code 115 = .ok (.iload 5, 2) := by decide +kernel
theorem d23_117 : decode method_4_code 117 = .ok (.ifCond .eq 20, 3) := by decide +kernel
theorem d23_120 : decode method_4_code 120 = .ok (.aload_n 0, 1) := by decide +kernel
theorem d23_121 : decode method_4_code 121 = .ok (.iconst 3, 1) := by decide +kernel
theorem d23_122 : decode method_4_code 122 = .ok (.invokevirtual 35, 3) := by decide +kernel
theorem d23_125 : decode method_4_code 125 = .ok (.aload_n 1, 1) := by decide +kernel
theorem d23_126 : decode method_4_code 126 = .ok (.iload_n 2, 1) := by decide +kernel
theorem d23_127 : decode method_4_code 127 = .ok (.iconst 3, 1) := by decide +kernel
theorem d23_128 : decode method_4_code 128 = .ok (.iadd, 1) := by decide +kernel
theorem d23_129 : decode method_4_code 129 = .ok (.caload, 1) := by decide +kernel
theorem d23_130 : decode method_4_code 130 = .ok (.if_icmp .ne 7, 3) := by decide +kernel
theorem d23_133 : decode method_4_code 133 = .ok (.iconst 1, 1) := by decide +kernel
theorem d23_134 : decode method_4_code 134 = .ok (.goto 4, 3) := by decide +kernel
theorem d23_138 : decode method_4_code 138 = .ok (.istore 5, 2) := by decide +kernel
theorem d23_140 : decode method_4_code 140 = .ok (.iload 4, 2) := by decide +kernel
theorem d23_142 : decode method_4_code 142 = .ok (.iconst 4, 1) := by decide +kernel
theorem d23_143 : decode method_4_code 143 = .ok (.if_icmp .le 28, 3) := by decide +kernel
theorem d23_146 : decode method_4_code 146 = .ok (.iload 5, 2) := by decide +kernel
theorem d23_148 : decode method_4_code 148 = .ok (.ifCond .eq 20, 3) := by decide +kernel
theorem d23_151 : decode method_4_code 151 = .ok (.aload_n 0, 1) := by decide +kernel
theorem d23_152 : decode method_4_code 152 = .ok (.iconst 4, 1) := by decide +kernel
theorem d23_153 : decode method_4_code 153 = .ok (.invokevirtual 35, 3) := by decide +kernel
theorem d23_156 : decode method_4_code 156 = .ok (.aload_n 1, 1) := by decide +kernel
theorem d23_157 : decode method_4_code 157 = .ok (.iload_n 2, 1) := by decide +kernel
theorem d23_158 : decode method_4_code 158 = .ok (.iconst 4, 1) := by decide +kernel
theorem d23_159 : decode method_4_code 159 = .ok (.iadd, 1) := by decide +kernel
theorem d23_160 : decode method_4_code 160 = .ok (.caload, 1) := by decide +kernel
theorem d23_161 : decode method_4_code 161 = .ok (.if_icmp .ne 7, 3) := by decide +kernel
theorem d23_164 : decode method_4_code 164 = .ok (.iconst 1, 1) := by decide +kernel
theorem d23_165 : decode method_4_code 165 = .ok (.goto 4, 3) := by decide +kernel
theorem d23_169 : decode method_4_code 169 = .ok (.istore 5, 2) := by decide +kernel
theorem d23_171 : decode method_4_code 171 = .ok (.iload 4, 2) := by decide +kernel
theorem d23_173 : decode method_4_code 173 = .ok (.iconst 5, 1) := by decide +kernel
theorem d23_174 : decode method_4_code 174 = .ok (.if_icmp .le 28, 3) := by decide +kernel
theorem d23_177 : decode method_4_code 177 = .ok (.iload 5, 2) := by decide +kernel
theorem d23_179 : decode method_4_code 179 = .ok (.ifCond .eq 20, 3) := by decide +kernel
theorem d23_182 : decode method_4_code 182 = .ok (.aload_n 0, 1) := by decide +kernel
theorem d23_183 : decode method_4_code 183 = .ok (.iconst 5, 1) := by decide +kernel
theorem d23_184 : decode method_4_code 184 = .ok (.invokevirtual 35, 3) := by decide +kernel
theorem d23_187 : decode method_4_code 187 = .ok (.aload_n 1, 1) := by decide +kernel
theorem d23_188 : decode method_4_code 188 = .ok (.iload_n 2, 1) := by decide +kernel
theorem d23_189 : decode method_4_code 189 = .ok (.iconst 5, 1) := by decide +kernel
theorem d23_190 : decode method_4_code 190 = .ok (.iadd, 1) := by decide +kernel
theorem d23_191 : decode method_4_code 191 = .ok (.caload, 1) := by decide +kernel
theorem d23_192 : decode method_4_code 192 = .ok (.if_icmp .ne 7, 3) := by decide +kernel
theorem d23_195 : decode method_4_code 195 = .ok (.iconst 1, 1) := by decide +kernel
theorem d23_196 : decode method_4_code 196 = .ok (.goto 4, 3) := by decide +kernel
theorem d23_200 : decode method_4_code 200 = .ok (.istore 5, 2) := by decide +kernel
theorem d23_202 : decode method_4_code 202 = .ok (.iload 4, 2) := by decide +kernel
theorem d23_204 : decode method_4_code 204 = .ok (.bipush 6, 2) := by decide +kernel
theorem d23_206 : decode method_4_code 206 = .ok (.if_icmp .le 30, 3) := by decide +kernel
theorem d23_209 : decode method_4_code 209 = .ok (.iload 5, 2) := by decide +kernel
theorem d23_211 : decode method_4_code 211 = .ok (.ifCond .eq 22, 3) := by decide +kernel
theorem d23_214 : decode method_4_code 214 = .ok (.aload_n 0, 1) := by decide +kernel
theorem d23_215 : decode method_4_code 215 = .ok (.bipush 6, 2) := by decide +kernel
theorem d23_217 : decode method_4_code 217 = .ok (.invokevirtual 35, 3) := by decide +kernel
theorem d23_220 : decode method_4_code 220 = .ok (.aload_n 1, 1) := by decide +kernel
theorem d23_221 : decode method_4_code 221 = .ok (.iload_n 2, 1) := by decide +kernel
theorem d23_222 : decode method_4_code 222 = .ok (.bipush 6, 2) := by decide +kernel
theorem d23_224 : decode method_4_code 224 = .ok (.iadd, 1) := by decide +kernel
theorem d23_225 : decode method_4_code 225 = .ok (.caload, 1) := by decide +kernel
theorem d23_226 : decode method_4_code 226 = .ok (.if_icmp .ne 7, 3) := by decide +kernel
theorem d23_229 : decode method_4_code 229 = .ok (.iconst 1, 1) := by decide +kernel
theorem d23_230 : decode method_4_code 230 = .ok (.goto 4, 3) := by decide +kernel
theorem d23_234 : decode method_4_code 234 = .ok (.istore 5, 2) := by decide +kernel
theorem d23_236 : decode method_4_code 236 = .ok (.iload 5, 2) := by decide +kernel
theorem d23_238 : decode method_4_code 238 = .ok (.ireturn, 1) := by decide +kernel
theorem ef_sm (m : MethodId) (b : Addr) (tc : Addr) (st : Nat) (en : Nat) : entryFrame m #[(.ref b), (.ref tc), (.int (Int32.ofNat st)), (.int (Int32.ofNat en))] 6 = mkF m 0 #[.val (.ref b), .val (.ref tc), .val (.int (Int32.ofNat st)), .val (.int (Int32.ofNat en)), .unset, .unset] [] := by first | (simp [entryFrame, mkF, argsToLocals, Value.category]; done) | rfl
def Q_sm (Z : State) (b : Addr) (t : Addr) (k : ClassId) (ds : List Int32) (tc : Addr) (kc : ClassId) (v0 : Int32) (v1 : Int32) (v2 : Int32) (v3 : Int32) (v4 : Int32) (v5 : Int32) (v6 : Int32) (v7 : Int32) (st : Nat) (en : Nat) (G1 : Int32) (G3 : Value) (h0 : Heap) (n0 : Nat) (v : Option Value) (h : Heap) (L : List Loc) : Prop := (v = some (.int 1) ∧ Fr n0 L ∧ h = h0)
set_option maxRecDepth 65536 in
set_option maxHeartbeats 40000000 in
theorem rm_sm (l : Launch) (Z : State) (a0 : Array Value) (hw : ∀ d ∈ tables_1, d.before a0 Z = true) (ws : List Jvm.Cond) (b : Addr) (t : Addr) (k : ClassId) (ds : List Int32) (tc : Addr) (kc : ClassId) (v0 : Int32) (v1 : Int32) (v2 : Int32) (v3 : Int32) (v4 : Int32) (v5 : Int32) (v6 : Int32) (v7 : Int32) (st : Nat) (en : Nat) (G1 : Int32) (G3 : Value) (h0 : Heap) (n0 : Nat) (Z0 : n0 ≤ h0.size) (pf0 : Exa Z h0 b "java/lang/String") (pf1 : Fld Z h0 b "java/lang/String" "coder" "B" (.int 0)) (pf2 : Fld Z h0 b "java/lang/String" "value" "[B" (.ref t)) (pf3 : Arv Z h0 t k .byte (Int32.ofNat ds.length) ((ds.map (fun c => c.toInt8.toInt32)).map Value.int) (.int 0)) (pf4 : Arv Z h0 tc kc .char (8 : Int32) [(.int v0), (.int v1), (.int v2), (.int v3), (.int v4), (.int v5), (.int v6), (.int v7)] (.int 0)) (pf5 : Old Z n0 h0) (hr : Rng ds) (hl : ds.length ≤ 8) (hse : st ≤ en) (hen : en ≤ 8) (hdl : ds.length = en - st) (hcm : ∀ j, j < ds.length → ds.getD j 0 = ([v0, v1, v2, v3, v4, v5, v6, v7] : List Int32).getD (st + j) 0) (O2 : Sta Z Z.heap "java/lang/String" "COMPACT_STRINGS" "Z" (.int G1)) (P5 : ¬ (G1 = (0 : Int32))) (O4 : Sta Z Z.heap "jdk/internal/util/Preconditions" "SIOOBE_FORMATTER" "Ljava/util/function/BiFunction;" G3) (rG3 : G3.isRef = true) :
    MetFree l (⟨"com/example/lean_connector/leanconnector/server/FieldReaderUpToPinLaw", "same", "(Ljava/lang/String;[CII)Z"⟩ : MethodName) (head1 (Jvm.Cond.code (⟨"com/example/lean_connector/leanconnector/server/FieldReaderUpToPinLaw", "same", "(Ljava/lang/String;[CII)Z"⟩ : MethodName) method_4_code 6 (some .boolean) :: ws) ({ frames := 4, cells := 0, slots := 0, locals := 53 } : Room)) (fun aa U => aa = #[(.ref b), (.ref tc), (.int (Int32.ofNat st)), (.int (Int32.ofNat en))] ∧ Z.Warmed39 U.vm ∧ U.heap = h0) (fun _ _ _ _ _ => True) (fun _ U o U' => ∃ v L, o = .returned v ∧ Q_sm Z b t k ds tc kc v0 v1 v2 v3 v4 v5 v6 v7 st en G1 G3 h0 n0 v U'.heap L ∧ FrameEnd U o U' L ({ frames := 4, cells := 0, slots := 0, locals := 53 } : Room).cells ({ frames := 4, cells := 0, slots := 0, locals := 53 } : Room).slots) := by
  refine MetFree.of_bodySF (plainFor_of_name pn_com_example_lean_connector_leanconnector_server_FieldReaderUpToPinLaw) hisR ?_
  intro p e s m args below meth c s₁ Bd hml0 hP hK
  obtain ⟨rfl, hZ, hh⟩ := hP
  have hx := Bd.exec
  have hby := Bd.bytes
  have hlk : meth.locks = false := BodyLoose.notSynchronized Bd
  have hml : c.maxLocals = 6 := hml0
  have hown : s.vm.findClass "com/example/lean_connector/leanconnector/server/FieldReaderUpToPinLaw" = some m.cls := findClass_of_methodNamed Bd.named
  have hnm := (name_of_methodNamed Bd.named Bd.method).1
  have X0 : Stand p l e ({ frames := 4, cells := 0, slots := 0, locals := 53 } : Room) s m #[(.ref b), (.ref tc), (.int (Int32.ofNat st)), (.int (Int32.ofNat en))] below meth c s₁ [] 0 0 := Stand.of_body Bd
  have e0 : s₁.heap = h0 := by rw [← hh, Bd.state]; rfl
  have N0 := Fr.nil n0
  show Gl p.tables e below (EndN s (Q_sm Z b t k ds tc kc v0 v1 v2 v3 v4 v5 v6 v7 st en G1 G3 h0 n0) ({ frames := 4, cells := 0, slots := 0, locals := 53 } : Room).cells ({ frames := 4, cells := 0, slots := 0, locals := 53 } : Room).slots) _
  refine Gl.cast (ef_sm m b tc st en) ?_
  show Gl p.tables e below _ (s₁.setTop (mkF m 0 #[.val (.ref b), .val (.ref tc), .val (.int (Int32.ofNat st)), .val (.int (Int32.ofNat en)), .unset, .unset] []))
  refine Gl.st (fun _ kq => XS.iloadN X0.here hx rfl (hb hby d23_0) rfl kq) ?_
  show Gl p.tables e below _ (s₁.setTop (mkF m 1 #[.val (.ref b), .val (.ref tc), .val (.int (Int32.ofNat st)), .val (.int (Int32.ofNat en)), .unset, .unset] [(.int (Int32.ofNat en))]))
  refine Gl.st (fun _ kq => XS.iloadN X0.here hx rfl (hb hby d23_1) rfl kq) ?_
  show Gl p.tables e below _ (s₁.setTop (mkF m 2 #[.val (.ref b), .val (.ref tc), .val (.int (Int32.ofNat st)), .val (.int (Int32.ofNat en)), .unset, .unset] [(.int (Int32.ofNat st)), (.int (Int32.ofNat en))]))
  refine Gl.st (fun _ kq => XS.isub X0.here hx rfl (hb hby d23_2) rfl kq) ?_
  show Gl p.tables e below _ (s₁.setTop (mkF m 3 #[.val (.ref b), .val (.ref tc), .val (.int (Int32.ofNat st)), .val (.int (Int32.ofNat en)), .unset, .unset] [(.int ((Int32.ofNat en) - (Int32.ofNat st)))]))
  rw [n32_sub (i := en) (j := st) hse]
  show Gl p.tables e below _ (s₁.setTop (mkF m 3 #[.val (.ref b), .val (.ref tc), .val (.int (Int32.ofNat st)), .val (.int (Int32.ofNat en)), .unset, .unset] [(.int (Int32.ofNat (en - st)))]))
  refine Gl.st (fun _ kq => XS.istore X0.here hx rfl (hb hby d23_3) rfl (l' := #[.val (.ref b), .val (.ref tc), .val (.int (Int32.ofNat st)), .val (.int (Int32.ofNat en)), .val (.int (Int32.ofNat (en - st))), .unset]) rfl kq) ?_
  show Gl p.tables e below _ (s₁.setTop (mkF m 5 #[.val (.ref b), .val (.ref tc), .val (.int (Int32.ofNat st)), .val (.int (Int32.ofNat en)), .val (.int (Int32.ofNat (en - st))), .unset] []))
  refine Gl.st (fun _ kq => XS.aloadN X0.here hx rfl (hb hby d23_5) rfl rfl kq) ?_
  show Gl p.tables e below _ (s₁.setTop (mkF m 6 #[.val (.ref b), .val (.ref tc), .val (.int (Int32.ofNat st)), .val (.int (Int32.ofNat en)), .val (.int (Int32.ofNat (en - st))), .unset] [(.ref b)]))
  obtain ⟨cq1, kq1, q1a, q1b, q1c⟩ := isOf hZ e0 pf0
  obtain ⟨_, _, ⟨T1, L1, k1, n1⟩, -, X1, ⟨Lc1, hQ1, l1, y1, z1⟩, st1⟩ := X0.virtualBack hx (y := (⟨"java/lang/String", "length", "()I"⟩ : MethodName)) (z := (⟨"java/lang/String", "length", "()I"⟩ : MethodName)) hown (mvT hZ (tw hw 109 rfl)) (mvT hZ (tw hw 61 rfl)) (notFace_of_selects (args := #[]) (mvT hZ (tw hw 63 rfl))) (mvT hZ (tw hw 63 rfl)) (mvT hZ (tw hw 62 rfl)) (by decide) (StrChars.Road.lenW (W := 0) hZ (wdLen hw) (kI := 4) (tw hw 5 rfl) pf0 pf2 pf1 pf3 (StrChars.Road.codOf (cs := ds) rfl (fun x hx => (hr x hx).2)) (up255 _ hr) (O2.ext pf5.2) P5 (Nat.le_trans hl (by decide)) (by decide) (by decide)) q1a q1c (g := (mkF m 6 #[.val (.ref b), .val (.ref tc), .val (.int (Int32.ofNat st)), .val (.int (Int32.ofNat en)), .val (.int (Int32.ofNat (en - st))), .unset] [(.ref b)])) rfl (by rw [hml]; rfl) (Steps.refl _) (argsL := []) (rest := []) (lenOf pd___I rfl) rfl (by show 2 * 0 + _ ≤ _; exact Nat.le_of_eq rfl) (hb hby d23_6) (fun _ _ => ⟨rfl, e0, (by decide : 0 + 0 ≤ _), (by decide : 0 + 0 ≤ _)⟩)
  dsimp only [Pt.U, Pt.locs, Pt.cells, Pt.slots] at X1 l1 y1 z1 st1 hQ1
  subst l1 y1 z1
  obtain ⟨rfl, rfl, e1⟩ := hQ1
  have N1 : Fr n0 ([] : List Loc) := Fr.nil n0
  have M1 := Fr.app N0 N1
  refine Gl.to st1 ?_
  show Gl p.tables e below _ (T1.setTop (mkF m 9 #[.val (.ref b), .val (.ref tc), .val (.int (Int32.ofNat st)), .val (.int (Int32.ofNat en)), .val (.int (Int32.ofNat (en - st))), .unset] [(.int (Int32.ofNat ds.length))]))
  show Gl p.tables e below _ (T1.setTop (mkF m 9 #[.val (.ref b), .val (.ref tc), .val (.int (Int32.ofNat st)), .val (.int (Int32.ofNat en)), .val (.int (Int32.ofNat (en - st))), .unset] [(.int (Int32.ofNat ds.length))]))
  refine Gl.st (fun _ kq => XS.iload X1.here hx rfl (hb hby d23_9) rfl kq) ?_
  show Gl p.tables e below _ (T1.setTop (mkF m 11 #[.val (.ref b), .val (.ref tc), .val (.int (Int32.ofNat st)), .val (.int (Int32.ofNat en)), .val (.int (Int32.ofNat (en - st))), .unset] [(.int (Int32.ofNat (en - st))), (.int (Int32.ofNat ds.length))]))
  refine Gl.st (fun _ kq => XS.icmpYes X1.here hx rfl (pc0 := 11) (pc' := 16) rfl (hb hby d23_11) rfl (teq ((congrArg Int32.ofNat hdl) : (Int32.ofNat ds.length) = (Int32.ofNat (en - st)))).1 (by decide) (by decide) kq) ?_
  show Gl p.tables e below _ (T1.setTop (mkF m 16 #[.val (.ref b), .val (.ref tc), .val (.int (Int32.ofNat st)), .val (.int (Int32.ofNat en)), .val (.int (Int32.ofNat (en - st))), .unset] []))
  refine Gl.st (fun _ kq => XS.iconst X1.here hx rfl (hb hby d23_16) kq) ?_
  show Gl p.tables e below _ (T1.setTop (mkF m 17 #[.val (.ref b), .val (.ref tc), .val (.int (Int32.ofNat st)), .val (.int (Int32.ofNat en)), .val (.int (Int32.ofNat (en - st))), .unset] [(.int 1)]))
  refine Gl.st (fun _ kq => XS.istore X1.here hx rfl (hb hby d23_17) rfl (l' := #[.val (.ref b), .val (.ref tc), .val (.int (Int32.ofNat st)), .val (.int (Int32.ofNat en)), .val (.int (Int32.ofNat (en - st))), .val (.int 1)]) rfl kq) ?_
  show Gl p.tables e below _ (T1.setTop (mkF m 19 #[.val (.ref b), .val (.ref tc), .val (.int (Int32.ofNat st)), .val (.int (Int32.ofNat en)), .val (.int (Int32.ofNat (en - st))), .val (.int 1)] []))
  refine Gl.st (fun _ kq => XS.iload X1.here hx rfl (hb hby d23_19) rfl kq) ?_
  show Gl p.tables e below _ (T1.setTop (mkF m 21 #[.val (.ref b), .val (.ref tc), .val (.int (Int32.ofNat st)), .val (.int (Int32.ofNat en)), .val (.int (Int32.ofNat (en - st))), .val (.int 1)] [(.int (Int32.ofNat (en - st)))]))
  by_cases hc2 : (0 : Int32) < (Int32.ofNat (en - st))
  · refine Gl.st (fun _ kq => XS.ifNo X1.here hx rfl (hb hby d23_21) rfl ((if0 _ _).trans (tlt (hc2 : (0 : Int32) < (Int32.ofNat (en - st)))).2.2.2) kq) ?_
    show Gl p.tables e below _ (T1.setTop (mkF m 24 #[.val (.ref b), .val (.ref tc), .val (.int (Int32.ofNat st)), .val (.int (Int32.ofNat en)), .val (.int (Int32.ofNat (en - st))), .val (.int 1)] []))
    refine Gl.st (fun _ kq => XS.iload X1.here hx rfl (hb hby d23_24) rfl kq) ?_
    show Gl p.tables e below _ (T1.setTop (mkF m 26 #[.val (.ref b), .val (.ref tc), .val (.int (Int32.ofNat st)), .val (.int (Int32.ofNat en)), .val (.int (Int32.ofNat (en - st))), .val (.int 1)] [(.int 1)]))
    refine Gl.st (fun _ kq => XS.ifNo X1.here hx rfl (hb hby d23_26) rfl ((if0 _ _).trans (feq ((by decide) : ¬ ((1 : Int32) = (0 : Int32)))).1) kq) ?_
    show Gl p.tables e below _ (T1.setTop (mkF m 29 #[.val (.ref b), .val (.ref tc), .val (.int (Int32.ofNat st)), .val (.int (Int32.ofNat en)), .val (.int (Int32.ofNat (en - st))), .val (.int 1)] []))
    refine Gl.st (fun _ kq => XS.aloadN X1.here hx rfl (hb hby d23_29) rfl rfl kq) ?_
    show Gl p.tables e below _ (T1.setTop (mkF m 30 #[.val (.ref b), .val (.ref tc), .val (.int (Int32.ofNat st)), .val (.int (Int32.ofNat en)), .val (.int (Int32.ofNat (en - st))), .val (.int 1)] [(.ref b)]))
    refine Gl.st (fun _ kq => XS.iconst X1.here hx rfl (hb hby d23_30) kq) ?_
    show Gl p.tables e below _ (T1.setTop (mkF m 31 #[.val (.ref b), .val (.ref tc), .val (.int (Int32.ofNat st)), .val (.int (Int32.ofNat en)), .val (.int (Int32.ofNat (en - st))), .val (.int 1)] [(.int 0), (.ref b)]))
    obtain ⟨cq3, kq3, q3a, q3b, q3c⟩ := isOf hZ e1 pf0
    obtain ⟨_, _, ⟨T3, L3, k3, n3⟩, -, X3, ⟨Lc3, hQ3, l3, y3, z3⟩, st3⟩ := X1.virtualBack hx (y := (⟨"java/lang/String", "charAt", "(I)C"⟩ : MethodName)) (z := (⟨"java/lang/String", "charAt", "(I)C"⟩ : MethodName)) hown (mvT hZ (tw hw 129 rfl)) (mvT hZ (tw hw 130 rfl)) (notFace_of_selects (args := #[]) (mvT hZ (tw hw 132 rfl))) (mvT hZ (tw hw 132 rfl)) (mvT hZ (tw hw 131 rfl)) (by decide) (StrChars.Road.chN (W := 0) hZ (wdCh hw) (kI := 4) (tw hw 5 rfl) pf0 pf2 pf1 pf3 (StrChars.Road.codOf (cs := ds) rfl (fun x hx => (hr x hx).2)) (up255 _ hr) (O2.ext pf5.2) P5 (O4.ext pf5.2) rG3 (Nat.le_trans hl (by decide)) (i := 0) (by have q1 := (n32_lt (i := 0) (j := en - st) (by omega) (by omega)).mp hc2; omega) (j := (0 : Int32)) rfl (by decide) (by decide)) q3a q3c (g := (mkF m 31 #[.val (.ref b), .val (.ref tc), .val (.int (Int32.ofNat st)), .val (.int (Int32.ofNat en)), .val (.int (Int32.ofNat (en - st))), .val (.int 1)] [(.int 0), (.ref b)])) rfl (by rw [hml]; rfl) (Steps.refl _) (argsL := [(.int 0)]) (rest := []) (lenOf pd__I_C rfl) rfl (by show 2 * 0 + _ ≤ _; exact Nat.le_of_eq rfl) (hb hby d23_31) (fun _ _ => ⟨rfl, e1, (by decide : 0 + 0 ≤ _), (by decide : 0 + 0 ≤ _)⟩)
    dsimp only [Pt.U, Pt.locs, Pt.cells, Pt.slots] at X3 l3 y3 z3 st3 hQ3
    subst l3 y3 z3
    obtain ⟨rfl, rfl, e3⟩ := hQ3
    have N3 : Fr n0 ([] : List Loc) := Fr.nil n0
    have M3 := Fr.app M1 N3
    refine Gl.to st3 ?_
    show Gl p.tables e below _ (T3.setTop (mkF m 34 #[.val (.ref b), .val (.ref tc), .val (.int (Int32.ofNat st)), .val (.int (Int32.ofNat en)), .val (.int (Int32.ofNat (en - st))), .val (.int 1)] [(.int (ds.getD 0 0))]))
    show Gl p.tables e below _ (T3.setTop (mkF m 34 #[.val (.ref b), .val (.ref tc), .val (.int (Int32.ofNat st)), .val (.int (Int32.ofNat en)), .val (.int (Int32.ofNat (en - st))), .val (.int 1)] [(.int (ds.getD 0 0))]))
    refine Gl.st (fun _ kq => XS.aloadN X3.here hx rfl (hb hby d23_34) rfl rfl kq) ?_
    show Gl p.tables e below _ (T3.setTop (mkF m 35 #[.val (.ref b), .val (.ref tc), .val (.int (Int32.ofNat st)), .val (.int (Int32.ofNat en)), .val (.int (Int32.ofNat (en - st))), .val (.int 1)] [(.ref tc), (.int (ds.getD 0 0))]))
    refine Gl.st (fun _ kq => XS.iloadN X3.here hx rfl (hb hby d23_35) rfl kq) ?_
    show Gl p.tables e below _ (T3.setTop (mkF m 36 #[.val (.ref b), .val (.ref tc), .val (.int (Int32.ofNat st)), .val (.int (Int32.ofNat en)), .val (.int (Int32.ofNat (en - st))), .val (.int 1)] [(.int (Int32.ofNat st)), (.ref tc), (.int (ds.getD 0 0))]))
    obtain ⟨c4, a4, q4, S4, M4, H4, G4⟩ := id pf4
    refine Gl.st (fun _ kq => X3.caload hx (j := (Int32.ofNat st)) (v := (.int (([v0, v1, v2, v3, v4, v5, v6, v7] : List Int32).getD (st + 0) 0))) (by rw [e3]; exact a4.1) (State.isArrayOf_alike hZ.alike a4.2.1) a4.2.2 (inb_of S4 ⟨n32_nn (by omega), n32_plt (i := st) (j := 8) (by have q1 := (n32_lt (i := 0) (j := en - st) (by omega) (by omega)).mp hc2; omega) (by omega)⟩) (Has.at H4 (inb_of S4 ⟨n32_nn (by omega), n32_plt (i := st) (j := 8) (by have q1 := (n32_lt (i := 0) (j := en - st) (by omega) (by omega)).mp hc2; omega) (by omega)⟩) (by rw [n32_cl (by omega)]; exact ld8 (by have q1 := (n32_lt (i := 0) (j := en - st) (by omega) (by omega)).mp hc2; omega))) (g := (mkF m 36 #[.val (.ref b), .val (.ref tc), .val (.int (Int32.ofNat st)), .val (.int (Int32.ofNat en)), .val (.int (Int32.ofNat (en - st))), .val (.int 1)] [(.int (Int32.ofNat st)), (.ref tc), (.int (ds.getD 0 0))])) rfl rfl (hb hby d23_36) _ kq) ?_
    show Gl p.tables e below _ (T3.setTop (mkF m 37 #[.val (.ref b), .val (.ref tc), .val (.int (Int32.ofNat st)), .val (.int (Int32.ofNat en)), .val (.int (Int32.ofNat (en - st))), .val (.int 1)] [(.int (([v0, v1, v2, v3, v4, v5, v6, v7] : List Int32).getD (st + 0) 0)), (.int (ds.getD 0 0))]))
    refine Gl.st (fun _ kq => XS.icmpNo X3.here hx rfl (hb hby d23_37) rfl (teq ((hcm 0 (by have q1 := (n32_lt (i := 0) (j := en - st) (by omega) (by omega)).mp hc2; omega)) : (ds.getD 0 0) = (([v0, v1, v2, v3, v4, v5, v6, v7] : List Int32).getD (st + 0) 0))).2 kq) ?_
    show Gl p.tables e below _ (T3.setTop (mkF m 40 #[.val (.ref b), .val (.ref tc), .val (.int (Int32.ofNat st)), .val (.int (Int32.ofNat en)), .val (.int (Int32.ofNat (en - st))), .val (.int 1)] []))
    refine Gl.st (fun _ kq => XS.iconst X3.here hx rfl (hb hby d23_40) kq) ?_
    show Gl p.tables e below _ (T3.setTop (mkF m 41 #[.val (.ref b), .val (.ref tc), .val (.int (Int32.ofNat st)), .val (.int (Int32.ofNat en)), .val (.int (Int32.ofNat (en - st))), .val (.int 1)] [(.int 1)]))
    refine Gl.st (fun _ kq => XS.goto X3.here hx rfl (pc0 := 41) (pc' := 45) rfl (hb hby d23_41) (by decide) (by decide) kq) ?_
    show Gl p.tables e below _ (T3.setTop (mkF m 45 #[.val (.ref b), .val (.ref tc), .val (.int (Int32.ofNat st)), .val (.int (Int32.ofNat en)), .val (.int (Int32.ofNat (en - st))), .val (.int 1)] [(.int 1)]))
    refine Gl.st (fun _ kq => XS.istore X3.here hx rfl (hb hby d23_45) rfl (l' := #[.val (.ref b), .val (.ref tc), .val (.int (Int32.ofNat st)), .val (.int (Int32.ofNat en)), .val (.int (Int32.ofNat (en - st))), .val (.int 1)]) rfl kq) ?_
    show Gl p.tables e below _ (T3.setTop (mkF m 47 #[.val (.ref b), .val (.ref tc), .val (.int (Int32.ofNat st)), .val (.int (Int32.ofNat en)), .val (.int (Int32.ofNat (en - st))), .val (.int 1)] []))
    refine Gl.st (fun _ kq => XS.iload X3.here hx rfl (hb hby d23_47) rfl kq) ?_
    show Gl p.tables e below _ (T3.setTop (mkF m 49 #[.val (.ref b), .val (.ref tc), .val (.int (Int32.ofNat st)), .val (.int (Int32.ofNat en)), .val (.int (Int32.ofNat (en - st))), .val (.int 1)] [(.int (Int32.ofNat (en - st)))]))
    refine Gl.st (fun _ kq => XS.iconst X3.here hx rfl (hb hby d23_49) kq) ?_
    show Gl p.tables e below _ (T3.setTop (mkF m 50 #[.val (.ref b), .val (.ref tc), .val (.int (Int32.ofNat st)), .val (.int (Int32.ofNat en)), .val (.int (Int32.ofNat (en - st))), .val (.int 1)] [(.int 1), (.int (Int32.ofNat (en - st)))]))
    by_cases hc5 : (1 : Int32) < (Int32.ofNat (en - st))
    · refine Gl.st (fun _ kq => XS.icmpNo X3.here hx rfl (hb hby d23_50) rfl (tlt (hc5 : (1 : Int32) < (Int32.ofNat (en - st)))).2.2.2 kq) ?_
      show Gl p.tables e below _ (T3.setTop (mkF m 53 #[.val (.ref b), .val (.ref tc), .val (.int (Int32.ofNat st)), .val (.int (Int32.ofNat en)), .val (.int (Int32.ofNat (en - st))), .val (.int 1)] []))
      refine Gl.st (fun _ kq => XS.iload X3.here hx rfl (hb hby d23_53) rfl kq) ?_
      show Gl p.tables e below _ (T3.setTop (mkF m 55 #[.val (.ref b), .val (.ref tc), .val (.int (Int32.ofNat st)), .val (.int (Int32.ofNat en)), .val (.int (Int32.ofNat (en - st))), .val (.int 1)] [(.int 1)]))
      refine Gl.st (fun _ kq => XS.ifNo X3.here hx rfl (hb hby d23_55) rfl ((if0 _ _).trans (feq ((by decide) : ¬ ((1 : Int32) = (0 : Int32)))).1) kq) ?_
      show Gl p.tables e below _ (T3.setTop (mkF m 58 #[.val (.ref b), .val (.ref tc), .val (.int (Int32.ofNat st)), .val (.int (Int32.ofNat en)), .val (.int (Int32.ofNat (en - st))), .val (.int 1)] []))
      refine Gl.st (fun _ kq => XS.aloadN X3.here hx rfl (hb hby d23_58) rfl rfl kq) ?_
      show Gl p.tables e below _ (T3.setTop (mkF m 59 #[.val (.ref b), .val (.ref tc), .val (.int (Int32.ofNat st)), .val (.int (Int32.ofNat en)), .val (.int (Int32.ofNat (en - st))), .val (.int 1)] [(.ref b)]))
      refine Gl.st (fun _ kq => XS.iconst X3.here hx rfl (hb hby d23_59) kq) ?_
      show Gl p.tables e below _ (T3.setTop (mkF m 60 #[.val (.ref b), .val (.ref tc), .val (.int (Int32.ofNat st)), .val (.int (Int32.ofNat en)), .val (.int (Int32.ofNat (en - st))), .val (.int 1)] [(.int 1), (.ref b)]))
      obtain ⟨cq6, kq6, q6a, q6b, q6c⟩ := isOf hZ e3 pf0
      obtain ⟨_, _, ⟨T6, L6, k6, n6⟩, -, X6, ⟨Lc6, hQ6, l6, y6, z6⟩, st6⟩ := X3.virtualBack hx (y := (⟨"java/lang/String", "charAt", "(I)C"⟩ : MethodName)) (z := (⟨"java/lang/String", "charAt", "(I)C"⟩ : MethodName)) hown (mvT hZ (tw hw 129 rfl)) (mvT hZ (tw hw 130 rfl)) (notFace_of_selects (args := #[]) (mvT hZ (tw hw 132 rfl))) (mvT hZ (tw hw 132 rfl)) (mvT hZ (tw hw 131 rfl)) (by decide) (StrChars.Road.chN (W := 0) hZ (wdCh hw) (kI := 4) (tw hw 5 rfl) pf0 pf2 pf1 pf3 (StrChars.Road.codOf (cs := ds) rfl (fun x hx => (hr x hx).2)) (up255 _ hr) (O2.ext pf5.2) P5 (O4.ext pf5.2) rG3 (Nat.le_trans hl (by decide)) (i := 1) (by have q1 := (n32_lt (i := 1) (j := en - st) (by omega) (by omega)).mp hc5; omega) (j := (1 : Int32)) rfl (by decide) (by decide)) q6a q6c (g := (mkF m 60 #[.val (.ref b), .val (.ref tc), .val (.int (Int32.ofNat st)), .val (.int (Int32.ofNat en)), .val (.int (Int32.ofNat (en - st))), .val (.int 1)] [(.int 1), (.ref b)])) rfl (by rw [hml]; rfl) (Steps.refl _) (argsL := [(.int 1)]) (rest := []) (lenOf pd__I_C rfl) rfl (by show 2 * 0 + _ ≤ _; exact Nat.le_of_eq rfl) (hb hby d23_60) (fun _ _ => ⟨rfl, e3, (by decide : 0 + 0 ≤ _), (by decide : 0 + 0 ≤ _)⟩)
      dsimp only [Pt.U, Pt.locs, Pt.cells, Pt.slots] at X6 l6 y6 z6 st6 hQ6
      subst l6 y6 z6
      obtain ⟨rfl, rfl, e6⟩ := hQ6
      have N6 : Fr n0 ([] : List Loc) := Fr.nil n0
      have M6 := Fr.app M3 N6
      refine Gl.to st6 ?_
      show Gl p.tables e below _ (T6.setTop (mkF m 63 #[.val (.ref b), .val (.ref tc), .val (.int (Int32.ofNat st)), .val (.int (Int32.ofNat en)), .val (.int (Int32.ofNat (en - st))), .val (.int 1)] [(.int (ds.getD 1 0))]))
      show Gl p.tables e below _ (T6.setTop (mkF m 63 #[.val (.ref b), .val (.ref tc), .val (.int (Int32.ofNat st)), .val (.int (Int32.ofNat en)), .val (.int (Int32.ofNat (en - st))), .val (.int 1)] [(.int (ds.getD 1 0))]))
      refine Gl.st (fun _ kq => XS.aloadN X6.here hx rfl (hb hby d23_63) rfl rfl kq) ?_
      show Gl p.tables e below _ (T6.setTop (mkF m 64 #[.val (.ref b), .val (.ref tc), .val (.int (Int32.ofNat st)), .val (.int (Int32.ofNat en)), .val (.int (Int32.ofNat (en - st))), .val (.int 1)] [(.ref tc), (.int (ds.getD 1 0))]))
      refine Gl.st (fun _ kq => XS.iloadN X6.here hx rfl (hb hby d23_64) rfl kq) ?_
      show Gl p.tables e below _ (T6.setTop (mkF m 65 #[.val (.ref b), .val (.ref tc), .val (.int (Int32.ofNat st)), .val (.int (Int32.ofNat en)), .val (.int (Int32.ofNat (en - st))), .val (.int 1)] [(.int (Int32.ofNat st)), (.ref tc), (.int (ds.getD 1 0))]))
      refine Gl.st (fun _ kq => XS.iconst X6.here hx rfl (hb hby d23_65) kq) ?_
      show Gl p.tables e below _ (T6.setTop (mkF m 66 #[.val (.ref b), .val (.ref tc), .val (.int (Int32.ofNat st)), .val (.int (Int32.ofNat en)), .val (.int (Int32.ofNat (en - st))), .val (.int 1)] [(.int 1), (.int (Int32.ofNat st)), (.ref tc), (.int (ds.getD 1 0))]))
      refine Gl.st (fun _ kq => XS.iadd X6.here hx rfl (hb hby d23_66) rfl kq) ?_
      show Gl p.tables e below _ (T6.setTop (mkF m 67 #[.val (.ref b), .val (.ref tc), .val (.int (Int32.ofNat st)), .val (.int (Int32.ofNat en)), .val (.int (Int32.ofNat (en - st))), .val (.int 1)] [(.int ((Int32.ofNat st) + (1 : Int32))), (.ref tc), (.int (ds.getD 1 0))]))
      rw [show Int32.ofNat st + (1 : Int32) = Int32.ofNat (st + 1) from n32_add st 1]
      show Gl p.tables e below _ (T6.setTop (mkF m 67 #[.val (.ref b), .val (.ref tc), .val (.int (Int32.ofNat st)), .val (.int (Int32.ofNat en)), .val (.int (Int32.ofNat (en - st))), .val (.int 1)] [(.int (Int32.ofNat (st + 1))), (.ref tc), (.int (ds.getD 1 0))]))
      obtain ⟨c7, a7, q7, S7, M7, H7, G7⟩ := id pf4
      refine Gl.st (fun _ kq => X6.caload hx (j := (Int32.ofNat (st + 1))) (v := (.int (([v0, v1, v2, v3, v4, v5, v6, v7] : List Int32).getD (st + 1) 0))) (by rw [e6]; exact a7.1) (State.isArrayOf_alike hZ.alike a7.2.1) a7.2.2 (inb_of S7 ⟨n32_nn (by omega), n32_plt (i := (st + 1)) (j := 8) (by have q1 := (n32_lt (i := 1) (j := en - st) (by omega) (by omega)).mp hc5; omega) (by omega)⟩) (Has.at H7 (inb_of S7 ⟨n32_nn (by omega), n32_plt (i := (st + 1)) (j := 8) (by have q1 := (n32_lt (i := 1) (j := en - st) (by omega) (by omega)).mp hc5; omega) (by omega)⟩) (by rw [n32_cl (by omega)]; exact ld8 (by have q1 := (n32_lt (i := 1) (j := en - st) (by omega) (by omega)).mp hc5; omega))) (g := (mkF m 67 #[.val (.ref b), .val (.ref tc), .val (.int (Int32.ofNat st)), .val (.int (Int32.ofNat en)), .val (.int (Int32.ofNat (en - st))), .val (.int 1)] [(.int (Int32.ofNat (st + 1))), (.ref tc), (.int (ds.getD 1 0))])) rfl rfl (hb hby d23_67) _ kq) ?_
      show Gl p.tables e below _ (T6.setTop (mkF m 68 #[.val (.ref b), .val (.ref tc), .val (.int (Int32.ofNat st)), .val (.int (Int32.ofNat en)), .val (.int (Int32.ofNat (en - st))), .val (.int 1)] [(.int (([v0, v1, v2, v3, v4, v5, v6, v7] : List Int32).getD (st + 1) 0)), (.int (ds.getD 1 0))]))
      refine Gl.st (fun _ kq => XS.icmpNo X6.here hx rfl (hb hby d23_68) rfl (teq ((hcm 1 (by have q1 := (n32_lt (i := 1) (j := en - st) (by omega) (by omega)).mp hc5; omega)) : (ds.getD 1 0) = (([v0, v1, v2, v3, v4, v5, v6, v7] : List Int32).getD (st + 1) 0))).2 kq) ?_
      show Gl p.tables e below _ (T6.setTop (mkF m 71 #[.val (.ref b), .val (.ref tc), .val (.int (Int32.ofNat st)), .val (.int (Int32.ofNat en)), .val (.int (Int32.ofNat (en - st))), .val (.int 1)] []))
      refine Gl.st (fun _ kq => XS.iconst X6.here hx rfl (hb hby d23_71) kq) ?_
      show Gl p.tables e below _ (T6.setTop (mkF m 72 #[.val (.ref b), .val (.ref tc), .val (.int (Int32.ofNat st)), .val (.int (Int32.ofNat en)), .val (.int (Int32.ofNat (en - st))), .val (.int 1)] [(.int 1)]))
      refine Gl.st (fun _ kq => XS.goto X6.here hx rfl (pc0 := 72) (pc' := 76) rfl (hb hby d23_72) (by decide) (by decide) kq) ?_
      show Gl p.tables e below _ (T6.setTop (mkF m 76 #[.val (.ref b), .val (.ref tc), .val (.int (Int32.ofNat st)), .val (.int (Int32.ofNat en)), .val (.int (Int32.ofNat (en - st))), .val (.int 1)] [(.int 1)]))
      refine Gl.st (fun _ kq => XS.istore X6.here hx rfl (hb hby d23_76) rfl (l' := #[.val (.ref b), .val (.ref tc), .val (.int (Int32.ofNat st)), .val (.int (Int32.ofNat en)), .val (.int (Int32.ofNat (en - st))), .val (.int 1)]) rfl kq) ?_
      show Gl p.tables e below _ (T6.setTop (mkF m 78 #[.val (.ref b), .val (.ref tc), .val (.int (Int32.ofNat st)), .val (.int (Int32.ofNat en)), .val (.int (Int32.ofNat (en - st))), .val (.int 1)] []))
      refine Gl.st (fun _ kq => XS.iload X6.here hx rfl (hb hby d23_78) rfl kq) ?_
      show Gl p.tables e below _ (T6.setTop (mkF m 80 #[.val (.ref b), .val (.ref tc), .val (.int (Int32.ofNat st)), .val (.int (Int32.ofNat en)), .val (.int (Int32.ofNat (en - st))), .val (.int 1)] [(.int (Int32.ofNat (en - st)))]))
      refine Gl.st (fun _ kq => XS.iconst X6.here hx rfl (hb hby d23_80) kq) ?_
      show Gl p.tables e below _ (T6.setTop (mkF m 81 #[.val (.ref b), .val (.ref tc), .val (.int (Int32.ofNat st)), .val (.int (Int32.ofNat en)), .val (.int (Int32.ofNat (en - st))), .val (.int 1)] [(.int 2), (.int (Int32.ofNat (en - st)))]))
      by_cases hc8 : (2 : Int32) < (Int32.ofNat (en - st))
      · refine Gl.st (fun _ kq => XS.icmpNo X6.here hx rfl (hb hby d23_81) rfl (tlt (hc8 : (2 : Int32) < (Int32.ofNat (en - st)))).2.2.2 kq) ?_
        show Gl p.tables e below _ (T6.setTop (mkF m 84 #[.val (.ref b), .val (.ref tc), .val (.int (Int32.ofNat st)), .val (.int (Int32.ofNat en)), .val (.int (Int32.ofNat (en - st))), .val (.int 1)] []))
        refine Gl.st (fun _ kq => XS.iload X6.here hx rfl (hb hby d23_84) rfl kq) ?_
        show Gl p.tables e below _ (T6.setTop (mkF m 86 #[.val (.ref b), .val (.ref tc), .val (.int (Int32.ofNat st)), .val (.int (Int32.ofNat en)), .val (.int (Int32.ofNat (en - st))), .val (.int 1)] [(.int 1)]))
        refine Gl.st (fun _ kq => XS.ifNo X6.here hx rfl (hb hby d23_86) rfl ((if0 _ _).trans (feq ((by decide) : ¬ ((1 : Int32) = (0 : Int32)))).1) kq) ?_
        show Gl p.tables e below _ (T6.setTop (mkF m 89 #[.val (.ref b), .val (.ref tc), .val (.int (Int32.ofNat st)), .val (.int (Int32.ofNat en)), .val (.int (Int32.ofNat (en - st))), .val (.int 1)] []))
        refine Gl.st (fun _ kq => XS.aloadN X6.here hx rfl (hb hby d23_89) rfl rfl kq) ?_
        show Gl p.tables e below _ (T6.setTop (mkF m 90 #[.val (.ref b), .val (.ref tc), .val (.int (Int32.ofNat st)), .val (.int (Int32.ofNat en)), .val (.int (Int32.ofNat (en - st))), .val (.int 1)] [(.ref b)]))
        refine Gl.st (fun _ kq => XS.iconst X6.here hx rfl (hb hby d23_90) kq) ?_
        show Gl p.tables e below _ (T6.setTop (mkF m 91 #[.val (.ref b), .val (.ref tc), .val (.int (Int32.ofNat st)), .val (.int (Int32.ofNat en)), .val (.int (Int32.ofNat (en - st))), .val (.int 1)] [(.int 2), (.ref b)]))
        obtain ⟨cq9, kq9, q9a, q9b, q9c⟩ := isOf hZ e6 pf0
        obtain ⟨_, _, ⟨T9, L9, k9, n9⟩, -, X9, ⟨Lc9, hQ9, l9, y9, z9⟩, st9⟩ := X6.virtualBack hx (y := (⟨"java/lang/String", "charAt", "(I)C"⟩ : MethodName)) (z := (⟨"java/lang/String", "charAt", "(I)C"⟩ : MethodName)) hown (mvT hZ (tw hw 129 rfl)) (mvT hZ (tw hw 130 rfl)) (notFace_of_selects (args := #[]) (mvT hZ (tw hw 132 rfl))) (mvT hZ (tw hw 132 rfl)) (mvT hZ (tw hw 131 rfl)) (by decide) (StrChars.Road.chN (W := 0) hZ (wdCh hw) (kI := 4) (tw hw 5 rfl) pf0 pf2 pf1 pf3 (StrChars.Road.codOf (cs := ds) rfl (fun x hx => (hr x hx).2)) (up255 _ hr) (O2.ext pf5.2) P5 (O4.ext pf5.2) rG3 (Nat.le_trans hl (by decide)) (i := 2) (by have q1 := (n32_lt (i := 2) (j := en - st) (by omega) (by omega)).mp hc8; omega) (j := (2 : Int32)) rfl (by decide) (by decide)) q9a q9c (g := (mkF m 91 #[.val (.ref b), .val (.ref tc), .val (.int (Int32.ofNat st)), .val (.int (Int32.ofNat en)), .val (.int (Int32.ofNat (en - st))), .val (.int 1)] [(.int 2), (.ref b)])) rfl (by rw [hml]; rfl) (Steps.refl _) (argsL := [(.int 2)]) (rest := []) (lenOf pd__I_C rfl) rfl (by show 2 * 0 + _ ≤ _; exact Nat.le_of_eq rfl) (hb hby d23_91) (fun _ _ => ⟨rfl, e6, (by decide : 0 + 0 ≤ _), (by decide : 0 + 0 ≤ _)⟩)
        dsimp only [Pt.U, Pt.locs, Pt.cells, Pt.slots] at X9 l9 y9 z9 st9 hQ9
        subst l9 y9 z9
        obtain ⟨rfl, rfl, e9⟩ := hQ9
        have N9 : Fr n0 ([] : List Loc) := Fr.nil n0
        have M9 := Fr.app M6 N9
        refine Gl.to st9 ?_
        show Gl p.tables e below _ (T9.setTop (mkF m 94 #[.val (.ref b), .val (.ref tc), .val (.int (Int32.ofNat st)), .val (.int (Int32.ofNat en)), .val (.int (Int32.ofNat (en - st))), .val (.int 1)] [(.int (ds.getD 2 0))]))
        show Gl p.tables e below _ (T9.setTop (mkF m 94 #[.val (.ref b), .val (.ref tc), .val (.int (Int32.ofNat st)), .val (.int (Int32.ofNat en)), .val (.int (Int32.ofNat (en - st))), .val (.int 1)] [(.int (ds.getD 2 0))]))
        refine Gl.st (fun _ kq => XS.aloadN X9.here hx rfl (hb hby d23_94) rfl rfl kq) ?_
        show Gl p.tables e below _ (T9.setTop (mkF m 95 #[.val (.ref b), .val (.ref tc), .val (.int (Int32.ofNat st)), .val (.int (Int32.ofNat en)), .val (.int (Int32.ofNat (en - st))), .val (.int 1)] [(.ref tc), (.int (ds.getD 2 0))]))
        refine Gl.st (fun _ kq => XS.iloadN X9.here hx rfl (hb hby d23_95) rfl kq) ?_
        show Gl p.tables e below _ (T9.setTop (mkF m 96 #[.val (.ref b), .val (.ref tc), .val (.int (Int32.ofNat st)), .val (.int (Int32.ofNat en)), .val (.int (Int32.ofNat (en - st))), .val (.int 1)] [(.int (Int32.ofNat st)), (.ref tc), (.int (ds.getD 2 0))]))
        refine Gl.st (fun _ kq => XS.iconst X9.here hx rfl (hb hby d23_96) kq) ?_
        show Gl p.tables e below _ (T9.setTop (mkF m 97 #[.val (.ref b), .val (.ref tc), .val (.int (Int32.ofNat st)), .val (.int (Int32.ofNat en)), .val (.int (Int32.ofNat (en - st))), .val (.int 1)] [(.int 2), (.int (Int32.ofNat st)), (.ref tc), (.int (ds.getD 2 0))]))
        refine Gl.st (fun _ kq => XS.iadd X9.here hx rfl (hb hby d23_97) rfl kq) ?_
        show Gl p.tables e below _ (T9.setTop (mkF m 98 #[.val (.ref b), .val (.ref tc), .val (.int (Int32.ofNat st)), .val (.int (Int32.ofNat en)), .val (.int (Int32.ofNat (en - st))), .val (.int 1)] [(.int ((Int32.ofNat st) + (2 : Int32))), (.ref tc), (.int (ds.getD 2 0))]))
        rw [show Int32.ofNat st + (2 : Int32) = Int32.ofNat (st + 2) from n32_add st 2]
        show Gl p.tables e below _ (T9.setTop (mkF m 98 #[.val (.ref b), .val (.ref tc), .val (.int (Int32.ofNat st)), .val (.int (Int32.ofNat en)), .val (.int (Int32.ofNat (en - st))), .val (.int 1)] [(.int (Int32.ofNat (st + 2))), (.ref tc), (.int (ds.getD 2 0))]))
        obtain ⟨c10, a10, q10, S10, M10, H10, G10⟩ := id pf4
        refine Gl.st (fun _ kq => X9.caload hx (j := (Int32.ofNat (st + 2))) (v := (.int (([v0, v1, v2, v3, v4, v5, v6, v7] : List Int32).getD (st + 2) 0))) (by rw [e9]; exact a10.1) (State.isArrayOf_alike hZ.alike a10.2.1) a10.2.2 (inb_of S10 ⟨n32_nn (by omega), n32_plt (i := (st + 2)) (j := 8) (by have q1 := (n32_lt (i := 2) (j := en - st) (by omega) (by omega)).mp hc8; omega) (by omega)⟩) (Has.at H10 (inb_of S10 ⟨n32_nn (by omega), n32_plt (i := (st + 2)) (j := 8) (by have q1 := (n32_lt (i := 2) (j := en - st) (by omega) (by omega)).mp hc8; omega) (by omega)⟩) (by rw [n32_cl (by omega)]; exact ld8 (by have q1 := (n32_lt (i := 2) (j := en - st) (by omega) (by omega)).mp hc8; omega))) (g := (mkF m 98 #[.val (.ref b), .val (.ref tc), .val (.int (Int32.ofNat st)), .val (.int (Int32.ofNat en)), .val (.int (Int32.ofNat (en - st))), .val (.int 1)] [(.int (Int32.ofNat (st + 2))), (.ref tc), (.int (ds.getD 2 0))])) rfl rfl (hb hby d23_98) _ kq) ?_
        show Gl p.tables e below _ (T9.setTop (mkF m 99 #[.val (.ref b), .val (.ref tc), .val (.int (Int32.ofNat st)), .val (.int (Int32.ofNat en)), .val (.int (Int32.ofNat (en - st))), .val (.int 1)] [(.int (([v0, v1, v2, v3, v4, v5, v6, v7] : List Int32).getD (st + 2) 0)), (.int (ds.getD 2 0))]))
        refine Gl.st (fun _ kq => XS.icmpNo X9.here hx rfl (hb hby d23_99) rfl (teq ((hcm 2 (by have q1 := (n32_lt (i := 2) (j := en - st) (by omega) (by omega)).mp hc8; omega)) : (ds.getD 2 0) = (([v0, v1, v2, v3, v4, v5, v6, v7] : List Int32).getD (st + 2) 0))).2 kq) ?_
        show Gl p.tables e below _ (T9.setTop (mkF m 102 #[.val (.ref b), .val (.ref tc), .val (.int (Int32.ofNat st)), .val (.int (Int32.ofNat en)), .val (.int (Int32.ofNat (en - st))), .val (.int 1)] []))
        refine Gl.st (fun _ kq => XS.iconst X9.here hx rfl (hb hby d23_102) kq) ?_
        show Gl p.tables e below _ (T9.setTop (mkF m 103 #[.val (.ref b), .val (.ref tc), .val (.int (Int32.ofNat st)), .val (.int (Int32.ofNat en)), .val (.int (Int32.ofNat (en - st))), .val (.int 1)] [(.int 1)]))
        refine Gl.st (fun _ kq => XS.goto X9.here hx rfl (pc0 := 103) (pc' := 107) rfl (hb hby d23_103) (by decide) (by decide) kq) ?_
        show Gl p.tables e below _ (T9.setTop (mkF m 107 #[.val (.ref b), .val (.ref tc), .val (.int (Int32.ofNat st)), .val (.int (Int32.ofNat en)), .val (.int (Int32.ofNat (en - st))), .val (.int 1)] [(.int 1)]))
        refine Gl.st (fun _ kq => XS.istore X9.here hx rfl (hb hby d23_107) rfl (l' := #[.val (.ref b), .val (.ref tc), .val (.int (Int32.ofNat st)), .val (.int (Int32.ofNat en)), .val (.int (Int32.ofNat (en - st))), .val (.int 1)]) rfl kq) ?_
        show Gl p.tables e below _ (T9.setTop (mkF m 109 #[.val (.ref b), .val (.ref tc), .val (.int (Int32.ofNat st)), .val (.int (Int32.ofNat en)), .val (.int (Int32.ofNat (en - st))), .val (.int 1)] []))
        refine Gl.st (fun _ kq => XS.iload X9.here hx rfl (hb hby d23_109) rfl kq) ?_
        show Gl p.tables e below _ (T9.setTop (mkF m 111 #[.val (.ref b), .val (.ref tc), .val (.int (Int32.ofNat st)), .val (.int (Int32.ofNat en)), .val (.int (Int32.ofNat (en - st))), .val (.int 1)] [(.int (Int32.ofNat (en - st)))]))
        refine Gl.st (fun _ kq => XS.iconst X9.here hx rfl (hb hby d23_111) kq) ?_
        show Gl p.tables e below _ (T9.setTop (mkF m 112 #[.val (.ref b), .val (.ref tc), .val (.int (Int32.ofNat st)), .val (.int (Int32.ofNat en)), .val (.int (Int32.ofNat (en - st))), .val (.int 1)] [(.int 3), (.int (Int32.ofNat (en - st)))]))
        by_cases hc11 : (3 : Int32) < (Int32.ofNat (en - st))
        · refine Gl.st (fun _ kq => XS.icmpNo X9.here hx rfl (hb hby d23_112) rfl (tlt (hc11 : (3 : Int32) < (Int32.ofNat (en - st)))).2.2.2 kq) ?_
          show Gl p.tables e below _ (T9.setTop (mkF m 115 #[.val (.ref b), .val (.ref tc), .val (.int (Int32.ofNat st)), .val (.int (Int32.ofNat en)), .val (.int (Int32.ofNat (en - st))), .val (.int 1)] []))
          refine Gl.st (fun _ kq => XS.iload X9.here hx rfl (hb hby d23_115) rfl kq) ?_
          show Gl p.tables e below _ (T9.setTop (mkF m 117 #[.val (.ref b), .val (.ref tc), .val (.int (Int32.ofNat st)), .val (.int (Int32.ofNat en)), .val (.int (Int32.ofNat (en - st))), .val (.int 1)] [(.int 1)]))
          refine Gl.st (fun _ kq => XS.ifNo X9.here hx rfl (hb hby d23_117) rfl ((if0 _ _).trans (feq ((by decide) : ¬ ((1 : Int32) = (0 : Int32)))).1) kq) ?_
          show Gl p.tables e below _ (T9.setTop (mkF m 120 #[.val (.ref b), .val (.ref tc), .val (.int (Int32.ofNat st)), .val (.int (Int32.ofNat en)), .val (.int (Int32.ofNat (en - st))), .val (.int 1)] []))
          refine Gl.st (fun _ kq => XS.aloadN X9.here hx rfl (hb hby d23_120) rfl rfl kq) ?_
          show Gl p.tables e below _ (T9.setTop (mkF m 121 #[.val (.ref b), .val (.ref tc), .val (.int (Int32.ofNat st)), .val (.int (Int32.ofNat en)), .val (.int (Int32.ofNat (en - st))), .val (.int 1)] [(.ref b)]))
          refine Gl.st (fun _ kq => XS.iconst X9.here hx rfl (hb hby d23_121) kq) ?_
          show Gl p.tables e below _ (T9.setTop (mkF m 122 #[.val (.ref b), .val (.ref tc), .val (.int (Int32.ofNat st)), .val (.int (Int32.ofNat en)), .val (.int (Int32.ofNat (en - st))), .val (.int 1)] [(.int 3), (.ref b)]))
          obtain ⟨cq12, kq12, q12a, q12b, q12c⟩ := isOf hZ e9 pf0
          obtain ⟨_, _, ⟨T12, L12, k12, n12⟩, -, X12, ⟨Lc12, hQ12, l12, y12, z12⟩, st12⟩ := X9.virtualBack hx (y := (⟨"java/lang/String", "charAt", "(I)C"⟩ : MethodName)) (z := (⟨"java/lang/String", "charAt", "(I)C"⟩ : MethodName)) hown (mvT hZ (tw hw 129 rfl)) (mvT hZ (tw hw 130 rfl)) (notFace_of_selects (args := #[]) (mvT hZ (tw hw 132 rfl))) (mvT hZ (tw hw 132 rfl)) (mvT hZ (tw hw 131 rfl)) (by decide) (StrChars.Road.chN (W := 0) hZ (wdCh hw) (kI := 4) (tw hw 5 rfl) pf0 pf2 pf1 pf3 (StrChars.Road.codOf (cs := ds) rfl (fun x hx => (hr x hx).2)) (up255 _ hr) (O2.ext pf5.2) P5 (O4.ext pf5.2) rG3 (Nat.le_trans hl (by decide)) (i := 3) (by have q1 := (n32_lt (i := 3) (j := en - st) (by omega) (by omega)).mp hc11; omega) (j := (3 : Int32)) rfl (by decide) (by decide)) q12a q12c (g := (mkF m 122 #[.val (.ref b), .val (.ref tc), .val (.int (Int32.ofNat st)), .val (.int (Int32.ofNat en)), .val (.int (Int32.ofNat (en - st))), .val (.int 1)] [(.int 3), (.ref b)])) rfl (by rw [hml]; rfl) (Steps.refl _) (argsL := [(.int 3)]) (rest := []) (lenOf pd__I_C rfl) rfl (by show 2 * 0 + _ ≤ _; exact Nat.le_of_eq rfl) (hb hby d23_122) (fun _ _ => ⟨rfl, e9, (by decide : 0 + 0 ≤ _), (by decide : 0 + 0 ≤ _)⟩)
          dsimp only [Pt.U, Pt.locs, Pt.cells, Pt.slots] at X12 l12 y12 z12 st12 hQ12
          subst l12 y12 z12
          obtain ⟨rfl, rfl, e12⟩ := hQ12
          have N12 : Fr n0 ([] : List Loc) := Fr.nil n0
          have M12 := Fr.app M9 N12
          refine Gl.to st12 ?_
          show Gl p.tables e below _ (T12.setTop (mkF m 125 #[.val (.ref b), .val (.ref tc), .val (.int (Int32.ofNat st)), .val (.int (Int32.ofNat en)), .val (.int (Int32.ofNat (en - st))), .val (.int 1)] [(.int (ds.getD 3 0))]))
          show Gl p.tables e below _ (T12.setTop (mkF m 125 #[.val (.ref b), .val (.ref tc), .val (.int (Int32.ofNat st)), .val (.int (Int32.ofNat en)), .val (.int (Int32.ofNat (en - st))), .val (.int 1)] [(.int (ds.getD 3 0))]))
          refine Gl.st (fun _ kq => XS.aloadN X12.here hx rfl (hb hby d23_125) rfl rfl kq) ?_
          show Gl p.tables e below _ (T12.setTop (mkF m 126 #[.val (.ref b), .val (.ref tc), .val (.int (Int32.ofNat st)), .val (.int (Int32.ofNat en)), .val (.int (Int32.ofNat (en - st))), .val (.int 1)] [(.ref tc), (.int (ds.getD 3 0))]))
          refine Gl.st (fun _ kq => XS.iloadN X12.here hx rfl (hb hby d23_126) rfl kq) ?_
          show Gl p.tables e below _ (T12.setTop (mkF m 127 #[.val (.ref b), .val (.ref tc), .val (.int (Int32.ofNat st)), .val (.int (Int32.ofNat en)), .val (.int (Int32.ofNat (en - st))), .val (.int 1)] [(.int (Int32.ofNat st)), (.ref tc), (.int (ds.getD 3 0))]))
          refine Gl.st (fun _ kq => XS.iconst X12.here hx rfl (hb hby d23_127) kq) ?_
          show Gl p.tables e below _ (T12.setTop (mkF m 128 #[.val (.ref b), .val (.ref tc), .val (.int (Int32.ofNat st)), .val (.int (Int32.ofNat en)), .val (.int (Int32.ofNat (en - st))), .val (.int 1)] [(.int 3), (.int (Int32.ofNat st)), (.ref tc), (.int (ds.getD 3 0))]))
          refine Gl.st (fun _ kq => XS.iadd X12.here hx rfl (hb hby d23_128) rfl kq) ?_
          show Gl p.tables e below _ (T12.setTop (mkF m 129 #[.val (.ref b), .val (.ref tc), .val (.int (Int32.ofNat st)), .val (.int (Int32.ofNat en)), .val (.int (Int32.ofNat (en - st))), .val (.int 1)] [(.int ((Int32.ofNat st) + (3 : Int32))), (.ref tc), (.int (ds.getD 3 0))]))
          rw [show Int32.ofNat st + (3 : Int32) = Int32.ofNat (st + 3) from n32_add st 3]
          show Gl p.tables e below _ (T12.setTop (mkF m 129 #[.val (.ref b), .val (.ref tc), .val (.int (Int32.ofNat st)), .val (.int (Int32.ofNat en)), .val (.int (Int32.ofNat (en - st))), .val (.int 1)] [(.int (Int32.ofNat (st + 3))), (.ref tc), (.int (ds.getD 3 0))]))
          obtain ⟨c13, a13, q13, S13, M13, H13, G13⟩ := id pf4
          refine Gl.st (fun _ kq => X12.caload hx (j := (Int32.ofNat (st + 3))) (v := (.int (([v0, v1, v2, v3, v4, v5, v6, v7] : List Int32).getD (st + 3) 0))) (by rw [e12]; exact a13.1) (State.isArrayOf_alike hZ.alike a13.2.1) a13.2.2 (inb_of S13 ⟨n32_nn (by omega), n32_plt (i := (st + 3)) (j := 8) (by have q1 := (n32_lt (i := 3) (j := en - st) (by omega) (by omega)).mp hc11; omega) (by omega)⟩) (Has.at H13 (inb_of S13 ⟨n32_nn (by omega), n32_plt (i := (st + 3)) (j := 8) (by have q1 := (n32_lt (i := 3) (j := en - st) (by omega) (by omega)).mp hc11; omega) (by omega)⟩) (by rw [n32_cl (by omega)]; exact ld8 (by have q1 := (n32_lt (i := 3) (j := en - st) (by omega) (by omega)).mp hc11; omega))) (g := (mkF m 129 #[.val (.ref b), .val (.ref tc), .val (.int (Int32.ofNat st)), .val (.int (Int32.ofNat en)), .val (.int (Int32.ofNat (en - st))), .val (.int 1)] [(.int (Int32.ofNat (st + 3))), (.ref tc), (.int (ds.getD 3 0))])) rfl rfl (hb hby d23_129) _ kq) ?_
          show Gl p.tables e below _ (T12.setTop (mkF m 130 #[.val (.ref b), .val (.ref tc), .val (.int (Int32.ofNat st)), .val (.int (Int32.ofNat en)), .val (.int (Int32.ofNat (en - st))), .val (.int 1)] [(.int (([v0, v1, v2, v3, v4, v5, v6, v7] : List Int32).getD (st + 3) 0)), (.int (ds.getD 3 0))]))
          refine Gl.st (fun _ kq => XS.icmpNo X12.here hx rfl (hb hby d23_130) rfl (teq ((hcm 3 (by have q1 := (n32_lt (i := 3) (j := en - st) (by omega) (by omega)).mp hc11; omega)) : (ds.getD 3 0) = (([v0, v1, v2, v3, v4, v5, v6, v7] : List Int32).getD (st + 3) 0))).2 kq) ?_
          show Gl p.tables e below _ (T12.setTop (mkF m 133 #[.val (.ref b), .val (.ref tc), .val (.int (Int32.ofNat st)), .val (.int (Int32.ofNat en)), .val (.int (Int32.ofNat (en - st))), .val (.int 1)] []))
          refine Gl.st (fun _ kq => XS.iconst X12.here hx rfl (hb hby d23_133) kq) ?_
          show Gl p.tables e below _ (T12.setTop (mkF m 134 #[.val (.ref b), .val (.ref tc), .val (.int (Int32.ofNat st)), .val (.int (Int32.ofNat en)), .val (.int (Int32.ofNat (en - st))), .val (.int 1)] [(.int 1)]))
          refine Gl.st (fun _ kq => XS.goto X12.here hx rfl (pc0 := 134) (pc' := 138) rfl (hb hby d23_134) (by decide) (by decide) kq) ?_
          show Gl p.tables e below _ (T12.setTop (mkF m 138 #[.val (.ref b), .val (.ref tc), .val (.int (Int32.ofNat st)), .val (.int (Int32.ofNat en)), .val (.int (Int32.ofNat (en - st))), .val (.int 1)] [(.int 1)]))
          refine Gl.st (fun _ kq => XS.istore X12.here hx rfl (hb hby d23_138) rfl (l' := #[.val (.ref b), .val (.ref tc), .val (.int (Int32.ofNat st)), .val (.int (Int32.ofNat en)), .val (.int (Int32.ofNat (en - st))), .val (.int 1)]) rfl kq) ?_
          show Gl p.tables e below _ (T12.setTop (mkF m 140 #[.val (.ref b), .val (.ref tc), .val (.int (Int32.ofNat st)), .val (.int (Int32.ofNat en)), .val (.int (Int32.ofNat (en - st))), .val (.int 1)] []))
          refine Gl.st (fun _ kq => XS.iload X12.here hx rfl (hb hby d23_140) rfl kq) ?_
          show Gl p.tables e below _ (T12.setTop (mkF m 142 #[.val (.ref b), .val (.ref tc), .val (.int (Int32.ofNat st)), .val (.int (Int32.ofNat en)), .val (.int (Int32.ofNat (en - st))), .val (.int 1)] [(.int (Int32.ofNat (en - st)))]))
          refine Gl.st (fun _ kq => XS.iconst X12.here hx rfl (hb hby d23_142) kq) ?_
          show Gl p.tables e below _ (T12.setTop (mkF m 143 #[.val (.ref b), .val (.ref tc), .val (.int (Int32.ofNat st)), .val (.int (Int32.ofNat en)), .val (.int (Int32.ofNat (en - st))), .val (.int 1)] [(.int 4), (.int (Int32.ofNat (en - st)))]))
          by_cases hc14 : (4 : Int32) < (Int32.ofNat (en - st))
          · refine Gl.st (fun _ kq => XS.icmpNo X12.here hx rfl (hb hby d23_143) rfl (tlt (hc14 : (4 : Int32) < (Int32.ofNat (en - st)))).2.2.2 kq) ?_
            show Gl p.tables e below _ (T12.setTop (mkF m 146 #[.val (.ref b), .val (.ref tc), .val (.int (Int32.ofNat st)), .val (.int (Int32.ofNat en)), .val (.int (Int32.ofNat (en - st))), .val (.int 1)] []))
            refine Gl.st (fun _ kq => XS.iload X12.here hx rfl (hb hby d23_146) rfl kq) ?_
            show Gl p.tables e below _ (T12.setTop (mkF m 148 #[.val (.ref b), .val (.ref tc), .val (.int (Int32.ofNat st)), .val (.int (Int32.ofNat en)), .val (.int (Int32.ofNat (en - st))), .val (.int 1)] [(.int 1)]))
            refine Gl.st (fun _ kq => XS.ifNo X12.here hx rfl (hb hby d23_148) rfl ((if0 _ _).trans (feq ((by decide) : ¬ ((1 : Int32) = (0 : Int32)))).1) kq) ?_
            show Gl p.tables e below _ (T12.setTop (mkF m 151 #[.val (.ref b), .val (.ref tc), .val (.int (Int32.ofNat st)), .val (.int (Int32.ofNat en)), .val (.int (Int32.ofNat (en - st))), .val (.int 1)] []))
            refine Gl.st (fun _ kq => XS.aloadN X12.here hx rfl (hb hby d23_151) rfl rfl kq) ?_
            show Gl p.tables e below _ (T12.setTop (mkF m 152 #[.val (.ref b), .val (.ref tc), .val (.int (Int32.ofNat st)), .val (.int (Int32.ofNat en)), .val (.int (Int32.ofNat (en - st))), .val (.int 1)] [(.ref b)]))
            refine Gl.st (fun _ kq => XS.iconst X12.here hx rfl (hb hby d23_152) kq) ?_
            show Gl p.tables e below _ (T12.setTop (mkF m 153 #[.val (.ref b), .val (.ref tc), .val (.int (Int32.ofNat st)), .val (.int (Int32.ofNat en)), .val (.int (Int32.ofNat (en - st))), .val (.int 1)] [(.int 4), (.ref b)]))
            obtain ⟨cq15, kq15, q15a, q15b, q15c⟩ := isOf hZ e12 pf0
            obtain ⟨_, _, ⟨T15, L15, k15, n15⟩, -, X15, ⟨Lc15, hQ15, l15, y15, z15⟩, st15⟩ := X12.virtualBack hx (y := (⟨"java/lang/String", "charAt", "(I)C"⟩ : MethodName)) (z := (⟨"java/lang/String", "charAt", "(I)C"⟩ : MethodName)) hown (mvT hZ (tw hw 129 rfl)) (mvT hZ (tw hw 130 rfl)) (notFace_of_selects (args := #[]) (mvT hZ (tw hw 132 rfl))) (mvT hZ (tw hw 132 rfl)) (mvT hZ (tw hw 131 rfl)) (by decide) (StrChars.Road.chN (W := 0) hZ (wdCh hw) (kI := 4) (tw hw 5 rfl) pf0 pf2 pf1 pf3 (StrChars.Road.codOf (cs := ds) rfl (fun x hx => (hr x hx).2)) (up255 _ hr) (O2.ext pf5.2) P5 (O4.ext pf5.2) rG3 (Nat.le_trans hl (by decide)) (i := 4) (by have q1 := (n32_lt (i := 4) (j := en - st) (by omega) (by omega)).mp hc14; omega) (j := (4 : Int32)) rfl (by decide) (by decide)) q15a q15c (g := (mkF m 153 #[.val (.ref b), .val (.ref tc), .val (.int (Int32.ofNat st)), .val (.int (Int32.ofNat en)), .val (.int (Int32.ofNat (en - st))), .val (.int 1)] [(.int 4), (.ref b)])) rfl (by rw [hml]; rfl) (Steps.refl _) (argsL := [(.int 4)]) (rest := []) (lenOf pd__I_C rfl) rfl (by show 2 * 0 + _ ≤ _; exact Nat.le_of_eq rfl) (hb hby d23_153) (fun _ _ => ⟨rfl, e12, (by decide : 0 + 0 ≤ _), (by decide : 0 + 0 ≤ _)⟩)
            dsimp only [Pt.U, Pt.locs, Pt.cells, Pt.slots] at X15 l15 y15 z15 st15 hQ15
            subst l15 y15 z15
            obtain ⟨rfl, rfl, e15⟩ := hQ15
            have N15 : Fr n0 ([] : List Loc) := Fr.nil n0
            have M15 := Fr.app M12 N15
            refine Gl.to st15 ?_
            show Gl p.tables e below _ (T15.setTop (mkF m 156 #[.val (.ref b), .val (.ref tc), .val (.int (Int32.ofNat st)), .val (.int (Int32.ofNat en)), .val (.int (Int32.ofNat (en - st))), .val (.int 1)] [(.int (ds.getD 4 0))]))
            show Gl p.tables e below _ (T15.setTop (mkF m 156 #[.val (.ref b), .val (.ref tc), .val (.int (Int32.ofNat st)), .val (.int (Int32.ofNat en)), .val (.int (Int32.ofNat (en - st))), .val (.int 1)] [(.int (ds.getD 4 0))]))
            refine Gl.st (fun _ kq => XS.aloadN X15.here hx rfl (hb hby d23_156) rfl rfl kq) ?_
            show Gl p.tables e below _ (T15.setTop (mkF m 157 #[.val (.ref b), .val (.ref tc), .val (.int (Int32.ofNat st)), .val (.int (Int32.ofNat en)), .val (.int (Int32.ofNat (en - st))), .val (.int 1)] [(.ref tc), (.int (ds.getD 4 0))]))
            refine Gl.st (fun _ kq => XS.iloadN X15.here hx rfl (hb hby d23_157) rfl kq) ?_
            show Gl p.tables e below _ (T15.setTop (mkF m 158 #[.val (.ref b), .val (.ref tc), .val (.int (Int32.ofNat st)), .val (.int (Int32.ofNat en)), .val (.int (Int32.ofNat (en - st))), .val (.int 1)] [(.int (Int32.ofNat st)), (.ref tc), (.int (ds.getD 4 0))]))
            refine Gl.st (fun _ kq => XS.iconst X15.here hx rfl (hb hby d23_158) kq) ?_
            show Gl p.tables e below _ (T15.setTop (mkF m 159 #[.val (.ref b), .val (.ref tc), .val (.int (Int32.ofNat st)), .val (.int (Int32.ofNat en)), .val (.int (Int32.ofNat (en - st))), .val (.int 1)] [(.int 4), (.int (Int32.ofNat st)), (.ref tc), (.int (ds.getD 4 0))]))
            refine Gl.st (fun _ kq => XS.iadd X15.here hx rfl (hb hby d23_159) rfl kq) ?_
            show Gl p.tables e below _ (T15.setTop (mkF m 160 #[.val (.ref b), .val (.ref tc), .val (.int (Int32.ofNat st)), .val (.int (Int32.ofNat en)), .val (.int (Int32.ofNat (en - st))), .val (.int 1)] [(.int ((Int32.ofNat st) + (4 : Int32))), (.ref tc), (.int (ds.getD 4 0))]))
            rw [show Int32.ofNat st + (4 : Int32) = Int32.ofNat (st + 4) from n32_add st 4]
            show Gl p.tables e below _ (T15.setTop (mkF m 160 #[.val (.ref b), .val (.ref tc), .val (.int (Int32.ofNat st)), .val (.int (Int32.ofNat en)), .val (.int (Int32.ofNat (en - st))), .val (.int 1)] [(.int (Int32.ofNat (st + 4))), (.ref tc), (.int (ds.getD 4 0))]))
            obtain ⟨c16, a16, q16, S16, M16, H16, G16⟩ := id pf4
            refine Gl.st (fun _ kq => X15.caload hx (j := (Int32.ofNat (st + 4))) (v := (.int (([v0, v1, v2, v3, v4, v5, v6, v7] : List Int32).getD (st + 4) 0))) (by rw [e15]; exact a16.1) (State.isArrayOf_alike hZ.alike a16.2.1) a16.2.2 (inb_of S16 ⟨n32_nn (by omega), n32_plt (i := (st + 4)) (j := 8) (by have q1 := (n32_lt (i := 4) (j := en - st) (by omega) (by omega)).mp hc14; omega) (by omega)⟩) (Has.at H16 (inb_of S16 ⟨n32_nn (by omega), n32_plt (i := (st + 4)) (j := 8) (by have q1 := (n32_lt (i := 4) (j := en - st) (by omega) (by omega)).mp hc14; omega) (by omega)⟩) (by rw [n32_cl (by omega)]; exact ld8 (by have q1 := (n32_lt (i := 4) (j := en - st) (by omega) (by omega)).mp hc14; omega))) (g := (mkF m 160 #[.val (.ref b), .val (.ref tc), .val (.int (Int32.ofNat st)), .val (.int (Int32.ofNat en)), .val (.int (Int32.ofNat (en - st))), .val (.int 1)] [(.int (Int32.ofNat (st + 4))), (.ref tc), (.int (ds.getD 4 0))])) rfl rfl (hb hby d23_160) _ kq) ?_
            show Gl p.tables e below _ (T15.setTop (mkF m 161 #[.val (.ref b), .val (.ref tc), .val (.int (Int32.ofNat st)), .val (.int (Int32.ofNat en)), .val (.int (Int32.ofNat (en - st))), .val (.int 1)] [(.int (([v0, v1, v2, v3, v4, v5, v6, v7] : List Int32).getD (st + 4) 0)), (.int (ds.getD 4 0))]))
            refine Gl.st (fun _ kq => XS.icmpNo X15.here hx rfl (hb hby d23_161) rfl (teq ((hcm 4 (by have q1 := (n32_lt (i := 4) (j := en - st) (by omega) (by omega)).mp hc14; omega)) : (ds.getD 4 0) = (([v0, v1, v2, v3, v4, v5, v6, v7] : List Int32).getD (st + 4) 0))).2 kq) ?_
            show Gl p.tables e below _ (T15.setTop (mkF m 164 #[.val (.ref b), .val (.ref tc), .val (.int (Int32.ofNat st)), .val (.int (Int32.ofNat en)), .val (.int (Int32.ofNat (en - st))), .val (.int 1)] []))
            refine Gl.st (fun _ kq => XS.iconst X15.here hx rfl (hb hby d23_164) kq) ?_
            show Gl p.tables e below _ (T15.setTop (mkF m 165 #[.val (.ref b), .val (.ref tc), .val (.int (Int32.ofNat st)), .val (.int (Int32.ofNat en)), .val (.int (Int32.ofNat (en - st))), .val (.int 1)] [(.int 1)]))
            refine Gl.st (fun _ kq => XS.goto X15.here hx rfl (pc0 := 165) (pc' := 169) rfl (hb hby d23_165) (by decide) (by decide) kq) ?_
            show Gl p.tables e below _ (T15.setTop (mkF m 169 #[.val (.ref b), .val (.ref tc), .val (.int (Int32.ofNat st)), .val (.int (Int32.ofNat en)), .val (.int (Int32.ofNat (en - st))), .val (.int 1)] [(.int 1)]))
            refine Gl.st (fun _ kq => XS.istore X15.here hx rfl (hb hby d23_169) rfl (l' := #[.val (.ref b), .val (.ref tc), .val (.int (Int32.ofNat st)), .val (.int (Int32.ofNat en)), .val (.int (Int32.ofNat (en - st))), .val (.int 1)]) rfl kq) ?_
            show Gl p.tables e below _ (T15.setTop (mkF m 171 #[.val (.ref b), .val (.ref tc), .val (.int (Int32.ofNat st)), .val (.int (Int32.ofNat en)), .val (.int (Int32.ofNat (en - st))), .val (.int 1)] []))
            refine Gl.st (fun _ kq => XS.iload X15.here hx rfl (hb hby d23_171) rfl kq) ?_
            show Gl p.tables e below _ (T15.setTop (mkF m 173 #[.val (.ref b), .val (.ref tc), .val (.int (Int32.ofNat st)), .val (.int (Int32.ofNat en)), .val (.int (Int32.ofNat (en - st))), .val (.int 1)] [(.int (Int32.ofNat (en - st)))]))
            refine Gl.st (fun _ kq => XS.iconst X15.here hx rfl (hb hby d23_173) kq) ?_
            show Gl p.tables e below _ (T15.setTop (mkF m 174 #[.val (.ref b), .val (.ref tc), .val (.int (Int32.ofNat st)), .val (.int (Int32.ofNat en)), .val (.int (Int32.ofNat (en - st))), .val (.int 1)] [(.int 5), (.int (Int32.ofNat (en - st)))]))
            by_cases hc17 : (5 : Int32) < (Int32.ofNat (en - st))
            · refine Gl.st (fun _ kq => XS.icmpNo X15.here hx rfl (hb hby d23_174) rfl (tlt (hc17 : (5 : Int32) < (Int32.ofNat (en - st)))).2.2.2 kq) ?_
              show Gl p.tables e below _ (T15.setTop (mkF m 177 #[.val (.ref b), .val (.ref tc), .val (.int (Int32.ofNat st)), .val (.int (Int32.ofNat en)), .val (.int (Int32.ofNat (en - st))), .val (.int 1)] []))
              refine Gl.st (fun _ kq => XS.iload X15.here hx rfl (hb hby d23_177) rfl kq) ?_
              show Gl p.tables e below _ (T15.setTop (mkF m 179 #[.val (.ref b), .val (.ref tc), .val (.int (Int32.ofNat st)), .val (.int (Int32.ofNat en)), .val (.int (Int32.ofNat (en - st))), .val (.int 1)] [(.int 1)]))
              refine Gl.st (fun _ kq => XS.ifNo X15.here hx rfl (hb hby d23_179) rfl ((if0 _ _).trans (feq ((by decide) : ¬ ((1 : Int32) = (0 : Int32)))).1) kq) ?_
              show Gl p.tables e below _ (T15.setTop (mkF m 182 #[.val (.ref b), .val (.ref tc), .val (.int (Int32.ofNat st)), .val (.int (Int32.ofNat en)), .val (.int (Int32.ofNat (en - st))), .val (.int 1)] []))
              refine Gl.st (fun _ kq => XS.aloadN X15.here hx rfl (hb hby d23_182) rfl rfl kq) ?_
              show Gl p.tables e below _ (T15.setTop (mkF m 183 #[.val (.ref b), .val (.ref tc), .val (.int (Int32.ofNat st)), .val (.int (Int32.ofNat en)), .val (.int (Int32.ofNat (en - st))), .val (.int 1)] [(.ref b)]))
              refine Gl.st (fun _ kq => XS.iconst X15.here hx rfl (hb hby d23_183) kq) ?_
              show Gl p.tables e below _ (T15.setTop (mkF m 184 #[.val (.ref b), .val (.ref tc), .val (.int (Int32.ofNat st)), .val (.int (Int32.ofNat en)), .val (.int (Int32.ofNat (en - st))), .val (.int 1)] [(.int 5), (.ref b)]))
              obtain ⟨cq18, kq18, q18a, q18b, q18c⟩ := isOf hZ e15 pf0
              obtain ⟨_, _, ⟨T18, L18, k18, n18⟩, -, X18, ⟨Lc18, hQ18, l18, y18, z18⟩, st18⟩ := X15.virtualBack hx (y := (⟨"java/lang/String", "charAt", "(I)C"⟩ : MethodName)) (z := (⟨"java/lang/String", "charAt", "(I)C"⟩ : MethodName)) hown (mvT hZ (tw hw 129 rfl)) (mvT hZ (tw hw 130 rfl)) (notFace_of_selects (args := #[]) (mvT hZ (tw hw 132 rfl))) (mvT hZ (tw hw 132 rfl)) (mvT hZ (tw hw 131 rfl)) (by decide) (StrChars.Road.chN (W := 0) hZ (wdCh hw) (kI := 4) (tw hw 5 rfl) pf0 pf2 pf1 pf3 (StrChars.Road.codOf (cs := ds) rfl (fun x hx => (hr x hx).2)) (up255 _ hr) (O2.ext pf5.2) P5 (O4.ext pf5.2) rG3 (Nat.le_trans hl (by decide)) (i := 5) (by have q1 := (n32_lt (i := 5) (j := en - st) (by omega) (by omega)).mp hc17; omega) (j := (5 : Int32)) rfl (by decide) (by decide)) q18a q18c (g := (mkF m 184 #[.val (.ref b), .val (.ref tc), .val (.int (Int32.ofNat st)), .val (.int (Int32.ofNat en)), .val (.int (Int32.ofNat (en - st))), .val (.int 1)] [(.int 5), (.ref b)])) rfl (by rw [hml]; rfl) (Steps.refl _) (argsL := [(.int 5)]) (rest := []) (lenOf pd__I_C rfl) rfl (by show 2 * 0 + _ ≤ _; exact Nat.le_of_eq rfl) (hb hby d23_184) (fun _ _ => ⟨rfl, e15, (by decide : 0 + 0 ≤ _), (by decide : 0 + 0 ≤ _)⟩)
              dsimp only [Pt.U, Pt.locs, Pt.cells, Pt.slots] at X18 l18 y18 z18 st18 hQ18
              subst l18 y18 z18
              obtain ⟨rfl, rfl, e18⟩ := hQ18
              have N18 : Fr n0 ([] : List Loc) := Fr.nil n0
              have M18 := Fr.app M15 N18
              refine Gl.to st18 ?_
              show Gl p.tables e below _ (T18.setTop (mkF m 187 #[.val (.ref b), .val (.ref tc), .val (.int (Int32.ofNat st)), .val (.int (Int32.ofNat en)), .val (.int (Int32.ofNat (en - st))), .val (.int 1)] [(.int (ds.getD 5 0))]))
              show Gl p.tables e below _ (T18.setTop (mkF m 187 #[.val (.ref b), .val (.ref tc), .val (.int (Int32.ofNat st)), .val (.int (Int32.ofNat en)), .val (.int (Int32.ofNat (en - st))), .val (.int 1)] [(.int (ds.getD 5 0))]))
              refine Gl.st (fun _ kq => XS.aloadN X18.here hx rfl (hb hby d23_187) rfl rfl kq) ?_
              show Gl p.tables e below _ (T18.setTop (mkF m 188 #[.val (.ref b), .val (.ref tc), .val (.int (Int32.ofNat st)), .val (.int (Int32.ofNat en)), .val (.int (Int32.ofNat (en - st))), .val (.int 1)] [(.ref tc), (.int (ds.getD 5 0))]))
              refine Gl.st (fun _ kq => XS.iloadN X18.here hx rfl (hb hby d23_188) rfl kq) ?_
              show Gl p.tables e below _ (T18.setTop (mkF m 189 #[.val (.ref b), .val (.ref tc), .val (.int (Int32.ofNat st)), .val (.int (Int32.ofNat en)), .val (.int (Int32.ofNat (en - st))), .val (.int 1)] [(.int (Int32.ofNat st)), (.ref tc), (.int (ds.getD 5 0))]))
              refine Gl.st (fun _ kq => XS.iconst X18.here hx rfl (hb hby d23_189) kq) ?_
              show Gl p.tables e below _ (T18.setTop (mkF m 190 #[.val (.ref b), .val (.ref tc), .val (.int (Int32.ofNat st)), .val (.int (Int32.ofNat en)), .val (.int (Int32.ofNat (en - st))), .val (.int 1)] [(.int 5), (.int (Int32.ofNat st)), (.ref tc), (.int (ds.getD 5 0))]))
              refine Gl.st (fun _ kq => XS.iadd X18.here hx rfl (hb hby d23_190) rfl kq) ?_
              show Gl p.tables e below _ (T18.setTop (mkF m 191 #[.val (.ref b), .val (.ref tc), .val (.int (Int32.ofNat st)), .val (.int (Int32.ofNat en)), .val (.int (Int32.ofNat (en - st))), .val (.int 1)] [(.int ((Int32.ofNat st) + (5 : Int32))), (.ref tc), (.int (ds.getD 5 0))]))
              rw [show Int32.ofNat st + (5 : Int32) = Int32.ofNat (st + 5) from n32_add st 5]
              show Gl p.tables e below _ (T18.setTop (mkF m 191 #[.val (.ref b), .val (.ref tc), .val (.int (Int32.ofNat st)), .val (.int (Int32.ofNat en)), .val (.int (Int32.ofNat (en - st))), .val (.int 1)] [(.int (Int32.ofNat (st + 5))), (.ref tc), (.int (ds.getD 5 0))]))
              obtain ⟨c19, a19, q19, S19, M19, H19, G19⟩ := id pf4
              refine Gl.st (fun _ kq => X18.caload hx (j := (Int32.ofNat (st + 5))) (v := (.int (([v0, v1, v2, v3, v4, v5, v6, v7] : List Int32).getD (st + 5) 0))) (by rw [e18]; exact a19.1) (State.isArrayOf_alike hZ.alike a19.2.1) a19.2.2 (inb_of S19 ⟨n32_nn (by omega), n32_plt (i := (st + 5)) (j := 8) (by have q1 := (n32_lt (i := 5) (j := en - st) (by omega) (by omega)).mp hc17; omega) (by omega)⟩) (Has.at H19 (inb_of S19 ⟨n32_nn (by omega), n32_plt (i := (st + 5)) (j := 8) (by have q1 := (n32_lt (i := 5) (j := en - st) (by omega) (by omega)).mp hc17; omega) (by omega)⟩) (by rw [n32_cl (by omega)]; exact ld8 (by have q1 := (n32_lt (i := 5) (j := en - st) (by omega) (by omega)).mp hc17; omega))) (g := (mkF m 191 #[.val (.ref b), .val (.ref tc), .val (.int (Int32.ofNat st)), .val (.int (Int32.ofNat en)), .val (.int (Int32.ofNat (en - st))), .val (.int 1)] [(.int (Int32.ofNat (st + 5))), (.ref tc), (.int (ds.getD 5 0))])) rfl rfl (hb hby d23_191) _ kq) ?_
              show Gl p.tables e below _ (T18.setTop (mkF m 192 #[.val (.ref b), .val (.ref tc), .val (.int (Int32.ofNat st)), .val (.int (Int32.ofNat en)), .val (.int (Int32.ofNat (en - st))), .val (.int 1)] [(.int (([v0, v1, v2, v3, v4, v5, v6, v7] : List Int32).getD (st + 5) 0)), (.int (ds.getD 5 0))]))
              refine Gl.st (fun _ kq => XS.icmpNo X18.here hx rfl (hb hby d23_192) rfl (teq ((hcm 5 (by have q1 := (n32_lt (i := 5) (j := en - st) (by omega) (by omega)).mp hc17; omega)) : (ds.getD 5 0) = (([v0, v1, v2, v3, v4, v5, v6, v7] : List Int32).getD (st + 5) 0))).2 kq) ?_
              show Gl p.tables e below _ (T18.setTop (mkF m 195 #[.val (.ref b), .val (.ref tc), .val (.int (Int32.ofNat st)), .val (.int (Int32.ofNat en)), .val (.int (Int32.ofNat (en - st))), .val (.int 1)] []))
              refine Gl.st (fun _ kq => XS.iconst X18.here hx rfl (hb hby d23_195) kq) ?_
              show Gl p.tables e below _ (T18.setTop (mkF m 196 #[.val (.ref b), .val (.ref tc), .val (.int (Int32.ofNat st)), .val (.int (Int32.ofNat en)), .val (.int (Int32.ofNat (en - st))), .val (.int 1)] [(.int 1)]))
              refine Gl.st (fun _ kq => XS.goto X18.here hx rfl (pc0 := 196) (pc' := 200) rfl (hb hby d23_196) (by decide) (by decide) kq) ?_
              show Gl p.tables e below _ (T18.setTop (mkF m 200 #[.val (.ref b), .val (.ref tc), .val (.int (Int32.ofNat st)), .val (.int (Int32.ofNat en)), .val (.int (Int32.ofNat (en - st))), .val (.int 1)] [(.int 1)]))
              refine Gl.st (fun _ kq => XS.istore X18.here hx rfl (hb hby d23_200) rfl (l' := #[.val (.ref b), .val (.ref tc), .val (.int (Int32.ofNat st)), .val (.int (Int32.ofNat en)), .val (.int (Int32.ofNat (en - st))), .val (.int 1)]) rfl kq) ?_
              show Gl p.tables e below _ (T18.setTop (mkF m 202 #[.val (.ref b), .val (.ref tc), .val (.int (Int32.ofNat st)), .val (.int (Int32.ofNat en)), .val (.int (Int32.ofNat (en - st))), .val (.int 1)] []))
              refine Gl.st (fun _ kq => XS.iload X18.here hx rfl (hb hby d23_202) rfl kq) ?_
              show Gl p.tables e below _ (T18.setTop (mkF m 204 #[.val (.ref b), .val (.ref tc), .val (.int (Int32.ofNat st)), .val (.int (Int32.ofNat en)), .val (.int (Int32.ofNat (en - st))), .val (.int 1)] [(.int (Int32.ofNat (en - st)))]))
              refine Gl.st (fun _ kq => XS.bipush X18.here hx rfl (hb hby d23_204) kq) ?_
              show Gl p.tables e below _ (T18.setTop (mkF m 206 #[.val (.ref b), .val (.ref tc), .val (.int (Int32.ofNat st)), .val (.int (Int32.ofNat en)), .val (.int (Int32.ofNat (en - st))), .val (.int 1)] [(.int 6), (.int (Int32.ofNat (en - st)))]))
              by_cases hc20 : (6 : Int32) < (Int32.ofNat (en - st))
              · refine Gl.st (fun _ kq => XS.icmpNo X18.here hx rfl (hb hby d23_206) rfl (tlt (hc20 : (6 : Int32) < (Int32.ofNat (en - st)))).2.2.2 kq) ?_
                show Gl p.tables e below _ (T18.setTop (mkF m 209 #[.val (.ref b), .val (.ref tc), .val (.int (Int32.ofNat st)), .val (.int (Int32.ofNat en)), .val (.int (Int32.ofNat (en - st))), .val (.int 1)] []))
                refine Gl.st (fun _ kq => XS.iload X18.here hx rfl (hb hby d23_209) rfl kq) ?_
                show Gl p.tables e below _ (T18.setTop (mkF m 211 #[.val (.ref b), .val (.ref tc), .val (.int (Int32.ofNat st)), .val (.int (Int32.ofNat en)), .val (.int (Int32.ofNat (en - st))), .val (.int 1)] [(.int 1)]))
                refine Gl.st (fun _ kq => XS.ifNo X18.here hx rfl (hb hby d23_211) rfl ((if0 _ _).trans (feq ((by decide) : ¬ ((1 : Int32) = (0 : Int32)))).1) kq) ?_
                show Gl p.tables e below _ (T18.setTop (mkF m 214 #[.val (.ref b), .val (.ref tc), .val (.int (Int32.ofNat st)), .val (.int (Int32.ofNat en)), .val (.int (Int32.ofNat (en - st))), .val (.int 1)] []))
                refine Gl.st (fun _ kq => XS.aloadN X18.here hx rfl (hb hby d23_214) rfl rfl kq) ?_
                show Gl p.tables e below _ (T18.setTop (mkF m 215 #[.val (.ref b), .val (.ref tc), .val (.int (Int32.ofNat st)), .val (.int (Int32.ofNat en)), .val (.int (Int32.ofNat (en - st))), .val (.int 1)] [(.ref b)]))
                refine Gl.st (fun _ kq => XS.bipush X18.here hx rfl (hb hby d23_215) kq) ?_
                show Gl p.tables e below _ (T18.setTop (mkF m 217 #[.val (.ref b), .val (.ref tc), .val (.int (Int32.ofNat st)), .val (.int (Int32.ofNat en)), .val (.int (Int32.ofNat (en - st))), .val (.int 1)] [(.int 6), (.ref b)]))
                obtain ⟨cq21, kq21, q21a, q21b, q21c⟩ := isOf hZ e18 pf0
                obtain ⟨_, _, ⟨T21, L21, k21, n21⟩, -, X21, ⟨Lc21, hQ21, l21, y21, z21⟩, st21⟩ := X18.virtualBack hx (y := (⟨"java/lang/String", "charAt", "(I)C"⟩ : MethodName)) (z := (⟨"java/lang/String", "charAt", "(I)C"⟩ : MethodName)) hown (mvT hZ (tw hw 129 rfl)) (mvT hZ (tw hw 130 rfl)) (notFace_of_selects (args := #[]) (mvT hZ (tw hw 132 rfl))) (mvT hZ (tw hw 132 rfl)) (mvT hZ (tw hw 131 rfl)) (by decide) (StrChars.Road.chN (W := 0) hZ (wdCh hw) (kI := 4) (tw hw 5 rfl) pf0 pf2 pf1 pf3 (StrChars.Road.codOf (cs := ds) rfl (fun x hx => (hr x hx).2)) (up255 _ hr) (O2.ext pf5.2) P5 (O4.ext pf5.2) rG3 (Nat.le_trans hl (by decide)) (i := 6) (by have q1 := (n32_lt (i := 6) (j := en - st) (by omega) (by omega)).mp hc20; omega) (j := (6 : Int32)) rfl (by decide) (by decide)) q21a q21c (g := (mkF m 217 #[.val (.ref b), .val (.ref tc), .val (.int (Int32.ofNat st)), .val (.int (Int32.ofNat en)), .val (.int (Int32.ofNat (en - st))), .val (.int 1)] [(.int 6), (.ref b)])) rfl (by rw [hml]; rfl) (Steps.refl _) (argsL := [(.int 6)]) (rest := []) (lenOf pd__I_C rfl) rfl (by show 2 * 0 + _ ≤ _; exact Nat.le_of_eq rfl) (hb hby d23_217) (fun _ _ => ⟨rfl, e18, (by decide : 0 + 0 ≤ _), (by decide : 0 + 0 ≤ _)⟩)
                dsimp only [Pt.U, Pt.locs, Pt.cells, Pt.slots] at X21 l21 y21 z21 st21 hQ21
                subst l21 y21 z21
                obtain ⟨rfl, rfl, e21⟩ := hQ21
                have N21 : Fr n0 ([] : List Loc) := Fr.nil n0
                have M21 := Fr.app M18 N21
                refine Gl.to st21 ?_
                show Gl p.tables e below _ (T21.setTop (mkF m 220 #[.val (.ref b), .val (.ref tc), .val (.int (Int32.ofNat st)), .val (.int (Int32.ofNat en)), .val (.int (Int32.ofNat (en - st))), .val (.int 1)] [(.int (ds.getD 6 0))]))
                show Gl p.tables e below _ (T21.setTop (mkF m 220 #[.val (.ref b), .val (.ref tc), .val (.int (Int32.ofNat st)), .val (.int (Int32.ofNat en)), .val (.int (Int32.ofNat (en - st))), .val (.int 1)] [(.int (ds.getD 6 0))]))
                refine Gl.st (fun _ kq => XS.aloadN X21.here hx rfl (hb hby d23_220) rfl rfl kq) ?_
                show Gl p.tables e below _ (T21.setTop (mkF m 221 #[.val (.ref b), .val (.ref tc), .val (.int (Int32.ofNat st)), .val (.int (Int32.ofNat en)), .val (.int (Int32.ofNat (en - st))), .val (.int 1)] [(.ref tc), (.int (ds.getD 6 0))]))
                refine Gl.st (fun _ kq => XS.iloadN X21.here hx rfl (hb hby d23_221) rfl kq) ?_
                show Gl p.tables e below _ (T21.setTop (mkF m 222 #[.val (.ref b), .val (.ref tc), .val (.int (Int32.ofNat st)), .val (.int (Int32.ofNat en)), .val (.int (Int32.ofNat (en - st))), .val (.int 1)] [(.int (Int32.ofNat st)), (.ref tc), (.int (ds.getD 6 0))]))
                refine Gl.st (fun _ kq => XS.bipush X21.here hx rfl (hb hby d23_222) kq) ?_
                show Gl p.tables e below _ (T21.setTop (mkF m 224 #[.val (.ref b), .val (.ref tc), .val (.int (Int32.ofNat st)), .val (.int (Int32.ofNat en)), .val (.int (Int32.ofNat (en - st))), .val (.int 1)] [(.int 6), (.int (Int32.ofNat st)), (.ref tc), (.int (ds.getD 6 0))]))
                refine Gl.st (fun _ kq => XS.iadd X21.here hx rfl (hb hby d23_224) rfl kq) ?_
                show Gl p.tables e below _ (T21.setTop (mkF m 225 #[.val (.ref b), .val (.ref tc), .val (.int (Int32.ofNat st)), .val (.int (Int32.ofNat en)), .val (.int (Int32.ofNat (en - st))), .val (.int 1)] [(.int ((Int32.ofNat st) + (6 : Int32))), (.ref tc), (.int (ds.getD 6 0))]))
                rw [show Int32.ofNat st + (6 : Int32) = Int32.ofNat (st + 6) from n32_add st 6]
                show Gl p.tables e below _ (T21.setTop (mkF m 225 #[.val (.ref b), .val (.ref tc), .val (.int (Int32.ofNat st)), .val (.int (Int32.ofNat en)), .val (.int (Int32.ofNat (en - st))), .val (.int 1)] [(.int (Int32.ofNat (st + 6))), (.ref tc), (.int (ds.getD 6 0))]))
                obtain ⟨c22, a22, q22, S22, M22, H22, G22⟩ := id pf4
                refine Gl.st (fun _ kq => X21.caload hx (j := (Int32.ofNat (st + 6))) (v := (.int (([v0, v1, v2, v3, v4, v5, v6, v7] : List Int32).getD (st + 6) 0))) (by rw [e21]; exact a22.1) (State.isArrayOf_alike hZ.alike a22.2.1) a22.2.2 (inb_of S22 ⟨n32_nn (by omega), n32_plt (i := (st + 6)) (j := 8) (by have q1 := (n32_lt (i := 6) (j := en - st) (by omega) (by omega)).mp hc20; omega) (by omega)⟩) (Has.at H22 (inb_of S22 ⟨n32_nn (by omega), n32_plt (i := (st + 6)) (j := 8) (by have q1 := (n32_lt (i := 6) (j := en - st) (by omega) (by omega)).mp hc20; omega) (by omega)⟩) (by rw [n32_cl (by omega)]; exact ld8 (by have q1 := (n32_lt (i := 6) (j := en - st) (by omega) (by omega)).mp hc20; omega))) (g := (mkF m 225 #[.val (.ref b), .val (.ref tc), .val (.int (Int32.ofNat st)), .val (.int (Int32.ofNat en)), .val (.int (Int32.ofNat (en - st))), .val (.int 1)] [(.int (Int32.ofNat (st + 6))), (.ref tc), (.int (ds.getD 6 0))])) rfl rfl (hb hby d23_225) _ kq) ?_
                show Gl p.tables e below _ (T21.setTop (mkF m 226 #[.val (.ref b), .val (.ref tc), .val (.int (Int32.ofNat st)), .val (.int (Int32.ofNat en)), .val (.int (Int32.ofNat (en - st))), .val (.int 1)] [(.int (([v0, v1, v2, v3, v4, v5, v6, v7] : List Int32).getD (st + 6) 0)), (.int (ds.getD 6 0))]))
                refine Gl.st (fun _ kq => XS.icmpNo X21.here hx rfl (hb hby d23_226) rfl (teq ((hcm 6 (by have q1 := (n32_lt (i := 6) (j := en - st) (by omega) (by omega)).mp hc20; omega)) : (ds.getD 6 0) = (([v0, v1, v2, v3, v4, v5, v6, v7] : List Int32).getD (st + 6) 0))).2 kq) ?_
                show Gl p.tables e below _ (T21.setTop (mkF m 229 #[.val (.ref b), .val (.ref tc), .val (.int (Int32.ofNat st)), .val (.int (Int32.ofNat en)), .val (.int (Int32.ofNat (en - st))), .val (.int 1)] []))
                refine Gl.st (fun _ kq => XS.iconst X21.here hx rfl (hb hby d23_229) kq) ?_
                show Gl p.tables e below _ (T21.setTop (mkF m 230 #[.val (.ref b), .val (.ref tc), .val (.int (Int32.ofNat st)), .val (.int (Int32.ofNat en)), .val (.int (Int32.ofNat (en - st))), .val (.int 1)] [(.int 1)]))
                refine Gl.st (fun _ kq => XS.goto X21.here hx rfl (pc0 := 230) (pc' := 234) rfl (hb hby d23_230) (by decide) (by decide) kq) ?_
                show Gl p.tables e below _ (T21.setTop (mkF m 234 #[.val (.ref b), .val (.ref tc), .val (.int (Int32.ofNat st)), .val (.int (Int32.ofNat en)), .val (.int (Int32.ofNat (en - st))), .val (.int 1)] [(.int 1)]))
                refine Gl.st (fun _ kq => XS.istore X21.here hx rfl (hb hby d23_234) rfl (l' := #[.val (.ref b), .val (.ref tc), .val (.int (Int32.ofNat st)), .val (.int (Int32.ofNat en)), .val (.int (Int32.ofNat (en - st))), .val (.int 1)]) rfl kq) ?_
                show Gl p.tables e below _ (T21.setTop (mkF m 236 #[.val (.ref b), .val (.ref tc), .val (.int (Int32.ofNat st)), .val (.int (Int32.ofNat en)), .val (.int (Int32.ofNat (en - st))), .val (.int 1)] []))
                refine Gl.st (fun _ kq => XS.iload X21.here hx rfl (hb hby d23_236) rfl kq) ?_
                show Gl p.tables e below _ (T21.setTop (mkF m 238 #[.val (.ref b), .val (.ref tc), .val (.int (Int32.ofNat st)), .val (.int (Int32.ofNat en)), .val (.int (Int32.ofNat (en - st))), .val (.int 1)] [(.int 1)]))
                exact Gl.retN X21 hx (t := .boolean) Bd.returns (by simp) (hb hby d23_238) hlk (by decide) (by decide) (by rw [e21]; exact ⟨rfl, M21, rfl⟩)
              · refine Gl.st (fun _ kq => XS.icmpYes X18.here hx rfl (pc0 := 206) (pc' := 236) rfl (hb hby d23_206) rfl (flt (hc20 : ¬ ((6 : Int32) < (Int32.ofNat (en - st))))).2.2.2 (by decide) (by decide) kq) ?_
                show Gl p.tables e below _ (T18.setTop (mkF m 236 #[.val (.ref b), .val (.ref tc), .val (.int (Int32.ofNat st)), .val (.int (Int32.ofNat en)), .val (.int (Int32.ofNat (en - st))), .val (.int 1)] []))
                refine Gl.st (fun _ kq => XS.iload X18.here hx rfl (hb hby d23_236) rfl kq) ?_
                show Gl p.tables e below _ (T18.setTop (mkF m 238 #[.val (.ref b), .val (.ref tc), .val (.int (Int32.ofNat st)), .val (.int (Int32.ofNat en)), .val (.int (Int32.ofNat (en - st))), .val (.int 1)] [(.int 1)]))
                exact Gl.retN X18 hx (t := .boolean) Bd.returns (by simp) (hb hby d23_238) hlk (by decide) (by decide) (by rw [e18]; exact ⟨rfl, M18, rfl⟩)
            · refine Gl.st (fun _ kq => XS.icmpYes X15.here hx rfl (pc0 := 174) (pc' := 202) rfl (hb hby d23_174) rfl (flt (hc17 : ¬ ((5 : Int32) < (Int32.ofNat (en - st))))).2.2.2 (by decide) (by decide) kq) ?_
              show Gl p.tables e below _ (T15.setTop (mkF m 202 #[.val (.ref b), .val (.ref tc), .val (.int (Int32.ofNat st)), .val (.int (Int32.ofNat en)), .val (.int (Int32.ofNat (en - st))), .val (.int 1)] []))
              refine Gl.st (fun _ kq => XS.iload X15.here hx rfl (hb hby d23_202) rfl kq) ?_
              show Gl p.tables e below _ (T15.setTop (mkF m 204 #[.val (.ref b), .val (.ref tc), .val (.int (Int32.ofNat st)), .val (.int (Int32.ofNat en)), .val (.int (Int32.ofNat (en - st))), .val (.int 1)] [(.int (Int32.ofNat (en - st)))]))
              refine Gl.st (fun _ kq => XS.bipush X15.here hx rfl (hb hby d23_204) kq) ?_
              show Gl p.tables e below _ (T15.setTop (mkF m 206 #[.val (.ref b), .val (.ref tc), .val (.int (Int32.ofNat st)), .val (.int (Int32.ofNat en)), .val (.int (Int32.ofNat (en - st))), .val (.int 1)] [(.int 6), (.int (Int32.ofNat (en - st)))]))
              refine Gl.st (fun _ kq => XS.icmpYes X15.here hx rfl (pc0 := 206) (pc' := 236) rfl (hb hby d23_206) rfl (flt ((own_le hc17 (by decide)) : ¬ ((6 : Int32) < (Int32.ofNat (en - st))))).2.2.2 (by decide) (by decide) kq) ?_
              show Gl p.tables e below _ (T15.setTop (mkF m 236 #[.val (.ref b), .val (.ref tc), .val (.int (Int32.ofNat st)), .val (.int (Int32.ofNat en)), .val (.int (Int32.ofNat (en - st))), .val (.int 1)] []))
              refine Gl.st (fun _ kq => XS.iload X15.here hx rfl (hb hby d23_236) rfl kq) ?_
              show Gl p.tables e below _ (T15.setTop (mkF m 238 #[.val (.ref b), .val (.ref tc), .val (.int (Int32.ofNat st)), .val (.int (Int32.ofNat en)), .val (.int (Int32.ofNat (en - st))), .val (.int 1)] [(.int 1)]))
              exact Gl.retN X15 hx (t := .boolean) Bd.returns (by simp) (hb hby d23_238) hlk (by decide) (by decide) (by rw [e15]; exact ⟨rfl, M15, rfl⟩)
          · refine Gl.st (fun _ kq => XS.icmpYes X12.here hx rfl (pc0 := 143) (pc' := 171) rfl (hb hby d23_143) rfl (flt (hc14 : ¬ ((4 : Int32) < (Int32.ofNat (en - st))))).2.2.2 (by decide) (by decide) kq) ?_
            show Gl p.tables e below _ (T12.setTop (mkF m 171 #[.val (.ref b), .val (.ref tc), .val (.int (Int32.ofNat st)), .val (.int (Int32.ofNat en)), .val (.int (Int32.ofNat (en - st))), .val (.int 1)] []))
            refine Gl.st (fun _ kq => XS.iload X12.here hx rfl (hb hby d23_171) rfl kq) ?_
            show Gl p.tables e below _ (T12.setTop (mkF m 173 #[.val (.ref b), .val (.ref tc), .val (.int (Int32.ofNat st)), .val (.int (Int32.ofNat en)), .val (.int (Int32.ofNat (en - st))), .val (.int 1)] [(.int (Int32.ofNat (en - st)))]))
            refine Gl.st (fun _ kq => XS.iconst X12.here hx rfl (hb hby d23_173) kq) ?_
            show Gl p.tables e below _ (T12.setTop (mkF m 174 #[.val (.ref b), .val (.ref tc), .val (.int (Int32.ofNat st)), .val (.int (Int32.ofNat en)), .val (.int (Int32.ofNat (en - st))), .val (.int 1)] [(.int 5), (.int (Int32.ofNat (en - st)))]))
            refine Gl.st (fun _ kq => XS.icmpYes X12.here hx rfl (pc0 := 174) (pc' := 202) rfl (hb hby d23_174) rfl (flt ((own_le hc14 (by decide)) : ¬ ((5 : Int32) < (Int32.ofNat (en - st))))).2.2.2 (by decide) (by decide) kq) ?_
            show Gl p.tables e below _ (T12.setTop (mkF m 202 #[.val (.ref b), .val (.ref tc), .val (.int (Int32.ofNat st)), .val (.int (Int32.ofNat en)), .val (.int (Int32.ofNat (en - st))), .val (.int 1)] []))
            refine Gl.st (fun _ kq => XS.iload X12.here hx rfl (hb hby d23_202) rfl kq) ?_
            show Gl p.tables e below _ (T12.setTop (mkF m 204 #[.val (.ref b), .val (.ref tc), .val (.int (Int32.ofNat st)), .val (.int (Int32.ofNat en)), .val (.int (Int32.ofNat (en - st))), .val (.int 1)] [(.int (Int32.ofNat (en - st)))]))
            refine Gl.st (fun _ kq => XS.bipush X12.here hx rfl (hb hby d23_204) kq) ?_
            show Gl p.tables e below _ (T12.setTop (mkF m 206 #[.val (.ref b), .val (.ref tc), .val (.int (Int32.ofNat st)), .val (.int (Int32.ofNat en)), .val (.int (Int32.ofNat (en - st))), .val (.int 1)] [(.int 6), (.int (Int32.ofNat (en - st)))]))
            refine Gl.st (fun _ kq => XS.icmpYes X12.here hx rfl (pc0 := 206) (pc' := 236) rfl (hb hby d23_206) rfl (flt ((own_le hc14 (by decide)) : ¬ ((6 : Int32) < (Int32.ofNat (en - st))))).2.2.2 (by decide) (by decide) kq) ?_
            show Gl p.tables e below _ (T12.setTop (mkF m 236 #[.val (.ref b), .val (.ref tc), .val (.int (Int32.ofNat st)), .val (.int (Int32.ofNat en)), .val (.int (Int32.ofNat (en - st))), .val (.int 1)] []))
            refine Gl.st (fun _ kq => XS.iload X12.here hx rfl (hb hby d23_236) rfl kq) ?_
            show Gl p.tables e below _ (T12.setTop (mkF m 238 #[.val (.ref b), .val (.ref tc), .val (.int (Int32.ofNat st)), .val (.int (Int32.ofNat en)), .val (.int (Int32.ofNat (en - st))), .val (.int 1)] [(.int 1)]))
            exact Gl.retN X12 hx (t := .boolean) Bd.returns (by simp) (hb hby d23_238) hlk (by decide) (by decide) (by rw [e12]; exact ⟨rfl, M12, rfl⟩)
        · refine Gl.st (fun _ kq => XS.icmpYes X9.here hx rfl (pc0 := 112) (pc' := 140) rfl (hb hby d23_112) rfl (flt (hc11 : ¬ ((3 : Int32) < (Int32.ofNat (en - st))))).2.2.2 (by decide) (by decide) kq) ?_
          show Gl p.tables e below _ (T9.setTop (mkF m 140 #[.val (.ref b), .val (.ref tc), .val (.int (Int32.ofNat st)), .val (.int (Int32.ofNat en)), .val (.int (Int32.ofNat (en - st))), .val (.int 1)] []))
          refine Gl.st (fun _ kq => XS.iload X9.here hx rfl (hb hby d23_140) rfl kq) ?_
          show Gl p.tables e below _ (T9.setTop (mkF m 142 #[.val (.ref b), .val (.ref tc), .val (.int (Int32.ofNat st)), .val (.int (Int32.ofNat en)), .val (.int (Int32.ofNat (en - st))), .val (.int 1)] [(.int (Int32.ofNat (en - st)))]))
          refine Gl.st (fun _ kq => XS.iconst X9.here hx rfl (hb hby d23_142) kq) ?_
          show Gl p.tables e below _ (T9.setTop (mkF m 143 #[.val (.ref b), .val (.ref tc), .val (.int (Int32.ofNat st)), .val (.int (Int32.ofNat en)), .val (.int (Int32.ofNat (en - st))), .val (.int 1)] [(.int 4), (.int (Int32.ofNat (en - st)))]))
          refine Gl.st (fun _ kq => XS.icmpYes X9.here hx rfl (pc0 := 143) (pc' := 171) rfl (hb hby d23_143) rfl (flt ((own_le hc11 (by decide)) : ¬ ((4 : Int32) < (Int32.ofNat (en - st))))).2.2.2 (by decide) (by decide) kq) ?_
          show Gl p.tables e below _ (T9.setTop (mkF m 171 #[.val (.ref b), .val (.ref tc), .val (.int (Int32.ofNat st)), .val (.int (Int32.ofNat en)), .val (.int (Int32.ofNat (en - st))), .val (.int 1)] []))
          refine Gl.st (fun _ kq => XS.iload X9.here hx rfl (hb hby d23_171) rfl kq) ?_
          show Gl p.tables e below _ (T9.setTop (mkF m 173 #[.val (.ref b), .val (.ref tc), .val (.int (Int32.ofNat st)), .val (.int (Int32.ofNat en)), .val (.int (Int32.ofNat (en - st))), .val (.int 1)] [(.int (Int32.ofNat (en - st)))]))
          refine Gl.st (fun _ kq => XS.iconst X9.here hx rfl (hb hby d23_173) kq) ?_
          show Gl p.tables e below _ (T9.setTop (mkF m 174 #[.val (.ref b), .val (.ref tc), .val (.int (Int32.ofNat st)), .val (.int (Int32.ofNat en)), .val (.int (Int32.ofNat (en - st))), .val (.int 1)] [(.int 5), (.int (Int32.ofNat (en - st)))]))
          refine Gl.st (fun _ kq => XS.icmpYes X9.here hx rfl (pc0 := 174) (pc' := 202) rfl (hb hby d23_174) rfl (flt ((own_le hc11 (by decide)) : ¬ ((5 : Int32) < (Int32.ofNat (en - st))))).2.2.2 (by decide) (by decide) kq) ?_
          show Gl p.tables e below _ (T9.setTop (mkF m 202 #[.val (.ref b), .val (.ref tc), .val (.int (Int32.ofNat st)), .val (.int (Int32.ofNat en)), .val (.int (Int32.ofNat (en - st))), .val (.int 1)] []))
          refine Gl.st (fun _ kq => XS.iload X9.here hx rfl (hb hby d23_202) rfl kq) ?_
          show Gl p.tables e below _ (T9.setTop (mkF m 204 #[.val (.ref b), .val (.ref tc), .val (.int (Int32.ofNat st)), .val (.int (Int32.ofNat en)), .val (.int (Int32.ofNat (en - st))), .val (.int 1)] [(.int (Int32.ofNat (en - st)))]))
          refine Gl.st (fun _ kq => XS.bipush X9.here hx rfl (hb hby d23_204) kq) ?_
          show Gl p.tables e below _ (T9.setTop (mkF m 206 #[.val (.ref b), .val (.ref tc), .val (.int (Int32.ofNat st)), .val (.int (Int32.ofNat en)), .val (.int (Int32.ofNat (en - st))), .val (.int 1)] [(.int 6), (.int (Int32.ofNat (en - st)))]))
          refine Gl.st (fun _ kq => XS.icmpYes X9.here hx rfl (pc0 := 206) (pc' := 236) rfl (hb hby d23_206) rfl (flt ((own_le hc11 (by decide)) : ¬ ((6 : Int32) < (Int32.ofNat (en - st))))).2.2.2 (by decide) (by decide) kq) ?_
          show Gl p.tables e below _ (T9.setTop (mkF m 236 #[.val (.ref b), .val (.ref tc), .val (.int (Int32.ofNat st)), .val (.int (Int32.ofNat en)), .val (.int (Int32.ofNat (en - st))), .val (.int 1)] []))
          refine Gl.st (fun _ kq => XS.iload X9.here hx rfl (hb hby d23_236) rfl kq) ?_
          show Gl p.tables e below _ (T9.setTop (mkF m 238 #[.val (.ref b), .val (.ref tc), .val (.int (Int32.ofNat st)), .val (.int (Int32.ofNat en)), .val (.int (Int32.ofNat (en - st))), .val (.int 1)] [(.int 1)]))
          exact Gl.retN X9 hx (t := .boolean) Bd.returns (by simp) (hb hby d23_238) hlk (by decide) (by decide) (by rw [e9]; exact ⟨rfl, M9, rfl⟩)
      · refine Gl.st (fun _ kq => XS.icmpYes X6.here hx rfl (pc0 := 81) (pc' := 109) rfl (hb hby d23_81) rfl (flt (hc8 : ¬ ((2 : Int32) < (Int32.ofNat (en - st))))).2.2.2 (by decide) (by decide) kq) ?_
        show Gl p.tables e below _ (T6.setTop (mkF m 109 #[.val (.ref b), .val (.ref tc), .val (.int (Int32.ofNat st)), .val (.int (Int32.ofNat en)), .val (.int (Int32.ofNat (en - st))), .val (.int 1)] []))
        refine Gl.st (fun _ kq => XS.iload X6.here hx rfl (hb hby d23_109) rfl kq) ?_
        show Gl p.tables e below _ (T6.setTop (mkF m 111 #[.val (.ref b), .val (.ref tc), .val (.int (Int32.ofNat st)), .val (.int (Int32.ofNat en)), .val (.int (Int32.ofNat (en - st))), .val (.int 1)] [(.int (Int32.ofNat (en - st)))]))
        refine Gl.st (fun _ kq => XS.iconst X6.here hx rfl (hb hby d23_111) kq) ?_
        show Gl p.tables e below _ (T6.setTop (mkF m 112 #[.val (.ref b), .val (.ref tc), .val (.int (Int32.ofNat st)), .val (.int (Int32.ofNat en)), .val (.int (Int32.ofNat (en - st))), .val (.int 1)] [(.int 3), (.int (Int32.ofNat (en - st)))]))
        refine Gl.st (fun _ kq => XS.icmpYes X6.here hx rfl (pc0 := 112) (pc' := 140) rfl (hb hby d23_112) rfl (flt ((own_le hc8 (by decide)) : ¬ ((3 : Int32) < (Int32.ofNat (en - st))))).2.2.2 (by decide) (by decide) kq) ?_
        show Gl p.tables e below _ (T6.setTop (mkF m 140 #[.val (.ref b), .val (.ref tc), .val (.int (Int32.ofNat st)), .val (.int (Int32.ofNat en)), .val (.int (Int32.ofNat (en - st))), .val (.int 1)] []))
        refine Gl.st (fun _ kq => XS.iload X6.here hx rfl (hb hby d23_140) rfl kq) ?_
        show Gl p.tables e below _ (T6.setTop (mkF m 142 #[.val (.ref b), .val (.ref tc), .val (.int (Int32.ofNat st)), .val (.int (Int32.ofNat en)), .val (.int (Int32.ofNat (en - st))), .val (.int 1)] [(.int (Int32.ofNat (en - st)))]))
        refine Gl.st (fun _ kq => XS.iconst X6.here hx rfl (hb hby d23_142) kq) ?_
        show Gl p.tables e below _ (T6.setTop (mkF m 143 #[.val (.ref b), .val (.ref tc), .val (.int (Int32.ofNat st)), .val (.int (Int32.ofNat en)), .val (.int (Int32.ofNat (en - st))), .val (.int 1)] [(.int 4), (.int (Int32.ofNat (en - st)))]))
        refine Gl.st (fun _ kq => XS.icmpYes X6.here hx rfl (pc0 := 143) (pc' := 171) rfl (hb hby d23_143) rfl (flt ((own_le hc8 (by decide)) : ¬ ((4 : Int32) < (Int32.ofNat (en - st))))).2.2.2 (by decide) (by decide) kq) ?_
        show Gl p.tables e below _ (T6.setTop (mkF m 171 #[.val (.ref b), .val (.ref tc), .val (.int (Int32.ofNat st)), .val (.int (Int32.ofNat en)), .val (.int (Int32.ofNat (en - st))), .val (.int 1)] []))
        refine Gl.st (fun _ kq => XS.iload X6.here hx rfl (hb hby d23_171) rfl kq) ?_
        show Gl p.tables e below _ (T6.setTop (mkF m 173 #[.val (.ref b), .val (.ref tc), .val (.int (Int32.ofNat st)), .val (.int (Int32.ofNat en)), .val (.int (Int32.ofNat (en - st))), .val (.int 1)] [(.int (Int32.ofNat (en - st)))]))
        refine Gl.st (fun _ kq => XS.iconst X6.here hx rfl (hb hby d23_173) kq) ?_
        show Gl p.tables e below _ (T6.setTop (mkF m 174 #[.val (.ref b), .val (.ref tc), .val (.int (Int32.ofNat st)), .val (.int (Int32.ofNat en)), .val (.int (Int32.ofNat (en - st))), .val (.int 1)] [(.int 5), (.int (Int32.ofNat (en - st)))]))
        refine Gl.st (fun _ kq => XS.icmpYes X6.here hx rfl (pc0 := 174) (pc' := 202) rfl (hb hby d23_174) rfl (flt ((own_le hc8 (by decide)) : ¬ ((5 : Int32) < (Int32.ofNat (en - st))))).2.2.2 (by decide) (by decide) kq) ?_
        show Gl p.tables e below _ (T6.setTop (mkF m 202 #[.val (.ref b), .val (.ref tc), .val (.int (Int32.ofNat st)), .val (.int (Int32.ofNat en)), .val (.int (Int32.ofNat (en - st))), .val (.int 1)] []))
        refine Gl.st (fun _ kq => XS.iload X6.here hx rfl (hb hby d23_202) rfl kq) ?_
        show Gl p.tables e below _ (T6.setTop (mkF m 204 #[.val (.ref b), .val (.ref tc), .val (.int (Int32.ofNat st)), .val (.int (Int32.ofNat en)), .val (.int (Int32.ofNat (en - st))), .val (.int 1)] [(.int (Int32.ofNat (en - st)))]))
        refine Gl.st (fun _ kq => XS.bipush X6.here hx rfl (hb hby d23_204) kq) ?_
        show Gl p.tables e below _ (T6.setTop (mkF m 206 #[.val (.ref b), .val (.ref tc), .val (.int (Int32.ofNat st)), .val (.int (Int32.ofNat en)), .val (.int (Int32.ofNat (en - st))), .val (.int 1)] [(.int 6), (.int (Int32.ofNat (en - st)))]))
        refine Gl.st (fun _ kq => XS.icmpYes X6.here hx rfl (pc0 := 206) (pc' := 236) rfl (hb hby d23_206) rfl (flt ((own_le hc8 (by decide)) : ¬ ((6 : Int32) < (Int32.ofNat (en - st))))).2.2.2 (by decide) (by decide) kq) ?_
        show Gl p.tables e below _ (T6.setTop (mkF m 236 #[.val (.ref b), .val (.ref tc), .val (.int (Int32.ofNat st)), .val (.int (Int32.ofNat en)), .val (.int (Int32.ofNat (en - st))), .val (.int 1)] []))
        refine Gl.st (fun _ kq => XS.iload X6.here hx rfl (hb hby d23_236) rfl kq) ?_
        show Gl p.tables e below _ (T6.setTop (mkF m 238 #[.val (.ref b), .val (.ref tc), .val (.int (Int32.ofNat st)), .val (.int (Int32.ofNat en)), .val (.int (Int32.ofNat (en - st))), .val (.int 1)] [(.int 1)]))
        exact Gl.retN X6 hx (t := .boolean) Bd.returns (by simp) (hb hby d23_238) hlk (by decide) (by decide) (by rw [e6]; exact ⟨rfl, M6, rfl⟩)
    · refine Gl.st (fun _ kq => XS.icmpYes X3.here hx rfl (pc0 := 50) (pc' := 78) rfl (hb hby d23_50) rfl (flt (hc5 : ¬ ((1 : Int32) < (Int32.ofNat (en - st))))).2.2.2 (by decide) (by decide) kq) ?_
      show Gl p.tables e below _ (T3.setTop (mkF m 78 #[.val (.ref b), .val (.ref tc), .val (.int (Int32.ofNat st)), .val (.int (Int32.ofNat en)), .val (.int (Int32.ofNat (en - st))), .val (.int 1)] []))
      refine Gl.st (fun _ kq => XS.iload X3.here hx rfl (hb hby d23_78) rfl kq) ?_
      show Gl p.tables e below _ (T3.setTop (mkF m 80 #[.val (.ref b), .val (.ref tc), .val (.int (Int32.ofNat st)), .val (.int (Int32.ofNat en)), .val (.int (Int32.ofNat (en - st))), .val (.int 1)] [(.int (Int32.ofNat (en - st)))]))
      refine Gl.st (fun _ kq => XS.iconst X3.here hx rfl (hb hby d23_80) kq) ?_
      show Gl p.tables e below _ (T3.setTop (mkF m 81 #[.val (.ref b), .val (.ref tc), .val (.int (Int32.ofNat st)), .val (.int (Int32.ofNat en)), .val (.int (Int32.ofNat (en - st))), .val (.int 1)] [(.int 2), (.int (Int32.ofNat (en - st)))]))
      refine Gl.st (fun _ kq => XS.icmpYes X3.here hx rfl (pc0 := 81) (pc' := 109) rfl (hb hby d23_81) rfl (flt ((own_le hc5 (by decide)) : ¬ ((2 : Int32) < (Int32.ofNat (en - st))))).2.2.2 (by decide) (by decide) kq) ?_
      show Gl p.tables e below _ (T3.setTop (mkF m 109 #[.val (.ref b), .val (.ref tc), .val (.int (Int32.ofNat st)), .val (.int (Int32.ofNat en)), .val (.int (Int32.ofNat (en - st))), .val (.int 1)] []))
      refine Gl.st (fun _ kq => XS.iload X3.here hx rfl (hb hby d23_109) rfl kq) ?_
      show Gl p.tables e below _ (T3.setTop (mkF m 111 #[.val (.ref b), .val (.ref tc), .val (.int (Int32.ofNat st)), .val (.int (Int32.ofNat en)), .val (.int (Int32.ofNat (en - st))), .val (.int 1)] [(.int (Int32.ofNat (en - st)))]))
      refine Gl.st (fun _ kq => XS.iconst X3.here hx rfl (hb hby d23_111) kq) ?_
      show Gl p.tables e below _ (T3.setTop (mkF m 112 #[.val (.ref b), .val (.ref tc), .val (.int (Int32.ofNat st)), .val (.int (Int32.ofNat en)), .val (.int (Int32.ofNat (en - st))), .val (.int 1)] [(.int 3), (.int (Int32.ofNat (en - st)))]))
      refine Gl.st (fun _ kq => XS.icmpYes X3.here hx rfl (pc0 := 112) (pc' := 140) rfl (hb hby d23_112) rfl (flt ((own_le hc5 (by decide)) : ¬ ((3 : Int32) < (Int32.ofNat (en - st))))).2.2.2 (by decide) (by decide) kq) ?_
      show Gl p.tables e below _ (T3.setTop (mkF m 140 #[.val (.ref b), .val (.ref tc), .val (.int (Int32.ofNat st)), .val (.int (Int32.ofNat en)), .val (.int (Int32.ofNat (en - st))), .val (.int 1)] []))
      refine Gl.st (fun _ kq => XS.iload X3.here hx rfl (hb hby d23_140) rfl kq) ?_
      show Gl p.tables e below _ (T3.setTop (mkF m 142 #[.val (.ref b), .val (.ref tc), .val (.int (Int32.ofNat st)), .val (.int (Int32.ofNat en)), .val (.int (Int32.ofNat (en - st))), .val (.int 1)] [(.int (Int32.ofNat (en - st)))]))
      refine Gl.st (fun _ kq => XS.iconst X3.here hx rfl (hb hby d23_142) kq) ?_
      show Gl p.tables e below _ (T3.setTop (mkF m 143 #[.val (.ref b), .val (.ref tc), .val (.int (Int32.ofNat st)), .val (.int (Int32.ofNat en)), .val (.int (Int32.ofNat (en - st))), .val (.int 1)] [(.int 4), (.int (Int32.ofNat (en - st)))]))
      refine Gl.st (fun _ kq => XS.icmpYes X3.here hx rfl (pc0 := 143) (pc' := 171) rfl (hb hby d23_143) rfl (flt ((own_le hc5 (by decide)) : ¬ ((4 : Int32) < (Int32.ofNat (en - st))))).2.2.2 (by decide) (by decide) kq) ?_
      show Gl p.tables e below _ (T3.setTop (mkF m 171 #[.val (.ref b), .val (.ref tc), .val (.int (Int32.ofNat st)), .val (.int (Int32.ofNat en)), .val (.int (Int32.ofNat (en - st))), .val (.int 1)] []))
      refine Gl.st (fun _ kq => XS.iload X3.here hx rfl (hb hby d23_171) rfl kq) ?_
      show Gl p.tables e below _ (T3.setTop (mkF m 173 #[.val (.ref b), .val (.ref tc), .val (.int (Int32.ofNat st)), .val (.int (Int32.ofNat en)), .val (.int (Int32.ofNat (en - st))), .val (.int 1)] [(.int (Int32.ofNat (en - st)))]))
      refine Gl.st (fun _ kq => XS.iconst X3.here hx rfl (hb hby d23_173) kq) ?_
      show Gl p.tables e below _ (T3.setTop (mkF m 174 #[.val (.ref b), .val (.ref tc), .val (.int (Int32.ofNat st)), .val (.int (Int32.ofNat en)), .val (.int (Int32.ofNat (en - st))), .val (.int 1)] [(.int 5), (.int (Int32.ofNat (en - st)))]))
      refine Gl.st (fun _ kq => XS.icmpYes X3.here hx rfl (pc0 := 174) (pc' := 202) rfl (hb hby d23_174) rfl (flt ((own_le hc5 (by decide)) : ¬ ((5 : Int32) < (Int32.ofNat (en - st))))).2.2.2 (by decide) (by decide) kq) ?_
      show Gl p.tables e below _ (T3.setTop (mkF m 202 #[.val (.ref b), .val (.ref tc), .val (.int (Int32.ofNat st)), .val (.int (Int32.ofNat en)), .val (.int (Int32.ofNat (en - st))), .val (.int 1)] []))
      refine Gl.st (fun _ kq => XS.iload X3.here hx rfl (hb hby d23_202) rfl kq) ?_
      show Gl p.tables e below _ (T3.setTop (mkF m 204 #[.val (.ref b), .val (.ref tc), .val (.int (Int32.ofNat st)), .val (.int (Int32.ofNat en)), .val (.int (Int32.ofNat (en - st))), .val (.int 1)] [(.int (Int32.ofNat (en - st)))]))
      refine Gl.st (fun _ kq => XS.bipush X3.here hx rfl (hb hby d23_204) kq) ?_
      show Gl p.tables e below _ (T3.setTop (mkF m 206 #[.val (.ref b), .val (.ref tc), .val (.int (Int32.ofNat st)), .val (.int (Int32.ofNat en)), .val (.int (Int32.ofNat (en - st))), .val (.int 1)] [(.int 6), (.int (Int32.ofNat (en - st)))]))
      refine Gl.st (fun _ kq => XS.icmpYes X3.here hx rfl (pc0 := 206) (pc' := 236) rfl (hb hby d23_206) rfl (flt ((own_le hc5 (by decide)) : ¬ ((6 : Int32) < (Int32.ofNat (en - st))))).2.2.2 (by decide) (by decide) kq) ?_
      show Gl p.tables e below _ (T3.setTop (mkF m 236 #[.val (.ref b), .val (.ref tc), .val (.int (Int32.ofNat st)), .val (.int (Int32.ofNat en)), .val (.int (Int32.ofNat (en - st))), .val (.int 1)] []))
      refine Gl.st (fun _ kq => XS.iload X3.here hx rfl (hb hby d23_236) rfl kq) ?_
      show Gl p.tables e below _ (T3.setTop (mkF m 238 #[.val (.ref b), .val (.ref tc), .val (.int (Int32.ofNat st)), .val (.int (Int32.ofNat en)), .val (.int (Int32.ofNat (en - st))), .val (.int 1)] [(.int 1)]))
      exact Gl.retN X3 hx (t := .boolean) Bd.returns (by simp) (hb hby d23_238) hlk (by decide) (by decide) (by rw [e3]; exact ⟨rfl, M3, rfl⟩)
  · refine Gl.st (fun _ kq => XS.ifYes X1.here hx rfl (pc0 := 21) (pc' := 47) rfl (hb hby d23_21) rfl ((if0 _ _).trans (flt (hc2 : ¬ ((0 : Int32) < (Int32.ofNat (en - st))))).2.2.2) (by decide) (by decide) kq) ?_
    show Gl p.tables e below _ (T1.setTop (mkF m 47 #[.val (.ref b), .val (.ref tc), .val (.int (Int32.ofNat st)), .val (.int (Int32.ofNat en)), .val (.int (Int32.ofNat (en - st))), .val (.int 1)] []))
    refine Gl.st (fun _ kq => XS.iload X1.here hx rfl (hb hby d23_47) rfl kq) ?_
    show Gl p.tables e below _ (T1.setTop (mkF m 49 #[.val (.ref b), .val (.ref tc), .val (.int (Int32.ofNat st)), .val (.int (Int32.ofNat en)), .val (.int (Int32.ofNat (en - st))), .val (.int 1)] [(.int (Int32.ofNat (en - st)))]))
    refine Gl.st (fun _ kq => XS.iconst X1.here hx rfl (hb hby d23_49) kq) ?_
    show Gl p.tables e below _ (T1.setTop (mkF m 50 #[.val (.ref b), .val (.ref tc), .val (.int (Int32.ofNat st)), .val (.int (Int32.ofNat en)), .val (.int (Int32.ofNat (en - st))), .val (.int 1)] [(.int 1), (.int (Int32.ofNat (en - st)))]))
    refine Gl.st (fun _ kq => XS.icmpYes X1.here hx rfl (pc0 := 50) (pc' := 78) rfl (hb hby d23_50) rfl (flt ((own_le hc2 (by decide)) : ¬ ((1 : Int32) < (Int32.ofNat (en - st))))).2.2.2 (by decide) (by decide) kq) ?_
    show Gl p.tables e below _ (T1.setTop (mkF m 78 #[.val (.ref b), .val (.ref tc), .val (.int (Int32.ofNat st)), .val (.int (Int32.ofNat en)), .val (.int (Int32.ofNat (en - st))), .val (.int 1)] []))
    refine Gl.st (fun _ kq => XS.iload X1.here hx rfl (hb hby d23_78) rfl kq) ?_
    show Gl p.tables e below _ (T1.setTop (mkF m 80 #[.val (.ref b), .val (.ref tc), .val (.int (Int32.ofNat st)), .val (.int (Int32.ofNat en)), .val (.int (Int32.ofNat (en - st))), .val (.int 1)] [(.int (Int32.ofNat (en - st)))]))
    refine Gl.st (fun _ kq => XS.iconst X1.here hx rfl (hb hby d23_80) kq) ?_
    show Gl p.tables e below _ (T1.setTop (mkF m 81 #[.val (.ref b), .val (.ref tc), .val (.int (Int32.ofNat st)), .val (.int (Int32.ofNat en)), .val (.int (Int32.ofNat (en - st))), .val (.int 1)] [(.int 2), (.int (Int32.ofNat (en - st)))]))
    refine Gl.st (fun _ kq => XS.icmpYes X1.here hx rfl (pc0 := 81) (pc' := 109) rfl (hb hby d23_81) rfl (flt ((own_le hc2 (by decide)) : ¬ ((2 : Int32) < (Int32.ofNat (en - st))))).2.2.2 (by decide) (by decide) kq) ?_
    show Gl p.tables e below _ (T1.setTop (mkF m 109 #[.val (.ref b), .val (.ref tc), .val (.int (Int32.ofNat st)), .val (.int (Int32.ofNat en)), .val (.int (Int32.ofNat (en - st))), .val (.int 1)] []))
    refine Gl.st (fun _ kq => XS.iload X1.here hx rfl (hb hby d23_109) rfl kq) ?_
    show Gl p.tables e below _ (T1.setTop (mkF m 111 #[.val (.ref b), .val (.ref tc), .val (.int (Int32.ofNat st)), .val (.int (Int32.ofNat en)), .val (.int (Int32.ofNat (en - st))), .val (.int 1)] [(.int (Int32.ofNat (en - st)))]))
    refine Gl.st (fun _ kq => XS.iconst X1.here hx rfl (hb hby d23_111) kq) ?_
    show Gl p.tables e below _ (T1.setTop (mkF m 112 #[.val (.ref b), .val (.ref tc), .val (.int (Int32.ofNat st)), .val (.int (Int32.ofNat en)), .val (.int (Int32.ofNat (en - st))), .val (.int 1)] [(.int 3), (.int (Int32.ofNat (en - st)))]))
    refine Gl.st (fun _ kq => XS.icmpYes X1.here hx rfl (pc0 := 112) (pc' := 140) rfl (hb hby d23_112) rfl (flt ((own_le hc2 (by decide)) : ¬ ((3 : Int32) < (Int32.ofNat (en - st))))).2.2.2 (by decide) (by decide) kq) ?_
    show Gl p.tables e below _ (T1.setTop (mkF m 140 #[.val (.ref b), .val (.ref tc), .val (.int (Int32.ofNat st)), .val (.int (Int32.ofNat en)), .val (.int (Int32.ofNat (en - st))), .val (.int 1)] []))
    refine Gl.st (fun _ kq => XS.iload X1.here hx rfl (hb hby d23_140) rfl kq) ?_
    show Gl p.tables e below _ (T1.setTop (mkF m 142 #[.val (.ref b), .val (.ref tc), .val (.int (Int32.ofNat st)), .val (.int (Int32.ofNat en)), .val (.int (Int32.ofNat (en - st))), .val (.int 1)] [(.int (Int32.ofNat (en - st)))]))
    refine Gl.st (fun _ kq => XS.iconst X1.here hx rfl (hb hby d23_142) kq) ?_
    show Gl p.tables e below _ (T1.setTop (mkF m 143 #[.val (.ref b), .val (.ref tc), .val (.int (Int32.ofNat st)), .val (.int (Int32.ofNat en)), .val (.int (Int32.ofNat (en - st))), .val (.int 1)] [(.int 4), (.int (Int32.ofNat (en - st)))]))
    refine Gl.st (fun _ kq => XS.icmpYes X1.here hx rfl (pc0 := 143) (pc' := 171) rfl (hb hby d23_143) rfl (flt ((own_le hc2 (by decide)) : ¬ ((4 : Int32) < (Int32.ofNat (en - st))))).2.2.2 (by decide) (by decide) kq) ?_
    show Gl p.tables e below _ (T1.setTop (mkF m 171 #[.val (.ref b), .val (.ref tc), .val (.int (Int32.ofNat st)), .val (.int (Int32.ofNat en)), .val (.int (Int32.ofNat (en - st))), .val (.int 1)] []))
    refine Gl.st (fun _ kq => XS.iload X1.here hx rfl (hb hby d23_171) rfl kq) ?_
    show Gl p.tables e below _ (T1.setTop (mkF m 173 #[.val (.ref b), .val (.ref tc), .val (.int (Int32.ofNat st)), .val (.int (Int32.ofNat en)), .val (.int (Int32.ofNat (en - st))), .val (.int 1)] [(.int (Int32.ofNat (en - st)))]))
    refine Gl.st (fun _ kq => XS.iconst X1.here hx rfl (hb hby d23_173) kq) ?_
    show Gl p.tables e below _ (T1.setTop (mkF m 174 #[.val (.ref b), .val (.ref tc), .val (.int (Int32.ofNat st)), .val (.int (Int32.ofNat en)), .val (.int (Int32.ofNat (en - st))), .val (.int 1)] [(.int 5), (.int (Int32.ofNat (en - st)))]))
    refine Gl.st (fun _ kq => XS.icmpYes X1.here hx rfl (pc0 := 174) (pc' := 202) rfl (hb hby d23_174) rfl (flt ((own_le hc2 (by decide)) : ¬ ((5 : Int32) < (Int32.ofNat (en - st))))).2.2.2 (by decide) (by decide) kq) ?_
    show Gl p.tables e below _ (T1.setTop (mkF m 202 #[.val (.ref b), .val (.ref tc), .val (.int (Int32.ofNat st)), .val (.int (Int32.ofNat en)), .val (.int (Int32.ofNat (en - st))), .val (.int 1)] []))
    refine Gl.st (fun _ kq => XS.iload X1.here hx rfl (hb hby d23_202) rfl kq) ?_
    show Gl p.tables e below _ (T1.setTop (mkF m 204 #[.val (.ref b), .val (.ref tc), .val (.int (Int32.ofNat st)), .val (.int (Int32.ofNat en)), .val (.int (Int32.ofNat (en - st))), .val (.int 1)] [(.int (Int32.ofNat (en - st)))]))
    refine Gl.st (fun _ kq => XS.bipush X1.here hx rfl (hb hby d23_204) kq) ?_
    show Gl p.tables e below _ (T1.setTop (mkF m 206 #[.val (.ref b), .val (.ref tc), .val (.int (Int32.ofNat st)), .val (.int (Int32.ofNat en)), .val (.int (Int32.ofNat (en - st))), .val (.int 1)] [(.int 6), (.int (Int32.ofNat (en - st)))]))
    refine Gl.st (fun _ kq => XS.icmpYes X1.here hx rfl (pc0 := 206) (pc' := 236) rfl (hb hby d23_206) rfl (flt ((own_le hc2 (by decide)) : ¬ ((6 : Int32) < (Int32.ofNat (en - st))))).2.2.2 (by decide) (by decide) kq) ?_
    show Gl p.tables e below _ (T1.setTop (mkF m 236 #[.val (.ref b), .val (.ref tc), .val (.int (Int32.ofNat st)), .val (.int (Int32.ofNat en)), .val (.int (Int32.ofNat (en - st))), .val (.int 1)] []))
    refine Gl.st (fun _ kq => XS.iload X1.here hx rfl (hb hby d23_236) rfl kq) ?_
    show Gl p.tables e below _ (T1.setTop (mkF m 238 #[.val (.ref b), .val (.ref tc), .val (.int (Int32.ofNat st)), .val (.int (Int32.ofNat en)), .val (.int (Int32.ofNat (en - st))), .val (.int 1)] [(.int 1)]))
    exact Gl.retN X1 hx (t := .boolean) Bd.returns (by simp) (hb hby d23_238) hlk (by decide) (by decide) (by rw [e1]; exact ⟨rfl, M1, rfl⟩)
theorem ef_law (m : MethodId) (p0 : Int32) (p1 : Int32) : entryFrame m #[(.int p0), (.int p1)] maxLocals = mkF m 0 #[.val (.int p0), .val (.int p1), .unset, .unset, .unset, .unset, .unset, .unset, .unset, .unset] [] := by first | (simp [entryFrame, mkF, argsToLocals, Value.category, maxLocals]; done) | rfl
def Q_law (Z : State) (p0 : Int32) (p1 : Int32) (G1 : Int32) (G3 : Value) (h0 : Heap) (n0 : Nat) (v : Option Value) (h : Heap) (L : List Loc) : Prop := (v = some (.int 1) ∧ Fr n0 L)
set_option maxRecDepth 65536 in
set_option maxHeartbeats 40000000 in
theorem rm_law (l : Launch) (Z : State) (a0 : Array Value) (hw : ∀ d ∈ tables_1, d.before a0 Z = true) (ws : List Jvm.Cond) (p0 : Int32) (p1 : Int32) (G1 : Int32) (G3 : Value) (h0 : Heap) (n0 : Nat) (Z0 : n0 ≤ h0.size) (pf0 : Old Z n0 h0) (O2 : Sta Z Z.heap "java/lang/String" "COMPACT_STRINGS" "Z" (.int G1)) (P5 : ¬ (G1 = (0 : Int32))) (O4 : Sta Z Z.heap "jdk/internal/util/Preconditions" "SIOOBE_FORMATTER" "Ljava/util/function/BiFunction;" G3) (rG3 : G3.isRef = true) :
    MetFree l x (head1 (Jvm.Cond.code x code maxLocals ret :: ws) room_1) (fun aa U => aa = #[(.int p0), (.int p1)] ∧ Z.Warmed39 U.vm ∧ U.heap = h0 ∧ CHv Z consts_1 U.vm h0) (fun _ _ _ _ _ => True) (fun _ U o U' => ∃ v L, o = .returned v ∧ Q_law Z p0 p1 G1 G3 h0 n0 v U'.heap L ∧ CHr Z consts_1 U.vm U.heap U'.vm U'.heap ∧ ReturnedEndW U o U' L room_1.cells room_1.slots) := by
  refine MetFree.of_bodySF (plainFor_of_name pn_com_example_lean_connector_leanconnector_server_FieldReaderUpToPinLaw) hisR ?_
  intro p e s m args below meth c s₁ Bd hml0 hP hK
  obtain ⟨rfl, hZ, hh, hH⟩ := hP
  have hx := Bd.exec
  have hby := Bd.bytes
  have hlk : meth.locks = false := BodyLoose.notSynchronized Bd
  have hml : c.maxLocals = 10 := hml0
  have hown : s.vm.findClass "com/example/lean_connector/leanconnector/server/FieldReaderUpToPinLaw" = some m.cls := findClass_of_methodNamed Bd.named
  have hnm := (name_of_methodNamed Bd.named Bd.method).1
  have X0 : Stand p l e room_1 (s.setVm s.vm) m #[(.int p0), (.int p1)] below meth c s₁ [] 0 0 := Stand.of_body Bd
  have e0 : s₁.heap = h0 := by rw [← hh, Bd.state]; rfl
  have N0 := Fr.nil n0
  show Gl p.tables e below (EndH s Z consts_1 (Q_law Z p0 p1 G1 G3 h0 n0) room_1.cells room_1.slots) _
  refine Gl.cast (ef_law m p0 p1) ?_
  show Gl p.tables e below _ (s₁.setTop (mkF m 0 #[.val (.int p0), .val (.int p1), .unset, .unset, .unset, .unset, .unset, .unset, .unset, .unset] []))
  have hS0 : s.Since s.vm s₁.heap.size := (State.WarmedH.refl s).since _
  have C0 : CHr Z consts_1 s.vm h0 s.vm h0 := CHr.refl hH
  refine Gl.st (fun _ kq => XS.bipush X0.here hx rfl (hb hby at_0) kq) ?_
  show Gl p.tables e below _ (s₁.setTop (mkF m 2 #[.val (.int p0), .val (.int p1), .unset, .unset, .unset, .unset, .unset, .unset, .unset, .unset] [(.int 8)]))
  obtain ⟨T1, h1, k1, X1, e1, E1, A1, st1⟩ := newP X0 hx hZ (tw hw 0 rfl) e0 (g := (mkF m 2 #[.val (.int p0), .val (.int p1), .unset, .unset, .unset, .unset, .unset, .unset, .unset, .unset] [(.int 8)])) rfl (hb hby at_2) rfl (by decide) (cap := 8) (by decide) (by decide) (by decide) (by decide)
  obtain ⟨b1, g1⟩ : ∃ z, z = h0.size := ⟨_, rfl⟩
  rw [← g1] at A1 st1
  refine Gl.st st1 ?_
  have g2 : n0 ≤ b1 := Nat.le_trans Z0 (Nat.le_of_eq g1.symm)
  have s3 : h0.size ≤ b1 := Nat.le_trans (Nat.le_refl _) (Nat.le_of_eq g1.symm)
  have C4 : CHr Z consts_1 s.vm h0 s.vm h1 := C0.trans (CHr.ext E1 C0.1)
  have V1 : Arv Z h1 b1 k1 .char (8 : Int32) [(.int 0), (.int 0), (.int 0), (.int 0), (.int 0), (.int 0), (.int 0), (.int 0)] (.int 0) := (Arv.new A1 (by decide)).pad (pad_rep [] (.int 0) 8)
  show Gl p.tables e below _ (T1.setTop (mkF m 4 #[.val (.int p0), .val (.int p1), .unset, .unset, .unset, .unset, .unset, .unset, .unset, .unset] [(.ref b1)]))
  refine Gl.st (fun _ kq => XS.astoreN X1.here hx rfl (hb hby at_4) rfl rfl (l' := #[.val (.int p0), .val (.int p1), .val (.ref b1), .unset, .unset, .unset, .unset, .unset, .unset, .unset]) rfl kq) ?_
  show Gl p.tables e below _ (T1.setTop (mkF m 5 #[.val (.int p0), .val (.int p1), .val (.ref b1), .unset, .unset, .unset, .unset, .unset, .unset, .unset] []))
  refine Gl.st (fun _ kq => XS.aloadN X1.here hx rfl (hb hby at_5) rfl rfl kq) ?_
  show Gl p.tables e below _ (T1.setTop (mkF m 6 #[.val (.int p0), .val (.int p1), .val (.ref b1), .unset, .unset, .unset, .unset, .unset, .unset, .unset] [(.ref b1)]))
  refine Gl.st (fun _ kq => XS.iconst X1.here hx rfl (hb hby at_6) kq) ?_
  show Gl p.tables e below _ (T1.setTop (mkF m 7 #[.val (.int p0), .val (.int p1), .val (.ref b1), .unset, .unset, .unset, .unset, .unset, .unset, .unset] [(.int 0), (.ref b1)]))
  refine Gl.st (fun _ kq => XS.iloadN X1.here hx rfl (hb hby at_7) rfl kq) ?_
  show Gl p.tables e below _ (T1.setTop (mkF m 8 #[.val (.int p0), .val (.int p1), .val (.ref b1), .unset, .unset, .unset, .unset, .unset, .unset, .unset] [(.int p0), (.int 0), (.ref b1)]))
  refine Gl.st (fun _ kq => XS.sipush X1.here hx rfl (hb hby at_8) kq) ?_
  show Gl p.tables e below _ (T1.setTop (mkF m 11 #[.val (.int p0), .val (.int p1), .val (.ref b1), .unset, .unset, .unset, .unset, .unset, .unset, .unset] [(.int 255), (.int p0), (.int 0), (.ref b1)]))
  refine Gl.st (fun _ kq => XS.iand X1.here hx rfl (hb hby at_11) rfl kq) ?_
  show Gl p.tables e below _ (T1.setTop (mkF m 12 #[.val (.int p0), .val (.int p1), .val (.ref b1), .unset, .unset, .unset, .unset, .unset, .unset, .unset] [(.int (p0 &&& (255 : Int32))), (.int 0), (.ref b1)]))
  refine Gl.st (fun _ kq => XS.i2c X1.here hx rfl (hb hby at_12) rfl kq) ?_
  show Gl p.tables e below _ (T1.setTop (mkF m 13 #[.val (.int p0), .val (.int p1), .val (.ref b1), .unset, .unset, .unset, .unset, .unset, .unset, .unset] [(.int ((p0 &&& (255 : Int32)).toUInt32.toUInt16.toUInt32.toInt32)), (.int 0), (.ref b1)]))
  obtain ⟨c5, a5, q5, S5, M5, H5, G5⟩ := id V1
  obtain ⟨T5, h5, X5, e5, W5, st5⟩ := stC X1 hx hZ e1 a5 (j := (0 : Int32)) (inb_of S5 ⟨by decide, by decide⟩) (g := (mkF m 13 #[.val (.int p0), .val (.int p1), .val (.ref b1), .unset, .unset, .unset, .unset, .unset, .unset, .unset] [(.int ((p0 &&& (255 : Int32)).toUInt32.toUInt16.toUInt32.toInt32)), (.int 0), (.ref b1)])) rfl rfl (hb hby at_13)
  refine Gl.st st5 ?_
  have C6 : CHr Z consts_1 s.vm h0 s.vm h5 := C4.trans (CHr.wr W5 (Safe.arv hZ.alike V1 (by decide)) C4.1)
  have V5 : Arv Z h5 b1 k1 .char (8 : Int32) [(.int ((p0 &&& (255 : Int32)).toUInt32.toUInt16.toUInt32.toInt32)), (.int 0), (.int 0), (.int 0), (.int 0), (.int 0), (.int 0), (.int 0)] (.int 0) := by
    have q := Arv.set a5 q5 S5 M5 H5 G5 (fits_nar_char _) W5 0 rfl (Nat.le_of_ble_eq_true rfl)
    rw [nar_id (ci_and _).1 (ci_and _).2] at q
    exact q
  have N5 := Fr.snoc X5 N0 g2
  show Gl p.tables e below _ (T5.setTop (mkF m 14 #[.val (.int p0), .val (.int p1), .val (.ref b1), .unset, .unset, .unset, .unset, .unset, .unset, .unset] []))
  refine Gl.st (fun _ kq => XS.aloadN X5.here hx rfl (hb hby at_14) rfl rfl kq) ?_
  show Gl p.tables e below _ (T5.setTop (mkF m 15 #[.val (.int p0), .val (.int p1), .val (.ref b1), .unset, .unset, .unset, .unset, .unset, .unset, .unset] [(.ref b1)]))
  refine Gl.st (fun _ kq => XS.iconst X5.here hx rfl (hb hby at_15) kq) ?_
  show Gl p.tables e below _ (T5.setTop (mkF m 16 #[.val (.int p0), .val (.int p1), .val (.ref b1), .unset, .unset, .unset, .unset, .unset, .unset, .unset] [(.int 1), (.ref b1)]))
  refine Gl.st (fun _ kq => XS.iloadN X5.here hx rfl (hb hby at_16) rfl kq) ?_
  show Gl p.tables e below _ (T5.setTop (mkF m 17 #[.val (.int p0), .val (.int p1), .val (.ref b1), .unset, .unset, .unset, .unset, .unset, .unset, .unset] [(.int p0), (.int 1), (.ref b1)]))
  refine Gl.st (fun _ kq => XS.bipush X5.here hx rfl (hb hby at_17) kq) ?_
  show Gl p.tables e below _ (T5.setTop (mkF m 19 #[.val (.int p0), .val (.int p1), .val (.ref b1), .unset, .unset, .unset, .unset, .unset, .unset, .unset] [(.int 8), (.int p0), (.int 1), (.ref b1)]))
  refine Gl.st (fun _ kq => XS.iushr X5.here hx rfl (hb hby at_19) rfl kq) ?_
  show Gl p.tables e below _ (T5.setTop (mkF m 20 #[.val (.int p0), .val (.int p1), .val (.ref b1), .unset, .unset, .unset, .unset, .unset, .unset, .unset] [(.int ((p0.toUInt32 >>> ((8 : Int32) &&& 31).toUInt32).toInt32)), (.int 1), (.ref b1)]))
  refine Gl.st (fun _ kq => XS.sipush X5.here hx rfl (hb hby at_20) kq) ?_
  show Gl p.tables e below _ (T5.setTop (mkF m 23 #[.val (.int p0), .val (.int p1), .val (.ref b1), .unset, .unset, .unset, .unset, .unset, .unset, .unset] [(.int 255), (.int ((p0.toUInt32 >>> ((8 : Int32) &&& 31).toUInt32).toInt32)), (.int 1), (.ref b1)]))
  refine Gl.st (fun _ kq => XS.iand X5.here hx rfl (hb hby at_23) rfl kq) ?_
  show Gl p.tables e below _ (T5.setTop (mkF m 24 #[.val (.int p0), .val (.int p1), .val (.ref b1), .unset, .unset, .unset, .unset, .unset, .unset, .unset] [(.int (((p0.toUInt32 >>> ((8 : Int32) &&& 31).toUInt32).toInt32) &&& (255 : Int32))), (.int 1), (.ref b1)]))
  refine Gl.st (fun _ kq => XS.i2c X5.here hx rfl (hb hby at_24) rfl kq) ?_
  show Gl p.tables e below _ (T5.setTop (mkF m 25 #[.val (.int p0), .val (.int p1), .val (.ref b1), .unset, .unset, .unset, .unset, .unset, .unset, .unset] [(.int ((((p0.toUInt32 >>> ((8 : Int32) &&& 31).toUInt32).toInt32) &&& (255 : Int32)).toUInt32.toUInt16.toUInt32.toInt32)), (.int 1), (.ref b1)]))
  obtain ⟨c7, a7, q7, S7, M7, H7, G7⟩ := id V5
  obtain ⟨T7, h7, X7, e7, W7, st7⟩ := stC X5 hx hZ e5 a7 (j := (1 : Int32)) (inb_of S7 ⟨by decide, by decide⟩) (g := (mkF m 25 #[.val (.int p0), .val (.int p1), .val (.ref b1), .unset, .unset, .unset, .unset, .unset, .unset, .unset] [(.int ((((p0.toUInt32 >>> ((8 : Int32) &&& 31).toUInt32).toInt32) &&& (255 : Int32)).toUInt32.toUInt16.toUInt32.toInt32)), (.int 1), (.ref b1)])) rfl rfl (hb hby at_25)
  refine Gl.st st7 ?_
  have C8 : CHr Z consts_1 s.vm h0 s.vm h7 := C6.trans (CHr.wr W7 (Safe.arv hZ.alike V5 (by decide)) C6.1)
  have V7 : Arv Z h7 b1 k1 .char (8 : Int32) [(.int ((p0 &&& (255 : Int32)).toUInt32.toUInt16.toUInt32.toInt32)), (.int ((((p0.toUInt32 >>> ((8 : Int32) &&& 31).toUInt32).toInt32) &&& (255 : Int32)).toUInt32.toUInt16.toUInt32.toInt32)), (.int 0), (.int 0), (.int 0), (.int 0), (.int 0), (.int 0)] (.int 0) := by
    have q := Arv.set a7 q7 S7 M7 H7 G7 (fits_nar_char _) W7 1 rfl (Nat.le_of_ble_eq_true rfl)
    rw [nar_id (ci_and _).1 (ci_and _).2] at q
    exact q
  have N7 := Fr.snoc X7 N5 g2
  show Gl p.tables e below _ (T7.setTop (mkF m 26 #[.val (.int p0), .val (.int p1), .val (.ref b1), .unset, .unset, .unset, .unset, .unset, .unset, .unset] []))
  refine Gl.st (fun _ kq => XS.aloadN X7.here hx rfl (hb hby at_26) rfl rfl kq) ?_
  show Gl p.tables e below _ (T7.setTop (mkF m 27 #[.val (.int p0), .val (.int p1), .val (.ref b1), .unset, .unset, .unset, .unset, .unset, .unset, .unset] [(.ref b1)]))
  refine Gl.st (fun _ kq => XS.iconst X7.here hx rfl (hb hby at_27) kq) ?_
  show Gl p.tables e below _ (T7.setTop (mkF m 28 #[.val (.int p0), .val (.int p1), .val (.ref b1), .unset, .unset, .unset, .unset, .unset, .unset, .unset] [(.int 2), (.ref b1)]))
  refine Gl.st (fun _ kq => XS.iloadN X7.here hx rfl (hb hby at_28) rfl kq) ?_
  show Gl p.tables e below _ (T7.setTop (mkF m 29 #[.val (.int p0), .val (.int p1), .val (.ref b1), .unset, .unset, .unset, .unset, .unset, .unset, .unset] [(.int p0), (.int 2), (.ref b1)]))
  refine Gl.st (fun _ kq => XS.bipush X7.here hx rfl (hb hby at_29) kq) ?_
  show Gl p.tables e below _ (T7.setTop (mkF m 31 #[.val (.int p0), .val (.int p1), .val (.ref b1), .unset, .unset, .unset, .unset, .unset, .unset, .unset] [(.int 16), (.int p0), (.int 2), (.ref b1)]))
  refine Gl.st (fun _ kq => XS.iushr X7.here hx rfl (hb hby at_31) rfl kq) ?_
  show Gl p.tables e below _ (T7.setTop (mkF m 32 #[.val (.int p0), .val (.int p1), .val (.ref b1), .unset, .unset, .unset, .unset, .unset, .unset, .unset] [(.int ((p0.toUInt32 >>> ((16 : Int32) &&& 31).toUInt32).toInt32)), (.int 2), (.ref b1)]))
  refine Gl.st (fun _ kq => XS.sipush X7.here hx rfl (hb hby at_32) kq) ?_
  show Gl p.tables e below _ (T7.setTop (mkF m 35 #[.val (.int p0), .val (.int p1), .val (.ref b1), .unset, .unset, .unset, .unset, .unset, .unset, .unset] [(.int 255), (.int ((p0.toUInt32 >>> ((16 : Int32) &&& 31).toUInt32).toInt32)), (.int 2), (.ref b1)]))
  refine Gl.st (fun _ kq => XS.iand X7.here hx rfl (hb hby at_35) rfl kq) ?_
  show Gl p.tables e below _ (T7.setTop (mkF m 36 #[.val (.int p0), .val (.int p1), .val (.ref b1), .unset, .unset, .unset, .unset, .unset, .unset, .unset] [(.int (((p0.toUInt32 >>> ((16 : Int32) &&& 31).toUInt32).toInt32) &&& (255 : Int32))), (.int 2), (.ref b1)]))
  refine Gl.st (fun _ kq => XS.i2c X7.here hx rfl (hb hby at_36) rfl kq) ?_
  show Gl p.tables e below _ (T7.setTop (mkF m 37 #[.val (.int p0), .val (.int p1), .val (.ref b1), .unset, .unset, .unset, .unset, .unset, .unset, .unset] [(.int ((((p0.toUInt32 >>> ((16 : Int32) &&& 31).toUInt32).toInt32) &&& (255 : Int32)).toUInt32.toUInt16.toUInt32.toInt32)), (.int 2), (.ref b1)]))
  obtain ⟨c9, a9, q9, S9, M9, H9, G9⟩ := id V7
  obtain ⟨T9, h9, X9, e9, W9, st9⟩ := stC X7 hx hZ e7 a9 (j := (2 : Int32)) (inb_of S9 ⟨by decide, by decide⟩) (g := (mkF m 37 #[.val (.int p0), .val (.int p1), .val (.ref b1), .unset, .unset, .unset, .unset, .unset, .unset, .unset] [(.int ((((p0.toUInt32 >>> ((16 : Int32) &&& 31).toUInt32).toInt32) &&& (255 : Int32)).toUInt32.toUInt16.toUInt32.toInt32)), (.int 2), (.ref b1)])) rfl rfl (hb hby at_37)
  refine Gl.st st9 ?_
  have C10 : CHr Z consts_1 s.vm h0 s.vm h9 := C8.trans (CHr.wr W9 (Safe.arv hZ.alike V7 (by decide)) C8.1)
  have V9 : Arv Z h9 b1 k1 .char (8 : Int32) [(.int ((p0 &&& (255 : Int32)).toUInt32.toUInt16.toUInt32.toInt32)), (.int ((((p0.toUInt32 >>> ((8 : Int32) &&& 31).toUInt32).toInt32) &&& (255 : Int32)).toUInt32.toUInt16.toUInt32.toInt32)), (.int ((((p0.toUInt32 >>> ((16 : Int32) &&& 31).toUInt32).toInt32) &&& (255 : Int32)).toUInt32.toUInt16.toUInt32.toInt32)), (.int 0), (.int 0), (.int 0), (.int 0), (.int 0)] (.int 0) := by
    have q := Arv.set a9 q9 S9 M9 H9 G9 (fits_nar_char _) W9 2 rfl (Nat.le_of_ble_eq_true rfl)
    rw [nar_id (ci_and _).1 (ci_and _).2] at q
    exact q
  have N9 := Fr.snoc X9 N7 g2
  show Gl p.tables e below _ (T9.setTop (mkF m 38 #[.val (.int p0), .val (.int p1), .val (.ref b1), .unset, .unset, .unset, .unset, .unset, .unset, .unset] []))
  refine Gl.st (fun _ kq => XS.aloadN X9.here hx rfl (hb hby at_38) rfl rfl kq) ?_
  show Gl p.tables e below _ (T9.setTop (mkF m 39 #[.val (.int p0), .val (.int p1), .val (.ref b1), .unset, .unset, .unset, .unset, .unset, .unset, .unset] [(.ref b1)]))
  refine Gl.st (fun _ kq => XS.iconst X9.here hx rfl (hb hby at_39) kq) ?_
  show Gl p.tables e below _ (T9.setTop (mkF m 40 #[.val (.int p0), .val (.int p1), .val (.ref b1), .unset, .unset, .unset, .unset, .unset, .unset, .unset] [(.int 3), (.ref b1)]))
  refine Gl.st (fun _ kq => XS.iloadN X9.here hx rfl (hb hby at_40) rfl kq) ?_
  show Gl p.tables e below _ (T9.setTop (mkF m 41 #[.val (.int p0), .val (.int p1), .val (.ref b1), .unset, .unset, .unset, .unset, .unset, .unset, .unset] [(.int p0), (.int 3), (.ref b1)]))
  refine Gl.st (fun _ kq => XS.bipush X9.here hx rfl (hb hby at_41) kq) ?_
  show Gl p.tables e below _ (T9.setTop (mkF m 43 #[.val (.int p0), .val (.int p1), .val (.ref b1), .unset, .unset, .unset, .unset, .unset, .unset, .unset] [(.int 24), (.int p0), (.int 3), (.ref b1)]))
  refine Gl.st (fun _ kq => XS.iushr X9.here hx rfl (hb hby at_43) rfl kq) ?_
  show Gl p.tables e below _ (T9.setTop (mkF m 44 #[.val (.int p0), .val (.int p1), .val (.ref b1), .unset, .unset, .unset, .unset, .unset, .unset, .unset] [(.int ((p0.toUInt32 >>> ((24 : Int32) &&& 31).toUInt32).toInt32)), (.int 3), (.ref b1)]))
  refine Gl.st (fun _ kq => XS.sipush X9.here hx rfl (hb hby at_44) kq) ?_
  show Gl p.tables e below _ (T9.setTop (mkF m 47 #[.val (.int p0), .val (.int p1), .val (.ref b1), .unset, .unset, .unset, .unset, .unset, .unset, .unset] [(.int 255), (.int ((p0.toUInt32 >>> ((24 : Int32) &&& 31).toUInt32).toInt32)), (.int 3), (.ref b1)]))
  refine Gl.st (fun _ kq => XS.iand X9.here hx rfl (hb hby at_47) rfl kq) ?_
  show Gl p.tables e below _ (T9.setTop (mkF m 48 #[.val (.int p0), .val (.int p1), .val (.ref b1), .unset, .unset, .unset, .unset, .unset, .unset, .unset] [(.int (((p0.toUInt32 >>> ((24 : Int32) &&& 31).toUInt32).toInt32) &&& (255 : Int32))), (.int 3), (.ref b1)]))
  refine Gl.st (fun _ kq => XS.i2c X9.here hx rfl (hb hby at_48) rfl kq) ?_
  show Gl p.tables e below _ (T9.setTop (mkF m 49 #[.val (.int p0), .val (.int p1), .val (.ref b1), .unset, .unset, .unset, .unset, .unset, .unset, .unset] [(.int ((((p0.toUInt32 >>> ((24 : Int32) &&& 31).toUInt32).toInt32) &&& (255 : Int32)).toUInt32.toUInt16.toUInt32.toInt32)), (.int 3), (.ref b1)]))
  obtain ⟨c11, a11, q11, S11, M11, H11, G11⟩ := id V9
  obtain ⟨T11, h11, X11, e11, W11, st11⟩ := stC X9 hx hZ e9 a11 (j := (3 : Int32)) (inb_of S11 ⟨by decide, by decide⟩) (g := (mkF m 49 #[.val (.int p0), .val (.int p1), .val (.ref b1), .unset, .unset, .unset, .unset, .unset, .unset, .unset] [(.int ((((p0.toUInt32 >>> ((24 : Int32) &&& 31).toUInt32).toInt32) &&& (255 : Int32)).toUInt32.toUInt16.toUInt32.toInt32)), (.int 3), (.ref b1)])) rfl rfl (hb hby at_49)
  refine Gl.st st11 ?_
  have C12 : CHr Z consts_1 s.vm h0 s.vm h11 := C10.trans (CHr.wr W11 (Safe.arv hZ.alike V9 (by decide)) C10.1)
  have V11 : Arv Z h11 b1 k1 .char (8 : Int32) [(.int ((p0 &&& (255 : Int32)).toUInt32.toUInt16.toUInt32.toInt32)), (.int ((((p0.toUInt32 >>> ((8 : Int32) &&& 31).toUInt32).toInt32) &&& (255 : Int32)).toUInt32.toUInt16.toUInt32.toInt32)), (.int ((((p0.toUInt32 >>> ((16 : Int32) &&& 31).toUInt32).toInt32) &&& (255 : Int32)).toUInt32.toUInt16.toUInt32.toInt32)), (.int ((((p0.toUInt32 >>> ((24 : Int32) &&& 31).toUInt32).toInt32) &&& (255 : Int32)).toUInt32.toUInt16.toUInt32.toInt32)), (.int 0), (.int 0), (.int 0), (.int 0)] (.int 0) := by
    have q := Arv.set a11 q11 S11 M11 H11 G11 (fits_nar_char _) W11 3 rfl (Nat.le_of_ble_eq_true rfl)
    rw [nar_id (ci_and _).1 (ci_and _).2] at q
    exact q
  have N11 := Fr.snoc X11 N9 g2
  show Gl p.tables e below _ (T11.setTop (mkF m 50 #[.val (.int p0), .val (.int p1), .val (.ref b1), .unset, .unset, .unset, .unset, .unset, .unset, .unset] []))
  refine Gl.st (fun _ kq => XS.aloadN X11.here hx rfl (hb hby at_50) rfl rfl kq) ?_
  show Gl p.tables e below _ (T11.setTop (mkF m 51 #[.val (.int p0), .val (.int p1), .val (.ref b1), .unset, .unset, .unset, .unset, .unset, .unset, .unset] [(.ref b1)]))
  refine Gl.st (fun _ kq => XS.iconst X11.here hx rfl (hb hby at_51) kq) ?_
  show Gl p.tables e below _ (T11.setTop (mkF m 52 #[.val (.int p0), .val (.int p1), .val (.ref b1), .unset, .unset, .unset, .unset, .unset, .unset, .unset] [(.int 4), (.ref b1)]))
  refine Gl.st (fun _ kq => XS.iloadN X11.here hx rfl (hb hby at_52) rfl kq) ?_
  show Gl p.tables e below _ (T11.setTop (mkF m 53 #[.val (.int p0), .val (.int p1), .val (.ref b1), .unset, .unset, .unset, .unset, .unset, .unset, .unset] [(.int p1), (.int 4), (.ref b1)]))
  refine Gl.st (fun _ kq => XS.sipush X11.here hx rfl (hb hby at_53) kq) ?_
  show Gl p.tables e below _ (T11.setTop (mkF m 56 #[.val (.int p0), .val (.int p1), .val (.ref b1), .unset, .unset, .unset, .unset, .unset, .unset, .unset] [(.int 255), (.int p1), (.int 4), (.ref b1)]))
  refine Gl.st (fun _ kq => XS.iand X11.here hx rfl (hb hby at_56) rfl kq) ?_
  show Gl p.tables e below _ (T11.setTop (mkF m 57 #[.val (.int p0), .val (.int p1), .val (.ref b1), .unset, .unset, .unset, .unset, .unset, .unset, .unset] [(.int (p1 &&& (255 : Int32))), (.int 4), (.ref b1)]))
  refine Gl.st (fun _ kq => XS.i2c X11.here hx rfl (hb hby at_57) rfl kq) ?_
  show Gl p.tables e below _ (T11.setTop (mkF m 58 #[.val (.int p0), .val (.int p1), .val (.ref b1), .unset, .unset, .unset, .unset, .unset, .unset, .unset] [(.int ((p1 &&& (255 : Int32)).toUInt32.toUInt16.toUInt32.toInt32)), (.int 4), (.ref b1)]))
  obtain ⟨c13, a13, q13, S13, M13, H13, G13⟩ := id V11
  obtain ⟨T13, h13, X13, e13, W13, st13⟩ := stC X11 hx hZ e11 a13 (j := (4 : Int32)) (inb_of S13 ⟨by decide, by decide⟩) (g := (mkF m 58 #[.val (.int p0), .val (.int p1), .val (.ref b1), .unset, .unset, .unset, .unset, .unset, .unset, .unset] [(.int ((p1 &&& (255 : Int32)).toUInt32.toUInt16.toUInt32.toInt32)), (.int 4), (.ref b1)])) rfl rfl (hb hby at_58)
  refine Gl.st st13 ?_
  have C14 : CHr Z consts_1 s.vm h0 s.vm h13 := C12.trans (CHr.wr W13 (Safe.arv hZ.alike V11 (by decide)) C12.1)
  have V13 : Arv Z h13 b1 k1 .char (8 : Int32) [(.int ((p0 &&& (255 : Int32)).toUInt32.toUInt16.toUInt32.toInt32)), (.int ((((p0.toUInt32 >>> ((8 : Int32) &&& 31).toUInt32).toInt32) &&& (255 : Int32)).toUInt32.toUInt16.toUInt32.toInt32)), (.int ((((p0.toUInt32 >>> ((16 : Int32) &&& 31).toUInt32).toInt32) &&& (255 : Int32)).toUInt32.toUInt16.toUInt32.toInt32)), (.int ((((p0.toUInt32 >>> ((24 : Int32) &&& 31).toUInt32).toInt32) &&& (255 : Int32)).toUInt32.toUInt16.toUInt32.toInt32)), (.int ((p1 &&& (255 : Int32)).toUInt32.toUInt16.toUInt32.toInt32)), (.int 0), (.int 0), (.int 0)] (.int 0) := by
    have q := Arv.set a13 q13 S13 M13 H13 G13 (fits_nar_char _) W13 4 rfl (Nat.le_of_ble_eq_true rfl)
    rw [nar_id (ci_and _).1 (ci_and _).2] at q
    exact q
  have N13 := Fr.snoc X13 N11 g2
  show Gl p.tables e below _ (T13.setTop (mkF m 59 #[.val (.int p0), .val (.int p1), .val (.ref b1), .unset, .unset, .unset, .unset, .unset, .unset, .unset] []))
  refine Gl.st (fun _ kq => XS.aloadN X13.here hx rfl (hb hby at_59) rfl rfl kq) ?_
  show Gl p.tables e below _ (T13.setTop (mkF m 60 #[.val (.int p0), .val (.int p1), .val (.ref b1), .unset, .unset, .unset, .unset, .unset, .unset, .unset] [(.ref b1)]))
  refine Gl.st (fun _ kq => XS.bipush X13.here hx rfl (hb hby at_60) kq) ?_
  show Gl p.tables e below _ (T13.setTop (mkF m 62 #[.val (.int p0), .val (.int p1), .val (.ref b1), .unset, .unset, .unset, .unset, .unset, .unset, .unset] [(.int 6), (.ref b1)]))
  refine Gl.st (fun _ kq => XS.iloadN X13.here hx rfl (hb hby at_62) rfl kq) ?_
  show Gl p.tables e below _ (T13.setTop (mkF m 63 #[.val (.int p0), .val (.int p1), .val (.ref b1), .unset, .unset, .unset, .unset, .unset, .unset, .unset] [(.int p1), (.int 6), (.ref b1)]))
  refine Gl.st (fun _ kq => XS.bipush X13.here hx rfl (hb hby at_63) kq) ?_
  show Gl p.tables e below _ (T13.setTop (mkF m 65 #[.val (.int p0), .val (.int p1), .val (.ref b1), .unset, .unset, .unset, .unset, .unset, .unset, .unset] [(.int 8), (.int p1), (.int 6), (.ref b1)]))
  refine Gl.st (fun _ kq => XS.iushr X13.here hx rfl (hb hby at_65) rfl kq) ?_
  show Gl p.tables e below _ (T13.setTop (mkF m 66 #[.val (.int p0), .val (.int p1), .val (.ref b1), .unset, .unset, .unset, .unset, .unset, .unset, .unset] [(.int ((p1.toUInt32 >>> ((8 : Int32) &&& 31).toUInt32).toInt32)), (.int 6), (.ref b1)]))
  refine Gl.st (fun _ kq => XS.sipush X13.here hx rfl (hb hby at_66) kq) ?_
  show Gl p.tables e below _ (T13.setTop (mkF m 69 #[.val (.int p0), .val (.int p1), .val (.ref b1), .unset, .unset, .unset, .unset, .unset, .unset, .unset] [(.int 255), (.int ((p1.toUInt32 >>> ((8 : Int32) &&& 31).toUInt32).toInt32)), (.int 6), (.ref b1)]))
  refine Gl.st (fun _ kq => XS.iand X13.here hx rfl (hb hby at_69) rfl kq) ?_
  show Gl p.tables e below _ (T13.setTop (mkF m 70 #[.val (.int p0), .val (.int p1), .val (.ref b1), .unset, .unset, .unset, .unset, .unset, .unset, .unset] [(.int (((p1.toUInt32 >>> ((8 : Int32) &&& 31).toUInt32).toInt32) &&& (255 : Int32))), (.int 6), (.ref b1)]))
  refine Gl.st (fun _ kq => XS.i2c X13.here hx rfl (hb hby at_70) rfl kq) ?_
  show Gl p.tables e below _ (T13.setTop (mkF m 71 #[.val (.int p0), .val (.int p1), .val (.ref b1), .unset, .unset, .unset, .unset, .unset, .unset, .unset] [(.int ((((p1.toUInt32 >>> ((8 : Int32) &&& 31).toUInt32).toInt32) &&& (255 : Int32)).toUInt32.toUInt16.toUInt32.toInt32)), (.int 6), (.ref b1)]))
  obtain ⟨c15, a15, q15, S15, M15, H15, G15⟩ := id V13
  obtain ⟨T15, h15, X15, e15, W15, st15⟩ := stC X13 hx hZ e13 a15 (j := (6 : Int32)) (inb_of S15 ⟨by decide, by decide⟩) (g := (mkF m 71 #[.val (.int p0), .val (.int p1), .val (.ref b1), .unset, .unset, .unset, .unset, .unset, .unset, .unset] [(.int ((((p1.toUInt32 >>> ((8 : Int32) &&& 31).toUInt32).toInt32) &&& (255 : Int32)).toUInt32.toUInt16.toUInt32.toInt32)), (.int 6), (.ref b1)])) rfl rfl (hb hby at_71)
  refine Gl.st st15 ?_
  have C16 : CHr Z consts_1 s.vm h0 s.vm h15 := C14.trans (CHr.wr W15 (Safe.arv hZ.alike V13 (by decide)) C14.1)
  have V15 : Arv Z h15 b1 k1 .char (8 : Int32) [(.int ((p0 &&& (255 : Int32)).toUInt32.toUInt16.toUInt32.toInt32)), (.int ((((p0.toUInt32 >>> ((8 : Int32) &&& 31).toUInt32).toInt32) &&& (255 : Int32)).toUInt32.toUInt16.toUInt32.toInt32)), (.int ((((p0.toUInt32 >>> ((16 : Int32) &&& 31).toUInt32).toInt32) &&& (255 : Int32)).toUInt32.toUInt16.toUInt32.toInt32)), (.int ((((p0.toUInt32 >>> ((24 : Int32) &&& 31).toUInt32).toInt32) &&& (255 : Int32)).toUInt32.toUInt16.toUInt32.toInt32)), (.int ((p1 &&& (255 : Int32)).toUInt32.toUInt16.toUInt32.toInt32)), (.int 0), (.int ((((p1.toUInt32 >>> ((8 : Int32) &&& 31).toUInt32).toInt32) &&& (255 : Int32)).toUInt32.toUInt16.toUInt32.toInt32)), (.int 0)] (.int 0) := by
    have q := Arv.set a15 q15 S15 M15 H15 G15 (fits_nar_char _) W15 6 rfl (Nat.le_of_ble_eq_true rfl)
    rw [nar_id (ci_and _).1 (ci_and _).2] at q
    exact q
  have N15 := Fr.snoc X15 N13 g2
  show Gl p.tables e below _ (T15.setTop (mkF m 72 #[.val (.int p0), .val (.int p1), .val (.ref b1), .unset, .unset, .unset, .unset, .unset, .unset, .unset] []))
  refine Gl.st (fun _ kq => XS.iloadN X15.here hx rfl (hb hby at_72) rfl kq) ?_
  show Gl p.tables e below _ (T15.setTop (mkF m 73 #[.val (.int p0), .val (.int p1), .val (.ref b1), .unset, .unset, .unset, .unset, .unset, .unset, .unset] [(.int p1)]))
  refine Gl.st (fun _ kq => XS.bipush X15.here hx rfl (hb hby at_73) kq) ?_
  show Gl p.tables e below _ (T15.setTop (mkF m 75 #[.val (.int p0), .val (.int p1), .val (.ref b1), .unset, .unset, .unset, .unset, .unset, .unset, .unset] [(.int 16), (.int p1)]))
  refine Gl.st (fun _ kq => XS.iushr X15.here hx rfl (hb hby at_75) rfl kq) ?_
  show Gl p.tables e below _ (T15.setTop (mkF m 76 #[.val (.int p0), .val (.int p1), .val (.ref b1), .unset, .unset, .unset, .unset, .unset, .unset, .unset] [(.int ((p1.toUInt32 >>> ((16 : Int32) &&& 31).toUInt32).toInt32))]))
  refine Gl.st (fun _ kq => XS.sipush X15.here hx rfl (hb hby at_76) kq) ?_
  show Gl p.tables e below _ (T15.setTop (mkF m 79 #[.val (.int p0), .val (.int p1), .val (.ref b1), .unset, .unset, .unset, .unset, .unset, .unset, .unset] [(.int 255), (.int ((p1.toUInt32 >>> ((16 : Int32) &&& 31).toUInt32).toInt32))]))
  refine Gl.st (fun _ kq => XS.iand X15.here hx rfl (hb hby at_79) rfl kq) ?_
  show Gl p.tables e below _ (T15.setTop (mkF m 80 #[.val (.int p0), .val (.int p1), .val (.ref b1), .unset, .unset, .unset, .unset, .unset, .unset, .unset] [(.int (((p1.toUInt32 >>> ((16 : Int32) &&& 31).toUInt32).toInt32) &&& (255 : Int32)))]))
  refine Gl.st (fun _ kq => XS.i2c X15.here hx rfl (hb hby at_80) rfl kq) ?_
  show Gl p.tables e below _ (T15.setTop (mkF m 81 #[.val (.int p0), .val (.int p1), .val (.ref b1), .unset, .unset, .unset, .unset, .unset, .unset, .unset] [(.int ((((p1.toUInt32 >>> ((16 : Int32) &&& 31).toUInt32).toInt32) &&& (255 : Int32)).toUInt32.toUInt16.toUInt32.toInt32))]))
  refine Gl.st (fun _ kq => XS.istoreN X15.here hx rfl (hb hby at_81) rfl (l' := #[.val (.int p0), .val (.int p1), .val (.ref b1), .val (.int ((((p1.toUInt32 >>> ((16 : Int32) &&& 31).toUInt32).toInt32) &&& (255 : Int32)).toUInt32.toUInt16.toUInt32.toInt32)), .unset, .unset, .unset, .unset, .unset, .unset]) rfl kq) ?_
  show Gl p.tables e below _ (T15.setTop (mkF m 82 #[.val (.int p0), .val (.int p1), .val (.ref b1), .val (.int ((((p1.toUInt32 >>> ((16 : Int32) &&& 31).toUInt32).toInt32) &&& (255 : Int32)).toUInt32.toUInt16.toUInt32.toInt32)), .unset, .unset, .unset, .unset, .unset, .unset] []))
  refine Gl.st (fun _ kq => XS.iloadN X15.here hx rfl (hb hby at_82) rfl kq) ?_
  show Gl p.tables e below _ (T15.setTop (mkF m 83 #[.val (.int p0), .val (.int p1), .val (.ref b1), .val (.int ((((p1.toUInt32 >>> ((16 : Int32) &&& 31).toUInt32).toInt32) &&& (255 : Int32)).toUInt32.toUInt16.toUInt32.toInt32)), .unset, .unset, .unset, .unset, .unset, .unset] [(.int p1)]))
  refine Gl.st (fun _ kq => XS.bipush X15.here hx rfl (hb hby at_83) kq) ?_
  show Gl p.tables e below _ (T15.setTop (mkF m 85 #[.val (.int p0), .val (.int p1), .val (.ref b1), .val (.int ((((p1.toUInt32 >>> ((16 : Int32) &&& 31).toUInt32).toInt32) &&& (255 : Int32)).toUInt32.toUInt16.toUInt32.toInt32)), .unset, .unset, .unset, .unset, .unset, .unset] [(.int 24), (.int p1)]))
  refine Gl.st (fun _ kq => XS.iushr X15.here hx rfl (hb hby at_85) rfl kq) ?_
  show Gl p.tables e below _ (T15.setTop (mkF m 86 #[.val (.int p0), .val (.int p1), .val (.ref b1), .val (.int ((((p1.toUInt32 >>> ((16 : Int32) &&& 31).toUInt32).toInt32) &&& (255 : Int32)).toUInt32.toUInt16.toUInt32.toInt32)), .unset, .unset, .unset, .unset, .unset, .unset] [(.int ((p1.toUInt32 >>> ((24 : Int32) &&& 31).toUInt32).toInt32))]))
  refine Gl.st (fun _ kq => XS.sipush X15.here hx rfl (hb hby at_86) kq) ?_
  show Gl p.tables e below _ (T15.setTop (mkF m 89 #[.val (.int p0), .val (.int p1), .val (.ref b1), .val (.int ((((p1.toUInt32 >>> ((16 : Int32) &&& 31).toUInt32).toInt32) &&& (255 : Int32)).toUInt32.toUInt16.toUInt32.toInt32)), .unset, .unset, .unset, .unset, .unset, .unset] [(.int 255), (.int ((p1.toUInt32 >>> ((24 : Int32) &&& 31).toUInt32).toInt32))]))
  refine Gl.st (fun _ kq => XS.iand X15.here hx rfl (hb hby at_89) rfl kq) ?_
  show Gl p.tables e below _ (T15.setTop (mkF m 90 #[.val (.int p0), .val (.int p1), .val (.ref b1), .val (.int ((((p1.toUInt32 >>> ((16 : Int32) &&& 31).toUInt32).toInt32) &&& (255 : Int32)).toUInt32.toUInt16.toUInt32.toInt32)), .unset, .unset, .unset, .unset, .unset, .unset] [(.int (((p1.toUInt32 >>> ((24 : Int32) &&& 31).toUInt32).toInt32) &&& (255 : Int32)))]))
  refine Gl.st (fun _ kq => XS.i2c X15.here hx rfl (hb hby at_90) rfl kq) ?_
  show Gl p.tables e below _ (T15.setTop (mkF m 91 #[.val (.int p0), .val (.int p1), .val (.ref b1), .val (.int ((((p1.toUInt32 >>> ((16 : Int32) &&& 31).toUInt32).toInt32) &&& (255 : Int32)).toUInt32.toUInt16.toUInt32.toInt32)), .unset, .unset, .unset, .unset, .unset, .unset] [(.int ((((p1.toUInt32 >>> ((24 : Int32) &&& 31).toUInt32).toInt32) &&& (255 : Int32)).toUInt32.toUInt16.toUInt32.toInt32))]))
  refine Gl.st (fun _ kq => XS.istore X15.here hx rfl (hb hby at_91) rfl (l' := #[.val (.int p0), .val (.int p1), .val (.ref b1), .val (.int ((((p1.toUInt32 >>> ((16 : Int32) &&& 31).toUInt32).toInt32) &&& (255 : Int32)).toUInt32.toUInt16.toUInt32.toInt32)), .val (.int ((((p1.toUInt32 >>> ((24 : Int32) &&& 31).toUInt32).toInt32) &&& (255 : Int32)).toUInt32.toUInt16.toUInt32.toInt32)), .unset, .unset, .unset, .unset, .unset]) rfl kq) ?_
  show Gl p.tables e below _ (T15.setTop (mkF m 93 #[.val (.int p0), .val (.int p1), .val (.ref b1), .val (.int ((((p1.toUInt32 >>> ((16 : Int32) &&& 31).toUInt32).toInt32) &&& (255 : Int32)).toUInt32.toUInt16.toUInt32.toInt32)), .val (.int ((((p1.toUInt32 >>> ((24 : Int32) &&& 31).toUInt32).toInt32) &&& (255 : Int32)).toUInt32.toUInt16.toUInt32.toInt32)), .unset, .unset, .unset, .unset, .unset] []))
  refine Gl.st (fun _ kq => XS.aloadN X15.here hx rfl (hb hby at_93) rfl rfl kq) ?_
  show Gl p.tables e below _ (T15.setTop (mkF m 94 #[.val (.int p0), .val (.int p1), .val (.ref b1), .val (.int ((((p1.toUInt32 >>> ((16 : Int32) &&& 31).toUInt32).toInt32) &&& (255 : Int32)).toUInt32.toUInt16.toUInt32.toInt32)), .val (.int ((((p1.toUInt32 >>> ((24 : Int32) &&& 31).toUInt32).toInt32) &&& (255 : Int32)).toUInt32.toUInt16.toUInt32.toInt32)), .unset, .unset, .unset, .unset, .unset] [(.ref b1)]))
  refine Gl.st (fun _ kq => XS.iconst X15.here hx rfl (hb hby at_94) kq) ?_
  show Gl p.tables e below _ (T15.setTop (mkF m 95 #[.val (.int p0), .val (.int p1), .val (.ref b1), .val (.int ((((p1.toUInt32 >>> ((16 : Int32) &&& 31).toUInt32).toInt32) &&& (255 : Int32)).toUInt32.toUInt16.toUInt32.toInt32)), .val (.int ((((p1.toUInt32 >>> ((24 : Int32) &&& 31).toUInt32).toInt32) &&& (255 : Int32)).toUInt32.toUInt16.toUInt32.toInt32)), .unset, .unset, .unset, .unset, .unset] [(.int 5), (.ref b1)]))
  refine Gl.st (fun _ kq => XS.iloadN X15.here hx rfl (hb hby at_95) rfl kq) ?_
  show Gl p.tables e below _ (T15.setTop (mkF m 96 #[.val (.int p0), .val (.int p1), .val (.ref b1), .val (.int ((((p1.toUInt32 >>> ((16 : Int32) &&& 31).toUInt32).toInt32) &&& (255 : Int32)).toUInt32.toUInt16.toUInt32.toInt32)), .val (.int ((((p1.toUInt32 >>> ((24 : Int32) &&& 31).toUInt32).toInt32) &&& (255 : Int32)).toUInt32.toUInt16.toUInt32.toInt32)), .unset, .unset, .unset, .unset, .unset] [(.int ((((p1.toUInt32 >>> ((16 : Int32) &&& 31).toUInt32).toInt32) &&& (255 : Int32)).toUInt32.toUInt16.toUInt32.toInt32)), (.int 5), (.ref b1)]))
  obtain ⟨c17, a17, q17, S17, M17, H17, G17⟩ := id V15
  obtain ⟨T17, h17, X17, e17, W17, st17⟩ := stC X15 hx hZ e15 a17 (j := (5 : Int32)) (inb_of S17 ⟨by decide, by decide⟩) (g := (mkF m 96 #[.val (.int p0), .val (.int p1), .val (.ref b1), .val (.int ((((p1.toUInt32 >>> ((16 : Int32) &&& 31).toUInt32).toInt32) &&& (255 : Int32)).toUInt32.toUInt16.toUInt32.toInt32)), .val (.int ((((p1.toUInt32 >>> ((24 : Int32) &&& 31).toUInt32).toInt32) &&& (255 : Int32)).toUInt32.toUInt16.toUInt32.toInt32)), .unset, .unset, .unset, .unset, .unset] [(.int ((((p1.toUInt32 >>> ((16 : Int32) &&& 31).toUInt32).toInt32) &&& (255 : Int32)).toUInt32.toUInt16.toUInt32.toInt32)), (.int 5), (.ref b1)])) rfl rfl (hb hby at_96)
  refine Gl.st st17 ?_
  have C18 : CHr Z consts_1 s.vm h0 s.vm h17 := C16.trans (CHr.wr W17 (Safe.arv hZ.alike V15 (by decide)) C16.1)
  have V17 : Arv Z h17 b1 k1 .char (8 : Int32) [(.int ((p0 &&& (255 : Int32)).toUInt32.toUInt16.toUInt32.toInt32)), (.int ((((p0.toUInt32 >>> ((8 : Int32) &&& 31).toUInt32).toInt32) &&& (255 : Int32)).toUInt32.toUInt16.toUInt32.toInt32)), (.int ((((p0.toUInt32 >>> ((16 : Int32) &&& 31).toUInt32).toInt32) &&& (255 : Int32)).toUInt32.toUInt16.toUInt32.toInt32)), (.int ((((p0.toUInt32 >>> ((24 : Int32) &&& 31).toUInt32).toInt32) &&& (255 : Int32)).toUInt32.toUInt16.toUInt32.toInt32)), (.int ((p1 &&& (255 : Int32)).toUInt32.toUInt16.toUInt32.toInt32)), (.int ((((p1.toUInt32 >>> ((16 : Int32) &&& 31).toUInt32).toInt32) &&& (255 : Int32)).toUInt32.toUInt16.toUInt32.toInt32)), (.int ((((p1.toUInt32 >>> ((8 : Int32) &&& 31).toUInt32).toInt32) &&& (255 : Int32)).toUInt32.toUInt16.toUInt32.toInt32)), (.int 0)] (.int 0) := by
    have q := Arv.set a17 q17 S17 M17 H17 G17 (fits_nar_char _) W17 5 rfl (Nat.le_of_ble_eq_true rfl)
    rw [nar_id (ci_and _).1 (ci_and _).2] at q
    exact q
  have N17 := Fr.snoc X17 N15 g2
  show Gl p.tables e below _ (T17.setTop (mkF m 97 #[.val (.int p0), .val (.int p1), .val (.ref b1), .val (.int ((((p1.toUInt32 >>> ((16 : Int32) &&& 31).toUInt32).toInt32) &&& (255 : Int32)).toUInt32.toUInt16.toUInt32.toInt32)), .val (.int ((((p1.toUInt32 >>> ((24 : Int32) &&& 31).toUInt32).toInt32) &&& (255 : Int32)).toUInt32.toUInt16.toUInt32.toInt32)), .unset, .unset, .unset, .unset, .unset] []))
  refine Gl.st (fun _ kq => XS.aloadN X17.here hx rfl (hb hby at_97) rfl rfl kq) ?_
  show Gl p.tables e below _ (T17.setTop (mkF m 98 #[.val (.int p0), .val (.int p1), .val (.ref b1), .val (.int ((((p1.toUInt32 >>> ((16 : Int32) &&& 31).toUInt32).toInt32) &&& (255 : Int32)).toUInt32.toUInt16.toUInt32.toInt32)), .val (.int ((((p1.toUInt32 >>> ((24 : Int32) &&& 31).toUInt32).toInt32) &&& (255 : Int32)).toUInt32.toUInt16.toUInt32.toInt32)), .unset, .unset, .unset, .unset, .unset] [(.ref b1)]))
  refine Gl.st (fun _ kq => XS.bipush X17.here hx rfl (hb hby at_98) kq) ?_
  show Gl p.tables e below _ (T17.setTop (mkF m 100 #[.val (.int p0), .val (.int p1), .val (.ref b1), .val (.int ((((p1.toUInt32 >>> ((16 : Int32) &&& 31).toUInt32).toInt32) &&& (255 : Int32)).toUInt32.toUInt16.toUInt32.toInt32)), .val (.int ((((p1.toUInt32 >>> ((24 : Int32) &&& 31).toUInt32).toInt32) &&& (255 : Int32)).toUInt32.toUInt16.toUInt32.toInt32)), .unset, .unset, .unset, .unset, .unset] [(.int 7), (.ref b1)]))
  refine Gl.st (fun _ kq => XS.iload X17.here hx rfl (hb hby at_100) rfl kq) ?_
  show Gl p.tables e below _ (T17.setTop (mkF m 102 #[.val (.int p0), .val (.int p1), .val (.ref b1), .val (.int ((((p1.toUInt32 >>> ((16 : Int32) &&& 31).toUInt32).toInt32) &&& (255 : Int32)).toUInt32.toUInt16.toUInt32.toInt32)), .val (.int ((((p1.toUInt32 >>> ((24 : Int32) &&& 31).toUInt32).toInt32) &&& (255 : Int32)).toUInt32.toUInt16.toUInt32.toInt32)), .unset, .unset, .unset, .unset, .unset] [(.int ((((p1.toUInt32 >>> ((24 : Int32) &&& 31).toUInt32).toInt32) &&& (255 : Int32)).toUInt32.toUInt16.toUInt32.toInt32)), (.int 7), (.ref b1)]))
  obtain ⟨c19, a19, q19, S19, M19, H19, G19⟩ := id V17
  obtain ⟨T19, h19, X19, e19, W19, st19⟩ := stC X17 hx hZ e17 a19 (j := (7 : Int32)) (inb_of S19 ⟨by decide, by decide⟩) (g := (mkF m 102 #[.val (.int p0), .val (.int p1), .val (.ref b1), .val (.int ((((p1.toUInt32 >>> ((16 : Int32) &&& 31).toUInt32).toInt32) &&& (255 : Int32)).toUInt32.toUInt16.toUInt32.toInt32)), .val (.int ((((p1.toUInt32 >>> ((24 : Int32) &&& 31).toUInt32).toInt32) &&& (255 : Int32)).toUInt32.toUInt16.toUInt32.toInt32)), .unset, .unset, .unset, .unset, .unset] [(.int ((((p1.toUInt32 >>> ((24 : Int32) &&& 31).toUInt32).toInt32) &&& (255 : Int32)).toUInt32.toUInt16.toUInt32.toInt32)), (.int 7), (.ref b1)])) rfl rfl (hb hby at_102)
  refine Gl.st st19 ?_
  have C20 : CHr Z consts_1 s.vm h0 s.vm h19 := C18.trans (CHr.wr W19 (Safe.arv hZ.alike V17 (by decide)) C18.1)
  have V19 : Arv Z h19 b1 k1 .char (8 : Int32) [(.int ((p0 &&& (255 : Int32)).toUInt32.toUInt16.toUInt32.toInt32)), (.int ((((p0.toUInt32 >>> ((8 : Int32) &&& 31).toUInt32).toInt32) &&& (255 : Int32)).toUInt32.toUInt16.toUInt32.toInt32)), (.int ((((p0.toUInt32 >>> ((16 : Int32) &&& 31).toUInt32).toInt32) &&& (255 : Int32)).toUInt32.toUInt16.toUInt32.toInt32)), (.int ((((p0.toUInt32 >>> ((24 : Int32) &&& 31).toUInt32).toInt32) &&& (255 : Int32)).toUInt32.toUInt16.toUInt32.toInt32)), (.int ((p1 &&& (255 : Int32)).toUInt32.toUInt16.toUInt32.toInt32)), (.int ((((p1.toUInt32 >>> ((16 : Int32) &&& 31).toUInt32).toInt32) &&& (255 : Int32)).toUInt32.toUInt16.toUInt32.toInt32)), (.int ((((p1.toUInt32 >>> ((8 : Int32) &&& 31).toUInt32).toInt32) &&& (255 : Int32)).toUInt32.toUInt16.toUInt32.toInt32)), (.int ((((p1.toUInt32 >>> ((24 : Int32) &&& 31).toUInt32).toInt32) &&& (255 : Int32)).toUInt32.toUInt16.toUInt32.toInt32))] (.int 0) := by
    have q := Arv.set a19 q19 S19 M19 H19 G19 (fits_nar_char _) W19 7 rfl (Nat.le_of_ble_eq_true rfl)
    rw [nar_id (ci_and _).1 (ci_and _).2] at q
    exact q
  have N19 := Fr.snoc X19 N17 g2
  show Gl p.tables e below _ (T19.setTop (mkF m 103 #[.val (.int p0), .val (.int p1), .val (.ref b1), .val (.int ((((p1.toUInt32 >>> ((16 : Int32) &&& 31).toUInt32).toInt32) &&& (255 : Int32)).toUInt32.toUInt16.toUInt32.toInt32)), .val (.int ((((p1.toUInt32 >>> ((24 : Int32) &&& 31).toUInt32).toInt32) &&& (255 : Int32)).toUInt32.toUInt16.toUInt32.toInt32)), .unset, .unset, .unset, .unset, .unset] []))
  have Jj : ∀ (Tj : State) (hj : Heap) (Lj : List Loc) (vmj : Vm) (kj : Nat) (hSj : s.Since vmj kj) (hZj : Z.Warmed39 vmj) (hoj : vmj.findClass "com/example/lean_connector/leanconnector/server/FieldReaderUpToPinLaw" = some m.cls) (hkj : kj ≤ hj.size) (Cj : CHr Z consts_1 s.vm h0 vmj hj) (Xj : Stand p l e room_1 (s.setVm vmj) m #[(.int p0), (.int p1)] below meth c Tj Lj 1 8) (ej : Tj.heap = hj) (Nj : Fr n0 Lj) (zj : n0 ≤ hj.size) (v5 : Int32) (v7 : Int32) (v0 : Int32) (v1 : Int32) (v2 : Int32) (v3 : Int32) (v4 : Int32) (v6 : Int32) (fj_0 : Old Z n0 hj) (fj_1 : Arv Z hj b1 k1 .char (8 : Int32) [(.int v0), (.int v1), (.int v2), (.int v3), (.int v4), (.int v5), (.int v6), (.int v7)] (.int 0)) (yj_0 : Chr v0) (yj_1 : Chr v1) (yj_2 : Chr v2) (yj_3 : Chr v3) (yj_4 : Chr v4) (yj_5 : Chr v5) (yj_6 : Chr v6) (yj_7 : Chr v7), Gl p.tables e below (EndH s Z consts_1 (Q_law Z p0 p1 G1 G3 h0 n0) room_1.cells room_1.slots) (Tj.setTop (mkF m 103 #[.val (.int p0), .val (.int p1), .val (.ref b1), .val (.int v5), .val (.int v7), .unset, .unset, .unset, .unset, .unset] [])) := by
    intro Tj hj Lj vmj kj hSj hZj hoj hkj Cj Xj ej Nj zj v5 v7 v0 v1 v2 v3 v4 v6 fj_0 fj_1 yj_0 yj_1 yj_2 yj_3 yj_4 yj_5 yj_6 yj_7
    show Gl p.tables e below _ (Tj.setTop (mkF m 103 #[.val (.int p0), .val (.int p1), .val (.ref b1), .val (.int v5), .val (.int v7), .unset, .unset, .unset, .unset, .unset] []))
    obtain ⟨T21, h21, X21, e21, E21, A21, D21, U21, st21⟩ := newO Xj hx hZj hoj (tw hw 1 rfl) (tw hw 2 rfl) (tw hw 3 rfl) ej (g := (mkF m 103 #[.val (.int p0), .val (.int p1), .val (.ref b1), .val (.int v5), .val (.int v7), .unset, .unset, .unset, .unset, .unset] [])) rfl (hb hby at_103) (by decide) (by decide)
    obtain ⟨b21, g21⟩ : ∃ z, z = hj.size := ⟨_, rfl⟩
    rw [← g21] at A21 D21 U21 st21
    refine Gl.st st21 ?_
    have g22 : n0 ≤ b21 := Nat.le_trans zj (Nat.le_of_eq g21.symm)
    have C23 : CHr Z consts_1 s.vm h0 vmj h21 := Cj.trans (CHr.ext E21 Cj.1)
    have F21_38 : Fld Z h21 b21 "com/example/lean_connector/leanconnector/server/FieldReader" "value" "Ljava/lang/String;" .null := D21 (Or.inr (tw hw 38 rfl)) (ty := (.object "java/lang/String")) (by decide)
    have F21_49 : Fld Z h21 b21 "com/example/lean_connector/leanconnector/server/FieldReader" "at" "I" (.int 0) := D21 (Or.inl (tw hw 49 rfl)) (ty := .int) (by decide)
    show Gl p.tables e below _ (T21.setTop (mkF m 106 #[.val (.int p0), .val (.int p1), .val (.ref b1), .val (.int v5), .val (.int v7), .unset, .unset, .unset, .unset, .unset] [(.ref b21)]))
    refine Gl.st (fun _ kq => XS.dup X21.here hx rfl (hb hby at_106) rfl rfl kq) ?_
    show Gl p.tables e below _ (T21.setTop (mkF m 107 #[.val (.int p0), .val (.int p1), .val (.ref b1), .val (.int v5), .val (.int v7), .unset, .unset, .unset, .unset, .unset] [(.ref b21), (.ref b21)]))
    obtain ⟨T24, h24, X24, e24, E24, A24, D24, U24, st24⟩ := newO X21 hx hZj hoj (tw hw 4 rfl) (tw hw 5 rfl) (tw hw 6 rfl) e21 (g := (mkF m 107 #[.val (.int p0), .val (.int p1), .val (.ref b1), .val (.int v5), .val (.int v7), .unset, .unset, .unset, .unset, .unset] [(.ref b21), (.ref b21)])) rfl (hb hby at_107) (by decide) (by decide)
    obtain ⟨b24, g24⟩ : ∃ z, z = h21.size := ⟨_, rfl⟩
    rw [← g24] at A24 D24 U24 st24
    refine Gl.st st24 ?_
    have g25 : n0 ≤ b24 := Nat.le_trans (Nat.le_trans zj E21.1) (Nat.le_of_eq g24.symm)
    have C26 : CHr Z consts_1 s.vm h0 vmj h24 := C23.trans (CHr.ext E24 C23.1)
    have F24_30 : Fld Z h24 b24 "java/lang/String" "coder" "B" (.int 0) := D24 (Or.inr (tw hw 30 rfl)) (ty := .byte) (by decide)
    have F24_32 : Fld Z h24 b24 "java/lang/String" "value" "[B" .null := D24 (Or.inr (tw hw 32 rfl)) (ty := (.array .byte)) (by decide)
    show Gl p.tables e below _ (T24.setTop (mkF m 110 #[.val (.int p0), .val (.int p1), .val (.ref b1), .val (.int v5), .val (.int v7), .unset, .unset, .unset, .unset, .unset] [(.ref b24), (.ref b21), (.ref b21)]))
    refine Gl.st (fun _ kq => XS.dup X24.here hx rfl (hb hby at_110) rfl rfl kq) ?_
    show Gl p.tables e below _ (T24.setTop (mkF m 111 #[.val (.int p0), .val (.int p1), .val (.ref b1), .val (.int v5), .val (.int v7), .unset, .unset, .unset, .unset, .unset] [(.ref b24), (.ref b24), (.ref b21), (.ref b21)]))
    refine Gl.st (fun _ kq => XS.aloadN X24.here hx rfl (hb hby at_111) rfl rfl kq) ?_
    show Gl p.tables e below _ (T24.setTop (mkF m 112 #[.val (.int p0), .val (.int p1), .val (.ref b1), .val (.int v5), .val (.int v7), .unset, .unset, .unset, .unset, .unset] [(.ref b1), (.ref b24), (.ref b24), (.ref b21), (.ref b21)]))
    have f27 : Arv Z h24 b1 k1 .char (8 : Int32) [(.int v0), (.int v1), (.int v2), (.int v3), (.int v4), (.int v5), (.int v6), (.int v7)] (.int 0) := ((fj_1.ext E21).ext E24)
    have f28 : Old Z n0 h24 := ((fj_0.ext E21).ext E24)
    have hp29 : ∀ c ∈ ([v0, v1, v2, v3, v4, v5, v6, v7] : List Int32), ¬ c < 0 ∧ ¬ (255 : Int32) < c := (alcS yj_0 (alcS yj_1 (alcS yj_2 (alcS yj_3 (alcS yj_4 (alcS yj_5 (alcS yj_6 (alcS yj_7 alc0))))))))
    have Sf31 : Safe Z consts_1 vmj h24 b24 := (Safe.ext E24 C23.1 (Safe.new (EL := consts_1) (vm := vmj) (Nat.le_of_eq g24.symm)))
    obtain ⟨_, _, ⟨T30, L30, k30, n30⟩, -, X30, ⟨Lc30, hQ30, l30, y30, z30⟩, st30⟩ := X24.specialBack hx (y := (⟨"java/lang/String", "<init>", "([C)V"⟩ : MethodName)) rfl hoj (mvT hZj (tw hw 7 rfl)) (mvT hZj (tw hw 8 rfl)) (mvT hZj (tw hw 9 rfl)) (by decide) (StrChars.Road.backV (W := 3) hZj (wdNew hw) (kI := 4) (tw hw 5 rfl) (cs := ([v0, v1, v2, v3, v4, v5, v6, v7] : List Int32)) (bs := (([v0, v1, v2, v3, v4, v5, v6, v7] : List Int32).map (fun c => c.toInt8.toInt32))) (n := 8) g25 (Nat.le_trans (Nat.le_trans zj E21.1) E24.1) A24 F24_32 F24_30 f27 (O2.ext f28.2) P5 rfl rfl (by decide) (by decide) hp29 rfl (by decide) (by decide)) (g := (mkF m 112 #[.val (.int p0), .val (.int p1), .val (.ref b1), .val (.int v5), .val (.int v7), .unset, .unset, .unset, .unset, .unset] [(.ref b1), (.ref b24), (.ref b24), (.ref b21), (.ref b21)])) rfl (by rw [hml]; rfl) (Steps.refl _) (a := b24) (argsL := [(.ref b1)]) (rest := [(.ref b24), (.ref b21), (.ref b21)]) (lenOf pd___C_V rfl) rfl (by show 2 * 0 + _ ≤ _; exact Nat.le_of_eq rfl) (hb hby at_112) (fun _ _ => ⟨rfl, e24, (by decide : 3 + 1 ≤ _), (by decide : 14 + 8 ≤ _)⟩)
    dsimp only [Pt.U, Pt.locs, Pt.cells, Pt.slots] at X30 l30 y30 z30 st30 hQ30
    subst l30 y30 z30
    obtain ⟨rfl, N30, K30, q30_0, q30_1, t29, k29, y30_0, y30_1, y30_2, q30_2, q30_3⟩ := hQ30
    have C32 : CHr Z consts_1 s.vm h0 vmj T30.heap := C26.trans (CHr.keep K30 (sfS Sf31 sf0) C26.1)
    have M30 := Fr.app Nj N30
    have g33 : n0 ≤ t29 := Nat.le_trans (Nat.le_trans (Nat.le_trans zj E21.1) E24.1) y30_1
    refine Gl.to st30 ?_
    show Gl p.tables e below _ (T30.setTop (mkF m 115 #[.val (.int p0), .val (.int p1), .val (.ref b1), .val (.int v5), .val (.int v7), .unset, .unset, .unset, .unset, .unset] [(.ref b24), (.ref b21), (.ref b21)]))
    show Gl p.tables e below _ (T30.setTop (mkF m 115 #[.val (.int p0), .val (.int p1), .val (.ref b1), .val (.int v5), .val (.int v7), .unset, .unset, .unset, .unset, .unset] [(.ref b24), (.ref b21), (.ref b21)]))
    have f34 : Exa Z T30.heap b21 "com/example/lean_connector/leanconnector/server/FieldReader" := ((A21.ext E24).keep K30)
    have ne35 : b21 ≠ b24 := Nat.ne_of_lt (Nat.lt_of_lt_of_le A21.lt (Nat.le_of_eq g24.symm))
    have f36 : Fld Z T30.heap b21 "com/example/lean_connector/leanconnector/server/FieldReader" "value" "Ljava/lang/String;" .null := ((F21_38.ext E24).keep K30 (ninS ne35 nin0))
    have f37 : Fld Z T30.heap b21 "com/example/lean_connector/leanconnector/server/FieldReader" "at" "I" (.int 0) := ((F21_49.ext E24).keep K30 (ninS ne35 nin0))
    obtain ⟨_, _, ⟨T38, L38, k38, n38⟩, -, X38, ⟨Lc38, hQ38, l38, y38, z38⟩, st38⟩ := X30.specialBack hx (y := (⟨"com/example/lean_connector/leanconnector/server/FieldReader", "<init>", "(Ljava/lang/String;)V"⟩ : MethodName)) rfl hoj (mvT hZj (tw hw 33 rfl)) (mvT hZj (tw hw 34 rfl)) (mvT hZj (tw hw 35 rfl)) (by decide) (backOf (W := 1) (rm_ini l Z a0 hw [] (b21) (b24) (.null) ((0 : Int32)) T30.heap n0 (Nat.le_trans (Nat.le_trans (Nat.le_trans zj E21.1) E24.1) K30.1) f34 f36 f37 g22) hZj (tw hw 35 rfl) (tw hw 3 rfl) (by decide) (by decide)) (g := (mkF m 115 #[.val (.int p0), .val (.int p1), .val (.ref b1), .val (.int v5), .val (.int v7), .unset, .unset, .unset, .unset, .unset] [(.ref b24), (.ref b21), (.ref b21)])) rfl (by rw [hml]; rfl) (Steps.refl _) (a := b21) (argsL := [(.ref b24)]) (rest := [(.ref b21)]) (lenOf pd__Ljava_lang_String__V rfl) rfl (by show 2 * 0 + _ ≤ _; exact Nat.le_of_eq rfl) (hb hby at_115) (fun _ _ => ⟨rfl, rfl, (by decide : 4 + 0 ≤ _), (by decide : 22 + 0 ≤ _)⟩)
    dsimp only [Pt.U, Pt.locs, Pt.cells, Pt.slots] at X38 l38 y38 z38 st38 hQ38
    subst l38 y38 z38
    obtain ⟨rfl, N38, K38, q38_0, q38_1, q38_2⟩ := hQ38
    have C39 : CHr Z consts_1 s.vm h0 vmj T38.heap := C32.trans (CHr.keep K38 (sfS (Safe.exa hZj.alike f34 (by decide) (by decide)) sf0) C32.1)
    have M38 := Fr.app M30 N38
    refine Gl.to st38 ?_
    show Gl p.tables e below _ (T38.setTop (mkF m 118 #[.val (.int p0), .val (.int p1), .val (.ref b1), .val (.int v5), .val (.int v7), .unset, .unset, .unset, .unset, .unset] [(.ref b21)]))
    show Gl p.tables e below _ (T38.setTop (mkF m 118 #[.val (.int p0), .val (.int p1), .val (.ref b1), .val (.int v5), .val (.int v7), .unset, .unset, .unset, .unset, .unset] [(.ref b21)]))
    refine Gl.st (fun _ kq => XS.astore X38.here hx rfl (hb hby at_118) rfl rfl (l' := #[.val (.int p0), .val (.int p1), .val (.ref b1), .val (.int v5), .val (.int v7), .val (.ref b21), .unset, .unset, .unset, .unset]) rfl kq) ?_
    show Gl p.tables e below _ (T38.setTop (mkF m 120 #[.val (.int p0), .val (.int p1), .val (.ref b1), .val (.int v5), .val (.int v7), .val (.ref b21), .unset, .unset, .unset, .unset] []))
    have hrg : Rng ([v0, v1, v2, v3, v4, v5, v6, v7] : List Int32) := (alcS yj_0 (alcS yj_1 (alcS yj_2 (alcS yj_3 (alcS yj_4 (alcS yj_5 (alcS yj_6 (alcS yj_7 alc0))))))))
    obtain ⟨x1, hx1, hx1'⟩ := ex_first (q := v5) (cs := ([v0, v1, v2, v3, v4, v5, v6, v7] : List Int32)) 5 0 (by simp) rfl
    obtain ⟨x2, hx2, hx2'⟩ := ex_first (q := v7) (cs := ([v0, v1, v2, v3, v4, v5, v6, v7] : List Int32)) (7 - (x1 + 1)) (x1 + 1) (by simp; omega) (by rw [show x1 + 1 + (7 - (x1 + 1)) = 7 by omega]; rfl)
    have hx2b := hx2.1
    refine Gl.st (fun _ kq => XS.aloadN X38.here hx rfl (hb hby at_120) rfl rfl kq) ?_
    show Gl p.tables e below _ (T38.setTop (mkF m 121 #[.val (.int p0), .val (.int p1), .val (.ref b1), .val (.int v5), .val (.int v7), .val (.ref b21), .unset, .unset, .unset, .unset] [(.ref b1)]))
    refine Gl.st (fun _ kq => XS.iloadN X38.here hx rfl (hb hby at_121) rfl kq) ?_
    show Gl p.tables e below _ (T38.setTop (mkF m 122 #[.val (.int p0), .val (.int p1), .val (.ref b1), .val (.int v5), .val (.int v7), .val (.ref b21), .unset, .unset, .unset, .unset] [(.int v5), (.ref b1)]))
    refine Gl.st (fun _ kq => XS.iconst X38.here hx rfl (hb hby at_122) kq) ?_
    show Gl p.tables e below _ (T38.setTop (mkF m 123 #[.val (.int p0), .val (.int p1), .val (.ref b1), .val (.int v5), .val (.int v7), .val (.ref b21), .unset, .unset, .unset, .unset] [(.int 0), (.int v5), (.ref b1)]))
    have ne40 : b1 ≠ b24 := Nat.ne_of_lt (Nat.lt_of_lt_of_le (Nat.lt_of_lt_of_le fj_1.lt E21.1) (Nat.le_of_eq g24.symm))
    have ne41 : b1 ≠ b21 := Nat.ne_of_lt (Nat.lt_of_lt_of_le fj_1.lt (Nat.le_of_eq g21.symm))
    have f42 : Arv Z T38.heap b1 k1 .char (8 : Int32) [(.int v0), (.int v1), (.int v2), (.int v3), (.int v4), (.int v5), (.int v6), (.int v7)] (.int 0) := ((f27.keep K30 (ninS ne40 nin0)).keep K38 (ninS ne41 nin0))
    obtain ⟨_, _, ⟨T44, L44, k44, n44⟩, -, X44, ⟨Lc44, hQ44, l44, y44, z44⟩, st44⟩ := Jvm.LawKit.callS X38 hx (y := (⟨"com/example/lean_connector/leanconnector/server/FieldReaderUpToPinLaw", "first", "([CCI)I"⟩ : MethodName)) hoj (mvT hZj (tw hw 39 rfl)) (mvT hZj (tw hw 40 rfl)) (mvT hZj (tw hw 41 rfl)) (mvT hZj (tw hw 42 rfl)) (by decide) (backOf (W := 0) (rm_fi l Z a0 hw [] (b1) (k1) (v0) (v1) (v2) (v3) (v4) (v5) (v6) (v7) (v5) (0) T38.heap n0 (Nat.le_trans (Nat.le_trans (Nat.le_trans (Nat.le_trans zj E21.1) E24.1) K30.1) K38.1) f42 (by omega)) hZj (tw hw 42 rfl) (tw hw 41 rfl) (by decide) (by decide)) (g := (mkF m 123 #[.val (.int p0), .val (.int p1), .val (.ref b1), .val (.int v5), .val (.int v7), .val (.ref b21), .unset, .unset, .unset, .unset] [(.int 0), (.int v5), (.ref b1)])) rfl (by rw [hml]; rfl) (argsL := [(.ref b1), (.int v5), (.int 0)]) (rest := []) (lenOf pd___CCI_I rfl) rfl (by show 2 * 0 + _ ≤ _; exact Nat.le_of_eq rfl) (hb hby at_123) (fun _ _ => ⟨rfl, rfl, (by decide : 4 + 0 ≤ _), (by decide : 22 + 0 ≤ _)⟩)
    dsimp only [Pt.U, Pt.locs, Pt.cells, Pt.slots] at X44 l44 y44 z44 st44 hQ44
    subst l44 y44 z44
    rcases hQ44 with ⟨v43, rfl, N44, e44, y44_0⟩ | ⟨rfl, N44, e44, y44_0⟩
    · have M44 := Fr.app M38 N44
      refine Gl.st st44 ?_
      show Gl p.tables e below _ (T44.setTop (mkF m 126 #[.val (.int p0), .val (.int p1), .val (.ref b1), .val (.int v5), .val (.int v7), .val (.ref b21), .unset, .unset, .unset, .unset] [(.int (Int32.ofNat v43))]))
      obtain rfl : x1 = v43 := first_uniq hx1 y44_0
      show Gl p.tables e below _ (T44.setTop (mkF m 126 #[.val (.int p0), .val (.int p1), .val (.ref b1), .val (.int v5), .val (.int v7), .val (.ref b21), .unset, .unset, .unset, .unset] [(.int (Int32.ofNat x1))]))
      refine Gl.st (fun _ kq => XS.istore X44.here hx rfl (hb hby at_126) rfl (l' := #[.val (.int p0), .val (.int p1), .val (.ref b1), .val (.int v5), .val (.int v7), .val (.ref b21), .val (.int (Int32.ofNat x1)), .unset, .unset, .unset]) rfl kq) ?_
      show Gl p.tables e below _ (T44.setTop (mkF m 128 #[.val (.int p0), .val (.int p1), .val (.ref b1), .val (.int v5), .val (.int v7), .val (.ref b21), .val (.int (Int32.ofNat x1)), .unset, .unset, .unset] []))
      refine Gl.st (fun _ kq => XS.aload X44.here hx rfl (hb hby at_128) rfl rfl kq) ?_
      show Gl p.tables e below _ (T44.setTop (mkF m 130 #[.val (.int p0), .val (.int p1), .val (.ref b1), .val (.int v5), .val (.int v7), .val (.ref b21), .val (.int (Int32.ofNat x1)), .unset, .unset, .unset] [(.ref b21)]))
      refine Gl.st (fun _ kq => XS.iloadN X44.here hx rfl (hb hby at_130) rfl kq) ?_
      show Gl p.tables e below _ (T44.setTop (mkF m 131 #[.val (.int p0), .val (.int p1), .val (.ref b1), .val (.int v5), .val (.int v7), .val (.ref b21), .val (.int (Int32.ofNat x1)), .unset, .unset, .unset] [(.int v5), (.ref b21)]))
      have f45 : Exa Z T38.heap b24 "java/lang/String" := (q30_0.keep K38)
      have f46 : Fld Z T38.heap b24 "java/lang/String" "coder" "B" (.int 0) := (q30_1.keep K38 (ninS (Ne.symm ne35) nin0))
      have f47 : Fld Z T38.heap b24 "java/lang/String" "value" "[B" (.ref t29) := (q30_2.keep K38 (ninS (Ne.symm ne35) nin0))
      have ne48 : t29 ≠ b21 := Ne.symm (Nat.ne_of_lt (Nat.lt_of_lt_of_le (Nat.lt_of_lt_of_le A21.lt E24.1) y30_1))
      have f49 : Arv Z T38.heap t29 k29 .byte (8 : Int32) ((([v0, v1, v2, v3, v4, v5, v6, v7] : List Int32).map (fun c => c.toInt8.toInt32)).map Value.int) (.int 0) := (q30_3.keep K38 (ninS ne48 nin0))
      have f50 : Old Z n0 T38.heap := ((f28.keep K30 (allS g25 all0)).keep K38 (allS g22 all0))
      obtain ⟨cq56, kq56, q56a, q56b, q56c⟩ := isOf (s := s.setVm vmj) hZj e44 q38_0
      obtain ⟨_, _, ⟨T56, L56, k56, n56⟩, -, X56, S56, g56, ⟨Lc56, hQ56, l56, y56, z56, R56⟩, st56⟩ := X44.virtualBackS hx (y := (⟨"com/example/lean_connector/leanconnector/server/FieldReader", "upTo", "(C)Ljava/lang/String;"⟩ : MethodName)) (z := (⟨"com/example/lean_connector/leanconnector/server/FieldReader", "upTo", "(C)Ljava/lang/String;"⟩ : MethodName)) hoj (mvT hZj (tw hw 43 rfl)) (mvT hZj (tw hw 44 rfl)) (notFace_of_selects (args := #[]) (mvT hZj (tw hw 46 rfl))) (mvT hZj (tw hw 46 rfl)) (mvT hZj (tw hw 45 rfl)) (by decide) (backOfSH (W := 0) (rm_ut l Z a0 hw [] (b21) (b24) (t29) (k29) (([v0, v1, v2, v3, v4, v5, v6, v7] : List Int32)) (v5) (0) (x1) (G1) (G3) T38.heap n0 (Nat.le_trans (Nat.le_trans (Nat.le_trans (Nat.le_trans zj E21.1) E24.1) K30.1) K38.1) q38_0 q38_1 q38_2 f45 f46 f47 f49 f50 hrg (by simp) yj_5.1 yj_5.2 (by simp) hx1 g22 O2 P5 O4 rG3) hZj (tw hw 47 rfl) (tw hw 3 rfl) (by decide) (by decide) (elW hw) C39.1) q56a q56c (g := (mkF m 131 #[.val (.int p0), .val (.int p1), .val (.ref b1), .val (.int v5), .val (.int v7), .val (.ref b21), .val (.int (Int32.ofNat x1)), .unset, .unset, .unset] [(.int v5), (.ref b21)])) rfl (by rw [hml]; rfl) (Steps.refl _) (argsL := [(.int v5)]) (rest := []) (lenOf pd__C_Ljava_lang_String_ rfl) rfl (by show 2 * 0 + _ ≤ _; exact Nat.le_of_eq rfl) (hb hby at_131) (fun _ _ => ⟨rfl, e44, (by decide : 4 + 2 ≤ _), (by decide : 22 + 12 ≤ _)⟩)
      dsimp only [Pt.U, Pt.locs, Pt.cells, Pt.slots] at X56 l56 y56 z56 st56 hQ56 R56
      subst l56 y56 z56
      obtain ⟨X56, S56, hZ56, ho56⟩ := rebS hSj (Nat.le_trans (Nat.le_trans (Nat.le_trans (Nat.le_trans (Nat.le_trans hkj E21.1) E24.1) K30.1) K38.1) (Nat.le_of_eq (congrArg Array.size e44).symm)) X56 S56 g56 hZj hoj
      obtain ⟨v51, v52, v53, v54, v55, rfl, N56, K56, q56_0, q56_1, q56_2, q56_3, q56_4, q56_5, q56_6, y56_0, y56_1⟩ := hQ56
      have C57 : CHr Z consts_1 s.vm h0 T56.vm T56.heap := C39.trans R56
      have M56 := Fr.app M44 N56
      refine Gl.to st56 ?_
      show Gl p.tables e below _ (T56.setTop (mkF m 134 #[.val (.int p0), .val (.int p1), .val (.ref b1), .val (.int v5), .val (.int v7), .val (.ref b21), .val (.int (Int32.ofNat x1)), .unset, .unset, .unset] [(.ref v52)]))
      obtain rfl : x1 = v51 := first_uniq hx1 y56_0
      show Gl p.tables e below _ (T56.setTop (mkF m 134 #[.val (.int p0), .val (.int p1), .val (.ref b1), .val (.int v5), .val (.int v7), .val (.ref b21), .val (.int (Int32.ofNat x1)), .unset, .unset, .unset] [(.ref v52)]))
      show Gl p.tables e below _ (T56.setTop (mkF m 134 #[.val (.int p0), .val (.int p1), .val (.ref b1), .val (.int v5), .val (.int v7), .val (.ref b21), .val (.int (Int32.ofNat x1)), .unset, .unset, .unset] [(.ref v52)]))
      refine Gl.st (fun _ kq => XS.astore X56.here hx rfl (hb hby at_134) rfl rfl (l' := #[.val (.int p0), .val (.int p1), .val (.ref b1), .val (.int v5), .val (.int v7), .val (.ref b21), .val (.int (Int32.ofNat x1)), .val (.ref v52), .unset, .unset]) rfl kq) ?_
      show Gl p.tables e below _ (T56.setTop (mkF m 136 #[.val (.int p0), .val (.int p1), .val (.ref b1), .val (.int v5), .val (.int v7), .val (.ref b21), .val (.int (Int32.ofNat x1)), .val (.ref v52), .unset, .unset] []))
      refine Gl.st (fun _ kq => XS.aloadN X56.here hx rfl (hb hby at_136) rfl rfl kq) ?_
      show Gl p.tables e below _ (T56.setTop (mkF m 137 #[.val (.int p0), .val (.int p1), .val (.ref b1), .val (.int v5), .val (.int v7), .val (.ref b21), .val (.int (Int32.ofNat x1)), .val (.ref v52), .unset, .unset] [(.ref b1)]))
      refine Gl.st (fun _ kq => XS.iload X56.here hx rfl (hb hby at_137) rfl kq) ?_
      show Gl p.tables e below _ (T56.setTop (mkF m 139 #[.val (.int p0), .val (.int p1), .val (.ref b1), .val (.int v5), .val (.int v7), .val (.ref b21), .val (.int (Int32.ofNat x1)), .val (.ref v52), .unset, .unset] [(.int v7), (.ref b1)]))
      refine Gl.st (fun _ kq => XS.iload X56.here hx rfl (hb hby at_139) rfl kq) ?_
      show Gl p.tables e below _ (T56.setTop (mkF m 141 #[.val (.int p0), .val (.int p1), .val (.ref b1), .val (.int v5), .val (.int v7), .val (.ref b21), .val (.int (Int32.ofNat x1)), .val (.ref v52), .unset, .unset] [(.int (Int32.ofNat x1)), (.int v7), (.ref b1)]))
      refine Gl.st (fun _ kq => XS.iconst X56.here hx rfl (hb hby at_141) kq) ?_
      show Gl p.tables e below _ (T56.setTop (mkF m 142 #[.val (.int p0), .val (.int p1), .val (.ref b1), .val (.int v5), .val (.int v7), .val (.ref b21), .val (.int (Int32.ofNat x1)), .val (.ref v52), .unset, .unset] [(.int 1), (.int (Int32.ofNat x1)), (.int v7), (.ref b1)]))
      refine Gl.st (fun _ kq => XS.iadd X56.here hx rfl (hb hby at_142) rfl kq) ?_
      show Gl p.tables e below _ (T56.setTop (mkF m 143 #[.val (.int p0), .val (.int p1), .val (.ref b1), .val (.int v5), .val (.int v7), .val (.ref b21), .val (.int (Int32.ofNat x1)), .val (.ref v52), .unset, .unset] [(.int ((Int32.ofNat x1) + (1 : Int32))), (.int v7), (.ref b1)]))
      rw [n32_inc x1]
      show Gl p.tables e below _ (T56.setTop (mkF m 143 #[.val (.int p0), .val (.int p1), .val (.ref b1), .val (.int v5), .val (.int v7), .val (.ref b21), .val (.int (Int32.ofNat x1)), .val (.ref v52), .unset, .unset] [(.int (Int32.ofNat (x1 + 1))), (.int v7), (.ref b1)]))
      have f58 : Arv Z T56.heap b1 k1 .char (8 : Int32) [(.int v0), (.int v1), (.int v2), (.int v3), (.int v4), (.int v5), (.int v6), (.int v7)] (.int 0) := (f42.keep K56 (ninS ne41 nin0))
      obtain ⟨_, _, ⟨T60, L60, k60, n60⟩, -, X60, ⟨Lc60, hQ60, l60, y60, z60⟩, st60⟩ := Jvm.LawKit.callS X56 hx (y := (⟨"com/example/lean_connector/leanconnector/server/FieldReaderUpToPinLaw", "first", "([CCI)I"⟩ : MethodName)) ho56 (mvT hZ56 (tw hw 39 rfl)) (mvT hZ56 (tw hw 40 rfl)) (mvT hZ56 (tw hw 41 rfl)) (mvT hZ56 (tw hw 42 rfl)) (by decide) (backOf (W := 0) (rm_fi l Z a0 hw [] (b1) (k1) (v0) (v1) (v2) (v3) (v4) (v5) (v6) (v7) (v7) ((x1 + 1)) T56.heap n0 (Nat.le_trans (Nat.le_trans (Nat.le_trans (Nat.le_trans (Nat.le_trans zj E21.1) E24.1) K30.1) K38.1) K56.1) f58 (by omega)) hZ56 (tw hw 42 rfl) (tw hw 41 rfl) (by decide) (by decide)) (g := (mkF m 143 #[.val (.int p0), .val (.int p1), .val (.ref b1), .val (.int v5), .val (.int v7), .val (.ref b21), .val (.int (Int32.ofNat x1)), .val (.ref v52), .unset, .unset] [(.int (Int32.ofNat (x1 + 1))), (.int v7), (.ref b1)])) rfl (by rw [hml]; rfl) (argsL := [(.ref b1), (.int v7), (.int (Int32.ofNat (x1 + 1)))]) (rest := []) (lenOf pd___CCI_I rfl) rfl (by show 2 * 0 + _ ≤ _; exact Nat.le_of_eq rfl) (hb hby at_143) (fun _ _ => ⟨rfl, rfl, (by decide : 6 + 0 ≤ _), (by decide : 34 + 0 ≤ _)⟩)
      dsimp only [Pt.U, Pt.locs, Pt.cells, Pt.slots] at X60 l60 y60 z60 st60 hQ60
      subst l60 y60 z60
      rcases hQ60 with ⟨v59, rfl, N60, e60, y60_0⟩ | ⟨rfl, N60, e60, y60_0⟩
      · have M60 := Fr.app M56 N60
        refine Gl.st st60 ?_
        show Gl p.tables e below _ (T60.setTop (mkF m 146 #[.val (.int p0), .val (.int p1), .val (.ref b1), .val (.int v5), .val (.int v7), .val (.ref b21), .val (.int (Int32.ofNat x1)), .val (.ref v52), .unset, .unset] [(.int (Int32.ofNat v59))]))
        obtain rfl : x2 = v59 := first_uniq hx2 y60_0
        show Gl p.tables e below _ (T60.setTop (mkF m 146 #[.val (.int p0), .val (.int p1), .val (.ref b1), .val (.int v5), .val (.int v7), .val (.ref b21), .val (.int (Int32.ofNat x1)), .val (.ref v52), .unset, .unset] [(.int (Int32.ofNat x2))]))
        refine Gl.st (fun _ kq => XS.istore X60.here hx rfl (hb hby at_146) rfl (l' := #[.val (.int p0), .val (.int p1), .val (.ref b1), .val (.int v5), .val (.int v7), .val (.ref b21), .val (.int (Int32.ofNat x1)), .val (.ref v52), .val (.int (Int32.ofNat x2)), .unset]) rfl kq) ?_
        show Gl p.tables e below _ (T60.setTop (mkF m 148 #[.val (.int p0), .val (.int p1), .val (.ref b1), .val (.int v5), .val (.int v7), .val (.ref b21), .val (.int (Int32.ofNat x1)), .val (.ref v52), .val (.int (Int32.ofNat x2)), .unset] []))
        refine Gl.st (fun _ kq => XS.aload X60.here hx rfl (hb hby at_148) rfl rfl kq) ?_
        show Gl p.tables e below _ (T60.setTop (mkF m 150 #[.val (.int p0), .val (.int p1), .val (.ref b1), .val (.int v5), .val (.int v7), .val (.ref b21), .val (.int (Int32.ofNat x1)), .val (.ref v52), .val (.int (Int32.ofNat x2)), .unset] [(.ref b21)]))
        refine Gl.st (fun _ kq => XS.iload X60.here hx rfl (hb hby at_150) rfl kq) ?_
        show Gl p.tables e below _ (T60.setTop (mkF m 152 #[.val (.int p0), .val (.int p1), .val (.ref b1), .val (.int v5), .val (.int v7), .val (.ref b21), .val (.int (Int32.ofNat x1)), .val (.ref v52), .val (.int (Int32.ofNat x2)), .unset] [(.int v7), (.ref b21)]))
        have f61 : Exa Z T56.heap b24 "java/lang/String" := (f45.keep K56)
        have f62 : Fld Z T56.heap b24 "java/lang/String" "coder" "B" (.int 0) := (f46.keep K56 (ninS (Ne.symm ne35) nin0))
        have f63 : Fld Z T56.heap b24 "java/lang/String" "value" "[B" (.ref t29) := (f47.keep K56 (ninS (Ne.symm ne35) nin0))
        have f64 : Arv Z T56.heap t29 k29 .byte (8 : Int32) ((([v0, v1, v2, v3, v4, v5, v6, v7] : List Int32).map (fun c => c.toInt8.toInt32)).map Value.int) (.int 0) := (f49.keep K56 (ninS ne48 nin0))
        have f65 : Old Z n0 T56.heap := (f50.keep K56 (allS g22 all0))
        obtain ⟨cq71, kq71, q71a, q71b, q71c⟩ := isOf hZ56 e60 q56_0
        obtain ⟨_, _, ⟨T71, L71, k71, n71⟩, -, X71, S71, g71, ⟨Lc71, hQ71, l71, y71, z71, R71⟩, st71⟩ := X60.virtualBackS hx (y := (⟨"com/example/lean_connector/leanconnector/server/FieldReader", "upTo", "(C)Ljava/lang/String;"⟩ : MethodName)) (z := (⟨"com/example/lean_connector/leanconnector/server/FieldReader", "upTo", "(C)Ljava/lang/String;"⟩ : MethodName)) ho56 (mvT hZ56 (tw hw 43 rfl)) (mvT hZ56 (tw hw 44 rfl)) (notFace_of_selects (args := #[]) (mvT hZ56 (tw hw 46 rfl))) (mvT hZ56 (tw hw 46 rfl)) (mvT hZ56 (tw hw 45 rfl)) (by decide) (backOfSH (W := 0) (rm_ut l Z a0 hw [] (b21) (b24) (t29) (k29) (([v0, v1, v2, v3, v4, v5, v6, v7] : List Int32)) (v7) ((x1 + 1)) (x2) (G1) (G3) T56.heap n0 (Nat.le_trans (Nat.le_trans (Nat.le_trans (Nat.le_trans (Nat.le_trans zj E21.1) E24.1) K30.1) K38.1) K56.1) q56_0 q56_1 q56_2 f61 f62 f63 f64 f65 hrg (by simp) yj_7.1 yj_7.2 (by simp; omega) hx2 g22 O2 P5 O4 rG3) hZ56 (tw hw 47 rfl) (tw hw 3 rfl) (by decide) (by decide) (elW hw) C57.1) q71a q71c (g := (mkF m 152 #[.val (.int p0), .val (.int p1), .val (.ref b1), .val (.int v5), .val (.int v7), .val (.ref b21), .val (.int (Int32.ofNat x1)), .val (.ref v52), .val (.int (Int32.ofNat x2)), .unset] [(.int v7), (.ref b21)])) rfl (by rw [hml]; rfl) (Steps.refl _) (argsL := [(.int v7)]) (rest := []) (lenOf pd__C_Ljava_lang_String_ rfl) rfl (by show 2 * 0 + _ ≤ _; exact Nat.le_of_eq rfl) (hb hby at_152) (fun _ _ => ⟨rfl, e60, (by decide : 6 + 2 ≤ _), (by decide : 34 + 12 ≤ _)⟩)
        dsimp only [Pt.U, Pt.locs, Pt.cells, Pt.slots] at X71 l71 y71 z71 st71 hQ71 R71
        subst l71 y71 z71
        obtain ⟨X71, S71, hZ71, ho71⟩ := rebS S56 (Nat.le_trans (Nat.le_refl _) (Nat.le_of_eq (congrArg Array.size e60).symm)) X71 S71 g71 hZ56 ho56
        obtain ⟨v66, v67, v68, v69, v70, rfl, N71, K71, q71_0, q71_1, q71_2, q71_3, q71_4, q71_5, q71_6, y71_0, y71_1⟩ := hQ71
        have C72 : CHr Z consts_1 s.vm h0 T71.vm T71.heap := C57.trans R71
        have M71 := Fr.app M60 N71
        refine Gl.to st71 ?_
        show Gl p.tables e below _ (T71.setTop (mkF m 155 #[.val (.int p0), .val (.int p1), .val (.ref b1), .val (.int v5), .val (.int v7), .val (.ref b21), .val (.int (Int32.ofNat x1)), .val (.ref v52), .val (.int (Int32.ofNat x2)), .unset] [(.ref v67)]))
        obtain rfl : x2 = v66 := first_uniq hx2 y71_0
        show Gl p.tables e below _ (T71.setTop (mkF m 155 #[.val (.int p0), .val (.int p1), .val (.ref b1), .val (.int v5), .val (.int v7), .val (.ref b21), .val (.int (Int32.ofNat x1)), .val (.ref v52), .val (.int (Int32.ofNat x2)), .unset] [(.ref v67)]))
        show Gl p.tables e below _ (T71.setTop (mkF m 155 #[.val (.int p0), .val (.int p1), .val (.ref b1), .val (.int v5), .val (.int v7), .val (.ref b21), .val (.int (Int32.ofNat x1)), .val (.ref v52), .val (.int (Int32.ofNat x2)), .unset] [(.ref v67)]))
        refine Gl.st (fun _ kq => XS.astore X71.here hx rfl (hb hby at_155) rfl rfl (l' := #[.val (.int p0), .val (.int p1), .val (.ref b1), .val (.int v5), .val (.int v7), .val (.ref b21), .val (.int (Int32.ofNat x1)), .val (.ref v52), .val (.int (Int32.ofNat x2)), .val (.ref v67)]) rfl kq) ?_
        show Gl p.tables e below _ (T71.setTop (mkF m 157 #[.val (.int p0), .val (.int p1), .val (.ref b1), .val (.int v5), .val (.int v7), .val (.ref b21), .val (.int (Int32.ofNat x1)), .val (.ref v52), .val (.int (Int32.ofNat x2)), .val (.ref v67)] []))
        refine Gl.st (fun _ kq => XS.aload X71.here hx rfl (hb hby at_157) rfl rfl kq) ?_
        show Gl p.tables e below _ (T71.setTop (mkF m 159 #[.val (.int p0), .val (.int p1), .val (.ref b1), .val (.int v5), .val (.int v7), .val (.ref b21), .val (.int (Int32.ofNat x1)), .val (.ref v52), .val (.int (Int32.ofNat x2)), .val (.ref v67)] [(.ref v52)]))
        refine Gl.st (fun _ kq => XS.aloadN X71.here hx rfl (hb hby at_159) rfl rfl kq) ?_
        show Gl p.tables e below _ (T71.setTop (mkF m 160 #[.val (.int p0), .val (.int p1), .val (.ref b1), .val (.int v5), .val (.int v7), .val (.ref b21), .val (.int (Int32.ofNat x1)), .val (.ref v52), .val (.int (Int32.ofNat x2)), .val (.ref v67)] [(.ref b1), (.ref v52)]))
        refine Gl.st (fun _ kq => XS.iconst X71.here hx rfl (hb hby at_160) kq) ?_
        show Gl p.tables e below _ (T71.setTop (mkF m 161 #[.val (.int p0), .val (.int p1), .val (.ref b1), .val (.int v5), .val (.int v7), .val (.ref b21), .val (.int (Int32.ofNat x1)), .val (.ref v52), .val (.int (Int32.ofNat x2)), .val (.ref v67)] [(.int 0), (.ref b1), (.ref v52)]))
        refine Gl.st (fun _ kq => XS.iload X71.here hx rfl (hb hby at_161) rfl kq) ?_
        show Gl p.tables e below _ (T71.setTop (mkF m 163 #[.val (.int p0), .val (.int p1), .val (.ref b1), .val (.int v5), .val (.int v7), .val (.ref b21), .val (.int (Int32.ofNat x1)), .val (.ref v52), .val (.int (Int32.ofNat x2)), .val (.ref v67)] [(.int (Int32.ofNat x1)), (.int 0), (.ref b1), (.ref v52)]))
        have f73 : Exa Z T71.heap v52 "java/lang/String" := (q56_3.keep K71)
        have f74 : Fld Z T71.heap v52 "java/lang/String" "coder" "B" (.int 0) := (q56_4.keep K71 (ninS (Exa.ne q56_3 q56_0 (by decide)) nin0))
        have f75 : Fld Z T71.heap v52 "java/lang/String" "value" "[B" (.ref v53) := (q56_5.keep K71 (ninS (Exa.ne q56_3 q56_0 (by decide)) nin0))
        have f76 : Arv Z T71.heap v53 v54 .byte (Int32.ofNat v55.length) ((v55.map (fun c => c.toInt8.toInt32)).map Value.int) (.int 0) := (q56_6.keep K71 (ninS (Ne.symm (Exa.neArv q56_0 q56_6 (tw hw 2 rfl))) nin0))
        have f77 : Arv Z T71.heap b1 k1 .char (8 : Int32) [(.int v0), (.int v1), (.int v2), (.int v3), (.int v4), (.int v5), (.int v6), (.int v7)] (.int 0) := (f58.keep K71 (ninS ne41 nin0))
        have f78 : Old Z n0 T71.heap := (f65.keep K71 (allS g22 all0))
        obtain ⟨_, _, ⟨T79, L79, k79, n79⟩, -, X79, ⟨Lc79, hQ79, l79, y79, z79⟩, st79⟩ := Jvm.LawKit.callS X71 hx (y := (⟨"com/example/lean_connector/leanconnector/server/FieldReaderUpToPinLaw", "same", "(Ljava/lang/String;[CII)Z"⟩ : MethodName)) ho71 (mvT hZ71 (tw hw 106 rfl)) (mvT hZ71 (tw hw 107 rfl)) (mvT hZ71 (tw hw 41 rfl)) (mvT hZ71 (tw hw 108 rfl)) (by decide) (backOf (W := 0) (rm_sm l Z a0 hw [] (v52) (v53) (v54) (v55) (b1) (k1) (v0) (v1) (v2) (v3) (v4) (v5) (v6) (v7) (0) (x1) (G1) (G3) T71.heap n0 (Nat.le_trans (Nat.le_trans (Nat.le_trans (Nat.le_trans (Nat.le_trans (Nat.le_trans zj E21.1) E24.1) K30.1) K38.1) K56.1) K71.1) f73 f74 f75 f76 f77 f78 (by rw [y56_1]; exact Rng.sub hrg _ _) (by rw [y56_1]; simp; omega) (by omega) (by omega) (own_dl y56_1 (by omega) (by simp; omega)) (own_cm8 y56_1) O2 P5 O4 rG3) hZ71 (tw hw 108 rfl) (tw hw 41 rfl) (by decide) (by decide)) (g := (mkF m 163 #[.val (.int p0), .val (.int p1), .val (.ref b1), .val (.int v5), .val (.int v7), .val (.ref b21), .val (.int (Int32.ofNat x1)), .val (.ref v52), .val (.int (Int32.ofNat x2)), .val (.ref v67)] [(.int (Int32.ofNat x1)), (.int 0), (.ref b1), (.ref v52)])) rfl (by rw [hml]; rfl) (argsL := [(.ref v52), (.ref b1), (.int 0), (.int (Int32.ofNat x1))]) (rest := []) (lenOf pd__Ljava_lang_String__CII_Z rfl) rfl (by show 2 * 0 + _ ≤ _; exact Nat.le_of_eq rfl) (hb hby at_163) (fun _ _ => ⟨rfl, rfl, (by decide : 8 + 0 ≤ _), (by decide : 46 + 0 ≤ _)⟩)
        dsimp only [Pt.U, Pt.locs, Pt.cells, Pt.slots] at X79 l79 y79 z79 st79 hQ79
        subst l79 y79 z79
        obtain ⟨rfl, N79, e79⟩ := hQ79
        have M79 := Fr.app M71 N79
        refine Gl.st st79 ?_
        show Gl p.tables e below _ (T79.setTop (mkF m 166 #[.val (.int p0), .val (.int p1), .val (.ref b1), .val (.int v5), .val (.int v7), .val (.ref b21), .val (.int (Int32.ofNat x1)), .val (.ref v52), .val (.int (Int32.ofNat x2)), .val (.ref v67)] [(.int 1)]))
        show Gl p.tables e below _ (T79.setTop (mkF m 166 #[.val (.int p0), .val (.int p1), .val (.ref b1), .val (.int v5), .val (.int v7), .val (.ref b21), .val (.int (Int32.ofNat x1)), .val (.ref v52), .val (.int (Int32.ofNat x2)), .val (.ref v67)] [(.int 1)]))
        refine Gl.st (fun _ kq => XS.ifNo X79.here hx rfl (hb hby at_166) rfl ((if0 _ _).trans (feq ((by decide) : ¬ ((1 : Int32) = (0 : Int32)))).1) kq) ?_
        show Gl p.tables e below _ (T79.setTop (mkF m 169 #[.val (.int p0), .val (.int p1), .val (.ref b1), .val (.int v5), .val (.int v7), .val (.ref b21), .val (.int (Int32.ofNat x1)), .val (.ref v52), .val (.int (Int32.ofNat x2)), .val (.ref v67)] []))
        refine Gl.st (fun _ kq => XS.aload X79.here hx rfl (hb hby at_169) rfl rfl kq) ?_
        show Gl p.tables e below _ (T79.setTop (mkF m 171 #[.val (.int p0), .val (.int p1), .val (.ref b1), .val (.int v5), .val (.int v7), .val (.ref b21), .val (.int (Int32.ofNat x1)), .val (.ref v52), .val (.int (Int32.ofNat x2)), .val (.ref v67)] [(.ref v67)]))
        refine Gl.st (fun _ kq => XS.aloadN X79.here hx rfl (hb hby at_171) rfl rfl kq) ?_
        show Gl p.tables e below _ (T79.setTop (mkF m 172 #[.val (.int p0), .val (.int p1), .val (.ref b1), .val (.int v5), .val (.int v7), .val (.ref b21), .val (.int (Int32.ofNat x1)), .val (.ref v52), .val (.int (Int32.ofNat x2)), .val (.ref v67)] [(.ref b1), (.ref v67)]))
        refine Gl.st (fun _ kq => XS.iload X79.here hx rfl (hb hby at_172) rfl kq) ?_
        show Gl p.tables e below _ (T79.setTop (mkF m 174 #[.val (.int p0), .val (.int p1), .val (.ref b1), .val (.int v5), .val (.int v7), .val (.ref b21), .val (.int (Int32.ofNat x1)), .val (.ref v52), .val (.int (Int32.ofNat x2)), .val (.ref v67)] [(.int (Int32.ofNat x1)), (.ref b1), (.ref v67)]))
        refine Gl.st (fun _ kq => XS.iconst X79.here hx rfl (hb hby at_174) kq) ?_
        show Gl p.tables e below _ (T79.setTop (mkF m 175 #[.val (.int p0), .val (.int p1), .val (.ref b1), .val (.int v5), .val (.int v7), .val (.ref b21), .val (.int (Int32.ofNat x1)), .val (.ref v52), .val (.int (Int32.ofNat x2)), .val (.ref v67)] [(.int 1), (.int (Int32.ofNat x1)), (.ref b1), (.ref v67)]))
        refine Gl.st (fun _ kq => XS.iadd X79.here hx rfl (hb hby at_175) rfl kq) ?_
        show Gl p.tables e below _ (T79.setTop (mkF m 176 #[.val (.int p0), .val (.int p1), .val (.ref b1), .val (.int v5), .val (.int v7), .val (.ref b21), .val (.int (Int32.ofNat x1)), .val (.ref v52), .val (.int (Int32.ofNat x2)), .val (.ref v67)] [(.int ((Int32.ofNat x1) + (1 : Int32))), (.ref b1), (.ref v67)]))
        rw [n32_inc x1]
        show Gl p.tables e below _ (T79.setTop (mkF m 176 #[.val (.int p0), .val (.int p1), .val (.ref b1), .val (.int v5), .val (.int v7), .val (.ref b21), .val (.int (Int32.ofNat x1)), .val (.ref v52), .val (.int (Int32.ofNat x2)), .val (.ref v67)] [(.int (Int32.ofNat (x1 + 1))), (.ref b1), (.ref v67)]))
        refine Gl.st (fun _ kq => XS.iload X79.here hx rfl (hb hby at_176) rfl kq) ?_
        show Gl p.tables e below _ (T79.setTop (mkF m 178 #[.val (.int p0), .val (.int p1), .val (.ref b1), .val (.int v5), .val (.int v7), .val (.ref b21), .val (.int (Int32.ofNat x1)), .val (.ref v52), .val (.int (Int32.ofNat x2)), .val (.ref v67)] [(.int (Int32.ofNat x2)), (.int (Int32.ofNat (x1 + 1))), (.ref b1), (.ref v67)]))
        obtain ⟨_, _, ⟨T80, L80, k80, n80⟩, -, X80, ⟨Lc80, hQ80, l80, y80, z80⟩, st80⟩ := Jvm.LawKit.callS X79 hx (y := (⟨"com/example/lean_connector/leanconnector/server/FieldReaderUpToPinLaw", "same", "(Ljava/lang/String;[CII)Z"⟩ : MethodName)) ho71 (mvT hZ71 (tw hw 106 rfl)) (mvT hZ71 (tw hw 107 rfl)) (mvT hZ71 (tw hw 41 rfl)) (mvT hZ71 (tw hw 108 rfl)) (by decide) (backOf (W := 0) (rm_sm l Z a0 hw [] (v67) (v68) (v69) (v70) (b1) (k1) (v0) (v1) (v2) (v3) (v4) (v5) (v6) (v7) ((x1 + 1)) (x2) (G1) (G3) T71.heap n0 (Nat.le_trans (Nat.le_trans (Nat.le_trans (Nat.le_trans (Nat.le_trans (Nat.le_trans zj E21.1) E24.1) K30.1) K38.1) K56.1) K71.1) q71_3 q71_4 q71_5 q71_6 f77 f78 (by rw [y71_1]; exact Rng.sub hrg _ _) (by rw [y71_1]; simp; omega) (by omega) (by omega) (own_dl y71_1 (by omega) (by simp; omega)) (own_cm8 y71_1) O2 P5 O4 rG3) hZ71 (tw hw 108 rfl) (tw hw 41 rfl) (by decide) (by decide)) (g := (mkF m 178 #[.val (.int p0), .val (.int p1), .val (.ref b1), .val (.int v5), .val (.int v7), .val (.ref b21), .val (.int (Int32.ofNat x1)), .val (.ref v52), .val (.int (Int32.ofNat x2)), .val (.ref v67)] [(.int (Int32.ofNat x2)), (.int (Int32.ofNat (x1 + 1))), (.ref b1), (.ref v67)])) rfl (by rw [hml]; rfl) (argsL := [(.ref v67), (.ref b1), (.int (Int32.ofNat (x1 + 1))), (.int (Int32.ofNat x2))]) (rest := []) (lenOf pd__Ljava_lang_String__CII_Z rfl) rfl (by show 2 * 0 + _ ≤ _; exact Nat.le_of_eq rfl) (hb hby at_178) (fun _ _ => ⟨rfl, e79, (by decide : 8 + 0 ≤ _), (by decide : 46 + 0 ≤ _)⟩)
        dsimp only [Pt.U, Pt.locs, Pt.cells, Pt.slots] at X80 l80 y80 z80 st80 hQ80
        subst l80 y80 z80
        obtain ⟨rfl, N80, e80⟩ := hQ80
        have M80 := Fr.app M79 N80
        refine Gl.st st80 ?_
        show Gl p.tables e below _ (T80.setTop (mkF m 181 #[.val (.int p0), .val (.int p1), .val (.ref b1), .val (.int v5), .val (.int v7), .val (.ref b21), .val (.int (Int32.ofNat x1)), .val (.ref v52), .val (.int (Int32.ofNat x2)), .val (.ref v67)] [(.int 1)]))
        show Gl p.tables e below _ (T80.setTop (mkF m 181 #[.val (.int p0), .val (.int p1), .val (.ref b1), .val (.int v5), .val (.int v7), .val (.ref b21), .val (.int (Int32.ofNat x1)), .val (.ref v52), .val (.int (Int32.ofNat x2)), .val (.ref v67)] [(.int 1)]))
        refine Gl.st (fun _ kq => XS.ifNo X80.here hx rfl (hb hby at_181) rfl ((if0 _ _).trans (feq ((by decide) : ¬ ((1 : Int32) = (0 : Int32)))).1) kq) ?_
        show Gl p.tables e below _ (T80.setTop (mkF m 184 #[.val (.int p0), .val (.int p1), .val (.ref b1), .val (.int v5), .val (.int v7), .val (.ref b21), .val (.int (Int32.ofNat x1)), .val (.ref v52), .val (.int (Int32.ofNat x2)), .val (.ref v67)] []))
        refine Gl.st (fun _ kq => XS.iconst X80.here hx rfl (hb hby at_184) kq) ?_
        show Gl p.tables e below _ (T80.setTop (mkF m 185 #[.val (.int p0), .val (.int p1), .val (.ref b1), .val (.int v5), .val (.int v7), .val (.ref b21), .val (.int (Int32.ofNat x1)), .val (.ref v52), .val (.int (Int32.ofNat x2)), .val (.ref v67)] [(.int 1)]))
        refine Gl.st (fun _ kq => XS.goto X80.here hx rfl (pc0 := 185) (pc' := 189) rfl (hb hby at_185) (by decide) (by decide) kq) ?_
        show Gl p.tables e below _ (T80.setTop (mkF m 189 #[.val (.int p0), .val (.int p1), .val (.ref b1), .val (.int v5), .val (.int v7), .val (.ref b21), .val (.int (Int32.ofNat x1)), .val (.ref v52), .val (.int (Int32.ofNat x2)), .val (.ref v67)] [(.int 1)]))
        exact Gl.retNH X80 hx S71 (Nat.le_trans (Nat.le_refl _) (Nat.le_of_eq (congrArg Array.size e80).symm)) (by rw [hh, e80]; exact C72.trans (CHv.at X80 hZ71 (elW hw) C72.1)) (t := .boolean) Bd.returns (by simp) (hb hby at_189) hlk (by decide) (by decide) (by rw [e80]; exact ⟨rfl, M80⟩)
      · exact (first_no hx2 y60_0).elim
    · exact (first_no hx1 y44_0).elim
  have f81 : Old Z n0 h19 := (((((((((pf0.ext E1).wr W5 g2).wr W7 g2).wr W9 g2).wr W11 g2).wr W13 g2).wr W15 g2).wr W17 g2).wr W19 g2)
  exact Jj _ _ _ _ _ hS0 hZ hown (Nat.le_trans (Nat.le_trans (Nat.le_trans (Nat.le_trans (Nat.le_trans (Nat.le_trans (Nat.le_trans (Nat.le_trans (Nat.le_trans (Nat.le_of_eq (congrArg Array.size e0)) E1.1) (Keep.of_wr W5).1) (Keep.of_wr W7).1) (Keep.of_wr W9).1) (Keep.of_wr W11).1) (Keep.of_wr W13).1) (Keep.of_wr W15).1) (Keep.of_wr W17).1) (Keep.of_wr W19).1) C20 (X19.more (by decide) (by decide)) e19 N19 (Nat.le_trans (Nat.le_trans (Nat.le_trans (Nat.le_trans (Nat.le_trans (Nat.le_trans (Nat.le_trans (Nat.le_trans (Nat.le_trans Z0 E1.1) (Keep.of_wr W5).1) (Keep.of_wr W7).1) (Keep.of_wr W9).1) (Keep.of_wr W11).1) (Keep.of_wr W13).1) (Keep.of_wr W15).1) (Keep.of_wr W17).1) (Keep.of_wr W19).1) (((((p1.toUInt32 >>> ((16 : Int32) &&& 31).toUInt32).toInt32) &&& (255 : Int32)).toUInt32.toUInt16.toUInt32.toInt32)) (((((p1.toUInt32 >>> ((24 : Int32) &&& 31).toUInt32).toInt32) &&& (255 : Int32)).toUInt32.toUInt16.toUInt32.toInt32)) (((p0 &&& (255 : Int32)).toUInt32.toUInt16.toUInt32.toInt32)) (((((p0.toUInt32 >>> ((8 : Int32) &&& 31).toUInt32).toInt32) &&& (255 : Int32)).toUInt32.toUInt16.toUInt32.toInt32)) (((((p0.toUInt32 >>> ((16 : Int32) &&& 31).toUInt32).toInt32) &&& (255 : Int32)).toUInt32.toUInt16.toUInt32.toInt32)) (((((p0.toUInt32 >>> ((24 : Int32) &&& 31).toUInt32).toInt32) &&& (255 : Int32)).toUInt32.toUInt16.toUInt32.toInt32)) (((p1 &&& (255 : Int32)).toUInt32.toUInt16.toUInt32.toInt32)) (((((p1.toUInt32 >>> ((8 : Int32) &&& 31).toUInt32).toInt32) &&& (255 : Int32)).toUInt32.toUInt16.toUInt32.toInt32)) f81 V19 (ci_and _) (ci_and _) (ci_and _) (ci_and _) (ci_and _) (ci_and _) (ci_and _) (ci_and _)
set_option maxRecDepth 65536 in
set_option maxHeartbeats 40000000 in
theorem comes_1 {Post : Tables → Env → Array Value → State → Outcome → State → Prop} (hpost : ∀ tb e args s v u, (limb_1_1.after args s (.returned v) u = true ∧ limb_1_2.after args s (.returned v) u = true ∧ True) → Jvm.ReturnedEndW s (.returned v) u (Jvm.fieldLocs frame_1_writes args s ++ Jvm.arrayLocs frame_1_arrays args s ++ Jvm.staticLocs frame_1_statics s) 32 1216 → Post tb e args s (.returned v) u) :
    ArmFor flags0 classFile x code maxLocals ret World_1 tables_1 room_1 Calls_1 rest_1 Pre_1 Post := by
  intro l hfl _ _ p e ha hc hk s m args below hf hA hF happ hP
  obtain ⟨hcalls, hrest, hpre⟩ := hP
  obtain ⟨-, -, -, hnamed, -, -, -, hat⟩ := (Spec.applies_iff hf).mp happ
  obtain ⟨hg, hn⟩ := and_e (Cond.before_iff.mp (show (Jvm.Cond.and given_1 narrow_1).before args s = true from hpre))
  obtain ⟨hcnt, g0⟩ := and_e hg
  obtain ⟨u0, g1⟩ := and_e g0
  have u1 := g1
  obtain ⟨w0, w1, rfl⟩ : ∃ w0 w1 : Value, args = #[w0, w1] := by
    have hs : args.size = 2 := by simpa [Cond.value, given_1] using hcnt
    obtain ⟨L⟩ := args
    match L, hs with
    | [w0, w1], _ => exact ⟨w0, w1, rfl⟩
  have hw := fun d (hd : d ∈ tables_1) => atoms_spec (ws := Jvm.Cond.code x code maxLocals ret :: tables_1) hat d (List.mem_cons_of_mem _ hd)
  have hfit : Fit s := fun {y c} hc i hi => by
    obtain ⟨ha, rfl⟩ := Array.getElem?_eq_some_iff.mp hc
    have q := List.all_eq_true.mp ((Array.all_eq_true_iff_forall_mem.mp hF) _ (Array.getElem_mem ha)) i (List.mem_range.mpr hi)
    simpa [Array.getElem?_eq_getElem hi] using q
  obtain ⟨hsets, hown0⟩ := atoms_of _ (rest_1_c_eq ▸ (show rest_1_c.before _ s = true from hrest))
  have hr0 := Cond.before_iff.mp hown0
  obtain ⟨i0, ei0⟩ := is_v u0
  obtain rfl : w0 = (.int i0) := Option.some.inj ei0
  obtain ⟨i1, ei1⟩ := is_v u1
  obtain rfl : w1 = (.int i1) := Option.some.inj ei1
  obtain ⟨iG, eG⟩ := is_v (Cond.before_iff.mp (hsets _ (List.mem_of_getElem? (i := 1) rfl)))
  have SG : Sta s s.heap "java/lang/String" "COMPACT_STRINGS" "Z" (.int iG) := Sta.start eG (Or.inl (hsets _ (List.mem_of_getElem? (i := 0) rfl)))
  have cG : ¬ (iG = (0 : Int32)) := gotF (Cond.eq_ints eG (Term.int_eval (0))) (not_v (Cond.before_iff.mp (hsets _ (List.mem_of_getElem? (i := 2) rfl))))
  obtain ⟨vF, eF, rF⟩ := isR_v (Cond.before_iff.mp (hsets _ (List.mem_of_getElem? (i := 8) rfl)))
  have SF : Sta s s.heap "jdk/internal/util/Preconditions" "SIOOBE_FORMATTER" "Ljava/util/function/BiFunction;" vF := Sta.start eF (Or.inl (hsets _ (List.mem_of_getElem? (i := 7) rfl)))
  have hCH : CHv s consts_1 s.vm s.heap := CHv.start (elW hw) (fun p hp => hcalls.1 p hp) (hsets _ (List.mem_of_getElem? (i := 2) rfl)) (tw hw 22 rfl) (tw hw 5 rfl)
  obtain ⟨n, o, h1, h2, h3, _, L, rfl, ⟨rfl, N⟩, -, hq⟩ := rm_law l s _ hw tables_1 i0 i1 iG vF s.heap s.heap.size (Nat.le_refl _) (Old.start s) SG cG SF rF p e ha hc hk s m _ below hf ((Spec.applies_iff_loose hf).mp happ).1 ⟨rfl, State.Warmed39.refl s, rfl, hCH⟩ trivial
  refine ⟨n, _, h1, h2, h3, hpost _ _ _ _ _ _ ⟨Cond.after_iff.mpr rfl, Cond.after_iff.mpr (eq_i res_at (Term.int_eval (1)) rfl), trivial⟩ ⟨hq.1, hq.2.1, hq.2.2.1, (hq.2.2.2.sift fun y hy => Or.inr (N y hy)).mono (by decide) (by decide)⟩⟩
theorem main_1_1 : Claimed_1_1 := comes_1 fun _ _ _ _ _ _ h hF => ⟨h.1, hF⟩
theorem main_1_2 : Claimed_1_2 := comes_1 fun _ _ _ _ _ _ h hF => ⟨h.2.1, hF⟩
end Jvm.Pilot.@@N@@
namespace Jvm.Pilot.@@N@@
open Jvm Jvm.ClassFile Sem Op Lib Jvm.Free Jvm.Stand Jvm.Pilot.@@N@@.Jvm.D
/-! MADE BY PROGRAM (witnessworld.py) out of the Statement's table words and the real class files: 23 classes; the members and pool entries that the words name. The judged class is class 1, her method 1. -/
namespace start1
open Jvm.ClassFile
def u (s : String) : CpInfo := .utf8 (stringToUtf16 s)
/-- a pool by its gaps: so many unusable entries, then the entry; so many at the end -/
def gap : Nat → List CpInfo → List CpInfo
  | 0, r => r
  | n + 1, r => .unusable :: gap n r
def poolList (es : List (Nat × CpInfo)) (last : Nat) : List CpInfo := es.foldr (fun e r => gap e.1 (e.2 :: r)) (gap last [])
def pool (es : List (Nat × CpInfo)) (last : Nat) : Array CpInfo := ⟨poolList es last⟩
def fileOf (pool : Array CpInfo) (this : Nat) (attrs : Array Attribute := #[]) (ms : Array MethodInfo := #[]) (fl : Nat := 33) (sup : Nat := 0) (ifs : Array Nat := #[]) (fds : Array FieldInfo := #[]) : ClassFile where
  minorVersion := 0
  majorVersion := 65
  constantPool := pool
  accessFlags := fl
  thisClass := this
  superClass := sup
  interfaces := ifs
  fields := fds
  methods := ms
  attributes := attrs
def plain (name : String) (sup : Option ClassId) : Class where
  name := name
  kind := .ordinary
  loader := none
  accessFlags := 33
  super := sup
  interfaces := #[]
  cf := none
  fields := #[]
  methods := #[]
  instanceTypes := #[]
  staticTypes := #[]
  resolved := #[]
  callSites := []
  init := .initialized
  statics := none
  mirror := none

def pool0 : Array CpInfo := pool [(5, u "<init>"), (0, u "()V"), (1, .class_ 10), (1, u "java/lang/Object")] 113

def k0c0 : Code := { maxStack := 0, maxLocals := 1, code := object_method_1_code, exceptionTable := #[], attributes := #[] }
def k0m0 : Method := { name := "<init>", desc := "()V", sig := { parameters := [], returnType := none }, accessFlags := 1, code := some k0c0 }
/-- java/lang/Object -/
def k0 : Class := { plain "java/lang/Object" none with
  accessFlags := 33
  interfaces := #[]
  cf := some (fileOf pool0 8 #[] #[{ accessFlags := 1, nameIndex := 5, descriptorIndex := 6, attributes := #[] }] 33 0 #[] #[])
  fields := #[]
  methods := #[k0m0]
  instanceTypes := #[]
  staticTypes := #[]
  resolved := Array.replicate 124 none
  statics := none }

def pool1 : Array CpInfo := pool [(2, .class_ 4), (1, u "java/lang/Object"), (0, u "<init>"), (0, u "()V"), (0, .class_ 8), (0, u "com/example/lean_connector/leanconnector/server/FieldReader"), (0, .class_ 10), (0, u "java/lang/String"), (0, .methodref 9 12), (0, .nameAndType 5 13), (0, u "([C)V"), (0, .methodref 7 15), (0, .nameAndType 5 16), (0, u "(Ljava/lang/String;)V"), (0, .methodref 18 19), (0, .class_ 20), (0, .nameAndType 21 22), (0, u "com/example/lean_connector/leanconnector/server/FieldReaderUpToPinLaw"), (0, u "first"), (0, u "([CCI)I"), (0, .methodref 7 24), (0, .nameAndType 25 26), (0, u "upTo"), (0, u "(C)Ljava/lang/String;"), (0, .methodref 18 28), (0, .nameAndType 29 30), (0, u "same"), (0, u "(Ljava/lang/String;[CII)Z"), (0, .methodref 9 32), (0, .nameAndType 33 34), (0, u "length"), (0, u "()I"), (0, .methodref 9 36), (0, .nameAndType 37 38), (0, u "charAt"), (0, u "(I)C"), (2, u "law"), (0, u "(II)Z")] 8

def k1m0 : Method := { name := "<init>", desc := "()V", sig := { parameters := [], returnType := none }, accessFlags := 1, code := none }
def k1c1 : Code := { maxStack := 5, maxLocals := 10, code := code, exceptionTable := #[], attributes := #[] }
def k1m1 : Method := { name := "law", desc := "(II)Z", sig := { parameters := [.int, .int], returnType := some .boolean }, accessFlags := 9, code := some k1c1 }
def k1c2 : Code := { maxStack := 2, maxLocals := 3, code := method_3_code, exceptionTable := #[], attributes := #[] }
def k1m2 : Method := { name := "first", desc := "([CCI)I", sig := { parameters := [(.array .char), .char, .int], returnType := some .int }, accessFlags := 10, code := some k1c2 }
def k1c3 : Code := { maxStack := 4, maxLocals := 6, code := method_4_code, exceptionTable := #[], attributes := #[] }
def k1m3 : Method := { name := "same", desc := "(Ljava/lang/String;[CII)Z", sig := { parameters := [(.object "java/lang/String"), (.array .char), .int, .int], returnType := some .boolean }, accessFlags := 10, code := some k1c3 }
/-- com/example/lean_connector/leanconnector/server/FieldReaderUpToPinLaw -/
def k1 : Class := { plain "com/example/lean_connector/leanconnector/server/FieldReaderUpToPinLaw" (some 0) with
  accessFlags := 49
  interfaces := #[]
  cf := some (fileOf pool1 18 #[] #[{ accessFlags := 1, nameIndex := 5, descriptorIndex := 6, attributes := #[] }, { accessFlags := 9, nameIndex := 41, descriptorIndex := 42, attributes := #[] }, { accessFlags := 10, nameIndex := 21, descriptorIndex := 22, attributes := #[] }, { accessFlags := 10, nameIndex := 29, descriptorIndex := 30, attributes := #[] }] 49 2 #[] #[])
  fields := #[]
  methods := #[k1m0, k1m1, k1m2, k1m3]
  instanceTypes := #[]
  staticTypes := #[]
  resolved := Array.replicate 51 none
  statics := none }

def pool2 : Array CpInfo := pool [(1, .methodref 2 3), (0, .class_ 4), (0, .nameAndType 5 6), (0, u "java/lang/Object"), (0, u "<init>"), (0, u "()V"), (0, .fieldref 8 9), (0, .class_ 10), (0, .nameAndType 11 12), (0, u "com/example/lean_connector/leanconnector/server/FieldReader"), (0, u "value"), (0, u "Ljava/lang/String;"), (19, .class_ 33), (0, u "java/lang/String"), (8, .methodref 32 43), (0, .nameAndType 44 45), (0, u "substring"), (0, u "(II)Ljava/lang/String;"), (13, u "(Ljava/lang/String;)V"), (3, .fieldref 8 64), (0, .nameAndType 65 66), (0, u "at"), (0, u "I"), (38, u "FIELD_VALUE"), (0, u "Ljava/util/regex/Pattern;"), (13, u "upTo"), (0, u "(C)Ljava/lang/String;"), (14, .methodref 32 137), (0, .nameAndType 138 139), (0, u "indexOf"), (0, u "(II)I"), (52, u "TOKEN_SYMBOLS")] 55

def k2c0 : Code := { maxStack := 2, maxLocals := 2, code := prog_24_method_1_code, exceptionTable := #[], attributes := #[] }
def k2m0 : Method := { name := "<init>", desc := "(Ljava/lang/String;)V", sig := { parameters := [(.object "java/lang/String")], returnType := none }, accessFlags := 0, code := some k2c0 }
def k2c1 : Code := { maxStack := 5, maxLocals := 4, code := prog_24_method_9_code, exceptionTable := #[], attributes := #[] }
def k2m1 : Method := { name := "upTo", desc := "(C)Ljava/lang/String;", sig := { parameters := [.char], returnType := some (.object "java/lang/String") }, accessFlags := 0, code := some k2c1 }
/-- com/example/lean_connector/leanconnector/server/FieldReader -/
def k2 : Class := { plain "com/example/lean_connector/leanconnector/server/FieldReader" (some 0) with
  accessFlags := 32
  interfaces := #[]
  cf := some (fileOf pool2 8 #[] #[{ accessFlags := 0, nameIndex := 5, descriptorIndex := 59, attributes := #[] }, { accessFlags := 0, nameIndex := 120, descriptorIndex := 121, attributes := #[] }] 32 2 #[] #[{ accessFlags := 26, nameIndex := 192, descriptorIndex := 12, attributes := #[] }, { accessFlags := 26, nameIndex := 105, descriptorIndex := 106, attributes := #[] }, { accessFlags := 18, nameIndex := 11, descriptorIndex := 12, attributes := #[] }, { accessFlags := 2, nameIndex := 65, descriptorIndex := 66, attributes := #[] }])
  fields := #[{ name := "TOKEN_SYMBOLS", type := (.object "java/lang/String"), accessFlags := 26, slot := 0, constantValue := 0 }, { name := "FIELD_VALUE", type := (.object "java/util/regex/Pattern"), accessFlags := 26, slot := 1, constantValue := 0 }, { name := "value", type := (.object "java/lang/String"), accessFlags := 18, slot := 0, constantValue := 0 }, { name := "at", type := .int, accessFlags := 2, slot := 1, constantValue := 0 }]
  methods := #[k2m0, k2m1]
  instanceTypes := #[(.object "java/lang/String"), .int]
  staticTypes := #[(.object "java/lang/String"), (.object "java/util/regex/Pattern")]
  resolved := Array.replicate 248 none
  statics := none }

def pool3 : Array CpInfo := pool [(1, .class_ 2), (0, u "java/io/Serializable"), (0, .class_ 4), (0, u "java/lang/Object")] 2

/-- java/io/Serializable -/
def k3 : Class := { plain "java/io/Serializable" (some 0) with
  accessFlags := 1537
  interfaces := #[]
  cf := some (fileOf pool3 1 #[] #[] 1537 3 #[] #[])
  fields := #[]
  methods := #[]
  instanceTypes := #[]
  staticTypes := #[]
  resolved := Array.replicate 7 none
  statics := none }

def pool4 : Array CpInfo := pool [(1, .class_ 2), (0, u "java/lang/Comparable"), (0, .class_ 4), (0, u "java/lang/Object")] 7

/-- java/lang/Comparable -/
def k4 : Class := { plain "java/lang/Comparable" (some 0) with
  accessFlags := 1537
  interfaces := #[]
  cf := some (fileOf pool4 1 #[] #[] 1537 3 #[] #[])
  fields := #[]
  methods := #[]
  instanceTypes := #[]
  staticTypes := #[]
  resolved := Array.replicate 12 none
  statics := none }

def pool5 : Array CpInfo := pool [(2, .class_ 4), (1, u "java/lang/CharSequence"), (42, .class_ 48), (0, u "java/lang/CharSequence$1CodePointIterator"), (10, .class_ 60), (0, u "java/lang/CharSequence$1CharIterator"), (5, .class_ 67), (0, u "java/lang/Object")] 63

/-- java/lang/CharSequence -/
def k5 : Class := { plain "java/lang/CharSequence" (some 0) with
  accessFlags := 1537
  interfaces := #[]
  cf := some (fileOf pool5 2 #[.nestMembers #[47, 59]] #[] 1537 66 #[] #[])
  fields := #[]
  methods := #[]
  instanceTypes := #[]
  staticTypes := #[]
  resolved := Array.replicate 131 none
  statics := none }

def pool6 : Array CpInfo := pool [(1, .class_ 2), (0, u "java/lang/constant/Constable"), (0, .class_ 4), (0, u "java/lang/Object")] 6

/-- java/lang/constant/Constable -/
def k6 : Class := { plain "java/lang/constant/Constable" (some 0) with
  accessFlags := 1537
  interfaces := #[]
  cf := some (fileOf pool6 1 #[] #[] 1537 3 #[] #[])
  fields := #[]
  methods := #[]
  instanceTypes := #[]
  staticTypes := #[]
  resolved := Array.replicate 11 none
  statics := none }

def pool7 : Array CpInfo := pool [(1, .class_ 2), (0, u "java/lang/constant/ConstantDesc"), (0, .class_ 4), (0, u "java/lang/Object")] 32

/-- java/lang/constant/ConstantDesc -/
def k7 : Class := { plain "java/lang/constant/ConstantDesc" (some 0) with
  accessFlags := 1537
  interfaces := #[]
  cf := some (fileOf pool7 1 #[] #[] 1537 3 #[] #[])
  fields := #[]
  methods := #[]
  instanceTypes := #[]
  staticTypes := #[]
  resolved := Array.replicate 37 none
  statics := none }

def pool8 : Array CpInfo := pool [(1, .methodref 2 3), (0, .class_ 4), (0, .nameAndType 5 6), (0, u "java/lang/Object"), (0, u "<init>"), (0, u "()V"), (2, .fieldref 10 11), (0, .class_ 12), (0, .nameAndType 13 14), (0, u "java/lang/String"), (0, u "value"), (0, u "[B"), (0, .fieldref 10 16), (0, .nameAndType 17 18), (0, u "coder"), (0, u "B"), (2, u "hash"), (0, u "I"), (2, u "hashIsZero"), (0, u "Z"), (0, .methodref 10 28), (0, .nameAndType 5 29), (0, u "([CIILjava/lang/Void;)V"), (8, .fieldref 10 39), (0, .nameAndType 40 26), (0, u "COMPACT_STRINGS"), (1, .class_ 44), (1, u "java/lang/StringUTF16"), (0, u "compress"), (1, .methodref 42 48), (0, .nameAndType 49 50), (0, u "coderFromArrayLen"), (0, u "([BI)B"), (56, .class_ 109), (1, u "java/lang/StringLatin1"), (32, u "()Z"), (34, .methodref 42 178), (0, .nameAndType 45 179), (0, u "([CII)[B"), (31, u "([BB)V"), (122, u "()I"), (0, .methodref 10 336), (0, .nameAndType 17 337), (0, u "()B"), (25, u "([BI)C"), (27, u "(II)V"), (35, u "(I)C"), (64, .methodref 10 493), (0, .nameAndType 494 142), (0, u "isLatin1"), (0, .methodref 107 496), (0, .nameAndType 497 363), (0, u "charAt"), (3, u "checkIndex"), (3, .methodref 10 506), (0, .nameAndType 507 334), (0, u "length"), (5, u "checkFromToIndex"), (7, .methodref 10 522), (0, .nameAndType 523 524), (0, u "checkBoundsBeginEnd"), (0, u "(III)V"), (50, .class_ 576), (0, u "java/lang/CharSequence"), (22, u "CASE_INSENSITIVE_ORDER"), (0, u "Ljava/util/Comparator;"), (34, u "indexOf"), (0, u "(II)I"), (0, .methodref 107 638), (0, .nameAndType 635 639), (0, u "([BIII)I"), (43, u "substring"), (0, u "(II)Ljava/lang/String;"), (0, .methodref 107 686), (0, .nameAndType 687 688), (0, u "newString"), (0, u "([BII)Ljava/lang/String;"), (321, u "([C)V"), (42, .fieldref 1054 1055), (0, .class_ 1056), (0, .nameAndType 1057 1058), (0, u "jdk/internal/util/Preconditions"), (0, u "SIOOBE_FORMATTER"), (0, u "Ljava/util/function/BiFunction;"), (0, .methodref 1054 1060), (0, .nameAndType 501 1061), (0, u "(IILjava/util/function/BiFunction;)I"), (0, .methodref 1054 1063), (0, .nameAndType 513 1064), (0, u "(IIILjava/util/function/BiFunction;)I"), (36, u "serialPersistentFields"), (0, u "[Ljava/io/ObjectStreamField;"), (0, .class_ 1104), (0, u "java/lang/String$CaseInsensitiveComparator"), (1, .class_ 1107), (0, u "java/io/Serializable"), (0, .class_ 1109), (0, u "java/lang/Comparable"), (0, .class_ 1111), (0, u "java/lang/constant/Constable"), (0, .class_ 1113), (0, u "java/lang/constant/ConstantDesc"), (2, u "serialVersionUID"), (0, u "J"), (3, u "REPL"), (0, u "C"), (2, u "LATIN1"), (1, u "UTF16")] 323

def k8m0 : Method := { name := "<init>", desc := "()V", sig := { parameters := [], returnType := none }, accessFlags := 1, code := none }
def k8c1 : Code := { maxStack := 5, maxLocals := 2, code := jdk_42_method_3_code, exceptionTable := #[], attributes := #[] }
def k8m1 : Method := { name := "<init>", desc := "([C)V", sig := { parameters := [(.array .char)], returnType := none }, accessFlags := 1, code := some k8c1 }
def k8c2 : Code := { maxStack := 2, maxLocals := 1, code := jdk_42_method_54_code, exceptionTable := #[], attributes := #[] }
def k8m2 : Method := { name := "length", desc := "()I", sig := { parameters := [], returnType := some .int }, accessFlags := 1, code := some k8c2 }
def k8c3 : Code := { maxStack := 2, maxLocals := 2, code := jdk_42_method_56_code, exceptionTable := #[], attributes := #[] }
def k8m3 : Method := { name := "charAt", desc := "(I)C", sig := { parameters := [.int], returnType := some .char }, accessFlags := 1, code := some k8c3 }
def k8c4 : Code := { maxStack := 4, maxLocals := 3, code := jdk_42_method_80_code, exceptionTable := #[], attributes := #[] }
def k8m4 : Method := { name := "indexOf", desc := "(II)I", sig := { parameters := [.int, .int], returnType := some .int }, accessFlags := 1, code := some k8c4 }
def k8c5 : Code := { maxStack := 3, maxLocals := 5, code := jdk_42_method_92_code, exceptionTable := #[], attributes := #[] }
def k8m5 : Method := { name := "substring", desc := "(II)Ljava/lang/String;", sig := { parameters := [.int, .int], returnType := some (.object "java/lang/String") }, accessFlags := 1, code := some k8c5 }
def k8c6 : Code := { maxStack := 4, maxLocals := 6, code := jdk_42_method_149_code, exceptionTable := #[], attributes := #[] }
def k8m6 : Method := { name := "<init>", desc := "([CIILjava/lang/Void;)V", sig := { parameters := [(.array .char), .int, .int, (.object "java/lang/Void")], returnType := none }, accessFlags := 2, code := some k8c6 }
def k8c7 : Code := { maxStack := 2, maxLocals := 3, code := jdk_42_method_151_code, exceptionTable := #[], attributes := #[] }
def k8m7 : Method := { name := "<init>", desc := "([BB)V", sig := { parameters := [(.array .byte), .byte], returnType := none }, accessFlags := 0, code := some k8c7 }
def k8c8 : Code := { maxStack := 1, maxLocals := 1, code := jdk_42_method_152_code, exceptionTable := #[], attributes := #[] }
def k8m8 : Method := { name := "coder", desc := "()B", sig := { parameters := [], returnType := some .byte }, accessFlags := 0, code := some k8c8 }
def k8c9 : Code := { maxStack := 1, maxLocals := 1, code := jdk_42_method_154_code, exceptionTable := #[], attributes := #[] }
def k8m9 : Method := { name := "isLatin1", desc := "()Z", sig := { parameters := [], returnType := some .boolean }, accessFlags := 0, code := some k8c9 }
def k8c10 : Code := { maxStack := 3, maxLocals := 2, code := jdk_42_method_155_code, exceptionTable := #[], attributes := #[] }
def k8m10 : Method := { name := "checkIndex", desc := "(II)V", sig := { parameters := [.int, .int], returnType := none }, accessFlags := 8, code := some k8c10 }
def k8c11 : Code := { maxStack := 4, maxLocals := 3, code := jdk_42_method_158_code, exceptionTable := #[], attributes := #[] }
def k8m11 : Method := { name := "checkBoundsBeginEnd", desc := "(III)V", sig := { parameters := [.int, .int, .int], returnType := none }, accessFlags := 8, code := some k8c11 }
/-- java/lang/String -/
def k8 : Class := { plain "java/lang/String" (some 0) with
  accessFlags := 49
  interfaces := #[3, 4, 5, 6, 7]
  cf := some (fileOf pool8 10 #[.nestMembers #[1103]] #[{ accessFlags := 1, nameIndex := 5, descriptorIndex := 6, attributes := #[] }, { accessFlags := 1, nameIndex := 5, descriptorIndex := 1010, attributes := #[] }, { accessFlags := 1, nameIndex := 507, descriptorIndex := 334, attributes := #[] }, { accessFlags := 1, nameIndex := 497, descriptorIndex := 427, attributes := #[] }, { accessFlags := 1, nameIndex := 635, descriptorIndex := 636, attributes := #[] }, { accessFlags := 1, nameIndex := 683, descriptorIndex := 684, attributes := #[] }, { accessFlags := 2, nameIndex := 5, descriptorIndex := 29, attributes := #[] }, { accessFlags := 0, nameIndex := 5, descriptorIndex := 211, attributes := #[] }, { accessFlags := 0, nameIndex := 17, descriptorIndex := 337, attributes := #[] }, { accessFlags := 0, nameIndex := 494, descriptorIndex := 142, attributes := #[] }, { accessFlags := 8, nameIndex := 501, descriptorIndex := 391, attributes := #[] }, { accessFlags := 8, nameIndex := 523, descriptorIndex := 524, attributes := #[] }] 49 2 #[1106, 1108, 575, 1110, 1112] #[{ accessFlags := 18, nameIndex := 13, descriptorIndex := 14, attributes := #[] }, { accessFlags := 18, nameIndex := 17, descriptorIndex := 18, attributes := #[] }, { accessFlags := 2, nameIndex := 21, descriptorIndex := 22, attributes := #[] }, { accessFlags := 2, nameIndex := 25, descriptorIndex := 26, attributes := #[] }, { accessFlags := 26, nameIndex := 1116, descriptorIndex := 1117, attributes := #[] }, { accessFlags := 24, nameIndex := 40, descriptorIndex := 26, attributes := #[] }, { accessFlags := 26, nameIndex := 1101, descriptorIndex := 1102, attributes := #[] }, { accessFlags := 26, nameIndex := 1121, descriptorIndex := 1122, attributes := #[] }, { accessFlags := 25, nameIndex := 599, descriptorIndex := 600, attributes := #[] }, { accessFlags := 24, nameIndex := 1125, descriptorIndex := 18, attributes := #[] }, { accessFlags := 24, nameIndex := 1127, descriptorIndex := 18, attributes := #[] }])
  fields := #[{ name := "value", type := (.array .byte), accessFlags := 18, slot := 0, constantValue := 0 }, { name := "coder", type := .byte, accessFlags := 18, slot := 1, constantValue := 0 }, { name := "hash", type := .int, accessFlags := 2, slot := 2, constantValue := 0 }, { name := "hashIsZero", type := .boolean, accessFlags := 2, slot := 3, constantValue := 0 }, { name := "serialVersionUID", type := .long, accessFlags := 26, slot := 0, constantValue := 0 }, { name := "COMPACT_STRINGS", type := .boolean, accessFlags := 24, slot := 1, constantValue := 0 }, { name := "serialPersistentFields", type := (.array (.object "java/io/ObjectStreamField")), accessFlags := 26, slot := 2, constantValue := 0 }, { name := "REPL", type := .char, accessFlags := 26, slot := 3, constantValue := 0 }, { name := "CASE_INSENSITIVE_ORDER", type := (.object "java/util/Comparator"), accessFlags := 25, slot := 4, constantValue := 0 }, { name := "LATIN1", type := .byte, accessFlags := 24, slot := 5, constantValue := 0 }, { name := "UTF16", type := .byte, accessFlags := 24, slot := 6, constantValue := 0 }]
  methods := #[k8m0, k8m1, k8m2, k8m3, k8m4, k8m5, k8m6, k8m7, k8m8, k8m9, k8m10, k8m11]
  instanceTypes := #[(.array .byte), .byte, .int, .boolean]
  staticTypes := #[.long, .boolean, (.array (.object "java/io/ObjectStreamField")), .char, (.object "java/util/Comparator"), .byte, .byte]
  resolved := Array.replicate 1451 none
  statics := some 0 }

def pool9 : Array CpInfo := pool [(6, .class_ 8), (1, u "java/lang/Object"), (0, u "<init>"), (0, u "()V"), (1, .class_ 14), (1, u "java/lang/StringUTF16"), (31, u "$assertionsDisabled"), (0, u "Z"), (13, u "HI_BYTE_SHIFT"), (0, u "I"), (2, u "LO_BYTE_SHIFT"), (49, .methodref 12 116), (0, .nameAndType 117 118), (0, u "compress"), (0, u "([CI[BII)I"), (3, u "([CII)[B"), (138, u "coderFromArrayLen"), (0, u "([BI)B"), (106, .class_ 371), (1, u "java/lang/StringUTF16$LinesSpliterator"), (58, u "MAX_LENGTH"), (196, .class_ 628), (0, u "java/lang/StringUTF16$CodePointsSpliterator"), (0, .class_ 630), (0, u "java/lang/StringUTF16$CharsSpliterator")] 4

def k9m0 : Method := { name := "<init>", desc := "()V", sig := { parameters := [], returnType := none }, accessFlags := 0, code := none }
def k9c1 : Code := { maxStack := 2, maxLocals := 2, code := jdk_52_method_15_code, exceptionTable := #[], attributes := #[] }
def k9m1 : Method := { name := "coderFromArrayLen", desc := "([BI)B", sig := { parameters := [(.array .byte), .int], returnType := some .byte }, accessFlags := 8, code := some k9c1 }
def k9c2 : Code := { maxStack := 5, maxLocals := 6, code := jdk_52_method_16_code, exceptionTable := #[], attributes := #[] }
def k9m2 : Method := { name := "compress", desc := "([CII)[B", sig := { parameters := [(.array .char), .int, .int], returnType := some (.array .byte) }, accessFlags := 9, code := some k9c2 }
def k9c3 : Code := { maxStack := 3, maxLocals := 7, code := jdk_52_method_21_code, exceptionTable := #[], attributes := #[] }
def k9m3 : Method := { name := "compress", desc := "([CI[BII)I", sig := { parameters := [(.array .char), .int, (.array .byte), .int, .int], returnType := some .int }, accessFlags := 9, code := some k9c3 }
/-- java/lang/StringUTF16 -/
def k9 : Class := { plain "java/lang/StringUTF16" (some 0) with
  accessFlags := 48
  interfaces := #[]
  cf := some (fileOf pool9 12 #[.nestMembers #[627, 629, 369]] #[{ accessFlags := 0, nameIndex := 9, descriptorIndex := 10, attributes := #[] }, { accessFlags := 8, nameIndex := 261, descriptorIndex := 262, attributes := #[] }, { accessFlags := 9, nameIndex := 117, descriptorIndex := 122, attributes := #[] }, { accessFlags := 9, nameIndex := 117, descriptorIndex := 118, attributes := #[] }] 48 6 #[] #[{ accessFlags := 26, nameIndex := 61, descriptorIndex := 62, attributes := #[] }, { accessFlags := 26, nameIndex := 65, descriptorIndex := 62, attributes := #[] }, { accessFlags := 24, nameIndex := 430, descriptorIndex := 62, attributes := #[] }, { accessFlags := 4120, nameIndex := 46, descriptorIndex := 47, attributes := #[] }])
  fields := #[{ name := "HI_BYTE_SHIFT", type := .int, accessFlags := 26, slot := 0, constantValue := 0 }, { name := "LO_BYTE_SHIFT", type := .int, accessFlags := 26, slot := 1, constantValue := 0 }, { name := "MAX_LENGTH", type := .int, accessFlags := 24, slot := 2, constantValue := 0 }, { name := "$assertionsDisabled", type := .boolean, accessFlags := 4120, slot := 3, constantValue := 0 }]
  methods := #[k9m0, k9m1, k9m2, k9m3]
  instanceTypes := #[]
  staticTypes := #[.int, .int, .int, .boolean]
  resolved := Array.replicate 635 none
  statics := none }

def pool10 : Array CpInfo := pool [(1, .class_ 2), (0, u "java/lang/String"), (1, .class_ 6), (1, u "java/lang/Object"), (0, u "<init>"), (0, u "()V"), (0, .methodref 1 10), (0, .nameAndType 11 12), (0, u "checkIndex"), (0, u "(II)V"), (1, .class_ 16), (1, u "java/lang/StringLatin1"), (21, .methodref 39 40), (0, .class_ 41), (0, .nameAndType 42 43), (0, u "java/lang/Math"), (0, u "min"), (0, u "(II)I"), (9, u "([BI)C"), (34, .methodref 14 89), (0, .nameAndType 90 91), (0, u "canEncode"), (0, u "(I)Z"), (0, .methodref 39 93), (0, .nameAndType 94 43), (0, u "max"), (0, .methodref 14 96), (0, .nameAndType 97 98), (0, u "indexOfChar"), (0, u "([BIII)I"), (2, u "indexOf"), (10, .methodref 1 113), (0, .nameAndType 7 114), (0, u "([BB)V"), (6, u "$assertionsDisabled"), (0, u "Z"), (8, .class_ 133), (1, u "java/util/Arrays"), (17, .string 152), (0, u ""), (43, u "newString"), (0, u "([BII)Ljava/lang/String;"), (23, .class_ 223), (1, u "java/lang/StringLatin1$LinesSpliterator"), (8, .methodref 131 233), (0, .nameAndType 234 235), (0, u "copyOfRange"), (0, u "([BII)[B"), (16, u "charAt"), (137, .class_ 391), (0, u "java/lang/StringLatin1$CharsSpliterator")] 3

def k10m0 : Method := { name := "<init>", desc := "()V", sig := { parameters := [], returnType := none }, accessFlags := 0, code := none }
def k10c1 : Code := { maxStack := 2, maxLocals := 2, code := jdk_43_method_2_code, exceptionTable := #[], attributes := #[] }
def k10m1 : Method := { name := "charAt", desc := "([BI)C", sig := { parameters := [(.array .byte), .int], returnType := some .char }, accessFlags := 9, code := some k10c1 }
def k10c2 : Code := { maxStack := 2, maxLocals := 1, code := jdk_43_method_4_code, exceptionTable := #[], attributes := #[] }
def k10m2 : Method := { name := "canEncode", desc := "(I)Z", sig := { parameters := [.int], returnType := some .boolean }, accessFlags := 9, code := some k10c2 }
def k10c3 : Code := { maxStack := 4, maxLocals := 4, code := jdk_43_method_22_code, exceptionTable := #[], attributes := #[] }
def k10m3 : Method := { name := "indexOf", desc := "([BIII)I", sig := { parameters := [(.array .byte), .int, .int, .int], returnType := some .int }, accessFlags := 9, code := some k10c3 }
def k10c4 : Code := { maxStack := 2, maxLocals := 6, code := jdk_43_method_23_code, exceptionTable := #[], attributes := #[] }
def k10m4 : Method := { name := "indexOfChar", desc := "([BIII)I", sig := { parameters := [(.array .byte), .int, .int, .int], returnType := some .int }, accessFlags := 10, code := some k10c4 }
def k10c5 : Code := { maxStack := 6, maxLocals := 3, code := jdk_43_method_47_code, exceptionTable := #[], attributes := #[] }
def k10m5 : Method := { name := "newString", desc := "([BII)Ljava/lang/String;", sig := { parameters := [(.array .byte), .int, .int], returnType := some (.object "java/lang/String") }, accessFlags := 9, code := some k10c5 }
/-- java/lang/StringLatin1 -/
def k10 : Class := { plain "java/lang/StringLatin1" (some 0) with
  accessFlags := 48
  interfaces := #[]
  cf := some (fileOf pool10 14 #[.nestMembers #[390, 221]] #[{ accessFlags := 0, nameIndex := 7, descriptorIndex := 8, attributes := #[] }, { accessFlags := 9, nameIndex := 252, descriptorIndex := 53, attributes := #[] }, { accessFlags := 9, nameIndex := 90, descriptorIndex := 91, attributes := #[] }, { accessFlags := 9, nameIndex := 101, descriptorIndex := 98, attributes := #[] }, { accessFlags := 10, nameIndex := 97, descriptorIndex := 98, attributes := #[] }, { accessFlags := 9, nameIndex := 196, descriptorIndex := 197, attributes := #[] }] 48 4 #[] #[{ accessFlags := 4120, nameIndex := 121, descriptorIndex := 122, attributes := #[] }])
  fields := #[{ name := "$assertionsDisabled", type := .boolean, accessFlags := 4120, slot := 0, constantValue := 0 }]
  methods := #[k10m0, k10m1, k10m2, k10m3, k10m4, k10m5]
  instanceTypes := #[]
  staticTypes := #[.boolean]
  resolved := Array.replicate 395 none
  statics := none }

def pool11 : Array CpInfo := pool [(1, .class_ 2), (0, u "java/lang/Math"), (1, .class_ 6), (1, u "java/lang/Object"), (0, u "<init>"), (0, u "()V"), (89, .class_ 100), (1, u "java/lang/Math$RandomNumberGeneratorHolder"), (71, u "negativeZeroFloatBits"), (0, u "J"), (2, u "negativeZeroDoubleBits"), (21, u "max"), (2, u "min"), (43, u "$assertionsDisabled"), (0, u "Z"), (88, u "(II)I"), (2, u "twoToTheDoubleScaleDown"), (0, u "D"), (4, u "twoToTheDoubleScaleUp"), (9, u "E"), (3, u "PI"), (2, u "TAU"), (2, u "DEGREES_TO_RADIANS"), (0, u "RADIANS_TO_DEGREES")] 94

def k11m0 : Method := { name := "<init>", desc := "()V", sig := { parameters := [], returnType := none }, accessFlags := 2, code := none }
def k11c1 : Code := { maxStack := 2, maxLocals := 2, code := jdk_29_method_65_code, exceptionTable := #[], attributes := #[] }
def k11m1 : Method := { name := "max", desc := "(II)I", sig := { parameters := [.int, .int], returnType := some .int }, accessFlags := 9, code := some k11c1 }
def k11c2 : Code := { maxStack := 2, maxLocals := 2, code := jdk_29_method_69_code, exceptionTable := #[], attributes := #[] }
def k11m2 : Method := { name := "min", desc := "(II)I", sig := { parameters := [.int, .int], returnType := some .int }, accessFlags := 9, code := some k11c2 }
/-- java/lang/Math -/
def k11 : Class := { plain "java/lang/Math" (some 0) with
  accessFlags := 49
  interfaces := #[]
  cf := some (fileOf pool11 1 #[.nestMembers #[98]] #[{ accessFlags := 2, nameIndex := 7, descriptorIndex := 8, attributes := #[] }, { accessFlags := 9, nameIndex := 198, descriptorIndex := 335, attributes := #[] }, { accessFlags := 9, nameIndex := 201, descriptorIndex := 335, attributes := #[] }] 49 4 #[] #[{ accessFlags := 25, nameIndex := 354, descriptorIndex := 339, attributes := #[] }, { accessFlags := 25, nameIndex := 358, descriptorIndex := 339, attributes := #[] }, { accessFlags := 25, nameIndex := 361, descriptorIndex := 339, attributes := #[] }, { accessFlags := 26, nameIndex := 364, descriptorIndex := 339, attributes := #[] }, { accessFlags := 26, nameIndex := 365, descriptorIndex := 339, attributes := #[] }, { accessFlags := 26, nameIndex := 172, descriptorIndex := 173, attributes := #[] }, { accessFlags := 26, nameIndex := 176, descriptorIndex := 173, attributes := #[] }, { accessFlags := 8, nameIndex := 344, descriptorIndex := 339, attributes := #[] }, { accessFlags := 8, nameIndex := 338, descriptorIndex := 339, attributes := #[] }, { accessFlags := 4120, nameIndex := 245, descriptorIndex := 246, attributes := #[] }])
  fields := #[{ name := "E", type := .double, accessFlags := 25, slot := 0, constantValue := 0 }, { name := "PI", type := .double, accessFlags := 25, slot := 1, constantValue := 0 }, { name := "TAU", type := .double, accessFlags := 25, slot := 2, constantValue := 0 }, { name := "DEGREES_TO_RADIANS", type := .double, accessFlags := 26, slot := 3, constantValue := 0 }, { name := "RADIANS_TO_DEGREES", type := .double, accessFlags := 26, slot := 4, constantValue := 0 }, { name := "negativeZeroFloatBits", type := .long, accessFlags := 26, slot := 5, constantValue := 0 }, { name := "negativeZeroDoubleBits", type := .long, accessFlags := 26, slot := 6, constantValue := 0 }, { name := "twoToTheDoubleScaleUp", type := .double, accessFlags := 8, slot := 7, constantValue := 0 }, { name := "twoToTheDoubleScaleDown", type := .double, accessFlags := 8, slot := 8, constantValue := 0 }, { name := "$assertionsDisabled", type := .boolean, accessFlags := 4120, slot := 9, constantValue := 0 }]
  methods := #[k11m0, k11m1, k11m2]
  instanceTypes := #[]
  staticTypes := #[.double, .double, .double, .double, .double, .long, .long, .double, .double, .boolean]
  resolved := Array.replicate 460 none
  statics := none }

def pool12 : Array CpInfo := pool [(2, .class_ 4), (1, u "java/lang/Object"), (0, u "<init>"), (0, u "()V"), (17, .class_ 26), (1, u "jdk/internal/util/Preconditions"), (6, u "checkIndex"), (13, u "checkFromToIndex"), (7, .class_ 56), (0, u "jdk/internal/util/Preconditions$4"), (57, .class_ 115), (0, u "jdk/internal/util/Preconditions$1"), (7, u "SIOOBE_FORMATTER"), (0, u "Ljava/util/function/BiFunction;"), (0, .class_ 126), (0, u "jdk/internal/util/Preconditions$2"), (3, u "AIOOBE_FORMATTER"), (0, .class_ 132), (0, u "jdk/internal/util/Preconditions$3"), (3, u "IOOBE_FORMATTER"), (41, u "(IILjava/util/function/BiFunction;)I"), (4, u "(IIILjava/util/function/BiFunction;)I")] 10

def k12m0 : Method := { name := "<init>", desc := "()V", sig := { parameters := [], returnType := none }, accessFlags := 1, code := none }
def k12c1 : Code := { maxStack := 3, maxLocals := 3, code := jdk_41_method_11_code, exceptionTable := #[], attributes := #[] }
def k12m1 : Method := { name := "checkIndex", desc := "(IILjava/util/function/BiFunction;)I", sig := { parameters := [.int, .int, (.object "java/util/function/BiFunction")], returnType := some .int }, accessFlags := 9, code := some k12c1 }
def k12c2 : Code := { maxStack := 4, maxLocals := 4, code := jdk_41_method_12_code, exceptionTable := #[], attributes := #[] }
def k12m2 : Method := { name := "checkFromToIndex", desc := "(IIILjava/util/function/BiFunction;)I", sig := { parameters := [.int, .int, .int, (.object "java/util/function/BiFunction")], returnType := some .int }, accessFlags := 9, code := some k12c2 }
/-- jdk/internal/util/Preconditions -/
def k12 : Class := { plain "jdk/internal/util/Preconditions" (some 0) with
  accessFlags := 33
  interfaces := #[]
  cf := some (fileOf pool12 24 #[.nestMembers #[55, 131, 125, 114]] #[{ accessFlags := 1, nameIndex := 5, descriptorIndex := 6, attributes := #[] }, { accessFlags := 9, nameIndex := 33, descriptorIndex := 178, attributes := #[] }, { accessFlags := 9, nameIndex := 47, descriptorIndex := 183, attributes := #[] }] 33 2 #[] #[{ accessFlags := 25, nameIndex := 123, descriptorIndex := 124, attributes := #[] }, { accessFlags := 25, nameIndex := 130, descriptorIndex := 124, attributes := #[] }, { accessFlags := 25, nameIndex := 136, descriptorIndex := 124, attributes := #[] }])
  fields := #[{ name := "SIOOBE_FORMATTER", type := (.object "java/util/function/BiFunction"), accessFlags := 25, slot := 0, constantValue := 0 }, { name := "AIOOBE_FORMATTER", type := (.object "java/util/function/BiFunction"), accessFlags := 25, slot := 1, constantValue := 0 }, { name := "IOOBE_FORMATTER", type := (.object "java/util/function/BiFunction"), accessFlags := 25, slot := 2, constantValue := 0 }]
  methods := #[k12m0, k12m1, k12m2]
  instanceTypes := #[]
  staticTypes := #[(.object "java/util/function/BiFunction"), (.object "java/util/function/BiFunction"), (.object "java/util/function/BiFunction")]
  resolved := Array.replicate 194 none
  statics := some 1 }

def pool13 : Array CpInfo := pool [(2, .class_ 4), (1, u "java/lang/Object"), (0, u "<init>"), (0, u "()V"), (7, .class_ 16), (1, u "java/util/Arrays"), (57, .class_ 76), (1, u "java/util/Arrays$NaturalOrder"), (36, .class_ 115), (1, u "java/util/Arrays$LegacyMergeSort"), (1, u "Z"), (21, u "copyOfRange"), (10, .methodref 151 152), (0, .class_ 153), (0, .nameAndType 154 155), (0, u "java/lang/System"), (0, u "arraycopy"), (0, u "(Ljava/lang/Object;ILjava/lang/Object;II)V"), (148, .methodref 305 306), (0, .class_ 307), (0, .nameAndType 308 309), (0, u "java/lang/Math"), (0, u "min"), (0, u "(II)I"), (29, .methodref 14 340), (0, .nameAndType 341 342), (0, u "copyOfRangeByte"), (0, u "([BII)[B"), (0, .methodref 14 344), (0, .nameAndType 345 346), (0, u "checkLength"), (0, u "(II)V"), (28, .class_ 376), (0, u "java/util/Arrays$ArrayList"), (68, u "$assertionsDisabled"), (269, u "MIN_ARRAY_SORT_GRAN"), (0, u "I"), (2, u "INSERTIONSORT_THRESHOLD"), (255, .class_ 976), (0, u "java/util/Arrays$ArrayItr")] 52

def k13m0 : Method := { name := "<init>", desc := "()V", sig := { parameters := [], returnType := none }, accessFlags := 2, code := none }
def k13c1 : Code := { maxStack := 4, maxLocals := 2, code := jdk_65_method_131_code, exceptionTable := #[], attributes := #[] }
def k13m1 : Method := { name := "checkLength", desc := "(II)V", sig := { parameters := [.int, .int], returnType := none }, accessFlags := 10, code := some k13c1 }
def k13c2 : Code := { maxStack := 3, maxLocals := 3, code := jdk_65_method_132_code, exceptionTable := #[], attributes := #[] }
def k13m2 : Method := { name := "copyOfRange", desc := "([BII)[B", sig := { parameters := [(.array .byte), .int, .int], returnType := some (.array .byte) }, accessFlags := 9, code := some k13c2 }
def k13c3 : Code := { maxStack := 6, maxLocals := 5, code := jdk_65_method_133_code, exceptionTable := #[], attributes := #[] }
def k13m3 : Method := { name := "copyOfRangeByte", desc := "([BII)[B", sig := { parameters := [(.array .byte), .int, .int], returnType := some (.array .byte) }, accessFlags := 10, code := some k13c3 }
/-- java/util/Arrays -/
def k13 : Class := { plain "java/util/Arrays" (some 0) with
  accessFlags := 49
  interfaces := #[]
  cf := some (fileOf pool13 14 #[.nestMembers #[975, 375, 113, 74]] #[{ accessFlags := 2, nameIndex := 5, descriptorIndex := 6, attributes := #[] }, { accessFlags := 10, nameIndex := 345, descriptorIndex := 346, attributes := #[] }, { accessFlags := 9, nameIndex := 139, descriptorIndex := 342, attributes := #[] }, { accessFlags := 10, nameIndex := 341, descriptorIndex := 342, attributes := #[] }] 49 2 #[] #[{ accessFlags := 26, nameIndex := 715, descriptorIndex := 716, attributes := #[] }, { accessFlags := 26, nameIndex := 719, descriptorIndex := 716, attributes := #[] }, { accessFlags := 4120, nameIndex := 445, descriptorIndex := 117, attributes := #[] }])
  fields := #[{ name := "MIN_ARRAY_SORT_GRAN", type := .int, accessFlags := 26, slot := 0, constantValue := 0 }, { name := "INSERTIONSORT_THRESHOLD", type := .int, accessFlags := 26, slot := 1, constantValue := 0 }, { name := "$assertionsDisabled", type := .boolean, accessFlags := 4120, slot := 2, constantValue := 0 }]
  methods := #[k13m0, k13m1, k13m2, k13m3]
  instanceTypes := #[]
  staticTypes := #[.int, .int, .boolean]
  resolved := Array.replicate 1029 none
  statics := none }

def pool14 : Array CpInfo := pool [(2, .class_ 4), (1, u "java/lang/Object"), (0, u "<init>"), (0, u "()V"), (1, .class_ 10), (1, u "java/lang/System"), (0, u "allowSecurityManager"), (0, u "I"), (16, u "cons"), (0, u "Ljava/io/Console;"), (77, .class_ 110), (1, u "java/lang/System$CallersHolder"), (43, u "initialErrStream"), (0, u "Ljava/io/PrintStream;"), (19, u "security"), (0, u "Ljava/lang/SecurityManager;"), (31, .class_ 209), (0, u "java/lang/System$1"), (7, u "props"), (0, u "Ljava/util/Properties;"), (2, u "lineSeparator"), (0, u "Ljava/lang/String;"), (96, .class_ 321), (1, u "java/lang/System$LoggerFinder"), (5, .class_ 328), (0, u "java/lang/System$Logger"), (67, u "err"), (2, u "out"), (91, u "notSupportedJnuEncoding"), (15, u "in"), (17, u "initialIn"), (0, u "Ljava/io/InputStream;"), (35, u "bootLayer"), (0, u "Ljava/lang/ModuleLayer;"), (99, .class_ 664), (0, u "java/lang/System$2"), (9, u "NEVER"), (2, u "MAYBE"), (49, u "arraycopy"), (0, u "(Ljava/lang/Object;ILjava/lang/Object;II)V"), (72, .class_ 802), (0, u "java/lang/System$Logger$Level")] 31

def k14m0 : Method := { name := "<init>", desc := "()V", sig := { parameters := [], returnType := none }, accessFlags := 2, code := none }
def k14m1 : Method := { name := "arraycopy", desc := "(Ljava/lang/Object;ILjava/lang/Object;II)V", sig := { parameters := [(.object "java/lang/Object"), .int, (.object "java/lang/Object"), .int, .int], returnType := none }, accessFlags := 265, code := none }
/-- java/lang/System -/
def k14 : Class := { plain "java/lang/System" (some 0) with
  accessFlags := 49
  interfaces := #[]
  cf := some (fileOf pool14 8 #[.nestMembers #[319, 327, 801, 108, 663, 208]] #[{ accessFlags := 2, nameIndex := 5, descriptorIndex := 6, attributes := #[] }, { accessFlags := 265, nameIndex := 727, descriptorIndex := 728, attributes := #[] }] 49 2 #[] #[{ accessFlags := 25, nameIndex := 507, descriptorIndex := 526, attributes := #[] }, { accessFlags := 25, nameIndex := 399, descriptorIndex := 155, attributes := #[] }, { accessFlags := 25, nameIndex := 396, descriptorIndex := 155, attributes := #[] }, { accessFlags := 10, nameIndex := 525, descriptorIndex := 526, attributes := #[] }, { accessFlags := 26, nameIndex := 674, descriptorIndex := 12, attributes := #[] }, { accessFlags := 26, nameIndex := 677, descriptorIndex := 12, attributes := #[] }, { accessFlags := 10, nameIndex := 11, descriptorIndex := 12, attributes := #[] }, { accessFlags := 74, nameIndex := 175, descriptorIndex := 176, attributes := #[] }, { accessFlags := 10, nameIndex := 491, descriptorIndex := 222, attributes := #[] }, { accessFlags := 74, nameIndex := 29, descriptorIndex := 30, attributes := #[] }, { accessFlags := 74, nameIndex := 154, descriptorIndex := 155, attributes := #[] }, { accessFlags := 10, nameIndex := 217, descriptorIndex := 218, attributes := #[] }, { accessFlags := 10, nameIndex := 221, descriptorIndex := 222, attributes := #[] }, { accessFlags := 8, nameIndex := 562, descriptorIndex := 563, attributes := #[] }])
  fields := #[{ name := "in", type := (.object "java/io/InputStream"), accessFlags := 25, slot := 0, constantValue := 0 }, { name := "out", type := (.object "java/io/PrintStream"), accessFlags := 25, slot := 1, constantValue := 0 }, { name := "err", type := (.object "java/io/PrintStream"), accessFlags := 25, slot := 2, constantValue := 0 }, { name := "initialIn", type := (.object "java/io/InputStream"), accessFlags := 10, slot := 3, constantValue := 0 }, { name := "NEVER", type := .int, accessFlags := 26, slot := 4, constantValue := 0 }, { name := "MAYBE", type := .int, accessFlags := 26, slot := 5, constantValue := 0 }, { name := "allowSecurityManager", type := .int, accessFlags := 10, slot := 6, constantValue := 0 }, { name := "security", type := (.object "java/lang/SecurityManager"), accessFlags := 74, slot := 7, constantValue := 0 }, { name := "notSupportedJnuEncoding", type := (.object "java/lang/String"), accessFlags := 10, slot := 8, constantValue := 0 }, { name := "cons", type := (.object "java/io/Console"), accessFlags := 74, slot := 9, constantValue := 0 }, { name := "initialErrStream", type := (.object "java/io/PrintStream"), accessFlags := 74, slot := 10, constantValue := 0 }, { name := "props", type := (.object "java/util/Properties"), accessFlags := 10, slot := 11, constantValue := 0 }, { name := "lineSeparator", type := (.object "java/lang/String"), accessFlags := 10, slot := 12, constantValue := 0 }, { name := "bootLayer", type := (.object "java/lang/ModuleLayer"), accessFlags := 8, slot := 13, constantValue := 0 }]
  methods := #[k14m0, k14m1]
  instanceTypes := #[]
  staticTypes := #[(.object "java/io/InputStream"), (.object "java/io/PrintStream"), (.object "java/io/PrintStream"), (.object "java/io/InputStream"), .int, .int, .int, (.object "java/lang/SecurityManager"), (.object "java/lang/String"), (.object "java/io/Console"), (.object "java/io/PrintStream"), (.object "java/util/Properties"), (.object "java/lang/String"), (.object "java/lang/ModuleLayer")]
  resolved := Array.replicate 834 none
  statics := none }

def pool15 : Array CpInfo := pool [(9, u "<init>"), (6, .class_ 18), (1, u "java/lang/Object"), (0, u "()V"), (1, .class_ 23), (1, u "jdk/internal/util/ArraysSupport"), (0, u "LOG2_ARRAY_LONG_INDEX_SCALE"), (0, u "I"), (2, u "U"), (0, u "Ljdk/internal/misc/Unsafe;"), (8, u "BIG_ENDIAN"), (0, u "Z"), (8, u "LOG2_BYTE_BIT_SIZE"), (4, u "LOG2_ARRAY_INT_INDEX_SCALE"), (54, u "JLA"), (0, u "Ljdk/internal/access/JavaLangAccess;"), (11, u "LOG2_ARRAY_BOOLEAN_INDEX_SCALE"), (9, u "LOG2_ARRAY_BYTE_INDEX_SCALE"), (5, u "LOG2_ARRAY_CHAR_INDEX_SCALE"), (5, u "LOG2_ARRAY_SHORT_INDEX_SCALE"), (18, u "LOG2_ARRAY_FLOAT_INDEX_SCALE"), (24, u "LOG2_ARRAY_DOUBLE_INDEX_SCALE"), (89, u "T_BOOLEAN"), (2, u "T_CHAR"), (1, u "T_FLOAT"), (1, u "T_DOUBLE"), (1, u "T_BYTE"), (1, u "T_SHORT"), (1, u "T_INT"), (1, u "T_LONG"), (1, u "SOFT_MAX_ARRAY_LENGTH")] 83

def k15m0 : Method := { name := "<init>", desc := "()V", sig := { parameters := [], returnType := none }, accessFlags := 2, code := none }
/-- jdk/internal/util/ArraysSupport -/
def k15 : Class := { plain "jdk/internal/util/ArraysSupport" (some 0) with
  accessFlags := 33
  interfaces := #[]
  cf := some (fileOf pool15 21 #[] #[{ accessFlags := 2, nameIndex := 9, descriptorIndex := 19, attributes := #[] }] 33 16 #[] #[{ accessFlags := 24, nameIndex := 28, descriptorIndex := 29, attributes := #[] }, { accessFlags := 26, nameIndex := 38, descriptorIndex := 39, attributes := #[] }, { accessFlags := 25, nameIndex := 121, descriptorIndex := 25, attributes := #[] }, { accessFlags := 25, nameIndex := 131, descriptorIndex := 25, attributes := #[] }, { accessFlags := 25, nameIndex := 137, descriptorIndex := 25, attributes := #[] }, { accessFlags := 25, nameIndex := 143, descriptorIndex := 25, attributes := #[] }, { accessFlags := 25, nameIndex := 53, descriptorIndex := 25, attributes := #[] }, { accessFlags := 25, nameIndex := 24, descriptorIndex := 25, attributes := #[] }, { accessFlags := 25, nameIndex := 162, descriptorIndex := 25, attributes := #[] }, { accessFlags := 25, nameIndex := 187, descriptorIndex := 25, attributes := #[] }, { accessFlags := 26, nameIndex := 48, descriptorIndex := 25, attributes := #[] }, { accessFlags := 25, nameIndex := 277, descriptorIndex := 25, attributes := #[] }, { accessFlags := 25, nameIndex := 280, descriptorIndex := 25, attributes := #[] }, { accessFlags := 25, nameIndex := 282, descriptorIndex := 25, attributes := #[] }, { accessFlags := 25, nameIndex := 284, descriptorIndex := 25, attributes := #[] }, { accessFlags := 25, nameIndex := 286, descriptorIndex := 25, attributes := #[] }, { accessFlags := 25, nameIndex := 288, descriptorIndex := 25, attributes := #[] }, { accessFlags := 25, nameIndex := 290, descriptorIndex := 25, attributes := #[] }, { accessFlags := 25, nameIndex := 292, descriptorIndex := 25, attributes := #[] }, { accessFlags := 26, nameIndex := 108, descriptorIndex := 109, attributes := #[] }, { accessFlags := 25, nameIndex := 294, descriptorIndex := 25, attributes := #[] }])
  fields := #[{ name := "U", type := (.object "jdk/internal/misc/Unsafe"), accessFlags := 24, slot := 0, constantValue := 0 }, { name := "BIG_ENDIAN", type := .boolean, accessFlags := 26, slot := 1, constantValue := 0 }, { name := "LOG2_ARRAY_BOOLEAN_INDEX_SCALE", type := .int, accessFlags := 25, slot := 2, constantValue := 0 }, { name := "LOG2_ARRAY_BYTE_INDEX_SCALE", type := .int, accessFlags := 25, slot := 3, constantValue := 0 }, { name := "LOG2_ARRAY_CHAR_INDEX_SCALE", type := .int, accessFlags := 25, slot := 4, constantValue := 0 }, { name := "LOG2_ARRAY_SHORT_INDEX_SCALE", type := .int, accessFlags := 25, slot := 5, constantValue := 0 }, { name := "LOG2_ARRAY_INT_INDEX_SCALE", type := .int, accessFlags := 25, slot := 6, constantValue := 0 }, { name := "LOG2_ARRAY_LONG_INDEX_SCALE", type := .int, accessFlags := 25, slot := 7, constantValue := 0 }, { name := "LOG2_ARRAY_FLOAT_INDEX_SCALE", type := .int, accessFlags := 25, slot := 8, constantValue := 0 }, { name := "LOG2_ARRAY_DOUBLE_INDEX_SCALE", type := .int, accessFlags := 25, slot := 9, constantValue := 0 }, { name := "LOG2_BYTE_BIT_SIZE", type := .int, accessFlags := 26, slot := 10, constantValue := 0 }, { name := "T_BOOLEAN", type := .int, accessFlags := 25, slot := 11, constantValue := 0 }, { name := "T_CHAR", type := .int, accessFlags := 25, slot := 12, constantValue := 0 }, { name := "T_FLOAT", type := .int, accessFlags := 25, slot := 13, constantValue := 0 }, { name := "T_DOUBLE", type := .int, accessFlags := 25, slot := 14, constantValue := 0 }, { name := "T_BYTE", type := .int, accessFlags := 25, slot := 15, constantValue := 0 }, { name := "T_SHORT", type := .int, accessFlags := 25, slot := 16, constantValue := 0 }, { name := "T_INT", type := .int, accessFlags := 25, slot := 17, constantValue := 0 }, { name := "T_LONG", type := .int, accessFlags := 25, slot := 18, constantValue := 0 }, { name := "JLA", type := (.object "jdk/internal/access/JavaLangAccess"), accessFlags := 26, slot := 19, constantValue := 0 }, { name := "SOFT_MAX_ARRAY_LENGTH", type := .int, accessFlags := 25, slot := 20, constantValue := 0 }]
  methods := #[k15m0]
  instanceTypes := #[]
  staticTypes := #[(.object "jdk/internal/misc/Unsafe"), .boolean, .int, .int, .int, .int, .int, .int, .int, .int, .int, .int, .int, .int, .int, .int, .int, .int, .int, (.object "jdk/internal/access/JavaLangAccess"), .int]
  resolved := Array.replicate 378 none
  statics := none }

def pool16 : Array CpInfo := pool [(1, u "java/lang/Cloneable"), (0, .class_ 1), (0, u "java/lang/Object"), (0, .class_ 3)] 3

/-- java/lang/Cloneable -/
def k16 : Class := { plain "java/lang/Cloneable" (some 0) with
  accessFlags := 1537
  interfaces := #[]
  cf := some (fileOf pool16 2 #[] #[] 1537 4 #[] #[])
  fields := #[]
  methods := #[]
  instanceTypes := #[]
  staticTypes := #[]
  resolved := Array.replicate 8 none
  statics := none }

/-- the primitive byte -/
def k17 : Class := { plain "byte" none with kind := .primitive 'B', accessFlags := 0x411 }
/-- [B -/
def k18 : Class := { plain "[B" (some 0) with kind := .array 17 .byte, interfaces := #[16, 3], accessFlags := 1041 }

/-- the primitive char -/
def k19 : Class := { plain "char" none with kind := .primitive 'C', accessFlags := 0x411 }
/-- [C -/
def k20 : Class := { plain "[C" (some 0) with kind := .array 19 .char, interfaces := #[16, 3], accessFlags := 1041 }

/-- the primitive int -/
def k21 : Class := { plain "int" none with kind := .primitive 'I', accessFlags := 0x411 }
/-- [I -/
def k22 : Class := { plain "[I" (some 0) with kind := .array 21 .int, interfaces := #[16, 3], accessFlags := 1041 }

def heap : Heap := #[{ cls := 8, slots := #[.long 0, .int 1, .null, .int 0, .null, .int 0, .int 0], vm := .statics 8 },
  { cls := 12, slots := #[.null, .null, .null], vm := .statics 12 }]
def classes : Array Class := #[k0, k1, k2, k3, k4, k5, k6, k7, k8, k9, k10, k11, k12, k13, k14, k15, k16, k17, k18, k19, k20, k21, k22]
def interned : List (Array UInt16 × Addr) := []
def slotsUsed : Nat := 10
def theMethod : MethodId := ⟨1, 1⟩
def args0 : Array Value := #[.int 5, .int 7]
def aboutOver (below : List Frame) : State where
  vm := { classes := classes, interned := interned.toArray }
  heap := heap
  slotsUsed := slotsUsed
  threads := #[{ frames := .invoking theMethod args0 :: below }]
def below0 : List Frame := [.native { method := ⟨0, 0⟩, args := #[] }]
def about1 : State := aboutOver below0
def p0 : Program := .bare "" "" ""
def e0 : Env := launch0.env 0 0 0
theorem w_frames : about1.frames = Frame.invoking theMethod args0 :: below0 := rfl
set_option maxRecDepth 65536 in
theorem w_args : argsFit about1.vm theMethod args0 = true := by decide +kernel
set_option maxRecDepth 65536 in
theorem w_heap : heapFits about1 = true := by decide +kernel
set_option maxRecDepth 65536 in
theorem w_runnable : about1.curStatus? = some .runnable := by decide +kernel
set_option maxRecDepth 65536 in
theorem w_alone : about1.alone = true := by decide +kernel
set_option maxRecDepth 65536 in
theorem w_named : about1.methodNamed? x = some theMethod := by decide +kernel
set_option maxRecDepth 65536 in
theorem w_hears : about1.hears theMethod below0 = true := by decide +kernel
set_option maxRecDepth 65536 in
theorem w_ripe : about1.ripe theMethod args0 below0 = true := by decide +kernel
theorem w_running : about1.status = .running := rfl
set_option maxRecDepth 65536 in
theorem w_room : about1.hasRoom e0.platform room_1 = true :=
  launch0.hasRoom_least _ room_1 (by decide +kernel) (by decide +kernel) (by decide +kernel) (by decide +kernel) (by decide +kernel) (by decide +kernel)
theorem allAtoms_all (ts : List Jvm.Cond) (a : Array Jvm.Value) (st : Jvm.State) : (allAtoms ts).before a st = ts.all (fun c => c.before a st) := by
  induction ts with
  | nil => rfl
  | cons c t ih =>
    show (Jvm.Cond.and c (allAtoms t)).before a st = _
    rw [Jvm.Cond.before_and, ih, List.all_cons]
def words1 : List Jvm.Cond := Jvm.Cond.code x code maxLocals ret :: tables_1
/-- a 'code' word, met by the world's own term for the bytes: nothing is compared byte by byte -/
theorem code_word {y : MethodName} {bytes : ByteArray} {mx : Nat} {rt : Option FieldType} {a : Array Value} {s : State} {m : MethodId} {meth : Method} {c : Code} (h1 : s.methodNamed? y = some m) (h2 : s.vm.method? m = some meth) (h3 : meth.code = some c) (h4 : c.code = bytes)
    (h5 : (c.maxLocals == mx && c.exceptionTable.isEmpty && decide (c.maxStack ≤ mostOperands) && decide (meth.sig.returnType = rt) && !meth.locks && decide (parseMethodDescriptor y.desc = some meth.sig)) = true) : (Jvm.Cond.code y bytes mx rt).before a s = true := by
  simp only [Bool.and_eq_true, beq_iff_eq, Bool.not_eq_true', decide_eq_true_eq] at h5
  obtain ⟨⟨⟨⟨⟨g1, g2⟩, g3⟩, g4⟩, g5⟩, g6⟩ := h5
  simp [Cond.before, Cond.holds, Cond.value, h1, h2, h3, h4, g1, g2, g3, g4, g5, g6]
def isCode : Jvm.Cond → Bool
  | .code _ _ _ _ => true
  | _ => false
theorem all_split {L : List Jvm.Cond} {P : Jvm.Cond → Bool} (h1 : L.all (fun c => isCode c || P c) = true) (h2 : ∀ c ∈ L.filter isCode, P c = true) : L.all P = true := by
  refine List.all_eq_true.mpr fun c hc => ?_
  have h := List.all_eq_true.mp h1 c hc
  rcases Bool.eq_false_or_eq_true (isCode c) with hi | hi
  · exact h2 c (List.mem_filter.mpr ⟨hc, hi⟩)
  · simpa [hi] using h
set_option maxRecDepth 65536 in
theorem w_c0 : (Jvm.Cond.code x code maxLocals ret).before args0 about1 = true := code_word (m := ⟨1, 1⟩) (meth := k1m1) (c := k1c1) (by decide +kernel) rfl rfl rfl (by decide +kernel)
set_option maxRecDepth 65536 in
theorem w_c1 : (Jvm.Cond.code ({ cls := "java/lang/String", name := "<init>", desc := "([C)V" } : Jvm.MethodName) jdk_42_method_3_code (2 : Nat) (Option.none : Option Jvm.ClassFile.FieldType)).before args0 about1 = true := code_word (m := ⟨8, 1⟩) (meth := k8m1) (c := k8c1) (by decide +kernel) rfl rfl rfl (by decide +kernel)
set_option maxRecDepth 65536 in
theorem w_c2 : (Jvm.Cond.code ({ cls := "java/lang/String", name := "<init>", desc := "([CIILjava/lang/Void;)V" } : Jvm.MethodName) jdk_42_method_149_code (6 : Nat) (Option.none : Option Jvm.ClassFile.FieldType)).before args0 about1 = true := code_word (m := ⟨8, 6⟩) (meth := k8m6) (c := k8c6) (by decide +kernel) rfl rfl rfl (by decide +kernel)
set_option maxRecDepth 65536 in
theorem w_c3 : (Jvm.Cond.code ({ cls := "java/lang/Object", name := "<init>", desc := "()V" } : Jvm.MethodName) object_method_1_code (1 : Nat) (Option.none : Option Jvm.ClassFile.FieldType)).before args0 about1 = true := code_word (m := ⟨0, 0⟩) (meth := k0m0) (c := k0c0) (by decide +kernel) rfl rfl rfl (by decide +kernel)
set_option maxRecDepth 65536 in
theorem w_c4 : (Jvm.Cond.code ({ cls := "java/lang/StringUTF16", name := "compress", desc := "([CII)[B" } : Jvm.MethodName) jdk_52_method_16_code (6 : Nat) (Option.some (Jvm.ClassFile.FieldType.array Jvm.ClassFile.FieldType.byte))).before args0 about1 = true := code_word (m := ⟨9, 2⟩) (meth := k9m2) (c := k9c2) (by decide +kernel) rfl rfl rfl (by decide +kernel)
set_option maxRecDepth 65536 in
theorem w_c5 : (Jvm.Cond.code ({ cls := "java/lang/StringUTF16", name := "compress", desc := "([CI[BII)I" } : Jvm.MethodName) jdk_52_method_21_code (7 : Nat) (Option.some Jvm.ClassFile.FieldType.int)).before args0 about1 = true := code_word (m := ⟨9, 3⟩) (meth := k9m3) (c := k9c3) (by decide +kernel) rfl rfl rfl (by decide +kernel)
set_option maxRecDepth 65536 in
theorem w_c6 : (Jvm.Cond.code ({ cls := "java/lang/StringUTF16", name := "coderFromArrayLen", desc := "([BI)B" } : Jvm.MethodName) jdk_52_method_15_code (2 : Nat) (Option.some Jvm.ClassFile.FieldType.byte)).before args0 about1 = true := code_word (m := ⟨9, 1⟩) (meth := k9m1) (c := k9c1) (by decide +kernel) rfl rfl rfl (by decide +kernel)
set_option maxRecDepth 65536 in
theorem w_c7 : (Jvm.Cond.code ({ cls := "com/example/lean_connector/leanconnector/server/FieldReader", name := "<init>", desc := "(Ljava/lang/String;)V" } : Jvm.MethodName) prog_24_method_1_code (2 : Nat) (Option.none : Option Jvm.ClassFile.FieldType)).before args0 about1 = true := code_word (m := ⟨2, 0⟩) (meth := k2m0) (c := k2c0) (by decide +kernel) rfl rfl rfl (by decide +kernel)
set_option maxRecDepth 65536 in
theorem w_c8 : (Jvm.Cond.code ({ cls := "com/example/lean_connector/leanconnector/server/FieldReaderUpToPinLaw", name := "first", desc := "([CCI)I" } : Jvm.MethodName) method_3_code (3 : Nat) (Option.some Jvm.ClassFile.FieldType.int)).before args0 about1 = true := code_word (m := ⟨1, 2⟩) (meth := k1m2) (c := k1c2) (by decide +kernel) rfl rfl rfl (by decide +kernel)
set_option maxRecDepth 65536 in
theorem w_c9 : (Jvm.Cond.code ({ cls := "com/example/lean_connector/leanconnector/server/FieldReader", name := "upTo", desc := "(C)Ljava/lang/String;" } : Jvm.MethodName) prog_24_method_9_code (4 : Nat) (Option.some (Jvm.ClassFile.FieldType.object "java/lang/String"))).before args0 about1 = true := code_word (m := ⟨2, 1⟩) (meth := k2m1) (c := k2c1) (by decide +kernel) rfl rfl rfl (by decide +kernel)
set_option maxRecDepth 65536 in
theorem w_c10 : (Jvm.Cond.code ({ cls := "java/lang/String", name := "indexOf", desc := "(II)I" } : Jvm.MethodName) jdk_42_method_80_code (3 : Nat) (Option.some Jvm.ClassFile.FieldType.int)).before args0 about1 = true := code_word (m := ⟨8, 4⟩) (meth := k8m4) (c := k8c4) (by decide +kernel) rfl rfl rfl (by decide +kernel)
set_option maxRecDepth 65536 in
theorem w_c11 : (Jvm.Cond.code ({ cls := "java/lang/String", name := "isLatin1", desc := "()Z" } : Jvm.MethodName) jdk_42_method_154_code (1 : Nat) (Option.some Jvm.ClassFile.FieldType.boolean)).before args0 about1 = true := code_word (m := ⟨8, 9⟩) (meth := k8m9) (c := k8c9) (by decide +kernel) rfl rfl rfl (by decide +kernel)
set_option maxRecDepth 65536 in
theorem w_c12 : (Jvm.Cond.code ({ cls := "java/lang/String", name := "length", desc := "()I" } : Jvm.MethodName) jdk_42_method_54_code (1 : Nat) (Option.some Jvm.ClassFile.FieldType.int)).before args0 about1 = true := code_word (m := ⟨8, 2⟩) (meth := k8m2) (c := k8c2) (by decide +kernel) rfl rfl rfl (by decide +kernel)
set_option maxRecDepth 65536 in
theorem w_c13 : (Jvm.Cond.code ({ cls := "java/lang/String", name := "coder", desc := "()B" } : Jvm.MethodName) jdk_42_method_152_code (1 : Nat) (Option.some Jvm.ClassFile.FieldType.byte)).before args0 about1 = true := code_word (m := ⟨8, 8⟩) (meth := k8m8) (c := k8c8) (by decide +kernel) rfl rfl rfl (by decide +kernel)
set_option maxRecDepth 65536 in
theorem w_c14 : (Jvm.Cond.code ({ cls := "java/lang/StringLatin1", name := "indexOf", desc := "([BIII)I" } : Jvm.MethodName) jdk_43_method_22_code (4 : Nat) (Option.some Jvm.ClassFile.FieldType.int)).before args0 about1 = true := code_word (m := ⟨10, 3⟩) (meth := k10m3) (c := k10c3) (by decide +kernel) rfl rfl rfl (by decide +kernel)
set_option maxRecDepth 65536 in
theorem w_c15 : (Jvm.Cond.code ({ cls := "java/lang/StringLatin1", name := "canEncode", desc := "(I)Z" } : Jvm.MethodName) jdk_43_method_4_code (1 : Nat) (Option.some Jvm.ClassFile.FieldType.boolean)).before args0 about1 = true := code_word (m := ⟨10, 2⟩) (meth := k10m2) (c := k10c2) (by decide +kernel) rfl rfl rfl (by decide +kernel)
set_option maxRecDepth 65536 in
theorem w_c16 : (Jvm.Cond.code ({ cls := "java/lang/Math", name := "max", desc := "(II)I" } : Jvm.MethodName) jdk_29_method_65_code (2 : Nat) (Option.some Jvm.ClassFile.FieldType.int)).before args0 about1 = true := code_word (m := ⟨11, 1⟩) (meth := k11m1) (c := k11c1) (by decide +kernel) rfl rfl rfl (by decide +kernel)
set_option maxRecDepth 65536 in
theorem w_c17 : (Jvm.Cond.code ({ cls := "java/lang/Math", name := "min", desc := "(II)I" } : Jvm.MethodName) jdk_29_method_69_code (2 : Nat) (Option.some Jvm.ClassFile.FieldType.int)).before args0 about1 = true := code_word (m := ⟨11, 2⟩) (meth := k11m2) (c := k11c2) (by decide +kernel) rfl rfl rfl (by decide +kernel)
set_option maxRecDepth 65536 in
theorem w_c18 : (Jvm.Cond.code ({ cls := "java/lang/StringLatin1", name := "indexOfChar", desc := "([BIII)I" } : Jvm.MethodName) jdk_43_method_23_code (6 : Nat) (Option.some Jvm.ClassFile.FieldType.int)).before args0 about1 = true := code_word (m := ⟨10, 4⟩) (meth := k10m4) (c := k10c4) (by decide +kernel) rfl rfl rfl (by decide +kernel)
set_option maxRecDepth 65536 in
theorem w_c19 : (Jvm.Cond.code ({ cls := "java/lang/String", name := "substring", desc := "(II)Ljava/lang/String;" } : Jvm.MethodName) jdk_42_method_92_code (5 : Nat) (Option.some (Jvm.ClassFile.FieldType.object "java/lang/String"))).before args0 about1 = true := code_word (m := ⟨8, 5⟩) (meth := k8m5) (c := k8c5) (by decide +kernel) rfl rfl rfl (by decide +kernel)
set_option maxRecDepth 65536 in
theorem w_c20 : (Jvm.Cond.code ({ cls := "java/lang/String", name := "checkBoundsBeginEnd", desc := "(III)V" } : Jvm.MethodName) jdk_42_method_158_code (3 : Nat) (Option.none : Option Jvm.ClassFile.FieldType)).before args0 about1 = true := code_word (m := ⟨8, 11⟩) (meth := k8m11) (c := k8c11) (by decide +kernel) rfl rfl rfl (by decide +kernel)
set_option maxRecDepth 65536 in
theorem w_c21 : (Jvm.Cond.code ({ cls := "jdk/internal/util/Preconditions", name := "checkFromToIndex", desc := "(IIILjava/util/function/BiFunction;)I" } : Jvm.MethodName) jdk_41_method_12_code (4 : Nat) (Option.some Jvm.ClassFile.FieldType.int)).before args0 about1 = true := code_word (m := ⟨12, 2⟩) (meth := k12m2) (c := k12c2) (by decide +kernel) rfl rfl rfl (by decide +kernel)
set_option maxRecDepth 65536 in
theorem w_c22 : (Jvm.Cond.code ({ cls := "java/lang/StringLatin1", name := "newString", desc := "([BII)Ljava/lang/String;" } : Jvm.MethodName) jdk_43_method_47_code (3 : Nat) (Option.some (Jvm.ClassFile.FieldType.object "java/lang/String"))).before args0 about1 = true := code_word (m := ⟨10, 5⟩) (meth := k10m5) (c := k10c5) (by decide +kernel) rfl rfl rfl (by decide +kernel)
set_option maxRecDepth 65536 in
theorem w_c23 : (Jvm.Cond.code ({ cls := "com/example/lean_connector/leanconnector/server/FieldReaderUpToPinLaw", name := "same", desc := "(Ljava/lang/String;[CII)Z" } : Jvm.MethodName) method_4_code (6 : Nat) (Option.some Jvm.ClassFile.FieldType.boolean)).before args0 about1 = true := code_word (m := ⟨1, 3⟩) (meth := k1m3) (c := k1c3) (by decide +kernel) rfl rfl rfl (by decide +kernel)
set_option maxRecDepth 65536 in
theorem w_c24 : (Jvm.Cond.code ({ cls := "java/util/Arrays", name := "copyOfRange", desc := "([BII)[B" } : Jvm.MethodName) jdk_65_method_132_code (3 : Nat) (Option.some (Jvm.ClassFile.FieldType.array Jvm.ClassFile.FieldType.byte))).before args0 about1 = true := code_word (m := ⟨13, 2⟩) (meth := k13m2) (c := k13c2) (by decide +kernel) rfl rfl rfl (by decide +kernel)
set_option maxRecDepth 65536 in
theorem w_c25 : (Jvm.Cond.code ({ cls := "java/util/Arrays", name := "copyOfRangeByte", desc := "([BII)[B" } : Jvm.MethodName) jdk_65_method_133_code (5 : Nat) (Option.some (Jvm.ClassFile.FieldType.array Jvm.ClassFile.FieldType.byte))).before args0 about1 = true := code_word (m := ⟨13, 3⟩) (meth := k13m3) (c := k13c3) (by decide +kernel) rfl rfl rfl (by decide +kernel)
set_option maxRecDepth 65536 in
theorem w_c26 : (Jvm.Cond.code ({ cls := "java/util/Arrays", name := "checkLength", desc := "(II)V" } : Jvm.MethodName) jdk_65_method_131_code (2 : Nat) (Option.none : Option Jvm.ClassFile.FieldType)).before args0 about1 = true := code_word (m := ⟨13, 1⟩) (meth := k13m1) (c := k13c1) (by decide +kernel) rfl rfl rfl (by decide +kernel)
set_option maxRecDepth 65536 in
theorem w_c27 : (Jvm.Cond.code ({ cls := "java/lang/String", name := "<init>", desc := "([BB)V" } : Jvm.MethodName) jdk_42_method_151_code (3 : Nat) (Option.none : Option Jvm.ClassFile.FieldType)).before args0 about1 = true := code_word (m := ⟨8, 7⟩) (meth := k8m7) (c := k8c7) (by decide +kernel) rfl rfl rfl (by decide +kernel)
set_option maxRecDepth 65536 in
theorem w_c28 : (Jvm.Cond.code ({ cls := "java/lang/String", name := "charAt", desc := "(I)C" } : Jvm.MethodName) jdk_42_method_56_code (2 : Nat) (Option.some Jvm.ClassFile.FieldType.char)).before args0 about1 = true := code_word (m := ⟨8, 3⟩) (meth := k8m3) (c := k8c3) (by decide +kernel) rfl rfl rfl (by decide +kernel)
set_option maxRecDepth 65536 in
theorem w_c29 : (Jvm.Cond.code ({ cls := "java/lang/StringLatin1", name := "charAt", desc := "([BI)C" } : Jvm.MethodName) jdk_43_method_2_code (2 : Nat) (Option.some Jvm.ClassFile.FieldType.char)).before args0 about1 = true := code_word (m := ⟨10, 1⟩) (meth := k10m1) (c := k10c1) (by decide +kernel) rfl rfl rfl (by decide +kernel)
set_option maxRecDepth 65536 in
theorem w_c30 : (Jvm.Cond.code ({ cls := "java/lang/String", name := "checkIndex", desc := "(II)V" } : Jvm.MethodName) jdk_42_method_155_code (2 : Nat) (Option.none : Option Jvm.ClassFile.FieldType)).before args0 about1 = true := code_word (m := ⟨8, 10⟩) (meth := k8m10) (c := k8c10) (by decide +kernel) rfl rfl rfl (by decide +kernel)
set_option maxRecDepth 65536 in
theorem w_c31 : (Jvm.Cond.code ({ cls := "jdk/internal/util/Preconditions", name := "checkIndex", desc := "(IILjava/util/function/BiFunction;)I" } : Jvm.MethodName) jdk_41_method_11_code (3 : Nat) (Option.some Jvm.ClassFile.FieldType.int)).before args0 about1 = true := code_word (m := ⟨12, 1⟩) (meth := k12m1) (c := k12c1) (by decide +kernel) rfl rfl rfl (by decide +kernel)
def codes1 : List Jvm.Cond := [Jvm.Cond.code x code maxLocals ret, Jvm.Cond.code ({ cls := "java/lang/String", name := "<init>", desc := "([C)V" } : Jvm.MethodName) jdk_42_method_3_code (2 : Nat) (Option.none : Option Jvm.ClassFile.FieldType), Jvm.Cond.code ({ cls := "java/lang/String", name := "<init>", desc := "([CIILjava/lang/Void;)V" } : Jvm.MethodName) jdk_42_method_149_code (6 : Nat) (Option.none : Option Jvm.ClassFile.FieldType), Jvm.Cond.code ({ cls := "java/lang/Object", name := "<init>", desc := "()V" } : Jvm.MethodName) object_method_1_code (1 : Nat) (Option.none : Option Jvm.ClassFile.FieldType), Jvm.Cond.code ({ cls := "java/lang/StringUTF16", name := "compress", desc := "([CII)[B" } : Jvm.MethodName) jdk_52_method_16_code (6 : Nat) (Option.some (Jvm.ClassFile.FieldType.array Jvm.ClassFile.FieldType.byte)), Jvm.Cond.code ({ cls := "java/lang/StringUTF16", name := "compress", desc := "([CI[BII)I" } : Jvm.MethodName) jdk_52_method_21_code (7 : Nat) (Option.some Jvm.ClassFile.FieldType.int), Jvm.Cond.code ({ cls := "java/lang/StringUTF16", name := "coderFromArrayLen", desc := "([BI)B" } : Jvm.MethodName) jdk_52_method_15_code (2 : Nat) (Option.some Jvm.ClassFile.FieldType.byte), Jvm.Cond.code ({ cls := "com/example/lean_connector/leanconnector/server/FieldReader", name := "<init>", desc := "(Ljava/lang/String;)V" } : Jvm.MethodName) prog_24_method_1_code (2 : Nat) (Option.none : Option Jvm.ClassFile.FieldType), Jvm.Cond.code ({ cls := "com/example/lean_connector/leanconnector/server/FieldReaderUpToPinLaw", name := "first", desc := "([CCI)I" } : Jvm.MethodName) method_3_code (3 : Nat) (Option.some Jvm.ClassFile.FieldType.int), Jvm.Cond.code ({ cls := "com/example/lean_connector/leanconnector/server/FieldReader", name := "upTo", desc := "(C)Ljava/lang/String;" } : Jvm.MethodName) prog_24_method_9_code (4 : Nat) (Option.some (Jvm.ClassFile.FieldType.object "java/lang/String")), Jvm.Cond.code ({ cls := "java/lang/String", name := "indexOf", desc := "(II)I" } : Jvm.MethodName) jdk_42_method_80_code (3 : Nat) (Option.some Jvm.ClassFile.FieldType.int), Jvm.Cond.code ({ cls := "java/lang/String", name := "isLatin1", desc := "()Z" } : Jvm.MethodName) jdk_42_method_154_code (1 : Nat) (Option.some Jvm.ClassFile.FieldType.boolean), Jvm.Cond.code ({ cls := "java/lang/String", name := "length", desc := "()I" } : Jvm.MethodName) jdk_42_method_54_code (1 : Nat) (Option.some Jvm.ClassFile.FieldType.int), Jvm.Cond.code ({ cls := "java/lang/String", name := "coder", desc := "()B" } : Jvm.MethodName) jdk_42_method_152_code (1 : Nat) (Option.some Jvm.ClassFile.FieldType.byte), Jvm.Cond.code ({ cls := "java/lang/StringLatin1", name := "indexOf", desc := "([BIII)I" } : Jvm.MethodName) jdk_43_method_22_code (4 : Nat) (Option.some Jvm.ClassFile.FieldType.int), Jvm.Cond.code ({ cls := "java/lang/StringLatin1", name := "canEncode", desc := "(I)Z" } : Jvm.MethodName) jdk_43_method_4_code (1 : Nat) (Option.some Jvm.ClassFile.FieldType.boolean), Jvm.Cond.code ({ cls := "java/lang/Math", name := "max", desc := "(II)I" } : Jvm.MethodName) jdk_29_method_65_code (2 : Nat) (Option.some Jvm.ClassFile.FieldType.int), Jvm.Cond.code ({ cls := "java/lang/Math", name := "min", desc := "(II)I" } : Jvm.MethodName) jdk_29_method_69_code (2 : Nat) (Option.some Jvm.ClassFile.FieldType.int), Jvm.Cond.code ({ cls := "java/lang/StringLatin1", name := "indexOfChar", desc := "([BIII)I" } : Jvm.MethodName) jdk_43_method_23_code (6 : Nat) (Option.some Jvm.ClassFile.FieldType.int), Jvm.Cond.code ({ cls := "java/lang/String", name := "substring", desc := "(II)Ljava/lang/String;" } : Jvm.MethodName) jdk_42_method_92_code (5 : Nat) (Option.some (Jvm.ClassFile.FieldType.object "java/lang/String")), Jvm.Cond.code ({ cls := "java/lang/String", name := "checkBoundsBeginEnd", desc := "(III)V" } : Jvm.MethodName) jdk_42_method_158_code (3 : Nat) (Option.none : Option Jvm.ClassFile.FieldType), Jvm.Cond.code ({ cls := "jdk/internal/util/Preconditions", name := "checkFromToIndex", desc := "(IIILjava/util/function/BiFunction;)I" } : Jvm.MethodName) jdk_41_method_12_code (4 : Nat) (Option.some Jvm.ClassFile.FieldType.int), Jvm.Cond.code ({ cls := "java/lang/StringLatin1", name := "newString", desc := "([BII)Ljava/lang/String;" } : Jvm.MethodName) jdk_43_method_47_code (3 : Nat) (Option.some (Jvm.ClassFile.FieldType.object "java/lang/String")), Jvm.Cond.code ({ cls := "com/example/lean_connector/leanconnector/server/FieldReaderUpToPinLaw", name := "same", desc := "(Ljava/lang/String;[CII)Z" } : Jvm.MethodName) method_4_code (6 : Nat) (Option.some Jvm.ClassFile.FieldType.boolean), Jvm.Cond.code ({ cls := "java/util/Arrays", name := "copyOfRange", desc := "([BII)[B" } : Jvm.MethodName) jdk_65_method_132_code (3 : Nat) (Option.some (Jvm.ClassFile.FieldType.array Jvm.ClassFile.FieldType.byte)), Jvm.Cond.code ({ cls := "java/util/Arrays", name := "copyOfRangeByte", desc := "([BII)[B" } : Jvm.MethodName) jdk_65_method_133_code (5 : Nat) (Option.some (Jvm.ClassFile.FieldType.array Jvm.ClassFile.FieldType.byte)), Jvm.Cond.code ({ cls := "java/util/Arrays", name := "checkLength", desc := "(II)V" } : Jvm.MethodName) jdk_65_method_131_code (2 : Nat) (Option.none : Option Jvm.ClassFile.FieldType), Jvm.Cond.code ({ cls := "java/lang/String", name := "<init>", desc := "([BB)V" } : Jvm.MethodName) jdk_42_method_151_code (3 : Nat) (Option.none : Option Jvm.ClassFile.FieldType), Jvm.Cond.code ({ cls := "java/lang/String", name := "charAt", desc := "(I)C" } : Jvm.MethodName) jdk_42_method_56_code (2 : Nat) (Option.some Jvm.ClassFile.FieldType.char), Jvm.Cond.code ({ cls := "java/lang/StringLatin1", name := "charAt", desc := "([BI)C" } : Jvm.MethodName) jdk_43_method_2_code (2 : Nat) (Option.some Jvm.ClassFile.FieldType.char), Jvm.Cond.code ({ cls := "java/lang/String", name := "checkIndex", desc := "(II)V" } : Jvm.MethodName) jdk_42_method_155_code (2 : Nat) (Option.none : Option Jvm.ClassFile.FieldType), Jvm.Cond.code ({ cls := "jdk/internal/util/Preconditions", name := "checkIndex", desc := "(IILjava/util/function/BiFunction;)I" } : Jvm.MethodName) jdk_41_method_11_code (3 : Nat) (Option.some Jvm.ClassFile.FieldType.int)]
set_option maxRecDepth 65536 in
theorem codes_eq : words1.filter isCode = codes1 := rfl
theorem w_codes : ∀ c ∈ words1.filter isCode, c.before args0 about1 = true := by
  rw [codes_eq]
  intro c hc
  simp only [codes1, List.mem_cons, List.not_mem_nil, or_false] at hc
  rcases hc with rfl | rfl | rfl | rfl | rfl | rfl | rfl | rfl | rfl | rfl | rfl | rfl | rfl | rfl | rfl | rfl | rfl | rfl | rfl | rfl | rfl | rfl | rfl | rfl | rfl | rfl | rfl | rfl | rfl | rfl | rfl | rfl
  · exact w_c0
  · exact w_c1
  · exact w_c2
  · exact w_c3
  · exact w_c4
  · exact w_c5
  · exact w_c6
  · exact w_c7
  · exact w_c8
  · exact w_c9
  · exact w_c10
  · exact w_c11
  · exact w_c12
  · exact w_c13
  · exact w_c14
  · exact w_c15
  · exact w_c16
  · exact w_c17
  · exact w_c18
  · exact w_c19
  · exact w_c20
  · exact w_c21
  · exact w_c22
  · exact w_c23
  · exact w_c24
  · exact w_c25
  · exact w_c26
  · exact w_c27
  · exact w_c28
  · exact w_c29
  · exact w_c30
  · exact w_c31
set_option maxRecDepth 65536 in
theorem w_t1 : (words1.take 24).all (fun c => isCode c || c.before args0 about1) = true := by decide +kernel
set_option maxRecDepth 65536 in
theorem w_t2 : ((words1.drop 24).take 24).all (fun c => isCode c || c.before args0 about1) = true := by decide +kernel
set_option maxRecDepth 65536 in
theorem w_t3 : (((words1.drop 24).drop 24).take 24).all (fun c => isCode c || c.before args0 about1) = true := by decide +kernel
set_option maxRecDepth 65536 in
theorem w_t4 : ((((words1.drop 24).drop 24).drop 24).take 24).all (fun c => isCode c || c.before args0 about1) = true := by decide +kernel
set_option maxRecDepth 65536 in
theorem w_t5 : (((((words1.drop 24).drop 24).drop 24).drop 24).take 24).all (fun c => isCode c || c.before args0 about1) = true := by decide +kernel
set_option maxRecDepth 65536 in
theorem w_t6 : (((((words1.drop 24).drop 24).drop 24).drop 24).drop 24).all (fun c => isCode c || c.before args0 about1) = true := by decide +kernel
theorem w_tables : (allAtoms (Jvm.Cond.code x code maxLocals ret :: tables_1)).before args0 about1 = true := by
  rw [allAtoms_all]
  show words1.all (fun c => c.before args0 about1) = true
  refine all_split ?_ w_codes
  rw [← List.take_append_drop 24 words1, List.all_append, w_t1, ← List.take_append_drop 24 (words1.drop 24), List.all_append, w_t2, ← List.take_append_drop 24 ((words1.drop 24).drop 24), List.all_append, w_t3, ← List.take_append_drop 24 (((words1.drop 24).drop 24).drop 24), List.all_append, w_t4, ← List.take_append_drop 24 ((((words1.drop 24).drop 24).drop 24).drop 24), List.all_append, w_t5, w_t6]
  rfl
set_option maxRecDepth 65536 in
theorem w_rest : rest_1_c.before args0 about1 = true := by decide +kernel
set_option maxRecDepth 65536 in
theorem w_case : (Jvm.Cond.and given_1 narrow_1).before args0 about1 = true := by decide +kernel
set_option maxRecDepth 65536 in
theorem w_consts : constsHeld consts_1 about1 := Jvm.Lit.constsHeldB_iff.mp (by decide +kernel)
theorem w_applies : (headSpec (Jvm.Cond.code x code maxLocals ret :: tables_1) room_1).applies x e0.platform about1 = true :=
  (Spec.applies_iff w_frames).mpr ⟨w_running, w_runnable, w_alone, w_named, w_hears, w_ripe, w_room, w_tables⟩
theorem atStart : AtStart classFile x code maxLocals ret World_1 tables_1 room_1 Calls_1 rest_1 Pre_1 launch0 p0 e0 about1 theMethod args0 below0 :=
  ⟨lists_1, trivial, launch0.admits_env _ _ _, launch0.least_env, fairChoices_fair.cas, fairChoices_fair.clock, w_frames, w_args, w_heap, w_applies, ⟨w_consts, trivial⟩, w_rest, w_case⟩
end start1
theorem witness_1 : WitnessClaimed_1 := ⟨start1.p0, start1.e0, start1.about1, start1.theMethod, start1.args0, start1.below0, start1.atStart⟩
end Jvm.Pilot.@@N@@
