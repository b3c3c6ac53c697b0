import JvmDerived
import JvmDerived.Pilot.@@N@@Statement
import JvmDerived.Pilot.@@N@@Code
set_option linter.unusedVariables false
set_option linter.unusedSimpArgs false

namespace Jvm.Pilot.@@N@@
open Jvm Jvm.ClassFile Sem Op Lib Jvm.Free Jvm.Stand Jvm.LawKit Jvm.RoadKit Bundle Jvm.Pilot.@@N@@.Jvm.D
section Own
variable {p : Program} {l : Launch} {e : Env} {R : Room} {s : State} {m : MethodId} {args : Array Value} {below : List Frame} {meth : Method} {c : Code} {T T' : State} {locs : List Loc} {cells slots : Nat} {Q : Option Value → Heap → List Loc → Prop} {kc ks : Nat} {g g' : JFrame} {h : Heap}
def own_W (p : Program) (e : Env) (below : List Frame) (s : State) (Q : Option Value → Heap → List Loc → Prop) (kc ks : Nat) (T : State) (g : JFrame) : Prop :=
  ∃ s₂ o, Steps p.tables e below (T.setTop g) s₂ ∧ s₂.status = .running ∧ Ended s₂ below o ∧ ∃ v L, o = .returned v ∧ Q v s₂.heap L ∧ FrameEnd s o s₂ L kc ks
theorem own_go (st : ∀ t, Steps p.tables e below (T'.setTop g') t → Steps p.tables e below (T.setTop g) t) (k : own_W p e below s Q kc ks T' g') : own_W p e below s Q kc ks T g := by
  obtain ⟨s₂, o, h1, h2⟩ := k
  exact ⟨s₂, o, st _ h1, h2⟩
theorem own_ret (X : Stand p l e R s m args below meth c T locs cells slots) (hx : p.tables.exec = Jvm.exec) {pc : Nat} {Ls : Array Slot} {w : Value} {t : FieldType} {i : Instr} {rest : List Value} (hret : meth.sig.returnType = some t) (hlk : meth.locks = false) (hn : narrow t w = w)
    (hi : (i = .ireturn ∧ (t = .int ∨ t = .boolean ∨ t = .byte ∨ t = .char ∨ t = .short) ∧ ∃ z, w = .int z) ∨ (i = .lreturn ∧ t = .long ∧ ∃ z, w = .long z) ∨ (i = .dreturn ∧ t = .double ∧ ∃ z, w = .double z) ∨ (i = .freturn ∧ t = .float ∧ ∃ z, w = .float z) ∨ (i = .areturn ∧ t.isReference = true ∧ w.isRef = true))
    (hd : decode c.code pc = .ok (i, 1)) (eT : T.heap = h) (hQ : Q (some w) h locs) (hc : cells ≤ kc) (hs : slots ≤ ks) : own_W p e below s Q kc ks T (mkF m pc Ls (w :: rest)) := by
  obtain ⟨fs, hr, hrun, hended, hW, hsame⟩ := X.leave (v := some w) (fun q => by rw [hret] at q; cases q) hlk
  exact ⟨_, _, retOut X hx hret hn hi hd hr, hrun, hended, _, _, rfl, (show Q (some w) T.heap locs from eT ▸ hQ), ⟨_, rfl⟩, hW, hsame.mono hc hs⟩
theorem own_retN (X : Stand p l e R s m args below meth c T locs cells slots) (hx : p.tables.exec = Jvm.exec) {pc : Nat} {Ls : Array Slot} {z : Int32} {t : FieldType} {rest : List Value} (hret : meth.sig.returnType = some t) (hlk : meth.locks = false) (ht : t = .boolean ∨ t = .byte ∨ t = .char ∨ t = .short)
    (hd : decode c.code pc = .ok (.ireturn, 1)) (eT : T.heap = h) (hQ : Q (some (.int (nar t z))) h locs) (hc : cells ≤ kc) (hs : slots ≤ ks) : own_W p e below s Q kc ks T (mkF m pc Ls (.int z :: rest)) := by
  obtain ⟨fs, hr, hrun, hended, hW, hsame⟩ := X.leave (v := some (.int (nar t z))) (fun q => by rw [hret] at q; cases q) hlk
  exact ⟨_, _, retN X hx hret ht hd hr, hrun, hended, _, _, rfl, (show Q (some (.int (nar t z))) T.heap locs from eT ▸ hQ), ⟨_, rfl⟩, hW, hsame.mono hc hs⟩
theorem own_ret0 (X : Stand p l e R s m args below meth c T locs cells slots) (hx : p.tables.exec = Jvm.exec) {pc : Nat} {Ls : Array Slot} (hret : meth.sig.returnType = none) (hlk : meth.locks = false)
    (hd : decode c.code pc = .ok (.return_, 1)) (eT : T.heap = h) (hQ : Q none h locs) (hc : cells ≤ kc) (hs : slots ≤ ks) : own_W p e below s Q kc ks T (mkF m pc Ls []) := by
  obtain ⟨fs, hr, hrun, hended, hW, hsame⟩ := X.leave (v := none) (fun _ => rfl) hlk
  exact ⟨_, _, X.returnOut hx hret hd hr, hrun, hended, _, _, rfl, (show Q none T.heap locs from eT ▸ hQ), ⟨_, rfl⟩, hW, hsame.mono hc hs⟩
def own_WS (p : Program) (e : Env) (below : List Frame) (s : State) (Q : Option Value → Heap → List Loc → Prop) (kc ks : Nat) (T : State) (g : JFrame) : Prop :=
  ∃ s₂ o, Steps p.tables e below (T.setTop g) s₂ ∧ s₂.status = .running ∧ Ended s₂ below o ∧ ∃ v L, o = .returned v ∧ Q v s₂.heap L ∧ ReturnedEndW s o s₂ L kc ks
theorem own_goS (st : ∀ t, Steps p.tables e below (T'.setTop g') t → Steps p.tables e below (T.setTop g) t) (k : own_WS p e below s Q kc ks T' g') : own_WS p e below s Q kc ks T g := by
  obtain ⟨s₂, o, h1, h2⟩ := k
  exact ⟨s₂, o, st _ h1, h2⟩
theorem own_endW {t : State} {o : Outcome} {L : List Loc} {k n k' n' : Nat} (q : ReturnedEndW s o t L k n) (h1 : k ≤ k') (h2 : n ≤ n') : ReturnedEndW s o t L k' n' := ⟨q.1, q.2.1, q.2.2.1, q.2.2.2.mono h1 h2⟩
theorem own_retS {vm1 : Vm} {n1 : Nat} (X : Stand p l e R (s.setVm vm1) m args below meth c T locs cells slots) (hS : s.Since vm1 n1) (hx : p.tables.exec = Jvm.exec) {pc : Nat} {Ls : Array Slot} {w : Value} {t : FieldType} {i : Instr} {rest : List Value} (hret : meth.sig.returnType = some t) (hlk : meth.locks = false) (hn : narrow t w = w)
    (hi : (i = .ireturn ∧ (t = .int ∨ t = .boolean ∨ t = .byte ∨ t = .char ∨ t = .short) ∧ ∃ z, w = .int z) ∨ (i = .lreturn ∧ t = .long ∧ ∃ z, w = .long z) ∨ (i = .dreturn ∧ t = .double ∧ ∃ z, w = .double z) ∨ (i = .freturn ∧ t = .float ∧ ∃ z, w = .float z) ∨ (i = .areturn ∧ t.isReference = true ∧ w.isRef = true))
    (hd : decode c.code pc = .ok (i, 1)) (eT : T.heap = h) (hk : n1 ≤ h.size) (hQ : Q (some w) h locs) (hc : cells ≤ kc) (hs : slots ≤ ks) : own_WS p e below s Q kc ks T (mkF m pc Ls (w :: rest)) := by
  obtain ⟨fs, hr, hrun, hended, hW⟩ := X.leaveW hS (eT ▸ hk) (v := some w) (fun q => by rw [hret] at q; cases q) hlk
  exact ⟨_, _, retOut X hx hret hn hi hd hr, hrun, hended, _, _, rfl, (show Q (some w) T.heap locs from eT ▸ hQ), own_endW hW hc hs⟩
theorem own_retNS {vm1 : Vm} {n1 : Nat} (X : Stand p l e R (s.setVm vm1) m args below meth c T locs cells slots) (hS : s.Since vm1 n1) (hx : p.tables.exec = Jvm.exec) {pc : Nat} {Ls : Array Slot} {z : Int32} {t : FieldType} {rest : List Value} (hret : meth.sig.returnType = some t) (hlk : meth.locks = false) (ht : t = .boolean ∨ t = .byte ∨ t = .char ∨ t = .short)
    (hd : decode c.code pc = .ok (.ireturn, 1)) (eT : T.heap = h) (hk : n1 ≤ h.size) (hQ : Q (some (.int (nar t z))) h locs) (hc : cells ≤ kc) (hs : slots ≤ ks) : own_WS p e below s Q kc ks T (mkF m pc Ls (.int z :: rest)) := by
  obtain ⟨fs, hr, hrun, hended, hW⟩ := X.leaveW hS (eT ▸ hk) (v := some (.int (nar t z))) (fun q => by rw [hret] at q; cases q) hlk
  exact ⟨_, _, retN X hx hret ht hd hr, hrun, hended, _, _, rfl, (show Q (some (.int (nar t z))) T.heap locs from eT ▸ hQ), own_endW hW hc hs⟩
theorem own_ret0S {vm1 : Vm} {n1 : Nat} (X : Stand p l e R (s.setVm vm1) m args below meth c T locs cells slots) (hS : s.Since vm1 n1) (hx : p.tables.exec = Jvm.exec) {pc : Nat} {Ls : Array Slot} (hret : meth.sig.returnType = none) (hlk : meth.locks = false)
    (hd : decode c.code pc = .ok (.return_, 1)) (eT : T.heap = h) (hk : n1 ≤ h.size) (hQ : Q none h locs) (hc : cells ≤ kc) (hs : slots ≤ ks) : own_WS p e below s Q kc ks T (mkF m pc Ls []) := by
  obtain ⟨fs, hr, hrun, hended, hW⟩ := X.leaveW hS (eT ▸ hk) (v := none) (fun _ => rfl) hlk
  exact ⟨_, _, X.returnOut hx hret hd hr, hrun, hended, _, _, rfl, (show Q none T.heap locs from eT ▸ hQ), own_endW hW hc hs⟩
theorem own_ifc {α : Type} {c d : Prop} [Decidable c] [Decidable d] {x y : α} (h : c ↔ d) : (if c then x else y) = (if d then x else y) := by
  by_cases q : c
  · rw [if_pos q, if_pos (h.mp q)]
  · rw [if_neg q, if_neg (fun z => q (h.mpr z))]
theorem own_sta_keep {Z : State} {h h' : Heap} {C n d : String} {v : Value} {ws : List Addr} (F : Sta Z h C n d v) (K : Keep h h' ws) (q : ∀ x ∈ ws, ∀ cell : Cell, h[x]? = some cell → cell.vm.isStatics = false) : Sta Z h' C n d v := by
  obtain ⟨cf, i, k, f, st, cell, h1, h2, h3, h4, h5, h6, h7⟩ := F
  exact ⟨cf, i, k, f, st, cell, h1, h2, h3, h4, K.2.1 _ _ h5 (fun hm => by rw [q _ hm _ h5] at h6; cases h6), h6, h7⟩
end Own
theorem own_sub : ∀ w ∈ Bundle.stringAtoms, w ∈ tables_1 := by
  intro w hw
  simp only [Bundle.stringAtoms, List.mem_cons, List.not_mem_nil, or_false] at hw
  rcases hw with rfl | rfl | rfl | rfl | rfl | rfl | rfl
  · exact List.mem_of_getElem? (i := 6) rfl
  · exact List.mem_of_getElem? (i := 14) rfl
  · exact List.mem_of_getElem? (i := 18) rfl
  · exact List.mem_of_getElem? (i := 27) rfl
  · exact List.mem_of_getElem? (i := 29) rfl
  · exact List.mem_of_getElem? (i := 72) rfl
  · exact List.mem_of_getElem? (i := 73) rfl
theorem own_wS {a0 : Array Value} {Z : State} (hw : ∀ d ∈ tables_1, d.before a0 Z = true) : ∀ w ∈ Bundle.stringAtoms, w.before a0 Z = true := fun w h => hw w (own_sub w h)
def oi (x : Int32) : Slot := .val (.int x)
def oa (x : Addr) : Slot := .val (.ref x)
theorem own_w {a0 : Array Value} {Z : State} (hw : ∀ d ∈ tables_1, d.before a0 Z = true) (i : Nat) {d : Jvm.Cond} (h : tables_1[i]? = some d) : d.before a0 Z = true := hw _ (List.mem_of_getElem? h)
theorem own_nst {c : Cell} (h : c.vm.isStatics = false) : ∀ q, c.vm ≠ .statics q := fun q e => by rw [e] at h; cases h
theorem own_arv_ns {Z : State} {h : Heap} {a : Addr} {k : ClassId} {ty : FieldType} {z : Int32} {vs : List Value} {dv : Value} (F : Arv Z h a k ty z vs dv) : ∀ cell : Cell, h[a]? = some cell → cell.vm.isStatics = false := by
  obtain ⟨c, A, -⟩ := F
  intro cell q
  cases A.1.symm.trans q
  have q1 := A.2.1.1
  cases hv : c.vm <;> first | rfl | exact absurd hv (q1 _)
theorem own_selfSel {s : State} {args : Array Value} {C : String} {y : MethodName} (h : (Cond.selects C y y).before args s = true) (hp : s.PrivateAt y) (hi : (Cond.instanceMethod y).before args s = true) (hy : y.cls ≠ "java/lang/invoke/MethodHandle" ∧ y.cls ≠ "java/lang/invoke/VarHandle") : (Cond.selects y.cls y y).before args s = true := by
  obtain ⟨c, r, m, -, -, hn, -, mk, hk, hni⟩ := Cond.selects_spec h
  exact selects_self_of_private (findClass_of_methodNamed hn) hk hni hp hi hy
theorem own_nf {s : State} {args : Array Value} {C : String} {y z : MethodName} (h : (Cond.selects C z z).before args s = true) (e : y.cls = z.cls) : NotFace s y := fun r0 h0 => by
  obtain ⟨c, r, m, -, -, hn, -, mk, hk, hni⟩ := Cond.selects_spec h
  have e1 := findClass_of_methodNamed hn
  have e2 := findClass_of_methodNamed h0
  rw [e] at e2
  have e3 : m.cls = r0.cls := Option.some.inj (e1.symm.trans e2)
  exact ⟨mk, e3 ▸ hk, hni⟩
theorem own_same {s : State} {args : Array Value} {C : String} {y z : MethodName} (hi : (Cond.instanceMethod y).before args s = true) (h : (Cond.selects C z z).before args s = true) (e : y.cls = z.cls) (hy : y.cls ≠ "java/lang/invoke/MethodHandle" ∧ y.cls ≠ "java/lang/invoke/VarHandle") : (Cond.sameMethod y.cls y.cls y.name y.desc).before args s = true := by
  obtain ⟨mk, methM, hnamed, hmethM, -, -⟩ := Cond.instanceMethod_spec hi
  have hfound : s.methodFound? y.cls y.name y.desc = some mk := State.methodFound?_of_named hnamed hy
  obtain ⟨k, hk, hni⟩ := own_nf h e mk hnamed
  have hc := findClass_of_methodNamed hnamed
  have hn2 : s.methodNamed? ⟨y.cls, y.name, y.desc⟩ = some mk := hnamed
  simp only [Cond.before, Cond.holds, Cond.value, hc, hfound, hn2, hk]
  simp [hni]
theorem own_hus {us : List Value} {nn : Int32} {n : Nat} {dv : Value} (h1 : nn.toNatClampNeg = n) (h2 : us.length = n) : us = (List.range nn.toNatClampNeg).map fun i => us.getD ((0 : Int32).toNatClampNeg + i) dv := by
  rw [h1, ← h2]
  refine List.ext_getElem (by simp) fun i h3 h4 => ?_
  simp [List.getD_eq_getElem?_getD, h3, show (0 : Int32).toNatClampNeg = 0 from rfl]
theorem own_husT {us : List Value} {nn : Int32} {n : Nat} {dv : Value} (h1 : nn.toNatClampNeg = n) (h2 : n ≤ us.length) : us.take n = (List.range nn.toNatClampNeg).map fun i => us.getD ((0 : Int32).toNatClampNeg + i) dv := by
  rw [h1]
  refine List.ext_getElem (by simp; omega) fun i h3 h4 => ?_
  have : i < us.length := by simp at h3; omega
  simp [List.getD_eq_getElem?_getD, this, show (0 : Int32).toNatClampNeg = 0 from rfl]
def own_WH (Z : State) (EL : List (String × Nat)) (p : Program) (e : Env) (below : List Frame) (s : State) (Q : Option Value → Heap → List Loc → Prop) (kc ks : Nat) (T : State) (g : JFrame) : Prop :=
  ∃ s₂ o, Steps p.tables e below (T.setTop g) s₂ ∧ s₂.status = .running ∧ Ended s₂ below o ∧ ∃ v L, o = .returned v ∧ Q v s₂.heap L ∧ CHr Z EL s.vm s.heap s₂.vm s₂.heap ∧ ReturnedEndW s o s₂ L kc ks
section OwnH
variable {p : Program} {l : Launch} {e : Env} {R : Room} {s : State} {m : MethodId} {args : Array Value} {below : List Frame} {meth : Method} {c : Code} {T T' : State} {locs : List Loc} {cells slots : Nat} {Q : Option Value → Heap → List Loc → Prop} {kc ks : Nat} {g g' : JFrame} {h : Heap} {Z : State} {EL : List (String × Nat)} {a0 : Array Value}
theorem own_goH (st : ∀ t, Steps p.tables e below (T'.setTop g') t → Steps p.tables e below (T.setTop g) t) (k : own_WH Z EL p e below s Q kc ks T' g') : own_WH Z EL p e below s Q kc ks T g := by
  obtain ⟨s₂, o, h1, h2⟩ := k
  exact ⟨s₂, o, st _ h1, h2⟩
theorem own_h (T' : State) (g' : JFrame) (st : ∀ t, Steps p.tables e below (T'.setTop g') t → Steps p.tables e below (T.setTop g) t) (k : own_WH Z EL p e below s Q kc ks T' g') : own_WH Z EL p e below s Q kc ks T g := own_goH st k
theorem own_g (T' : State) (g' : JFrame) (st : ∀ t, Steps p.tables e below (T'.setTop g') t → Steps p.tables e below (T.setTop g) t) (k : own_W p e below s Q kc ks T' g') : own_W p e below s Q kc ks T g := own_go st k
theorem own_hide {n0 cells' slots' : Nat} (X : Stand p l e R s m args below meth c T locs cells slots) (hc : cells ≤ cells') (hn : slots ≤ slots') (N : Fr n0 locs) : ∃ L, Stand p l e R s m args below meth c T L cells' slots' ∧ Fr n0 L := ⟨_, X.mono hc hn, N⟩
theorem own_retH {vm1 : Vm} {n1 : Nat} (X : Stand p l e R (s.setVm vm1) m args below meth c T locs cells slots) (hS : s.Since vm1 n1) (hx : p.tables.exec = Jvm.exec) {pc : Nat} {Ls : Array Slot} {w : Value} {t : FieldType} {i : Instr} {rest : List Value} (hret : meth.sig.returnType = some t) (hlk : meth.locks = false) (hn : narrow t w = w)
    (hi : (i = .ireturn ∧ (t = .int ∨ t = .boolean ∨ t = .byte ∨ t = .char ∨ t = .short) ∧ ∃ z, w = .int z) ∨ (i = .lreturn ∧ t = .long ∧ ∃ z, w = .long z) ∨ (i = .dreturn ∧ t = .double ∧ ∃ z, w = .double z) ∨ (i = .freturn ∧ t = .float ∧ ∃ z, w = .float z) ∨ (i = .areturn ∧ t.isReference = true ∧ w.isRef = true))
    (hd : decode c.code pc = .ok (i, 1)) (hZ : Z.Warmed39 vm1) (hEL : EW Z a0 EL) (hR : CHr Z EL s.vm s.heap vm1 h) (eT : T.heap = h) (hk : n1 ≤ h.size) (hQ : Q (some w) h locs) (hc : cells ≤ kc) (hs : slots ≤ ks) : own_WH Z EL p e below s Q kc ks T (mkF m pc Ls (w :: rest)) := by
  obtain ⟨fs, hr, hrun, hended, hW⟩ := X.leaveW hS (eT ▸ hk) (v := some w) (fun q => by rw [hret] at q; cases q) hlk
  subst eT
  exact ⟨_, _, retOut X hx hret hn hi hd hr, hrun, hended, _, _, rfl, (show Q (some w) T.heap locs from hQ), (show CHr Z EL s.vm s.heap T.vm T.heap from hR.trans (CHv.at X hZ hEL hR.1)), own_endW hW hc hs⟩
theorem own_retNH {vm1 : Vm} {n1 : Nat} (X : Stand p l e R (s.setVm vm1) m args below meth c T locs cells slots) (hS : s.Since vm1 n1) (hx : p.tables.exec = Jvm.exec) {pc : Nat} {Ls : Array Slot} {z : Int32} {t : FieldType} {rest : List Value} (hret : meth.sig.returnType = some t) (hlk : meth.locks = false) (ht : t = .boolean ∨ t = .byte ∨ t = .char ∨ t = .short)
    (hd : decode c.code pc = .ok (.ireturn, 1)) (hZ : Z.Warmed39 vm1) (hEL : EW Z a0 EL) (hR : CHr Z EL s.vm s.heap vm1 h) (eT : T.heap = h) (hk : n1 ≤ h.size) (hQ : Q (some (.int (nar t z))) h locs) (hc : cells ≤ kc) (hs : slots ≤ ks) : own_WH Z EL p e below s Q kc ks T (mkF m pc Ls (.int z :: rest)) := by
  obtain ⟨fs, hr, hrun, hended, hW⟩ := X.leaveW hS (eT ▸ hk) (v := some (.int (nar t z))) (fun q => by rw [hret] at q; cases q) hlk
  subst eT
  exact ⟨_, _, retN X hx hret ht hd hr, hrun, hended, _, _, rfl, (show Q (some (.int (nar t z))) T.heap locs from hQ), (show CHr Z EL s.vm s.heap T.vm T.heap from hR.trans (CHv.at X hZ hEL hR.1)), own_endW hW hc hs⟩
theorem own_ret0H {vm1 : Vm} {n1 : Nat} (X : Stand p l e R (s.setVm vm1) m args below meth c T locs cells slots) (hS : s.Since vm1 n1) (hx : p.tables.exec = Jvm.exec) {pc : Nat} {Ls : Array Slot} (hret : meth.sig.returnType = none) (hlk : meth.locks = false)
    (hd : decode c.code pc = .ok (.return_, 1)) (hZ : Z.Warmed39 vm1) (hEL : EW Z a0 EL) (hR : CHr Z EL s.vm s.heap vm1 h) (eT : T.heap = h) (hk : n1 ≤ h.size) (hQ : Q none h locs) (hc : cells ≤ kc) (hs : slots ≤ ks) : own_WH Z EL p e below s Q kc ks T (mkF m pc Ls []) := by
  obtain ⟨fs, hr, hrun, hended, hW⟩ := X.leaveW hS (eT ▸ hk) (v := none) (fun _ => rfl) hlk
  subst eT
  exact ⟨_, _, X.returnOut hx hret hd hr, hrun, hended, _, _, rfl, (show Q none T.heap locs from hQ), (show CHr Z EL s.vm s.heap T.vm T.heap from hR.trans (CHv.at X hZ hEL hR.1)), own_endW hW hc hs⟩
theorem own_safe_null {vm : Vm} {x : Addr} (hal : Z.vm.Alike vm) (E : Exa Z h x "java/lang/String") (F : Fld Z h x "java/lang/String" "value" "[B" .null) : Safe Z EL vm h x := fun B => by
  obtain ⟨cell, k, e1, e2, e3, -, -⟩ := E
  obtain ⟨p, -, u, a, -, q, -, F', rfl | rfl⟩ := B
  · obtain ⟨cF, cc, kF, iF, fF, f1, f2, -, -, -, -, f7⟩ := F
    cases (show h[q.sa]? = some q.sC from F'.ha).symm.trans f1
    obtain ⟨cS, ⟨⟨-, -, -, ⟨c1, k1, i1, g1, -⟩, -, -, -, v1, -⟩, -⟩, -⟩ := F'
    obtain ⟨k3, e3, -⟩ := State.fieldFound?_setVm (s := Z) hal f2
    have e4 := (show (Wst Z vm h).fieldFound? _ _ _ = _ from e3).symm.trans g1
    simp only [Option.some.injEq, Prod.mk.injEq] at e4
    rw [e4.2.2.2, v1] at f7
    simp at f7
  · cases (show h[q.sd]? = some q.SA from F'.hd).symm.trans e1
    obtain ⟨cS, -, -, f, -⟩ := F'
    have f' : Z.vm.findClass "[B" = some q.SA.cls := by rw [← hal.findClass]; exact f
    obtain ⟨k1, q1, q2⟩ := Vm.findClass_spec f'
    obtain ⟨k2, q3, q4⟩ := Vm.findClass_spec e2
    cases q1.symm.trans q3
    have := q2.symm.trans q4
    exact absurd this (by decide)
end OwnH

theorem d15_0 : decode jdk_42_method_152_code 0 = .ok (.getstatic 38, 3) := by decide +kernel
theorem d15_3 : decode jdk_42_method_152_code 3 = .ok (.ifCond .eq 10, 3) := by decide +kernel
theorem d15_6 : decode jdk_42_method_152_code 6 = .ok (.aload_n 0, 1) := by decide +kernel
theorem d15_7 : decode jdk_42_method_152_code 7 = .ok (.getfield 15, 3) := by decide +kernel
theorem d15_10 : decode jdk_42_method_152_code 10 = .ok (.goto 4, 3) := by decide +kernel
theorem d15_14 : decode jdk_42_method_152_code 14 = .ok (.ireturn, 1) := by decide +kernel
def Q_rmCoder (Z : State) (r0 : Addr) (cs : Int32) (h0 : Heap) (n0 : Nat) (v : Option Value) (h : Heap) (L : List Loc) : Prop := v = some (.int (0 : Int32)) ∧ Fr n0 L ∧ h = h0
theorem ef_rmCoder (m : MethodId) (x0 : Addr) : entryFrame m #[(.ref x0)] 1 = mkF m 0 #[.val (.ref x0)] [] := by first | (simp [entryFrame, mkF, argsToLocals, Value.category]; done) | rfl
theorem pn_rmCoder : plainName "java/lang/String" = true := by first | (simp [plainName, overriddenIn]; done) | decide +kernel
set_option maxRecDepth 65536 in
set_option maxHeartbeats 40000000 in
theorem rmCoder (l : Launch) (Z : State) (a0 : Array Value) (hw : ∀ d ∈ tables_1, d.before a0 Z = true) (ws : List Jvm.Cond) (r0 : Addr) (cs : Int32) (h0 : Heap) (n0 : Nat) (Z0 : n0 ≤ h0.size) (hp0 : Fld Z h0 r0 "java/lang/String" "coder" "B" (.int (0 : Int32))) (hp1 : Sta Z h0 "java/lang/String" "COMPACT_STRINGS" "Z" (.int cs)) (hh0 : ¬ cs = (0 : Int32)) :
    MetFree l (⟨"java/lang/String", "coder", "()B"⟩ : MethodName) (head1 (Jvm.Cond.code (⟨"java/lang/String", "coder", "()B"⟩ : MethodName) jdk_42_method_152_code 1 (some .byte) :: ws) ({ frames := 0, cells := 0, slots := 0, locals := 0 } : Room)) (fun a U => a = #[(.ref r0)] ∧ Z.Warmed39 U.vm ∧ U.heap = h0) (fun _ _ _ _ _ => True) (fun _ U o U' => ∃ v L, o = .returned v ∧ Q_rmCoder Z r0 cs h0 n0 v U'.heap L ∧ FrameEnd U o U' L ({ frames := 0, cells := 0, slots := 0, locals := 0 } : Room).cells ({ frames := 0, cells := 0, slots := 0, locals := 0 } : Room).slots) := by
  refine MetFree.of_bodySF (plainFor_of_name pn_rmCoder) hisR ?_
  intro p e s m args below meth c s₁ Bd hml0 hP hK
  obtain ⟨rfl, hZ, hh⟩ := hP
  have hx := Bd.exec
  have hby := Bd.bytes
  have hml : c.maxLocals = 1 := hml0
  have hown : s.vm.findClass "java/lang/String" = some m.cls := findClass_of_methodNamed Bd.named
  have hnm := (name_of_methodNamed Bd.named Bd.method).1
  have hlk : meth.locks = false := BodyLoose.notSynchronized Bd
  have X0 : Stand p l e ({ frames := 0, cells := 0, slots := 0, locals := 0 } : Room) s m #[(.ref r0)] below meth c s₁ [] 0 0 := Stand.of_body Bd
  have e0 : s₁.heap = h0 := by rw [← hh, Bd.state]; rfl
  have N0 := Fr.nil n0
  show own_W p e below s (Q_rmCoder Z r0 cs h0 n0) 0 0 s₁ (entryFrame m #[(.ref r0)] 1)
  skip
  skip
  refine own_go (T' := s₁) (g' := (mkF m 0 #[oa r0] [])) (fun _ k => castTop (ef_rmCoder m r0) k) ?_
  obtain ⟨T1, X1, e1, st1⟩ := getS2 X0 hx hZ hown (host := "") (Or.inl (own_w hw 8 rfl)) Via.refl e0 hp1 (g := (mkF m 0 #[oa r0] [])) rfl (hb hby d15_0)
  refine own_g T1 (mkF m 7 #[oa r0] [(.ref r0)]) (fun _ k => st1 _ (XS.ifNo X1.here hx rfl (hb hby d15_3) rfl (XT.i0_eq_f hh0) (XS.aloadN X1.here hx rfl (hb hby d15_6) rfl rfl k))) ?_
  obtain ⟨T2, X2, e2, st2⟩ := getF X1 hx hZ hown (host := "") (Or.inl (own_w hw 28 rfl)) Via.refl e1 hp0 (g := (mkF m 7 #[oa r0] [(.ref r0)])) rfl rfl (hb hby d15_7)
  refine own_g T2 (mkF m 14 #[oa r0] [(.int (0 : Int32))]) (fun _ k => st2 _ (XS.goto X2.here hx rfl (pc0 := 10) (pc' := 14) rfl (hb hby d15_10) (by decide) (by decide) k)) ?_
  exact own_retN X2 hx (t := .byte) Bd.returns hlk (by simp) (hb hby d15_14) e2 ⟨rfl, N0, rfl⟩ (by decide) (by decide)
theorem d38_0 : decode jdk_42_method_154_code 0 = .ok (.getstatic 38, 3) := by decide +kernel
theorem d38_3 : decode jdk_42_method_154_code 3 = .ok (.ifCond .eq 14, 3) := by decide +kernel
theorem d38_6 : decode jdk_42_method_154_code 6 = .ok (.aload_n 0, 1) := by decide +kernel
theorem d38_7 : decode jdk_42_method_154_code 7 = .ok (.getfield 15, 3) := by decide +kernel
theorem d38_10 : decode jdk_42_method_154_code 10 = .ok (.ifCond .ne 7, 3) := by decide +kernel
theorem d38_13 : decode jdk_42_method_154_code 13 = .ok (.iconst 1, 1) := by decide +kernel
theorem d38_14 : decode jdk_42_method_154_code 14 = .ok (.goto 4, 3) := by decide +kernel
theorem d38_18 : decode jdk_42_method_154_code 18 = .ok (.ireturn, 1) := by decide +kernel
def Q_rmIsL (Z : State) (r0 : Addr) (cs : Int32) (h0 : Heap) (n0 : Nat) (v : Option Value) (h : Heap) (L : List Loc) : Prop := v = some (.int (1 : Int32)) ∧ Fr n0 L ∧ h = h0
theorem ef_rmIsL (m : MethodId) (x0 : Addr) : entryFrame m #[(.ref x0)] 1 = mkF m 0 #[.val (.ref x0)] [] := by first | (simp [entryFrame, mkF, argsToLocals, Value.category]; done) | rfl
theorem pn_rmIsL : plainName "java/lang/String" = true := by first | (simp [plainName, overriddenIn]; done) | decide +kernel
set_option maxRecDepth 65536 in
set_option maxHeartbeats 40000000 in
theorem rmIsL (l : Launch) (Z : State) (a0 : Array Value) (hw : ∀ d ∈ tables_1, d.before a0 Z = true) (ws : List Jvm.Cond) (r0 : Addr) (cs : Int32) (h0 : Heap) (n0 : Nat) (Z0 : n0 ≤ h0.size) (hp0 : Fld Z h0 r0 "java/lang/String" "coder" "B" (.int (0 : Int32))) (hp1 : Sta Z h0 "java/lang/String" "COMPACT_STRINGS" "Z" (.int cs)) (hh0 : ¬ cs = (0 : Int32)) :
    MetFree l (⟨"java/lang/String", "isLatin1", "()Z"⟩ : MethodName) (head1 (Jvm.Cond.code (⟨"java/lang/String", "isLatin1", "()Z"⟩ : MethodName) jdk_42_method_154_code 1 (some .boolean) :: ws) ({ frames := 0, cells := 0, slots := 0, locals := 0 } : Room)) (fun a U => a = #[(.ref r0)] ∧ Z.Warmed39 U.vm ∧ U.heap = h0) (fun _ _ _ _ _ => True) (fun _ U o U' => ∃ v L, o = .returned v ∧ Q_rmIsL Z r0 cs h0 n0 v U'.heap L ∧ FrameEnd U o U' L ({ frames := 0, cells := 0, slots := 0, locals := 0 } : Room).cells ({ frames := 0, cells := 0, slots := 0, locals := 0 } : Room).slots) := by
  refine MetFree.of_bodySF (plainFor_of_name pn_rmIsL) hisR ?_
  intro p e s m args below meth c s₁ Bd hml0 hP hK
  obtain ⟨rfl, hZ, hh⟩ := hP
  have hx := Bd.exec
  have hby := Bd.bytes
  have hml : c.maxLocals = 1 := hml0
  have hown : s.vm.findClass "java/lang/String" = some m.cls := findClass_of_methodNamed Bd.named
  have hnm := (name_of_methodNamed Bd.named Bd.method).1
  have hlk : meth.locks = false := BodyLoose.notSynchronized Bd
  have X0 : Stand p l e ({ frames := 0, cells := 0, slots := 0, locals := 0 } : Room) s m #[(.ref r0)] below meth c s₁ [] 0 0 := Stand.of_body Bd
  have e0 : s₁.heap = h0 := by rw [← hh, Bd.state]; rfl
  have N0 := Fr.nil n0
  show own_W p e below s (Q_rmIsL Z r0 cs h0 n0) 0 0 s₁ (entryFrame m #[(.ref r0)] 1)
  skip
  skip
  refine own_go (T' := s₁) (g' := (mkF m 0 #[oa r0] [])) (fun _ k => castTop (ef_rmIsL m r0) k) ?_
  obtain ⟨T1, X1, e1, st1⟩ := getS2 X0 hx hZ hown (host := "") (Or.inl (own_w hw 8 rfl)) Via.refl e0 hp1 (g := (mkF m 0 #[oa r0] [])) rfl (hb hby d38_0)
  refine own_g T1 (mkF m 7 #[oa r0] [(.ref r0)]) (fun _ k => st1 _ (XS.ifNo X1.here hx rfl (hb hby d38_3) rfl (XT.i0_eq_f hh0) (XS.aloadN X1.here hx rfl (hb hby d38_6) rfl rfl k))) ?_
  obtain ⟨T2, X2, e2, st2⟩ := getF X1 hx hZ hown (host := "") (Or.inl (own_w hw 28 rfl)) Via.refl e1 hp0 (g := (mkF m 7 #[oa r0] [(.ref r0)])) rfl rfl (hb hby d38_7)
  refine own_g T2 (mkF m 18 #[oa r0] [(.int (1 : Int32))]) (fun _ k => st2 _ (XS.ifNo X2.here hx rfl (hb hby d38_10) rfl (XT.i0_ne_f (rfl : (0 : Int32) = (0 : Int32))) (XS.iconst X2.here hx rfl (hb hby d38_13) (XS.goto X2.here hx rfl (pc0 := 14) (pc' := 18) rfl (hb hby d38_14) (by decide) (by decide) k)))) ?_
  exact own_retN X2 hx (t := .boolean) Bd.returns hlk (by simp) (hb hby d38_18) e2 ⟨rfl, N0, rfl⟩ (by decide) (by decide)
theorem own_pd0 : parseMethodDescriptor "()B" = some ⟨[], some .byte⟩ := by decide +kernel
theorem d14_0 : decode jdk_42_method_54_code 0 = .ok (.aload_n 0, 1) := by decide +kernel
theorem d14_1 : decode jdk_42_method_54_code 1 = .ok (.getfield 9, 3) := by decide +kernel
theorem d14_4 : decode jdk_42_method_54_code 4 = .ok (.arraylength, 1) := by decide +kernel
theorem d14_5 : decode jdk_42_method_54_code 5 = .ok (.aload_n 0, 1) := by decide +kernel
theorem d14_6 : decode jdk_42_method_54_code 6 = .ok (.invokevirtual 335, 3) := by decide +kernel
theorem d14_9 : decode jdk_42_method_54_code 9 = .ok (.ishr, 1) := by decide +kernel
theorem d14_10 : decode jdk_42_method_54_code 10 = .ok (.ireturn, 1) := by decide +kernel
def Q_rmLen (Z : State) (r0 : Addr) (d1 : Addr) (kd : ClassId) (z1 : Int32) (us : List Value) (cs : Int32) (h0 : Heap) (n0 : Nat) (v : Option Value) (h : Heap) (L : List Loc) : Prop := v = some (.int (z1 >>> ((0 : Int32) &&& 31))) ∧ Fr n0 L ∧ h = h0
theorem ef_rmLen (m : MethodId) (x0 : Addr) : entryFrame m #[(.ref x0)] 1 = mkF m 0 #[.val (.ref x0)] [] := by first | (simp [entryFrame, mkF, argsToLocals, Value.category]; done) | rfl
theorem pn_rmLen : plainName "java/lang/String" = true := by first | (simp [plainName, overriddenIn]; done) | decide +kernel
set_option maxRecDepth 65536 in
set_option maxHeartbeats 40000000 in
theorem rmLen (l : Launch) (Z : State) (a0 : Array Value) (hw : ∀ d ∈ tables_1, d.before a0 Z = true) (ws : List Jvm.Cond) (r0 : Addr) (d1 : Addr) (kd : ClassId) (z1 : Int32) (us : List Value) (cs : Int32) (h0 : Heap) (n0 : Nat) (Z0 : n0 ≤ h0.size) (hp0 : Exa Z h0 r0 "java/lang/String") (hp1 : Fld Z h0 r0 "java/lang/String" "coder" "B" (.int (0 : Int32))) (hp2 : Fld Z h0 r0 "java/lang/String" "value" "[B" (.ref d1)) (hp3 : Arv Z h0 d1 kd .byte z1 us (.int (0 : Int32))) (hp4 : Sta Z h0 "java/lang/String" "COMPACT_STRINGS" "Z" (.int cs)) (hh0 : ¬ cs = (0 : Int32)) :
    MetFree l (⟨"java/lang/String", "length", "()I"⟩ : MethodName) (head1 (Jvm.Cond.code (⟨"java/lang/String", "length", "()I"⟩ : MethodName) jdk_42_method_54_code 1 (some .int) :: ws) ({ frames := 1, cells := 0, slots := 0, locals := 13 } : Room)) (fun a U => a = #[(.ref r0)] ∧ Z.Warmed39 U.vm ∧ U.heap = h0) (fun _ _ _ _ _ => True) (fun _ U o U' => ∃ v L, o = .returned v ∧ Q_rmLen Z r0 d1 kd z1 us cs h0 n0 v U'.heap L ∧ FrameEnd U o U' L ({ frames := 1, cells := 0, slots := 0, locals := 13 } : Room).cells ({ frames := 1, cells := 0, slots := 0, locals := 13 } : Room).slots) := by
  refine MetFree.of_bodySF (plainFor_of_name pn_rmLen) hisR ?_
  intro p e s m args below meth c s₁ Bd hml0 hP hK
  obtain ⟨rfl, hZ, hh⟩ := hP
  have hx := Bd.exec
  have hby := Bd.bytes
  have hml : c.maxLocals = 1 := hml0
  have hown : s.vm.findClass "java/lang/String" = some m.cls := findClass_of_methodNamed Bd.named
  have hnm := (name_of_methodNamed Bd.named Bd.method).1
  have hlk : meth.locks = false := BodyLoose.notSynchronized Bd
  have X0 : Stand p l e ({ frames := 1, cells := 0, slots := 0, locals := 13 } : Room) s m #[(.ref r0)] below meth c s₁ [] 0 0 := Stand.of_body Bd
  have e0 : s₁.heap = h0 := by rw [← hh, Bd.state]; rfl
  have N0 := Fr.nil n0
  show own_W p e below s (Q_rmLen Z r0 d1 kd z1 us cs h0 n0) 0 0 s₁ (entryFrame m #[(.ref r0)] 1)
  skip
  skip
  refine own_go (T' := s₁) (g' := (mkF m 0 #[oa r0] [])) (fun _ k => castTop (ef_rmLen m r0) k) ?_
  refine own_g s₁ (mkF m 1 #[oa r0] [(.ref r0)]) (fun _ k => XS.aloadN X0.here hx rfl (hb hby d14_0) rfl rfl k) ?_
  obtain ⟨T1, X1, e1, st1⟩ := getF X0 hx hZ hown (host := "") (Or.inl (own_w hw 26 rfl)) Via.refl e0 hp2 (g := (mkF m 1 #[oa r0] [(.ref r0)])) rfl rfl (hb hby d14_1)
  refine own_g T1 (mkF m 4 #[oa r0] [(.ref d1)]) (fun _ k => st1 _ k) ?_
  obtain ⟨cl2, Ar2, q12, q22, q32, H2, G2⟩ := id hp3
  have st2 := X1.arraylength hx (by rw [e1]; exact Ar2.1) (State.isArrayOf_alike hZ.alike Ar2.2.1) (g := (mkF m 4 #[oa r0] [(.ref d1)])) rfl rfl (hb hby d14_4)
  rw [len_of q22 q32] at st2
  refine own_g T1 (mkF m 6 #[oa r0] [(.ref r0), (.int z1)]) (fun _ k => st2 _ (XS.aloadN X1.here hx rfl (hb hby d14_5) rfl rfl k)) ?_
  obtain ⟨cq3, kq3, q3a, q3b, q3c⟩ := isOf hZ e1 hp0
  obtain ⟨_, _, ⟨T3, L3, k3, n3⟩, -, X3, ⟨Lc3, hQ3, l3, y3, z3⟩, st3⟩ := X1.virtualBack hx (y := (⟨"java/lang/String", "coder", "()B"⟩ : MethodName)) (z := (⟨"java/lang/String", "coder", "()B"⟩ : MethodName)) hown (mvT hZ (own_w hw 89 rfl)) (mvT hZ (own_w hw 90 rfl)) (notFace_of_selects (args := #[]) (mvT hZ (own_w hw 92 rfl))) (mvT hZ (own_w hw 92 rfl)) (mvT hZ (own_w hw 91 rfl)) (by decide) (backOf (W := 1) (rmCoder l Z a0 hw [] r0 cs h0 n0 Z0 hp1 hp4 hh0) hZ (own_w hw 93 rfl) (own_w hw 6 rfl) (by decide) (by decide)) q3a q3c (g := (mkF m 6 #[oa r0] [(.ref r0), (.int z1)])) rfl (by rw [hml]; rfl) (Steps.refl _) (argsL := []) (rest := [(.int z1)]) (lenOf own_pd0 rfl) rfl (Nat.le_of_eq rfl) (hb hby d14_6) (fun _ _ => ⟨rfl, e1, (by decide : 0 + 0 ≤ _), (by decide : 0 + 0 ≤ _)⟩)
  dsimp only [Pt.U, Pt.locs, Pt.cells, Pt.slots] at X3 l3 y3 z3 st3 hQ3
  subst l3 y3 z3
  obtain ⟨rfl, N3q, e3⟩ := hQ3
  have N3 := Fr.app N0 N3q
  obtain ⟨Lv3, X3, N3⟩ := own_hide X3 (Nat.le_refl 0) (Nat.le_refl 0) N3
  refine own_g T3 (mkF m 10 #[oa r0] [(.int (z1 >>> ((0 : Int32) &&& 31)))]) (fun _ k => st3.trans (XS.ishr X3.here hx rfl (hb hby d14_9) rfl k)) ?_
  exact own_ret X3 hx Bd.returns hlk rfl (Or.inl ⟨rfl, Or.inl rfl, _, rfl⟩) (hb hby d14_10) e3 ⟨rfl, N3, rfl⟩ (by decide) (by decide)
theorem d41_0 : decode jdk_41_method_11_code 0 = .ok (.iload_n 0, 1) := by decide +kernel
theorem d41_1 : decode jdk_41_method_11_code 1 = .ok (.ifCond .lt 8, 3) := by decide +kernel
theorem d41_4 : decode jdk_41_method_11_code 4 = .ok (.iload_n 0, 1) := by decide +kernel
theorem d41_5 : decode jdk_41_method_11_code 5 = .ok (.iload_n 1, 1) := by decide +kernel
theorem d41_6 : decode jdk_41_method_11_code 6 = .ok (.if_icmp .lt 10, 3) := by decide +kernel
theorem d41_16 : decode jdk_41_method_11_code 16 = .ok (.iload_n 0, 1) := by decide +kernel
theorem d41_17 : decode jdk_41_method_11_code 17 = .ok (.ireturn, 1) := by decide +kernel
def Q_rmPci (Z : State) (p0 : Int32) (p1 : Int32) (u2 : Value) (h0 : Heap) (n0 : Nat) (v : Option Value) (h : Heap) (L : List Loc) : Prop := v = some (.int p0) ∧ Fr n0 L ∧ h = h0
theorem ef_rmPci (m : MethodId) (x0 : Int32) (x1 : Int32) (x2 : Value) (hx2 : x2.isRef = true) : entryFrame m #[(.int x0), (.int x1), x2] 3 = mkF m 0 #[.val (.int x0), .val (.int x1), .val x2] [] := by rcases ref_cases hx2 with rfl | ⟨_, rfl⟩ <;> first | (simp [entryFrame, mkF, argsToLocals, Value.category]; done) | rfl
theorem pn_rmPci : plainName "jdk/internal/util/Preconditions" = true := by first | (simp [plainName, overriddenIn]; done) | decide +kernel
set_option maxRecDepth 65536 in
set_option maxHeartbeats 40000000 in
theorem rmPci (l : Launch) (Z : State) (a0 : Array Value) (hw : ∀ d ∈ tables_1, d.before a0 Z = true) (ws : List Jvm.Cond) (p0 : Int32) (p1 : Int32) (u2 : Value) (h0 : Heap) (n0 : Nat) (Z0 : n0 ≤ h0.size) (hh0 : u2.isRef = true) (hh1 : ¬ p0 < (0 : Int32)) (hh2 : p0 < p1) :
    MetFree l (⟨"jdk/internal/util/Preconditions", "checkIndex", "(IILjava/util/function/BiFunction;)I"⟩ : MethodName) (head1 (Jvm.Cond.code (⟨"jdk/internal/util/Preconditions", "checkIndex", "(IILjava/util/function/BiFunction;)I"⟩ : MethodName) jdk_41_method_11_code 3 (some .int) :: ws) ({ frames := 0, cells := 0, slots := 0, locals := 0 } : Room)) (fun a U => a = #[(.int p0), (.int p1), u2] ∧ Z.Warmed39 U.vm ∧ U.heap = h0) (fun _ _ _ _ _ => True) (fun _ U o U' => ∃ v L, o = .returned v ∧ Q_rmPci Z p0 p1 u2 h0 n0 v U'.heap L ∧ FrameEnd U o U' L ({ frames := 0, cells := 0, slots := 0, locals := 0 } : Room).cells ({ frames := 0, cells := 0, slots := 0, locals := 0 } : Room).slots) := by
  refine MetFree.of_bodySF (plainFor_of_name pn_rmPci) hisR ?_
  intro p e s m args below meth c s₁ Bd hml0 hP hK
  obtain ⟨rfl, hZ, hh⟩ := hP
  have hx := Bd.exec
  have hby := Bd.bytes
  have hml : c.maxLocals = 3 := hml0
  have hown : s.vm.findClass "jdk/internal/util/Preconditions" = some m.cls := findClass_of_methodNamed Bd.named
  have hnm := (name_of_methodNamed Bd.named Bd.method).1
  have hlk : meth.locks = false := BodyLoose.notSynchronized Bd
  have X0 : Stand p l e ({ frames := 0, cells := 0, slots := 0, locals := 0 } : Room) s m #[(.int p0), (.int p1), u2] below meth c s₁ [] 0 0 := Stand.of_body Bd
  have e0 : s₁.heap = h0 := by rw [← hh, Bd.state]; rfl
  have N0 := Fr.nil n0
  show own_W p e below s (Q_rmPci Z p0 p1 u2 h0 n0) 0 0 s₁ (entryFrame m #[(.int p0), (.int p1), u2] 3)
  skip
  skip
  refine own_go (T' := s₁) (g' := (mkF m 0 #[oi p0, oi p1, .val u2] [])) (fun _ k => castTop (ef_rmPci m p0 p1 u2 hh0) k) ?_
  refine own_g s₁ (mkF m 17 #[oi p0, oi p1, .val u2] [(.int p0)]) (fun _ k => XS.iloadN X0.here hx rfl (hb hby d41_0) rfl (XS.ifNo X0.here hx rfl (hb hby d41_1) rfl (XT.i0_lt_f hh1) (XS.iloadN X0.here hx rfl (hb hby d41_4) rfl (XS.iloadN X0.here hx rfl (hb hby d41_5) rfl (XS.icmpYes X0.here hx rfl (pc0 := 6) (pc' := 16) rfl (hb hby d41_6) rfl (XT.ii_lt_t hh2) (by decide) (by decide) (XS.iloadN X0.here hx rfl (hb hby d41_16) rfl k)))))) ?_
  exact own_ret X0 hx Bd.returns hlk rfl (Or.inl ⟨rfl, Or.inl rfl, _, rfl⟩) (hb hby d41_17) e0 ⟨rfl, N0, rfl⟩ (by decide) (by decide)
theorem own_pd1 : parseMethodDescriptor "(IILjava/util/function/BiFunction;)I" = some ⟨[.int, .int, (.object "java/util/function/BiFunction")], some .int⟩ := by decide +kernel
theorem d40_0 : decode jdk_42_method_155_code 0 = .ok (.iload_n 0, 1) := by decide +kernel
theorem d40_1 : decode jdk_42_method_155_code 1 = .ok (.iload_n 1, 1) := by decide +kernel
theorem d40_2 : decode jdk_42_method_155_code 2 = .ok (.getstatic 1053, 3) := by decide +kernel
theorem d40_5 : decode jdk_42_method_155_code 5 = .ok (.invokestatic 1059, 3) := by decide +kernel
theorem d40_8 : decode jdk_42_method_155_code 8 = .ok (.pop, 1) := by decide +kernel
theorem d40_9 : decode jdk_42_method_155_code 9 = .ok (.return_, 1) := by decide +kernel
def Q_rmCi (Z : State) (p0 : Int32) (p1 : Int32) (fm : Value) (h0 : Heap) (n0 : Nat) (v : Option Value) (h : Heap) (L : List Loc) : Prop := v = none ∧ Fr n0 L ∧ h = h0
theorem ef_rmCi (m : MethodId) (x0 : Int32) (x1 : Int32) : entryFrame m #[(.int x0), (.int x1)] 2 = mkF m 0 #[.val (.int x0), .val (.int x1)] [] := by first | (simp [entryFrame, mkF, argsToLocals, Value.category]; done) | rfl
theorem pn_rmCi : plainName "java/lang/String" = true := by first | (simp [plainName, overriddenIn]; done) | decide +kernel
set_option maxRecDepth 65536 in
set_option maxHeartbeats 40000000 in
theorem rmCi (l : Launch) (Z : State) (a0 : Array Value) (hw : ∀ d ∈ tables_1, d.before a0 Z = true) (ws : List Jvm.Cond) (p0 : Int32) (p1 : Int32) (fm : Value) (h0 : Heap) (n0 : Nat) (Z0 : n0 ≤ h0.size) (hp0 : Sta Z h0 "jdk/internal/util/Preconditions" "SIOOBE_FORMATTER" "Ljava/util/function/BiFunction;" fm) (hh0 : fm.isRef = true) (hh1 : ¬ p0 < (0 : Int32)) (hh2 : p0 < p1) :
    MetFree l (⟨"java/lang/String", "checkIndex", "(II)V"⟩ : MethodName) (head1 (Jvm.Cond.code (⟨"java/lang/String", "checkIndex", "(II)V"⟩ : MethodName) jdk_42_method_155_code 2 none :: ws) ({ frames := 1, cells := 0, slots := 0, locals := 14 } : Room)) (fun a U => a = #[(.int p0), (.int p1)] ∧ Z.Warmed39 U.vm ∧ U.heap = h0) (fun _ _ _ _ _ => True) (fun _ U o U' => ∃ v L, o = .returned v ∧ Q_rmCi Z p0 p1 fm h0 n0 v U'.heap L ∧ FrameEnd U o U' L ({ frames := 1, cells := 0, slots := 0, locals := 14 } : Room).cells ({ frames := 1, cells := 0, slots := 0, locals := 14 } : Room).slots) := by
  refine MetFree.of_bodySF (plainFor_of_name pn_rmCi) hisR ?_
  intro p e s m args below meth c s₁ Bd hml0 hP hK
  obtain ⟨rfl, hZ, hh⟩ := hP
  have hx := Bd.exec
  have hby := Bd.bytes
  have hml : c.maxLocals = 2 := hml0
  have hown : s.vm.findClass "java/lang/String" = some m.cls := findClass_of_methodNamed Bd.named
  have hnm := (name_of_methodNamed Bd.named Bd.method).1
  have hlk : meth.locks = false := BodyLoose.notSynchronized Bd
  have X0 : Stand p l e ({ frames := 1, cells := 0, slots := 0, locals := 14 } : Room) s m #[(.int p0), (.int p1)] below meth c s₁ [] 0 0 := Stand.of_body Bd
  have e0 : s₁.heap = h0 := by rw [← hh, Bd.state]; rfl
  have N0 := Fr.nil n0
  show own_W p e below s (Q_rmCi Z p0 p1 fm h0 n0) 0 0 s₁ (entryFrame m #[(.int p0), (.int p1)] 2)
  skip
  skip
  refine own_go (T' := s₁) (g' := (mkF m 0 #[oi p0, oi p1] [])) (fun _ k => castTop (ef_rmCi m p0 p1) k) ?_
  refine own_g s₁ (mkF m 2 #[oi p0, oi p1] [(.int p1), (.int p0)]) (fun _ k => XS.iloadN X0.here hx rfl (hb hby d40_0) rfl (XS.iloadN X0.here hx rfl (hb hby d40_1) rfl k)) ?_
  obtain ⟨T1, X1, e1, st1⟩ := getS2 X0 hx hZ hown (host := "") (Or.inl (own_w hw 211 rfl)) Via.refl e0 hp0 (g := (mkF m 2 #[oi p0, oi p1] [(.int p1), (.int p0)])) rfl (hb hby d40_2)
  refine own_g T1 (mkF m 5 #[oi p0, oi p1] [fm, (.int p1), (.int p0)]) (fun _ k => st1 _ k) ?_
  obtain ⟨_, _, ⟨T2, L2, k2, n2⟩, -, X2, ⟨Lc2, hQ2, l2, y2, z2⟩, st2⟩ := Jvm.LawKit.callS X1 hx (y := (⟨"jdk/internal/util/Preconditions", "checkIndex", "(IILjava/util/function/BiFunction;)I"⟩ : MethodName)) hown (mvT hZ (own_w hw 213 rfl)) (mvT hZ (own_w hw 214 rfl)) (mvT hZ (own_w hw 212 rfl)) (mvT hZ (own_w hw 215 rfl)) (by decide) (backOf (W := 0) (rmPci l Z a0 hw [] p0 p1 fm h0 n0 Z0 hh0 hh1 hh2) hZ (own_w hw 215 rfl) (own_w hw 212 rfl) (by decide) (by decide)) (g := (mkF m 5 #[oi p0, oi p1] [fm, (.int p1), (.int p0)])) rfl (by rw [hml]; rfl) (argsL := [(.int p0), (.int p1), fm]) (rest := []) (lenOf own_pd1 rfl) rfl (Nat.le_of_eq rfl) (hb hby d40_5) (fun _ _ => ⟨rfl, e1, (by decide : 0 + 0 ≤ _), (by decide : 0 + 0 ≤ _)⟩)
  dsimp only [Pt.U, Pt.locs, Pt.cells, Pt.slots] at X2 l2 y2 z2 st2 hQ2
  subst l2 y2 z2
  obtain ⟨rfl, N2q, e2⟩ := hQ2
  have N2 := Fr.app N0 N2q
  obtain ⟨Lv2, X2, N2⟩ := own_hide X2 (Nat.le_refl 0) (Nat.le_refl 0) N2
  refine own_g T2 (mkF m 9 #[oi p0, oi p1] []) (fun _ k => st2 _ (XT.pop X2.here hx rfl (hb hby d40_8) rfl rfl k)) ?_
  exact own_ret0 X2 hx Bd.returns hlk (hb hby d40_9) e2 ⟨rfl, N2, rfl⟩ (by decide) (by decide)
theorem own_pd2 : parseMethodDescriptor "(II)V" = some ⟨[.int, .int], none⟩ := by decide +kernel
theorem d39_0 : decode jdk_43_method_2_code 0 = .ok (.iload_n 1, 1) := by decide +kernel
theorem d39_1 : decode jdk_43_method_2_code 1 = .ok (.aload_n 0, 1) := by decide +kernel
theorem d39_2 : decode jdk_43_method_2_code 2 = .ok (.arraylength, 1) := by decide +kernel
theorem d39_3 : decode jdk_43_method_2_code 3 = .ok (.invokestatic 9, 3) := by decide +kernel
theorem d39_6 : decode jdk_43_method_2_code 6 = .ok (.aload_n 0, 1) := by decide +kernel
theorem d39_7 : decode jdk_43_method_2_code 7 = .ok (.iload_n 1, 1) := by decide +kernel
theorem d39_8 : decode jdk_43_method_2_code 8 = .ok (.baload, 1) := by decide +kernel
theorem d39_9 : decode jdk_43_method_2_code 9 = .ok (.sipush 255, 3) := by decide +kernel
theorem d39_12 : decode jdk_43_method_2_code 12 = .ok (.iand, 1) := by decide +kernel
theorem d39_13 : decode jdk_43_method_2_code 13 = .ok (.i2c, 1) := by decide +kernel
theorem d39_14 : decode jdk_43_method_2_code 14 = .ok (.ireturn, 1) := by decide +kernel
def Q_rmLch (Z : State) (r0 : Addr) (p1 : Int32) (kd : ClassId) (z1 : Int32) (us : List Value) (xv : Int32) (fm : Value) (h0 : Heap) (n0 : Nat) (v : Option Value) (h : Heap) (L : List Loc) : Prop := v = some (.int (nar .char ((xv &&& (255 : Int32)).toUInt32.toUInt16.toUInt32.toInt32))) ∧ Fr n0 L ∧ h = h0
theorem ef_rmLch (m : MethodId) (x0 : Addr) (x1 : Int32) : entryFrame m #[(.ref x0), (.int x1)] 2 = mkF m 0 #[.val (.ref x0), .val (.int x1)] [] := by first | (simp [entryFrame, mkF, argsToLocals, Value.category]; done) | rfl
theorem pn_rmLch : plainName "java/lang/StringLatin1" = true := by first | (simp [plainName, overriddenIn]; done) | decide +kernel
set_option maxRecDepth 65536 in
set_option maxHeartbeats 40000000 in
theorem rmLch (l : Launch) (Z : State) (a0 : Array Value) (hw : ∀ d ∈ tables_1, d.before a0 Z = true) (ws : List Jvm.Cond) (r0 : Addr) (p1 : Int32) (kd : ClassId) (z1 : Int32) (us : List Value) (xv : Int32) (fm : Value) (h0 : Heap) (n0 : Nat) (Z0 : n0 ≤ h0.size) (hp0 : Arv Z h0 r0 kd .byte z1 us (.int (0 : Int32))) (hp1 : Sta Z h0 "jdk/internal/util/Preconditions" "SIOOBE_FORMATTER" "Ljava/util/function/BiFunction;" fm) (hh0 : fm.isRef = true) (hh1 : ¬ p1 < (0 : Int32)) (hh2 : p1 < z1) (hh3 : us.getD p1.toNatClampNeg (.int (0 : Int32)) = .int xv) :
    MetFree l (⟨"java/lang/StringLatin1", "charAt", "([BI)C"⟩ : MethodName) (head1 (Jvm.Cond.code (⟨"java/lang/StringLatin1", "charAt", "([BI)C"⟩ : MethodName) jdk_43_method_2_code 2 (some .char) :: ws) ({ frames := 2, cells := 0, slots := 0, locals := 27 } : Room)) (fun a U => a = #[(.ref r0), (.int p1)] ∧ Z.Warmed39 U.vm ∧ U.heap = h0) (fun _ _ _ _ _ => True) (fun _ U o U' => ∃ v L, o = .returned v ∧ Q_rmLch Z r0 p1 kd z1 us xv fm h0 n0 v U'.heap L ∧ FrameEnd U o U' L ({ frames := 2, cells := 0, slots := 0, locals := 27 } : Room).cells ({ frames := 2, cells := 0, slots := 0, locals := 27 } : Room).slots) := by
  refine MetFree.of_bodySF (plainFor_of_name pn_rmLch) hisR ?_
  intro p e s m args below meth c s₁ Bd hml0 hP hK
  obtain ⟨rfl, hZ, hh⟩ := hP
  have hx := Bd.exec
  have hby := Bd.bytes
  have hml : c.maxLocals = 2 := hml0
  have hown : s.vm.findClass "java/lang/StringLatin1" = some m.cls := findClass_of_methodNamed Bd.named
  have hnm := (name_of_methodNamed Bd.named Bd.method).1
  have hlk : meth.locks = false := BodyLoose.notSynchronized Bd
  have X0 : Stand p l e ({ frames := 2, cells := 0, slots := 0, locals := 27 } : Room) s m #[(.ref r0), (.int p1)] below meth c s₁ [] 0 0 := Stand.of_body Bd
  have e0 : s₁.heap = h0 := by rw [← hh, Bd.state]; rfl
  have N0 := Fr.nil n0
  show own_W p e below s (Q_rmLch Z r0 p1 kd z1 us xv fm h0 n0) 0 0 s₁ (entryFrame m #[(.ref r0), (.int p1)] 2)
  skip
  skip
  refine own_go (T' := s₁) (g' := (mkF m 0 #[oa r0, oi p1] [])) (fun _ k => castTop (ef_rmLch m r0 p1) k) ?_
  refine own_g s₁ (mkF m 2 #[oa r0, oi p1] [(.ref r0), (.int p1)]) (fun _ k => XS.iloadN X0.here hx rfl (hb hby d39_0) rfl (XS.aloadN X0.here hx rfl (hb hby d39_1) rfl rfl k)) ?_
  obtain ⟨cl1, Ar1, q11, q21, q31, H1, G1⟩ := id hp0
  have st1 := X0.arraylength hx (by rw [e0]; exact Ar1.1) (State.isArrayOf_alike hZ.alike Ar1.2.1) (g := (mkF m 2 #[oa r0, oi p1] [(.ref r0), (.int p1)])) rfl rfl (hb hby d39_2)
  rw [len_of q21 q31] at st1
  refine own_g s₁ (mkF m 3 #[oa r0, oi p1] [(.int z1), (.int p1)]) (fun _ k => st1 _ k) ?_
  obtain ⟨_, _, ⟨T2, L2, k2, n2⟩, -, X2, ⟨Lc2, hQ2, l2, y2, z2⟩, st2⟩ := Jvm.LawKit.callS X0 hx (y := (⟨"java/lang/String", "checkIndex", "(II)V"⟩ : MethodName)) hown (mvT hZ (own_w hw 208 rfl)) (mvT hZ (own_w hw 209 rfl)) (mvT hZ (own_w hw 6 rfl)) (mvT hZ (own_w hw 210 rfl)) (by decide) (backOf (W := 0) (rmCi l Z a0 hw [] p1 z1 fm h0 n0 Z0 hp1 hh0 hh1 hh2) hZ (own_w hw 210 rfl) (own_w hw 6 rfl) (by decide) (by decide)) (g := (mkF m 3 #[oa r0, oi p1] [(.int z1), (.int p1)])) rfl (by rw [hml]; rfl) (argsL := [(.int p1), (.int z1)]) (rest := []) (lenOf own_pd2 rfl) rfl (Nat.le_of_eq rfl) (hb hby d39_3) (fun _ _ => ⟨rfl, e0, (by decide : 0 + 0 ≤ _), (by decide : 0 + 0 ≤ _)⟩)
  dsimp only [Pt.U, Pt.locs, Pt.cells, Pt.slots] at X2 l2 y2 z2 st2 hQ2
  subst l2 y2 z2
  obtain ⟨rfl, N2q, e2⟩ := hQ2
  have N2 := Fr.app N0 N2q
  obtain ⟨Lv2, X2, N2⟩ := own_hide X2 (Nat.le_refl 0) (Nat.le_refl 0) N2
  refine own_g T2 (mkF m 8 #[oa r0, oi p1] [(.int p1), (.ref r0)]) (fun _ k => st2 _ (XS.aloadN X2.here hx rfl (hb hby d39_6) rfl rfl (XS.iloadN X2.here hx rfl (hb hby d39_7) rfl k))) ?_
  obtain ⟨cl3, Ar3, q13, q23, q33, H3, G3⟩ := id hp0
  have hin3 := inb_of q23 (j := p1) ⟨hh1, hh2⟩
  refine own_g T2 (mkF m 14 #[oa r0, oi p1] [(.int ((xv &&& (255 : Int32)).toUInt32.toUInt16.toUInt32.toInt32))]) (fun _ k => X2.baloadBytes hx (j := p1) (v := (.int xv)) (by rw [e2]; exact Ar3.1) (State.isArrayOf_alike hZ.alike Ar3.2.1) Ar3.2.2 hin3 (Has.at H3 hin3 hh3) (g := (mkF m 8 #[oa r0, oi p1] [(.int p1), (.ref r0)])) rfl rfl (hb hby d39_8) _ (XS.sipush X2.here hx rfl (hb hby d39_9) (XS.iand X2.here hx rfl (hb hby d39_12) rfl (XT.i2c X2.here hx rfl (hb hby d39_13) rfl k)))) ?_
  exact own_retN X2 hx (t := .char) Bd.returns hlk (by simp) (hb hby d39_14) e2 ⟨rfl, N2, rfl⟩ (by decide) (by decide)
def own_ca (xv : Int32) : Int32 := (nar .char (nar .char ((xv &&& (255 : Int32)).toUInt32.toUInt16.toUInt32.toInt32)))
theorem own_pd3 : parseMethodDescriptor "()Z" = some ⟨[], some .boolean⟩ := by decide +kernel
theorem own_pd4 : parseMethodDescriptor "([BI)C" = some ⟨[(.array .byte), .int], some .char⟩ := by decide +kernel
theorem d37_0 : decode jdk_42_method_56_code 0 = .ok (.aload_n 0, 1) := by decide +kernel
theorem d37_1 : decode jdk_42_method_56_code 1 = .ok (.invokevirtual 492, 3) := by decide +kernel
theorem d37_4 : decode jdk_42_method_56_code 4 = .ok (.ifCond .eq 12, 3) := by decide +kernel
theorem d37_7 : decode jdk_42_method_56_code 7 = .ok (.aload_n 0, 1) := by decide +kernel
theorem d37_8 : decode jdk_42_method_56_code 8 = .ok (.getfield 9, 3) := by decide +kernel
theorem d37_11 : decode jdk_42_method_56_code 11 = .ok (.iload_n 1, 1) := by decide +kernel
theorem d37_12 : decode jdk_42_method_56_code 12 = .ok (.invokestatic 495, 3) := by decide +kernel
theorem d37_15 : decode jdk_42_method_56_code 15 = .ok (.ireturn, 1) := by decide +kernel
def Q_rmCha (Z : State) (r0 : Addr) (p1 : Int32) (d1 : Addr) (kd : ClassId) (z1 : Int32) (us : List Value) (xv : Int32) (cs : Int32) (fm : Value) (h0 : Heap) (n0 : Nat) (v : Option Value) (h : Heap) (L : List Loc) : Prop := v = some (.int (own_ca xv)) ∧ Fr n0 L ∧ h = h0
theorem ef_rmCha (m : MethodId) (x0 : Addr) (x1 : Int32) : entryFrame m #[(.ref x0), (.int x1)] 2 = mkF m 0 #[.val (.ref x0), .val (.int x1)] [] := by first | (simp [entryFrame, mkF, argsToLocals, Value.category]; done) | rfl
theorem pn_rmCha : plainName "java/lang/String" = true := by first | (simp [plainName, overriddenIn]; done) | decide +kernel
set_option maxRecDepth 65536 in
set_option maxHeartbeats 40000000 in
theorem rmCha (l : Launch) (Z : State) (a0 : Array Value) (hw : ∀ d ∈ tables_1, d.before a0 Z = true) (ws : List Jvm.Cond) (r0 : Addr) (p1 : Int32) (d1 : Addr) (kd : ClassId) (z1 : Int32) (us : List Value) (xv : Int32) (cs : Int32) (fm : Value) (h0 : Heap) (n0 : Nat) (Z0 : n0 ≤ h0.size) (hp0 : Exa Z h0 r0 "java/lang/String") (hp1 : Fld Z h0 r0 "java/lang/String" "coder" "B" (.int (0 : Int32))) (hp2 : Fld Z h0 r0 "java/lang/String" "value" "[B" (.ref d1)) (hp3 : Arv Z h0 d1 kd .byte z1 us (.int (0 : Int32))) (hp4 : Sta Z h0 "java/lang/String" "COMPACT_STRINGS" "Z" (.int cs)) (hp5 : Sta Z h0 "jdk/internal/util/Preconditions" "SIOOBE_FORMATTER" "Ljava/util/function/BiFunction;" fm) (hh0 : fm.isRef = true) (hh1 : ¬ p1 < (0 : Int32)) (hh2 : p1 < z1) (hh3 : us.getD p1.toNatClampNeg (.int (0 : Int32)) = .int xv) (hh4 : ¬ cs = (0 : Int32)) :
    MetFree l (⟨"java/lang/String", "charAt", "(I)C"⟩ : MethodName) (head1 (Jvm.Cond.code (⟨"java/lang/String", "charAt", "(I)C"⟩ : MethodName) jdk_42_method_56_code 2 (some .char) :: ws) ({ frames := 3, cells := 0, slots := 0, locals := 40 } : Room)) (fun a U => a = #[(.ref r0), (.int p1)] ∧ Z.Warmed39 U.vm ∧ U.heap = h0) (fun _ _ _ _ _ => True) (fun _ U o U' => ∃ v L, o = .returned v ∧ Q_rmCha Z r0 p1 d1 kd z1 us xv cs fm h0 n0 v U'.heap L ∧ FrameEnd U o U' L ({ frames := 3, cells := 0, slots := 0, locals := 40 } : Room).cells ({ frames := 3, cells := 0, slots := 0, locals := 40 } : Room).slots) := by
  refine MetFree.of_bodySF (plainFor_of_name pn_rmCha) hisR ?_
  intro p e s m args below meth c s₁ Bd hml0 hP hK
  obtain ⟨rfl, hZ, hh⟩ := hP
  have hx := Bd.exec
  have hby := Bd.bytes
  have hml : c.maxLocals = 2 := hml0
  have hown : s.vm.findClass "java/lang/String" = some m.cls := findClass_of_methodNamed Bd.named
  have hnm := (name_of_methodNamed Bd.named Bd.method).1
  have hlk : meth.locks = false := BodyLoose.notSynchronized Bd
  have X0 : Stand p l e ({ frames := 3, cells := 0, slots := 0, locals := 40 } : Room) s m #[(.ref r0), (.int p1)] below meth c s₁ [] 0 0 := Stand.of_body Bd
  have e0 : s₁.heap = h0 := by rw [← hh, Bd.state]; rfl
  have N0 := Fr.nil n0
  show own_W p e below s (Q_rmCha Z r0 p1 d1 kd z1 us xv cs fm h0 n0) 0 0 s₁ (entryFrame m #[(.ref r0), (.int p1)] 2)
  skip
  skip
  refine own_go (T' := s₁) (g' := (mkF m 0 #[oa r0, oi p1] [])) (fun _ k => castTop (ef_rmCha m r0 p1) k) ?_
  refine own_g s₁ (mkF m 1 #[oa r0, oi p1] [(.ref r0)]) (fun _ k => XS.aloadN X0.here hx rfl (hb hby d37_0) rfl rfl k) ?_
  obtain ⟨cq1, kq1, q1a, q1b, q1c⟩ := isOf hZ e0 hp0
  obtain ⟨_, _, ⟨T1, L1, k1, n1⟩, -, X1, ⟨Lc1, hQ1, l1, y1, z1⟩, st1⟩ := X0.virtualBack hx (y := (⟨"java/lang/String", "isLatin1", "()Z"⟩ : MethodName)) (z := (⟨"java/lang/String", "isLatin1", "()Z"⟩ : MethodName)) hown (mvT hZ (own_w hw 200 rfl)) (mvT hZ (own_w hw 201 rfl)) (notFace_of_selects (args := #[]) (mvT hZ (own_w hw 203 rfl))) (mvT hZ (own_w hw 203 rfl)) (mvT hZ (own_w hw 202 rfl)) (by decide) (backOf (W := 0) (rmIsL l Z a0 hw [] r0 cs h0 n0 Z0 hp1 hp4 hh4) hZ (own_w hw 204 rfl) (own_w hw 6 rfl) (by decide) (by decide)) q1a q1c (g := (mkF m 1 #[oa r0, oi p1] [(.ref r0)])) rfl (by rw [hml]; rfl) (Steps.refl _) (argsL := []) (rest := []) (lenOf own_pd3 rfl) rfl (Nat.le_of_eq rfl) (hb hby d37_1) (fun _ _ => ⟨rfl, e0, (by decide : 0 + 0 ≤ _), (by decide : 0 + 0 ≤ _)⟩)
  dsimp only [Pt.U, Pt.locs, Pt.cells, Pt.slots] at X1 l1 y1 z1 st1 hQ1
  subst l1 y1 z1
  obtain ⟨rfl, N1q, e1⟩ := hQ1
  have N1 := Fr.app N0 N1q
  obtain ⟨Lv1, X1, N1⟩ := own_hide X1 (Nat.le_refl 0) (Nat.le_refl 0) N1
  refine own_g T1 (mkF m 8 #[oa r0, oi p1] [(.ref r0)]) (fun _ k => st1.trans (XS.ifNo X1.here hx rfl (hb hby d37_4) rfl (XT.i0_eq_f (by decide : ¬ ((1 : Int32) = (0 : Int32)))) (XS.aloadN X1.here hx rfl (hb hby d37_7) rfl rfl k))) ?_
  obtain ⟨T2, X2, e2, st2⟩ := getF X1 hx hZ hown (host := "") (Or.inl (own_w hw 26 rfl)) Via.refl e1 hp2 (g := (mkF m 8 #[oa r0, oi p1] [(.ref r0)])) rfl rfl (hb hby d37_8)
  refine own_g T2 (mkF m 12 #[oa r0, oi p1] [(.int p1), (.ref d1)]) (fun _ k => st2 _ (XS.iloadN X2.here hx rfl (hb hby d37_11) rfl k)) ?_
  obtain ⟨_, _, ⟨T3, L3, k3, n3⟩, -, X3, ⟨Lc3, hQ3, l3, y3, z3⟩, st3⟩ := Jvm.LawKit.callS X2 hx (y := (⟨"java/lang/StringLatin1", "charAt", "([BI)C"⟩ : MethodName)) hown (mvT hZ (own_w hw 205 rfl)) (mvT hZ (own_w hw 206 rfl)) (mvT hZ (own_w hw 11 rfl)) (mvT hZ (own_w hw 207 rfl)) (by decide) (backOf (W := 0) (rmLch l Z a0 hw [] d1 p1 kd z1 us xv fm h0 n0 Z0 hp3 hp5 hh0 hh1 hh2 hh3) hZ (own_w hw 207 rfl) (own_w hw 11 rfl) (by decide) (by decide)) (g := (mkF m 12 #[oa r0, oi p1] [(.int p1), (.ref d1)])) rfl (by rw [hml]; rfl) (argsL := [(.ref d1), (.int p1)]) (rest := []) (lenOf own_pd4 rfl) rfl (Nat.le_of_eq rfl) (hb hby d37_12) (fun _ _ => ⟨rfl, e2, (by decide : 0 + 0 ≤ _), (by decide : 0 + 0 ≤ _)⟩)
  dsimp only [Pt.U, Pt.locs, Pt.cells, Pt.slots] at X3 l3 y3 z3 st3 hQ3
  subst l3 y3 z3
  obtain ⟨rfl, N3q, e3⟩ := hQ3
  have N3 := Fr.app N1 N3q
  obtain ⟨Lv3, X3, N3⟩ := own_hide X3 (Nat.le_refl 0) (Nat.le_refl 0) N3
  refine own_g T3 (mkF m 15 #[oa r0, oi p1] [(.int (nar .char ((xv &&& (255 : Int32)).toUInt32.toUInt16.toUInt32.toInt32)))]) (fun _ k => st3 _ k) ?_
  exact own_retN X3 hx (t := .char) Bd.returns hlk (by simp) (hb hby d37_15) e3 ⟨(by unfold own_ca; rfl), N3, rfl⟩ (by decide) (by decide)
def own_min (p0 : Int32) (p1 : Int32) : Int32 := (if p1 < p0 then p1 else p0)
theorem d30_0 : decode jdk_29_method_69_code 0 = .ok (.iload_n 0, 1) := by decide +kernel
theorem d30_1 : decode jdk_29_method_69_code 1 = .ok (.iload_n 1, 1) := by decide +kernel
theorem d30_2 : decode jdk_29_method_69_code 2 = .ok (.if_icmp .gt 7, 3) := by decide +kernel
theorem d30_5 : decode jdk_29_method_69_code 5 = .ok (.iload_n 0, 1) := by decide +kernel
theorem d30_6 : decode jdk_29_method_69_code 6 = .ok (.goto 4, 3) := by decide +kernel
theorem d30_9 : decode jdk_29_method_69_code 9 = .ok (.iload_n 1, 1) := by decide +kernel
theorem d30_10 : decode jdk_29_method_69_code 10 = .ok (.ireturn, 1) := by decide +kernel
def Q_rmMin (Z : State) (p0 : Int32) (p1 : Int32) (h0 : Heap) (n0 : Nat) (v : Option Value) (h : Heap) (L : List Loc) : Prop := v = some (.int (own_min p0 p1)) ∧ Fr n0 L ∧ h = h0
theorem ef_rmMin (m : MethodId) (x0 : Int32) (x1 : Int32) : entryFrame m #[(.int x0), (.int x1)] 2 = mkF m 0 #[.val (.int x0), .val (.int x1)] [] := by first | (simp [entryFrame, mkF, argsToLocals, Value.category]; done) | rfl
theorem pn_rmMin : plainFor (⟨"java/lang/Math", "min", "(II)I"⟩ : MethodName) = true := by decide +kernel
set_option maxRecDepth 65536 in
set_option maxHeartbeats 40000000 in
theorem rmMin (l : Launch) (Z : State) (a0 : Array Value) (hw : ∀ d ∈ tables_1, d.before a0 Z = true) (ws : List Jvm.Cond) (p0 : Int32) (p1 : Int32) (h0 : Heap) (n0 : Nat) (Z0 : n0 ≤ h0.size)  :
    MetFree l (⟨"java/lang/Math", "min", "(II)I"⟩ : MethodName) (head1 (Jvm.Cond.code (⟨"java/lang/Math", "min", "(II)I"⟩ : MethodName) jdk_29_method_69_code 2 (some .int) :: ws) ({ frames := 0, cells := 0, slots := 0, locals := 0 } : Room)) (fun a U => a = #[(.int p0), (.int p1)] ∧ Z.Warmed39 U.vm ∧ U.heap = h0) (fun _ _ _ _ _ => True) (fun _ U o U' => ∃ v L, o = .returned v ∧ Q_rmMin Z p0 p1 h0 n0 v U'.heap L ∧ FrameEnd U o U' L ({ frames := 0, cells := 0, slots := 0, locals := 0 } : Room).cells ({ frames := 0, cells := 0, slots := 0, locals := 0 } : Room).slots) := by
  refine MetFree.of_bodySF pn_rmMin hisR ?_
  intro p e s m args below meth c s₁ Bd hml0 hP hK
  obtain ⟨rfl, hZ, hh⟩ := hP
  have hx := Bd.exec
  have hby := Bd.bytes
  have hml : c.maxLocals = 2 := hml0
  have hown : s.vm.findClass "java/lang/Math" = some m.cls := findClass_of_methodNamed Bd.named
  have hnm := (name_of_methodNamed Bd.named Bd.method).1
  have hlk : meth.locks = false := BodyLoose.notSynchronized Bd
  have X0 : Stand p l e ({ frames := 0, cells := 0, slots := 0, locals := 0 } : Room) s m #[(.int p0), (.int p1)] below meth c s₁ [] 0 0 := Stand.of_body Bd
  have e0 : s₁.heap = h0 := by rw [← hh, Bd.state]; rfl
  have N0 := Fr.nil n0
  show own_W p e below s (Q_rmMin Z p0 p1 h0 n0) 0 0 s₁ (entryFrame m #[(.int p0), (.int p1)] 2)
  skip
  skip
  refine own_go (T' := s₁) (g' := (mkF m 0 #[oi p0, oi p1] [])) (fun _ k => castTop (ef_rmMin m p0 p1) k) ?_
  refine own_g s₁ (mkF m 2 #[oi p0, oi p1] [(.int p1), (.int p0)]) (fun _ k => XS.iloadN X0.here hx rfl (hb hby d30_0) rfl (XS.iloadN X0.here hx rfl (hb hby d30_1) rfl k)) ?_
  by_cases hc2_1 : p1 < p0
  · skip
    refine own_g s₁ (mkF m 10 #[oi p0, oi p1] [(.int p1)]) (fun _ k => XS.icmpYes X0.here hx rfl (pc0 := 2) (pc' := 9) rfl (hb hby d30_2) rfl (XT.ii_gt_t hc2_1) (by decide) (by decide) (XS.iloadN X0.here hx rfl (hb hby d30_9) rfl k)) ?_
    exact own_ret X0 hx Bd.returns hlk rfl (Or.inl ⟨rfl, Or.inl rfl, _, rfl⟩) (hb hby d30_10) e0 ⟨(by unfold own_min; first | (rw [if_pos hc2_1]; done) | (rw [if_pos hc2_1]; rfl)), N0, rfl⟩ (by decide) (by decide)
  · skip
    refine own_g s₁ (mkF m 10 #[oi p0, oi p1] [(.int p0)]) (fun _ k => XS.icmpNo X0.here hx rfl (hb hby d30_2) rfl (XT.ii_gt_f hc2_1) (XS.iloadN X0.here hx rfl (hb hby d30_5) rfl (XS.goto X0.here hx rfl (pc0 := 6) (pc' := 10) rfl (hb hby d30_6) (by decide) (by decide) k))) ?_
    exact own_ret X0 hx Bd.returns hlk rfl (Or.inl ⟨rfl, Or.inl rfl, _, rfl⟩) (hb hby d30_10) e0 ⟨(by unfold own_min; first | (rw [if_neg hc2_1]; done) | (rw [if_neg hc2_1]; rfl)), N0, rfl⟩ (by decide) (by decide)
def own_max (p0 : Int32) (p1 : Int32) : Int32 := (if p0 < p1 then p1 else p0)
theorem d34_0 : decode jdk_29_method_65_code 0 = .ok (.iload_n 0, 1) := by decide +kernel
theorem d34_1 : decode jdk_29_method_65_code 1 = .ok (.iload_n 1, 1) := by decide +kernel
theorem d34_2 : decode jdk_29_method_65_code 2 = .ok (.if_icmp .lt 7, 3) := by decide +kernel
theorem d34_5 : decode jdk_29_method_65_code 5 = .ok (.iload_n 0, 1) := by decide +kernel
theorem d34_6 : decode jdk_29_method_65_code 6 = .ok (.goto 4, 3) := by decide +kernel
theorem d34_9 : decode jdk_29_method_65_code 9 = .ok (.iload_n 1, 1) := by decide +kernel
theorem d34_10 : decode jdk_29_method_65_code 10 = .ok (.ireturn, 1) := by decide +kernel
def Q_rmMax (Z : State) (p0 : Int32) (p1 : Int32) (h0 : Heap) (n0 : Nat) (v : Option Value) (h : Heap) (L : List Loc) : Prop := v = some (.int (own_max p0 p1)) ∧ Fr n0 L ∧ h = h0
theorem ef_rmMax (m : MethodId) (x0 : Int32) (x1 : Int32) : entryFrame m #[(.int x0), (.int x1)] 2 = mkF m 0 #[.val (.int x0), .val (.int x1)] [] := by first | (simp [entryFrame, mkF, argsToLocals, Value.category]; done) | rfl
theorem pn_rmMax : plainFor (⟨"java/lang/Math", "max", "(II)I"⟩ : MethodName) = true := by decide +kernel
set_option maxRecDepth 65536 in
set_option maxHeartbeats 40000000 in
theorem rmMax (l : Launch) (Z : State) (a0 : Array Value) (hw : ∀ d ∈ tables_1, d.before a0 Z = true) (ws : List Jvm.Cond) (p0 : Int32) (p1 : Int32) (h0 : Heap) (n0 : Nat) (Z0 : n0 ≤ h0.size)  :
    MetFree l (⟨"java/lang/Math", "max", "(II)I"⟩ : MethodName) (head1 (Jvm.Cond.code (⟨"java/lang/Math", "max", "(II)I"⟩ : MethodName) jdk_29_method_65_code 2 (some .int) :: ws) ({ frames := 0, cells := 0, slots := 0, locals := 0 } : Room)) (fun a U => a = #[(.int p0), (.int p1)] ∧ Z.Warmed39 U.vm ∧ U.heap = h0) (fun _ _ _ _ _ => True) (fun _ U o U' => ∃ v L, o = .returned v ∧ Q_rmMax Z p0 p1 h0 n0 v U'.heap L ∧ FrameEnd U o U' L ({ frames := 0, cells := 0, slots := 0, locals := 0 } : Room).cells ({ frames := 0, cells := 0, slots := 0, locals := 0 } : Room).slots) := by
  refine MetFree.of_bodySF pn_rmMax hisR ?_
  intro p e s m args below meth c s₁ Bd hml0 hP hK
  obtain ⟨rfl, hZ, hh⟩ := hP
  have hx := Bd.exec
  have hby := Bd.bytes
  have hml : c.maxLocals = 2 := hml0
  have hown : s.vm.findClass "java/lang/Math" = some m.cls := findClass_of_methodNamed Bd.named
  have hnm := (name_of_methodNamed Bd.named Bd.method).1
  have hlk : meth.locks = false := BodyLoose.notSynchronized Bd
  have X0 : Stand p l e ({ frames := 0, cells := 0, slots := 0, locals := 0 } : Room) s m #[(.int p0), (.int p1)] below meth c s₁ [] 0 0 := Stand.of_body Bd
  have e0 : s₁.heap = h0 := by rw [← hh, Bd.state]; rfl
  have N0 := Fr.nil n0
  show own_W p e below s (Q_rmMax Z p0 p1 h0 n0) 0 0 s₁ (entryFrame m #[(.int p0), (.int p1)] 2)
  skip
  skip
  refine own_go (T' := s₁) (g' := (mkF m 0 #[oi p0, oi p1] [])) (fun _ k => castTop (ef_rmMax m p0 p1) k) ?_
  refine own_g s₁ (mkF m 2 #[oi p0, oi p1] [(.int p1), (.int p0)]) (fun _ k => XS.iloadN X0.here hx rfl (hb hby d34_0) rfl (XS.iloadN X0.here hx rfl (hb hby d34_1) rfl k)) ?_
  by_cases hc2_1 : p0 < p1
  · skip
    refine own_g s₁ (mkF m 10 #[oi p0, oi p1] [(.int p1)]) (fun _ k => XS.icmpYes X0.here hx rfl (pc0 := 2) (pc' := 9) rfl (hb hby d34_2) rfl (XT.ii_lt_t hc2_1) (by decide) (by decide) (XS.iloadN X0.here hx rfl (hb hby d34_9) rfl k)) ?_
    exact own_ret X0 hx Bd.returns hlk rfl (Or.inl ⟨rfl, Or.inl rfl, _, rfl⟩) (hb hby d34_10) e0 ⟨(by unfold own_max; first | (rw [if_pos hc2_1]; done) | (rw [if_pos hc2_1]; rfl)), N0, rfl⟩ (by decide) (by decide)
  · skip
    refine own_g s₁ (mkF m 10 #[oi p0, oi p1] [(.int p0)]) (fun _ k => XS.icmpNo X0.here hx rfl (hb hby d34_2) rfl (XT.ii_lt_f hc2_1) (XS.iloadN X0.here hx rfl (hb hby d34_5) rfl (XS.goto X0.here hx rfl (pc0 := 6) (pc' := 10) rfl (hb hby d34_6) (by decide) (by decide) k))) ?_
    exact own_ret X0 hx Bd.returns hlk rfl (Or.inl ⟨rfl, Or.inl rfl, _, rfl⟩) (hb hby d34_10) e0 ⟨(by unfold own_max; first | (rw [if_neg hc2_1]; done) | (rw [if_neg hc2_1]; rfl)), N0, rfl⟩ (by decide) (by decide)
theorem d18_0 : decode jdk_68_method_71_code 0 = .ok (.getstatic 18, 3) := by decide +kernel
theorem d18_3 : decode jdk_68_method_71_code 3 = .ok (.ifCond .eq 18, 3) := by decide +kernel
theorem d18_6 : decode jdk_68_method_71_code 6 = .ok (.aload_n 0, 1) := by decide +kernel
theorem d18_7 : decode jdk_68_method_71_code 7 = .ok (.getfield 22, 3) := by decide +kernel
theorem d18_10 : decode jdk_68_method_71_code 10 = .ok (.aload_n 1, 1) := by decide +kernel
theorem d18_11 : decode jdk_68_method_71_code 11 = .ok (.invokevirtual 40, 3) := by decide +kernel
theorem d18_14 : decode jdk_68_method_71_code 14 = .ok (.if_icmp .eq 7, 3) := by decide +kernel
theorem d18_21 : decode jdk_68_method_71_code 21 = .ok (.return_, 1) := by decide +kernel
def Q_rmInfl (Z : State) (r0 : Addr) (r1 : Addr) (cs : Int32) (h0 : Heap) (n0 : Nat) (v : Option Value) (h : Heap) (L : List Loc) : Prop := v = none ∧ Fr n0 L ∧ h = h0
theorem ef_rmInfl (m : MethodId) (x0 : Addr) (x1 : Addr) : entryFrame m #[(.ref x0), (.ref x1)] 2 = mkF m 0 #[.val (.ref x0), .val (.ref x1)] [] := by first | (simp [entryFrame, mkF, argsToLocals, Value.category]; done) | rfl
theorem pn_rmInfl : plainName "java/lang/AbstractStringBuilder" = true := by first | (simp [plainName, overriddenIn]; done) | decide +kernel
set_option maxRecDepth 65536 in
set_option maxHeartbeats 40000000 in
theorem rmInfl (l : Launch) (Z : State) (a0 : Array Value) (hw : ∀ d ∈ tables_1, d.before a0 Z = true) (ws : List Jvm.Cond) (r0 : Addr) (r1 : Addr) (cs : Int32) (h0 : Heap) (n0 : Nat) (Z0 : n0 ≤ h0.size) (hp0 : Exa Z h0 r0 "java/lang/StringBuilder") (hp1 : Fld Z h0 r0 "java/lang/AbstractStringBuilder" "coder" "B" (.int (0 : Int32))) (hp2 : Exa Z h0 r1 "java/lang/String") (hp3 : Fld Z h0 r1 "java/lang/String" "coder" "B" (.int (0 : Int32))) (hp4 : Sta Z h0 "java/lang/String" "COMPACT_STRINGS" "Z" (.int cs)) (hh0 : ¬ cs = (0 : Int32)) :
    MetFree l (⟨"java/lang/AbstractStringBuilder", "inflateIfNeededFor", "(Ljava/lang/String;)V"⟩ : MethodName) (head1 (Jvm.Cond.code (⟨"java/lang/AbstractStringBuilder", "inflateIfNeededFor", "(Ljava/lang/String;)V"⟩ : MethodName) jdk_68_method_71_code 2 none :: ws) ({ frames := 1, cells := 0, slots := 0, locals := 13 } : Room)) (fun a U => a = #[(.ref r0), (.ref r1)] ∧ Z.Warmed39 U.vm ∧ U.heap = h0) (fun _ _ _ _ _ => True) (fun _ U o U' => ∃ v L, o = .returned v ∧ Q_rmInfl Z r0 r1 cs h0 n0 v U'.heap L ∧ FrameEnd U o U' L ({ frames := 1, cells := 0, slots := 0, locals := 13 } : Room).cells ({ frames := 1, cells := 0, slots := 0, locals := 13 } : Room).slots) := by
  refine MetFree.of_bodySF (plainFor_of_name pn_rmInfl) hisR ?_
  intro p e s m args below meth c s₁ Bd hml0 hP hK
  obtain ⟨rfl, hZ, hh⟩ := hP
  have hx := Bd.exec
  have hby := Bd.bytes
  have hml : c.maxLocals = 2 := hml0
  have hown : s.vm.findClass "java/lang/AbstractStringBuilder" = some m.cls := findClass_of_methodNamed Bd.named
  have hnm := (name_of_methodNamed Bd.named Bd.method).1
  have hlk : meth.locks = false := BodyLoose.notSynchronized Bd
  have X0 : Stand p l e ({ frames := 1, cells := 0, slots := 0, locals := 13 } : Room) s m #[(.ref r0), (.ref r1)] below meth c s₁ [] 0 0 := Stand.of_body Bd
  have e0 : s₁.heap = h0 := by rw [← hh, Bd.state]; rfl
  have N0 := Fr.nil n0
  show own_W p e below s (Q_rmInfl Z r0 r1 cs h0 n0) 0 0 s₁ (entryFrame m #[(.ref r0), (.ref r1)] 2)
  skip
  skip
  refine own_go (T' := s₁) (g' := (mkF m 0 #[oa r0, oa r1] [])) (fun _ k => castTop (ef_rmInfl m r0 r1) k) ?_
  obtain ⟨T1, X1, e1, st1⟩ := getS2 X0 hx hZ hown (host := "") (Or.inl (own_w hw 66 rfl)) Via.refl e0 hp4 (g := (mkF m 0 #[oa r0, oa r1] [])) rfl (hb hby d18_0)
  refine own_g T1 (mkF m 7 #[oa r0, oa r1] [(.ref r0)]) (fun _ k => st1 _ (XS.ifNo X1.here hx rfl (hb hby d18_3) rfl (XT.i0_eq_f hh0) (XS.aloadN X1.here hx rfl (hb hby d18_6) rfl rfl k))) ?_
  obtain ⟨T2, X2, e2, st2⟩ := getF X1 hx hZ hown (host := "") (Or.inl (own_w hw 69 rfl)) Via.refl e1 hp1 (g := (mkF m 7 #[oa r0, oa r1] [(.ref r0)])) rfl rfl (hb hby d18_7)
  refine own_g T2 (mkF m 11 #[oa r0, oa r1] [(.ref r1), (.int (0 : Int32))]) (fun _ k => st2 _ (XS.aloadN X2.here hx rfl (hb hby d18_10) rfl rfl k)) ?_
  obtain ⟨cq3, kq3, q3a, q3b, q3c⟩ := isOf hZ e2 hp2
  obtain ⟨_, _, ⟨T3, L3, k3, n3⟩, -, X3, ⟨Lc3, hQ3, l3, y3, z3⟩, st3⟩ := X2.virtualBack hx (y := (⟨"java/lang/String", "coder", "()B"⟩ : MethodName)) (z := (⟨"java/lang/String", "coder", "()B"⟩ : MethodName)) hown (mvT hZ (own_w hw 111 rfl)) (mvT hZ (own_w hw 90 rfl)) (notFace_of_selects (args := #[]) (mvT hZ (own_w hw 92 rfl))) (mvT hZ (own_w hw 92 rfl)) (mvT hZ (own_w hw 91 rfl)) (by decide) (backOf (W := 1) (rmCoder l Z a0 hw [] r1 cs h0 n0 Z0 hp3 hp4 hh0) hZ (own_w hw 93 rfl) (own_w hw 6 rfl) (by decide) (by decide)) q3a q3c (g := (mkF m 11 #[oa r0, oa r1] [(.ref r1), (.int (0 : Int32))])) rfl (by rw [hml]; rfl) (Steps.refl _) (argsL := []) (rest := [(.int (0 : Int32))]) (lenOf own_pd0 rfl) rfl (Nat.le_of_eq rfl) (hb hby d18_11) (fun _ _ => ⟨rfl, e2, (by decide : 0 + 0 ≤ _), (by decide : 0 + 0 ≤ _)⟩)
  dsimp only [Pt.U, Pt.locs, Pt.cells, Pt.slots] at X3 l3 y3 z3 st3 hQ3
  subst l3 y3 z3
  obtain ⟨rfl, N3q, e3⟩ := hQ3
  have N3 := Fr.app N0 N3q
  obtain ⟨Lv3, X3, N3⟩ := own_hide X3 (Nat.le_refl 0) (Nat.le_refl 0) N3
  refine own_g T3 (mkF m 21 #[oa r0, oa r1] []) (fun _ k => st3.trans (XS.icmpYes X3.here hx rfl (pc0 := 14) (pc' := 21) rfl (hb hby d18_14) rfl (XT.ii_eq_t (rfl : (0 : Int32) = (0 : Int32))) (by decide) (by decide) k)) ?_
  exact own_ret0 X3 hx Bd.returns hlk (hb hby d18_21) e3 ⟨rfl, N3, rfl⟩ (by decide) (by decide)
theorem d19_0 : decode jdk_42_method_147_code 0 = .ok (.aload_n 0, 1) := by decide +kernel
theorem d19_1 : decode jdk_42_method_147_code 1 = .ok (.invokevirtual 335, 3) := by decide +kernel
theorem d19_4 : decode jdk_42_method_147_code 4 = .ok (.iload_n 3, 1) := by decide +kernel
theorem d19_5 : decode jdk_42_method_147_code 5 = .ok (.if_icmp .ne 23, 3) := by decide +kernel
theorem d19_8 : decode jdk_42_method_147_code 8 = .ok (.aload_n 0, 1) := by decide +kernel
theorem d19_9 : decode jdk_42_method_147_code 9 = .ok (.getfield 9, 3) := by decide +kernel
theorem d19_12 : decode jdk_42_method_147_code 12 = .ok (.iconst 0, 1) := by decide +kernel
theorem d19_13 : decode jdk_42_method_147_code 13 = .ok (.aload_n 1, 1) := by decide +kernel
theorem d19_14 : decode jdk_42_method_147_code 14 = .ok (.iload_n 2, 1) := by decide +kernel
theorem d19_15 : decode jdk_42_method_147_code 15 = .ok (.iload_n 3, 1) := by decide +kernel
theorem d19_16 : decode jdk_42_method_147_code 16 = .ok (.ishl, 1) := by decide +kernel
theorem d19_17 : decode jdk_42_method_147_code 17 = .ok (.aload_n 0, 1) := by decide +kernel
theorem d19_18 : decode jdk_42_method_147_code 18 = .ok (.getfield 9, 3) := by decide +kernel
theorem d19_21 : decode jdk_42_method_147_code 21 = .ok (.arraylength, 1) := by decide +kernel
theorem d19_22 : decode jdk_42_method_147_code 22 = .ok (.invokestatic 212, 3) := by decide +kernel
theorem d19_25 : decode jdk_42_method_147_code 25 = .ok (.goto 18, 3) := by decide +kernel
theorem d19_43 : decode jdk_42_method_147_code 43 = .ok (.return_, 1) := by decide +kernel
def Q_rmGetB (Z : State) (r0 : Addr) (r1 : Addr) (p2 : Int32) (d1 : Addr) (kd : ClassId) (z1 : Int32) (us : List Value) (cs : Int32) (kb : ClassId) (zc : Int32) (vs : List Value) (cN : Nat) (nN : Nat) (h0 : Heap) (n0 : Nat) (v : Option Value) (h : Heap) (L : List Loc) : Prop := v = none ∧ Fr n0 L ∧ Keep h0 h [r1] ∧ Arv Z h r1 kb .byte zc (vs.take cN ++ us ++ vs.drop (cN + nN)) (.int (0 : Int32))
theorem ef_rmGetB (m : MethodId) (x0 : Addr) (x1 : Addr) (x2 : Int32) (x3 : Int32) : entryFrame m #[(.ref x0), (.ref x1), (.int x2), (.int x3)] 4 = mkF m 0 #[.val (.ref x0), .val (.ref x1), .val (.int x2), .val (.int x3)] [] := by first | (simp [entryFrame, mkF, argsToLocals, Value.category]; done) | rfl
theorem pn_rmGetB : plainName "java/lang/String" = true := by first | (simp [plainName, overriddenIn]; done) | decide +kernel
set_option maxRecDepth 65536 in
set_option maxHeartbeats 40000000 in
theorem rmGetB (l : Launch) (Z : State) (a0 : Array Value) (hw : ∀ d ∈ tables_1, d.before a0 Z = true) (ws : List Jvm.Cond) (r0 : Addr) (r1 : Addr) (p2 : Int32) (d1 : Addr) (kd : ClassId) (z1 : Int32) (us : List Value) (cs : Int32) (kb : ClassId) (zc : Int32) (vs : List Value) (cN : Nat) (nN : Nat) (h0 : Heap) (n0 : Nat) (Z0 : n0 ≤ h0.size) (hp0 : Exa Z h0 r0 "java/lang/String") (hp1 : Fld Z h0 r0 "java/lang/String" "coder" "B" (.int (0 : Int32))) (hp2 : Fld Z h0 r0 "java/lang/String" "value" "[B" (.ref d1)) (hp3 : Arv Z h0 d1 kd .byte z1 us (.int (0 : Int32))) (hp4 : Arv Z h0 r1 kb .byte zc vs (.int (0 : Int32))) (hp5 : n0 ≤ r1) (hp6 : Sta Z h0 "java/lang/String" "COMPACT_STRINGS" "Z" (.int cs)) (hh0 : ¬ cs = (0 : Int32)) (hh1 : ¬ (p2 <<< ((0 : Int32) &&& 31)) < (0 : Int32)) (hh2 : (p2 <<< ((0 : Int32) &&& 31)).toNatClampNeg = cN) (hh3 : z1.toNatClampNeg = nN) (hh4 : us.length = nN) (hh5 : cN + nN ≤ zc.toNatClampNeg) (hh6 : cN + nN ≤ vs.length) (hh7 : ¬ z1 < (0 : Int32)) :
    MetFree l (⟨"java/lang/String", "getBytes", "([BIB)V"⟩ : MethodName) (head1 (Jvm.Cond.code (⟨"java/lang/String", "getBytes", "([BIB)V"⟩ : MethodName) jdk_42_method_147_code 4 none :: ws) ({ frames := 1, cells := 0, slots := 0, locals := 18 } : Room)) (fun a U => a = #[(.ref r0), (.ref r1), (.int p2), (.int (0 : Int32))] ∧ Z.Warmed39 U.vm ∧ U.heap = h0) (fun _ _ _ _ _ => True) (fun _ U o U' => ∃ v L, o = .returned v ∧ Q_rmGetB Z r0 r1 p2 d1 kd z1 us cs kb zc vs cN nN h0 n0 v U'.heap L ∧ FrameEnd U o U' L ({ frames := 1, cells := 0, slots := 0, locals := 18 } : Room).cells ({ frames := 1, cells := 0, slots := 0, locals := 18 } : Room).slots) := by
  refine MetFree.of_bodySF (plainFor_of_name pn_rmGetB) hisR ?_
  intro p e s m args below meth c s₁ Bd hml0 hP hK
  obtain ⟨rfl, hZ, hh⟩ := hP
  have hx := Bd.exec
  have hby := Bd.bytes
  have hml : c.maxLocals = 4 := hml0
  have hown : s.vm.findClass "java/lang/String" = some m.cls := findClass_of_methodNamed Bd.named
  have hnm := (name_of_methodNamed Bd.named Bd.method).1
  have hlk : meth.locks = false := BodyLoose.notSynchronized Bd
  have X0 : Stand p l e ({ frames := 1, cells := 0, slots := 0, locals := 18 } : Room) s m #[(.ref r0), (.ref r1), (.int p2), (.int (0 : Int32))] below meth c s₁ [] 0 0 := Stand.of_body Bd
  have e0 : s₁.heap = h0 := by rw [← hh, Bd.state]; rfl
  have N0 := Fr.nil n0
  show own_W p e below s (Q_rmGetB Z r0 r1 p2 d1 kd z1 us cs kb zc vs cN nN h0 n0) 0 0 s₁ (entryFrame m #[(.ref r0), (.ref r1), (.int p2), (.int (0 : Int32))] 4)
  skip
  skip
  refine own_go (T' := s₁) (g' := (mkF m 0 #[oa r0, oa r1, oi p2, oi 0] [])) (fun _ k => castTop (ef_rmGetB m r0 r1 p2 (0 : Int32)) k) ?_
  refine own_g s₁ (mkF m 1 #[oa r0, oa r1, oi p2, oi 0] [(.ref r0)]) (fun _ k => XS.aloadN X0.here hx rfl (hb hby d19_0) rfl rfl k) ?_
  obtain ⟨cq1, kq1, q1a, q1b, q1c⟩ := isOf hZ e0 hp0
  obtain ⟨_, _, ⟨T1, L1, k1, n1⟩, -, X1, ⟨Lc1, hQ1, l1, y1, z1⟩, st1⟩ := X0.virtualBack hx (y := (⟨"java/lang/String", "coder", "()B"⟩ : MethodName)) (z := (⟨"java/lang/String", "coder", "()B"⟩ : MethodName)) hown (mvT hZ (own_w hw 89 rfl)) (mvT hZ (own_w hw 90 rfl)) (notFace_of_selects (args := #[]) (mvT hZ (own_w hw 92 rfl))) (mvT hZ (own_w hw 92 rfl)) (mvT hZ (own_w hw 91 rfl)) (by decide) (backOf (W := 0) (rmCoder l Z a0 hw [] r0 cs h0 n0 Z0 hp1 hp6 hh0) hZ (own_w hw 93 rfl) (own_w hw 6 rfl) (by decide) (by decide)) q1a q1c (g := (mkF m 1 #[oa r0, oa r1, oi p2, oi 0] [(.ref r0)])) rfl (by rw [hml]; rfl) (Steps.refl _) (argsL := []) (rest := []) (lenOf own_pd0 rfl) rfl (Nat.le_of_eq rfl) (hb hby d19_1) (fun _ _ => ⟨rfl, e0, (by decide : 0 + 0 ≤ _), (by decide : 0 + 0 ≤ _)⟩)
  dsimp only [Pt.U, Pt.locs, Pt.cells, Pt.slots] at X1 l1 y1 z1 st1 hQ1
  subst l1 y1 z1
  obtain ⟨rfl, N1q, e1⟩ := hQ1
  have N1 := Fr.app N0 N1q
  obtain ⟨Lv1, X1, N1⟩ := own_hide X1 (Nat.le_refl 0) (Nat.le_refl 0) N1
  refine own_g T1 (mkF m 9 #[oa r0, oa r1, oi p2, oi 0] [(.ref r0)]) (fun _ k => st1.trans (XS.iloadN X1.here hx rfl (hb hby d19_4) rfl (XS.icmpNo X1.here hx rfl (hb hby d19_5) rfl (XT.ii_ne_f (rfl : (0 : Int32) = (0 : Int32))) (XS.aloadN X1.here hx rfl (hb hby d19_8) rfl rfl k)))) ?_
  obtain ⟨T2, X2, e2, st2⟩ := getF X1 hx hZ hown (host := "") (Or.inl (own_w hw 26 rfl)) Via.refl e1 hp2 (g := (mkF m 9 #[oa r0, oa r1, oi p2, oi 0] [(.ref r0)])) rfl rfl (hb hby d19_9)
  refine own_g T2 (mkF m 18 #[oa r0, oa r1, oi p2, oi 0] [(.ref r0), (.int (p2 <<< ((0 : Int32) &&& 31))), (.ref r1), (.int (0 : Int32)), (.ref d1)]) (fun _ k => st2 _ (XS.iconst X2.here hx rfl (hb hby d19_12) (XS.aloadN X2.here hx rfl (hb hby d19_13) rfl rfl (XS.iloadN X2.here hx rfl (hb hby d19_14) rfl (XS.iloadN X2.here hx rfl (hb hby d19_15) rfl (XS.ishl X2.here hx rfl (hb hby d19_16) rfl (XS.aloadN X2.here hx rfl (hb hby d19_17) rfl rfl k))))))) ?_
  obtain ⟨T3, X3, e3, st3⟩ := getF X2 hx hZ hown (host := "") (Or.inl (own_w hw 26 rfl)) Via.refl e2 hp2 (g := (mkF m 18 #[oa r0, oa r1, oi p2, oi 0] [(.ref r0), (.int (p2 <<< ((0 : Int32) &&& 31))), (.ref r1), (.int (0 : Int32)), (.ref d1)])) rfl rfl (hb hby d19_18)
  refine own_g T3 (mkF m 21 #[oa r0, oa r1, oi p2, oi 0] [(.ref d1), (.int (p2 <<< ((0 : Int32) &&& 31))), (.ref r1), (.int (0 : Int32)), (.ref d1)]) (fun _ k => st3 _ k) ?_
  obtain ⟨cl4, Ar4, q14, q24, q34, H4, G4⟩ := id hp3
  have st4 := X3.arraylength hx (by rw [e3]; exact Ar4.1) (State.isArrayOf_alike hZ.alike Ar4.2.1) (g := (mkF m 21 #[oa r0, oa r1, oi p2, oi 0] [(.ref d1), (.int (p2 <<< ((0 : Int32) &&& 31))), (.ref r1), (.int (0 : Int32)), (.ref d1)])) rfl rfl (hb hby d19_21)
  rw [len_of q24 q34] at st4
  refine own_g T3 (mkF m 22 #[oa r0, oa r1, oi p2, oi 0] [(.int z1), (.int (p2 <<< ((0 : Int32) &&& 31))), (.ref r1), (.int (0 : Int32)), (.ref d1)]) (fun _ k => st4 _ k) ?_
  obtain ⟨T5, h5, L5, X5, e5, N5, K5, V5, st5⟩ := cpA X3 hx hZ hown (own_w hw 117 rfl) (own_w hw 120 rfl) (own_w hw 118 rfl) (own_w hw 119 rfl) e3 hp3 hp4 (Or.inl ⟨rfl, rfl⟩) (by decide) hh1 hh7 (by rw [hh3]; show 0 + nN ≤ _; omega) (by rw [hh2, hh3]; exact hh5) (us := us) (own_hus hh3 hh4) (by rw [hh2, hh3]; exact hh6) N1 hp5 (g := (mkF m 22 #[oa r0, oa r1, oi p2, oi 0] [(.int z1), (.int (p2 <<< ((0 : Int32) &&& 31))), (.ref r1), (.int (0 : Int32)), (.ref d1)])) rfl (by rw [hml]; rfl) (rest := []) rfl (hb hby d19_22) (by decide) (W := 0) (Nat.le_of_eq rfl) (by decide)
  have f6 := (hp0.keep K5)
  have f7 := (own_sta_keep hp6 K5 (nsS (own_arv_ns hp4) ns0))
  have W5 : Arv Z h5 r1 kb .byte zc (vs.take cN ++ us ++ vs.drop (cN + nN)) (.int (0 : Int32)) := (by have q := V5; rw [hh2, hh3] at q; exact q)
  have zs5 : n0 ≤ h5.size := Nat.le_trans Z0 K5.1
  have kk5 : Keep h0 h5 [r1] := (Keep.refl h0 [r1]).trans K5 (allS (Or.inl (List.mem_of_getElem? (i := 0) rfl)) all0)
  refine own_g T5 (mkF m 43 #[oa r0, oa r1, oi p2, oi 0] []) (fun _ k => st5 _ (XS.goto X5.here hx rfl (pc0 := 25) (pc' := 43) rfl (hb hby d19_25) (by decide) (by decide) k)) ?_
  exact own_ret0 X5 hx Bd.returns hlk (hb hby d19_43) e5 ⟨rfl, N5, kk5, W5⟩ (by decide) (by decide)
theorem own_pd5 : parseMethodDescriptor "(Ljava/lang/String;)V" = some ⟨[(.object "java/lang/String")], none⟩ := by decide +kernel
theorem own_pd6 : parseMethodDescriptor "([BIB)V" = some ⟨[(.array .byte), .int, .byte], none⟩ := by decide +kernel
theorem d17_0 : decode jdk_68_method_73_code 0 = .ok (.aload_n 0, 1) := by decide +kernel
theorem d17_1 : decode jdk_68_method_73_code 1 = .ok (.aload_n 2, 1) := by decide +kernel
theorem d17_2 : decode jdk_68_method_73_code 2 = .ok (.invokevirtual 397, 3) := by decide +kernel
theorem d17_5 : decode jdk_68_method_73_code 5 = .ok (.aload_n 2, 1) := by decide +kernel
theorem d17_6 : decode jdk_68_method_73_code 6 = .ok (.aload_n 0, 1) := by decide +kernel
theorem d17_7 : decode jdk_68_method_73_code 7 = .ok (.getfield 15, 3) := by decide +kernel
theorem d17_10 : decode jdk_68_method_73_code 10 = .ok (.iload_n 1, 1) := by decide +kernel
theorem d17_11 : decode jdk_68_method_73_code 11 = .ok (.aload_n 0, 1) := by decide +kernel
theorem d17_12 : decode jdk_68_method_73_code 12 = .ok (.getfield 22, 3) := by decide +kernel
theorem d17_15 : decode jdk_68_method_73_code 15 = .ok (.invokevirtual 399, 3) := by decide +kernel
theorem d17_18 : decode jdk_68_method_73_code 18 = .ok (.return_, 1) := by decide +kernel
def Q_rmPutS (Z : State) (r0 : Addr) (p1 : Int32) (r2 : Addr) (da : Addr) (d1 : Addr) (kd : ClassId) (z1 : Int32) (us : List Value) (cs : Int32) (kb : ClassId) (zc : Int32) (vs : List Value) (cN : Nat) (nN : Nat) (h0 : Heap) (n0 : Nat) (v : Option Value) (h : Heap) (L : List Loc) : Prop := v = none ∧ Fr n0 L ∧ Keep h0 h [da] ∧ Arv Z h da kb .byte zc (vs.take cN ++ us ++ vs.drop (cN + nN)) (.int (0 : Int32))
theorem ef_rmPutS (m : MethodId) (x0 : Addr) (x1 : Int32) (x2 : Addr) : entryFrame m #[(.ref x0), (.int x1), (.ref x2)] 3 = mkF m 0 #[.val (.ref x0), .val (.int x1), .val (.ref x2)] [] := by first | (simp [entryFrame, mkF, argsToLocals, Value.category]; done) | rfl
theorem pn_rmPutS : plainName "java/lang/AbstractStringBuilder" = true := by first | (simp [plainName, overriddenIn]; done) | decide +kernel
set_option maxRecDepth 65536 in
set_option maxHeartbeats 40000000 in
theorem rmPutS (l : Launch) (Z : State) (a0 : Array Value) (hw : ∀ d ∈ tables_1, d.before a0 Z = true) (ws : List Jvm.Cond) (r0 : Addr) (p1 : Int32) (r2 : Addr) (da : Addr) (d1 : Addr) (kd : ClassId) (z1 : Int32) (us : List Value) (cs : Int32) (kb : ClassId) (zc : Int32) (vs : List Value) (cN : Nat) (nN : Nat) (h0 : Heap) (n0 : Nat) (Z0 : n0 ≤ h0.size) (hp0 : Exa Z h0 r0 "java/lang/StringBuilder") (hp1 : n0 ≤ r0) (hp2 : Fld Z h0 r0 "java/lang/AbstractStringBuilder" "value" "[B" (.ref da)) (hp3 : Fld Z h0 r0 "java/lang/AbstractStringBuilder" "coder" "B" (.int (0 : Int32))) (hp4 : Arv Z h0 da kb .byte zc vs (.int (0 : Int32))) (hp5 : n0 ≤ da) (hp6 : Exa Z h0 r2 "java/lang/String") (hp7 : Fld Z h0 r2 "java/lang/String" "coder" "B" (.int (0 : Int32))) (hp8 : Fld Z h0 r2 "java/lang/String" "value" "[B" (.ref d1)) (hp9 : Arv Z h0 d1 kd .byte z1 us (.int (0 : Int32))) (hp10 : Sta Z h0 "java/lang/String" "COMPACT_STRINGS" "Z" (.int cs)) (hh0 : ¬ cs = (0 : Int32)) (hh1 : ¬ (p1 <<< ((0 : Int32) &&& 31)) < (0 : Int32)) (hh2 : (p1 <<< ((0 : Int32) &&& 31)).toNatClampNeg = cN) (hh3 : z1.toNatClampNeg = nN) (hh4 : us.length = nN) (hh5 : cN + nN ≤ zc.toNatClampNeg) (hh6 : cN + nN ≤ vs.length) (hh7 : ¬ z1 < (0 : Int32)) :
    MetFree l (⟨"java/lang/AbstractStringBuilder", "putStringAt", "(ILjava/lang/String;)V"⟩ : MethodName) (head1 (Jvm.Cond.code (⟨"java/lang/AbstractStringBuilder", "putStringAt", "(ILjava/lang/String;)V"⟩ : MethodName) jdk_68_method_73_code 3 none :: ws) ({ frames := 2, cells := 0, slots := 0, locals := 33 } : Room)) (fun a U => a = #[(.ref r0), (.int p1), (.ref r2)] ∧ Z.Warmed39 U.vm ∧ U.heap = h0) (fun _ _ _ _ _ => True) (fun _ U o U' => ∃ v L, o = .returned v ∧ Q_rmPutS Z r0 p1 r2 da d1 kd z1 us cs kb zc vs cN nN h0 n0 v U'.heap L ∧ FrameEnd U o U' L ({ frames := 2, cells := 0, slots := 0, locals := 33 } : Room).cells ({ frames := 2, cells := 0, slots := 0, locals := 33 } : Room).slots) := by
  refine MetFree.of_bodySF (plainFor_of_name pn_rmPutS) hisR ?_
  intro p e s m args below meth c s₁ Bd hml0 hP hK
  obtain ⟨rfl, hZ, hh⟩ := hP
  have hx := Bd.exec
  have hby := Bd.bytes
  have hml : c.maxLocals = 3 := hml0
  have hown : s.vm.findClass "java/lang/AbstractStringBuilder" = some m.cls := findClass_of_methodNamed Bd.named
  have hnm := (name_of_methodNamed Bd.named Bd.method).1
  have hlk : meth.locks = false := BodyLoose.notSynchronized Bd
  have X0 : Stand p l e ({ frames := 2, cells := 0, slots := 0, locals := 33 } : Room) s m #[(.ref r0), (.int p1), (.ref r2)] below meth c s₁ [] 0 0 := Stand.of_body Bd
  have e0 : s₁.heap = h0 := by rw [← hh, Bd.state]; rfl
  have N0 := Fr.nil n0
  show own_W p e below s (Q_rmPutS Z r0 p1 r2 da d1 kd z1 us cs kb zc vs cN nN h0 n0) 0 0 s₁ (entryFrame m #[(.ref r0), (.int p1), (.ref r2)] 3)
  skip
  skip
  refine own_go (T' := s₁) (g' := (mkF m 0 #[oa r0, oi p1, oa r2] [])) (fun _ k => castTop (ef_rmPutS m r0 p1 r2) k) ?_
  refine own_g s₁ (mkF m 2 #[oa r0, oi p1, oa r2] [(.ref r2), (.ref r0)]) (fun _ k => XS.aloadN X0.here hx rfl (hb hby d17_0) rfl rfl (XS.aloadN X0.here hx rfl (hb hby d17_1) rfl rfl k)) ?_
  obtain ⟨cq1, kq1, q1a, q1b, cl1, q1d, -, q1e⟩ := isOf hZ e0 hp0
  obtain ⟨_, _, ⟨T1, L1, k1, n1⟩, -, X1, ⟨Lc1, hQ1, l1, y1, z1⟩, st1⟩ := X0.privateBack hx (y := (⟨"java/lang/AbstractStringBuilder", "inflateIfNeededFor", "(Ljava/lang/String;)V"⟩ : MethodName)) hown (mvT hZ (own_w hw 106 rfl)) (mvT hZ (own_w hw 107 rfl)) (own_selfSel (mvT hZ (own_w hw 109 rfl)) (Cond.privateMethod_at (args := #[]) (mvP hZ (own_w hw 108 rfl))) (mvT hZ (own_w hw 107 rfl)) (by decide)) (Cond.privateMethod_at (args := #[]) (mvP hZ (own_w hw 108 rfl))) (mvT hZ (own_w hw 110 rfl)) (by decide) (backOf (W := 0) (rmInfl l Z a0 hw [] r0 r2 cs h0 n0 Z0 hp0 hp3 hp6 hp7 hp10 hh0) hZ (own_w hw 110 rfl) (own_w hw 63 rfl) (by decide) (by decide)) (g := (mkF m 2 #[oa r0, oi p1, oa r2] [(.ref r2), (.ref r0)])) rfl (by rw [hml]; rfl) (Steps.refl _) (a := r0) q1d (own_nst q1e) (argsL := [(.ref r2)]) (rest := []) (lenOf own_pd5 rfl) rfl (Nat.le_of_eq rfl) (hb hby d17_2) (fun _ _ => ⟨rfl, e0, (by decide : 0 + 0 ≤ _), (by decide : 0 + 0 ≤ _)⟩)
  dsimp only [Pt.U, Pt.locs, Pt.cells, Pt.slots] at X1 l1 y1 z1 st1 hQ1
  subst l1 y1 z1
  obtain ⟨rfl, N1q, e1⟩ := hQ1
  have N1 := Fr.app N0 N1q
  obtain ⟨Lv1, X1, N1⟩ := own_hide X1 (Nat.le_refl 0) (Nat.le_refl 0) N1
  refine own_g T1 (mkF m 7 #[oa r0, oi p1, oa r2] [(.ref r0), (.ref r2)]) (fun _ k => st1.trans (XS.aloadN X1.here hx rfl (hb hby d17_5) rfl rfl (XS.aloadN X1.here hx rfl (hb hby d17_6) rfl rfl k))) ?_
  obtain ⟨T2, X2, e2, st2⟩ := getF X1 hx hZ hown (host := "") (Or.inl (own_w hw 67 rfl)) Via.refl e1 hp2 (g := (mkF m 7 #[oa r0, oi p1, oa r2] [(.ref r0), (.ref r2)])) rfl rfl (hb hby d17_7)
  refine own_g T2 (mkF m 12 #[oa r0, oi p1, oa r2] [(.ref r0), (.int p1), (.ref da), (.ref r2)]) (fun _ k => st2 _ (XS.iloadN X2.here hx rfl (hb hby d17_10) rfl (XS.aloadN X2.here hx rfl (hb hby d17_11) rfl rfl k))) ?_
  obtain ⟨T3, X3, e3, st3⟩ := getF X2 hx hZ hown (host := "") (Or.inl (own_w hw 69 rfl)) Via.refl e2 hp3 (g := (mkF m 12 #[oa r0, oi p1, oa r2] [(.ref r0), (.int p1), (.ref da), (.ref r2)])) rfl rfl (hb hby d17_12)
  refine own_g T3 (mkF m 15 #[oa r0, oi p1, oa r2] [(.int (0 : Int32)), (.int p1), (.ref da), (.ref r2)]) (fun _ k => st3 _ k) ?_
  obtain ⟨cq4, kq4, q4a, q4b, q4c⟩ := isOf hZ e3 hp6
  obtain ⟨_, _, ⟨T4, L4, k4, n4⟩, -, X4, ⟨Lc4, hQ4, l4, y4, z4⟩, st4⟩ := X3.virtualBack hx (y := (⟨"java/lang/String", "getBytes", "([BIB)V"⟩ : MethodName)) (z := (⟨"java/lang/String", "getBytes", "([BIB)V"⟩ : MethodName)) hown (mvT hZ (own_w hw 112 rfl)) (mvT hZ (own_w hw 113 rfl)) (notFace_of_selects (args := #[]) (mvT hZ (own_w hw 115 rfl))) (mvT hZ (own_w hw 115 rfl)) (mvT hZ (own_w hw 114 rfl)) (by decide) (backOf (W := 0) (rmGetB l Z a0 hw [] r2 da p1 d1 kd z1 us cs kb zc vs cN nN h0 n0 Z0 hp6 hp7 hp8 hp9 hp4 hp5 hp10 hh0 hh1 hh2 hh3 hh4 hh5 hh6 hh7) hZ (own_w hw 116 rfl) (own_w hw 6 rfl) (by decide) (by decide)) q4a q4c (g := (mkF m 15 #[oa r0, oi p1, oa r2] [(.int (0 : Int32)), (.int p1), (.ref da), (.ref r2)])) rfl (by rw [hml]; rfl) (Steps.refl _) (argsL := [(.ref da), (.int p1), (.int (0 : Int32))]) (rest := []) (lenOf own_pd6 rfl) rfl (Nat.le_of_eq rfl) (hb hby d17_15) (fun _ _ => ⟨rfl, e3, (by decide : 0 + 0 ≤ _), (by decide : 0 + 0 ≤ _)⟩)
  dsimp only [Pt.U, Pt.locs, Pt.cells, Pt.slots] at X4 l4 y4 z4 st4 hQ4
  subst l4 y4 z4
  obtain ⟨rfl, N4q, K4, po5⟩ := hQ4
  have f6 := (hp0.keep K4)
  have f7 := (hp6.keep K4)
  have f8 := (own_sta_keep hp10 K4 (nsS (own_arv_ns hp4) ns0))
  have zs4 : n0 ≤ T4.heap.size := Nat.le_trans Z0 K4.1
  have kk4 : Keep h0 T4.heap [da] := (Keep.refl h0 [da]).trans K4 (allS (Or.inl (List.mem_of_getElem? (i := 0) rfl)) all0)
  have N4 := Fr.app N1 N4q
  obtain ⟨Lv4, X4, N4⟩ := own_hide X4 (Nat.le_refl 0) (Nat.le_refl 0) N4
  refine own_g T4 (mkF m 18 #[oa r0, oi p1, oa r2] []) (fun _ k => st4.trans k) ?_
  exact own_ret0 X4 hx Bd.returns hlk (hb hby d17_18) rfl ⟨rfl, N4, kk4, po5⟩ (by decide) (by decide)
theorem own_pd7 : parseMethodDescriptor "(II)I" = some ⟨[.int, .int], some .int⟩ := by decide +kernel
theorem d33_0 : decode jdk_48_method_27_code 0 = .ok (.iload_n 0, 1) := by decide +kernel
theorem d33_1 : decode jdk_48_method_27_code 1 = .ok (.iload_n 1, 1) := by decide +kernel
theorem d33_2 : decode jdk_48_method_27_code 2 = .ok (.iload_n 2, 1) := by decide +kernel
theorem d33_3 : decode jdk_48_method_27_code 3 = .ok (.invokestatic 194, 3) := by decide +kernel
theorem d33_6 : decode jdk_48_method_27_code 6 = .ok (.iadd, 1) := by decide +kernel
theorem d33_7 : decode jdk_48_method_27_code 7 = .ok (.istore_n 3, 1) := by decide +kernel
theorem d33_8 : decode jdk_48_method_27_code 8 = .ok (.iconst 0, 1) := by decide +kernel
theorem d33_9 : decode jdk_48_method_27_code 9 = .ok (.iload_n 3, 1) := by decide +kernel
theorem d33_10 : decode jdk_48_method_27_code 10 = .ok (.if_icmp .ge 11, 3) := by decide +kernel
theorem d33_13 : decode jdk_48_method_27_code 13 = .ok (.iload_n 3, 1) := by decide +kernel
theorem d33_14 : decode jdk_48_method_27_code 14 = .ok (.ldc 200, 2) := by decide +kernel
theorem d33_16 : decode jdk_48_method_27_code 16 = .ok (.if_icmp .gt 5, 3) := by decide +kernel
theorem d33_19 : decode jdk_48_method_27_code 19 = .ok (.iload_n 3, 1) := by decide +kernel
theorem d33_20 : decode jdk_48_method_27_code 20 = .ok (.ireturn, 1) := by decide +kernel
def Q_rmNewL (Z : State) (p1 : Int32) (h0 : Heap) (n0 : Nat) (v : Option Value) (h : Heap) (L : List Loc) : Prop := v = some (.int (34 : Int32)) ∧ Fr n0 L ∧ h = h0
theorem ef_rmNewL (m : MethodId) (x0 : Int32) (x1 : Int32) (x2 : Int32) : entryFrame m #[(.int x0), (.int x1), (.int x2)] 4 = mkF m 0 #[.val (.int x0), .val (.int x1), .val (.int x2), .unset] [] := by first | (simp [entryFrame, mkF, argsToLocals, Value.category]; done) | rfl
theorem pn_rmNewL : plainName "jdk/internal/util/ArraysSupport" = true := by first | (simp [plainName, overriddenIn]; done) | decide +kernel
set_option maxRecDepth 65536 in
set_option maxHeartbeats 40000000 in
theorem rmNewL (l : Launch) (Z : State) (a0 : Array Value) (hw : ∀ d ∈ tables_1, d.before a0 Z = true) (ws : List Jvm.Cond) (p1 : Int32) (h0 : Heap) (n0 : Nat) (Z0 : n0 ≤ h0.size) (hh0 : own_max p1 (18 : Int32) = (18 : Int32)) :
    MetFree l (⟨"jdk/internal/util/ArraysSupport", "newLength", "(III)I"⟩ : MethodName) (head1 (Jvm.Cond.code (⟨"jdk/internal/util/ArraysSupport", "newLength", "(III)I"⟩ : MethodName) jdk_48_method_27_code 4 (some .int) :: ws) ({ frames := 1, cells := 0, slots := 0, locals := 14 } : Room)) (fun a U => a = #[(.int (16 : Int32)), (.int p1), (.int (18 : Int32))] ∧ Z.Warmed39 U.vm ∧ U.heap = h0) (fun _ _ _ _ _ => True) (fun _ U o U' => ∃ v L, o = .returned v ∧ Q_rmNewL Z p1 h0 n0 v U'.heap L ∧ FrameEnd U o U' L ({ frames := 1, cells := 0, slots := 0, locals := 14 } : Room).cells ({ frames := 1, cells := 0, slots := 0, locals := 14 } : Room).slots) := by
  refine MetFree.of_bodySF (plainFor_of_name pn_rmNewL) hisR ?_
  intro p e s m args below meth c s₁ Bd hml0 hP hK
  obtain ⟨rfl, hZ, hh⟩ := hP
  have hx := Bd.exec
  have hby := Bd.bytes
  have hml : c.maxLocals = 4 := hml0
  have hown : s.vm.findClass "jdk/internal/util/ArraysSupport" = some m.cls := findClass_of_methodNamed Bd.named
  have hnm := (name_of_methodNamed Bd.named Bd.method).1
  have hlk : meth.locks = false := BodyLoose.notSynchronized Bd
  have X0 : Stand p l e ({ frames := 1, cells := 0, slots := 0, locals := 14 } : Room) s m #[(.int (16 : Int32)), (.int p1), (.int (18 : Int32))] below meth c s₁ [] 0 0 := Stand.of_body Bd
  have e0 : s₁.heap = h0 := by rw [← hh, Bd.state]; rfl
  have N0 := Fr.nil n0
  show own_W p e below s (Q_rmNewL Z p1 h0 n0) 0 0 s₁ (entryFrame m #[(.int (16 : Int32)), (.int p1), (.int (18 : Int32))] 4)
  skip
  skip
  refine own_go (T' := s₁) (g' := (mkF m 0 #[oi 16, oi p1, oi 18, .unset] [])) (fun _ k => castTop (ef_rmNewL m (16 : Int32) p1 (18 : Int32)) k) ?_
  refine own_g s₁ (mkF m 3 #[oi 16, oi p1, oi 18, .unset] [(.int (18 : Int32)), (.int p1), (.int (16 : Int32))]) (fun _ k => XS.iloadN X0.here hx rfl (hb hby d33_0) rfl (XS.iloadN X0.here hx rfl (hb hby d33_1) rfl (XS.iloadN X0.here hx rfl (hb hby d33_2) rfl k))) ?_
  obtain ⟨_, _, ⟨T1, L1, k1, n1⟩, -, X1, ⟨Lc1, hQ1, l1, y1, z1⟩, st1⟩ := Jvm.LawKit.callS X0 hx (y := (⟨"java/lang/Math", "max", "(II)I"⟩ : MethodName)) hown (mvT hZ (own_w hw 182 rfl)) (mvT hZ (own_w hw 183 rfl)) (mvT hZ (own_w hw 164 rfl)) (mvT hZ (own_w hw 184 rfl)) (by decide) (backOf (W := 1) (rmMax l Z a0 hw [] p1 (18 : Int32) h0 n0 Z0 ) hZ (own_w hw 184 rfl) (own_w hw 164 rfl) (by decide) (by decide)) (g := (mkF m 3 #[oi 16, oi p1, oi 18, .unset] [(.int (18 : Int32)), (.int p1), (.int (16 : Int32))])) rfl (by rw [hml]; rfl) (argsL := [(.int p1), (.int (18 : Int32))]) (rest := [(.int (16 : Int32))]) (lenOf own_pd7 rfl) rfl (Nat.le_of_eq rfl) (hb hby d33_3) (fun _ _ => ⟨rfl, e0, (by decide : 0 + 0 ≤ _), (by decide : 0 + 0 ≤ _)⟩)
  dsimp only [Pt.U, Pt.locs, Pt.cells, Pt.slots] at X1 l1 y1 z1 st1 hQ1
  subst l1 y1 z1
  obtain ⟨rfl, N1q, e1⟩ := hQ1
  have N1 := Fr.app N0 N1q
  obtain ⟨Lv1, X1, N1⟩ := own_hide X1 (Nat.le_refl 0) (Nat.le_refl 0) N1
  refine own_g T1 (mkF m 16 #[oi 16, oi p1, oi 18, .val (.int ((16 : Int32) + (own_max p1 (18 : Int32))))] [(.int (2147483639 : Int32)), (.int ((16 : Int32) + (own_max p1 (18 : Int32))))]) (fun _ k => st1 _ (XS.iadd X1.here hx rfl (hb hby d33_6) rfl (XS.istoreN X1.here hx rfl (hb hby d33_7) rfl (l' := #[oi 16, oi p1, oi 18, .val (.int ((16 : Int32) + (own_max p1 (18 : Int32))))]) rfl (XS.iconst X1.here hx rfl (hb hby d33_8) (XS.iloadN X1.here hx rfl (hb hby d33_9) rfl (XS.icmpNo X1.here hx rfl (hb hby d33_10) rfl (XT.ii_ge_f (by rw [hh0]; decide)) (XS.iloadN X1.here hx rfl (hb hby d33_13) rfl (X1.ldcInt hx hown (mvT hZ (own_w hw 185 rfl)) (g := (mkF m 14 #[oi 16, oi p1, oi 18, .val (.int ((16 : Int32) + (own_max p1 (18 : Int32))))] [(.int ((16 : Int32) + (own_max p1 (18 : Int32))))])) rfl (hb hby d33_14) _ k)))))))) ?_
  refine own_g T1 (mkF m 20 #[oi 16, oi p1, oi 18, .val (.int ((16 : Int32) + (own_max p1 (18 : Int32))))] [(.int ((16 : Int32) + (own_max p1 (18 : Int32))))]) (fun _ k => XS.icmpNo X1.here hx rfl (hb hby d33_16) rfl (XT.ii_gt_f (by rw [hh0]; decide)) (XS.iloadN X1.here hx rfl (hb hby d33_19) rfl k)) ?_
  exact own_ret X1 hx Bd.returns hlk rfl (Or.inl ⟨rfl, Or.inl rfl, _, rfl⟩) (hb hby d33_20) e1 ⟨(by rw [hh0]; rfl), N1, rfl⟩ (by decide) (by decide)
theorem own_pd8 : parseMethodDescriptor "(III)I" = some ⟨[.int, .int, .int], some .int⟩ := by decide +kernel
theorem d32_0 : decode jdk_68_method_10_code 0 = .ok (.aload_n 0, 1) := by decide +kernel
theorem d32_1 : decode jdk_68_method_10_code 1 = .ok (.getfield 15, 3) := by decide +kernel
theorem d32_4 : decode jdk_68_method_10_code 4 = .ok (.arraylength, 1) := by decide +kernel
theorem d32_5 : decode jdk_68_method_10_code 5 = .ok (.istore_n 2, 1) := by decide +kernel
theorem d32_6 : decode jdk_68_method_10_code 6 = .ok (.iload_n 1, 1) := by decide +kernel
theorem d32_7 : decode jdk_68_method_10_code 7 = .ok (.aload_n 0, 1) := by decide +kernel
theorem d32_8 : decode jdk_68_method_10_code 8 = .ok (.getfield 22, 3) := by decide +kernel
theorem d32_11 : decode jdk_68_method_10_code 11 = .ok (.ishl, 1) := by decide +kernel
theorem d32_12 : decode jdk_68_method_10_code 12 = .ok (.istore_n 3, 1) := by decide +kernel
theorem d32_13 : decode jdk_68_method_10_code 13 = .ok (.iload_n 3, 1) := by decide +kernel
theorem d32_14 : decode jdk_68_method_10_code 14 = .ok (.iload_n 2, 1) := by decide +kernel
theorem d32_15 : decode jdk_68_method_10_code 15 = .ok (.isub, 1) := by decide +kernel
theorem d32_16 : decode jdk_68_method_10_code 16 = .ok (.istore 4, 2) := by decide +kernel
theorem d32_18 : decode jdk_68_method_10_code 18 = .ok (.iload_n 2, 1) := by decide +kernel
theorem d32_19 : decode jdk_68_method_10_code 19 = .ok (.iload 4, 2) := by decide +kernel
theorem d32_21 : decode jdk_68_method_10_code 21 = .ok (.iload_n 2, 1) := by decide +kernel
theorem d32_22 : decode jdk_68_method_10_code 22 = .ok (.iconst 2, 1) := by decide +kernel
theorem d32_23 : decode jdk_68_method_10_code 23 = .ok (.aload_n 0, 1) := by decide +kernel
theorem d32_24 : decode jdk_68_method_10_code 24 = .ok (.getfield 22, 3) := by decide +kernel
theorem d32_27 : decode jdk_68_method_10_code 27 = .ok (.ishl, 1) := by decide +kernel
theorem d32_28 : decode jdk_68_method_10_code 28 = .ok (.iadd, 1) := by decide +kernel
theorem d32_29 : decode jdk_68_method_10_code 29 = .ok (.invokestatic 114, 3) := by decide +kernel
theorem d32_32 : decode jdk_68_method_10_code 32 = .ok (.istore 5, 2) := by decide +kernel
theorem d32_34 : decode jdk_68_method_10_code 34 = .ok (.iload 5, 2) := by decide +kernel
theorem d32_36 : decode jdk_68_method_10_code 36 = .ok (.ldc 39, 2) := by decide +kernel
theorem d32_38 : decode jdk_68_method_10_code 38 = .ok (.if_icmp .ne 13, 3) := by decide +kernel
theorem d32_51 : decode jdk_68_method_10_code 51 = .ok (.iload 5, 2) := by decide +kernel
theorem d32_53 : decode jdk_68_method_10_code 53 = .ok (.aload_n 0, 1) := by decide +kernel
theorem d32_54 : decode jdk_68_method_10_code 54 = .ok (.getfield 22, 3) := by decide +kernel
theorem d32_57 : decode jdk_68_method_10_code 57 = .ok (.ishr, 1) := by decide +kernel
theorem d32_58 : decode jdk_68_method_10_code 58 = .ok (.ireturn, 1) := by decide +kernel
def Q_rmNewC (Z : State) (r0 : Addr) (p1 : Int32) (da : Addr) (kb : ClassId) (vs : List Value) (h0 : Heap) (n0 : Nat) (v : Option Value) (h : Heap) (L : List Loc) : Prop := v = some (.int (34 : Int32)) ∧ Fr n0 L ∧ h = h0
theorem ef_rmNewC (m : MethodId) (x0 : Addr) (x1 : Int32) : entryFrame m #[(.ref x0), (.int x1)] 6 = mkF m 0 #[.val (.ref x0), .val (.int x1), .unset, .unset, .unset, .unset] [] := by first | (simp [entryFrame, mkF, argsToLocals, Value.category]; done) | rfl
theorem pn_rmNewC : plainName "java/lang/AbstractStringBuilder" = true := by first | (simp [plainName, overriddenIn]; done) | decide +kernel
set_option maxRecDepth 65536 in
set_option maxHeartbeats 40000000 in
theorem rmNewC (l : Launch) (Z : State) (a0 : Array Value) (hw : ∀ d ∈ tables_1, d.before a0 Z = true) (ws : List Jvm.Cond) (r0 : Addr) (p1 : Int32) (da : Addr) (kb : ClassId) (vs : List Value) (h0 : Heap) (n0 : Nat) (Z0 : n0 ≤ h0.size) (hp0 : Exa Z h0 r0 "java/lang/StringBuilder") (hp1 : Fld Z h0 r0 "java/lang/AbstractStringBuilder" "value" "[B" (.ref da)) (hp2 : Fld Z h0 r0 "java/lang/AbstractStringBuilder" "coder" "B" (.int (0 : Int32))) (hp3 : Arv Z h0 da kb .byte (16 : Int32) vs (.int (0 : Int32))) (hh0 : own_max ((p1 <<< ((0 : Int32) &&& 31)) - (16 : Int32)) (18 : Int32) = (18 : Int32)) :
    MetFree l (⟨"java/lang/AbstractStringBuilder", "newCapacity", "(I)I"⟩ : MethodName) (head1 (Jvm.Cond.code (⟨"java/lang/AbstractStringBuilder", "newCapacity", "(I)I"⟩ : MethodName) jdk_68_method_10_code 6 (some .int) :: ws) ({ frames := 2, cells := 0, slots := 0, locals := 29 } : Room)) (fun a U => a = #[(.ref r0), (.int p1)] ∧ Z.Warmed39 U.vm ∧ U.heap = h0) (fun _ _ _ _ _ => True) (fun _ U o U' => ∃ v L, o = .returned v ∧ Q_rmNewC Z r0 p1 da kb vs h0 n0 v U'.heap L ∧ FrameEnd U o U' L ({ frames := 2, cells := 0, slots := 0, locals := 29 } : Room).cells ({ frames := 2, cells := 0, slots := 0, locals := 29 } : Room).slots) := by
  refine MetFree.of_bodySF (plainFor_of_name pn_rmNewC) hisR ?_
  intro p e s m args below meth c s₁ Bd hml0 hP hK
  obtain ⟨rfl, hZ, hh⟩ := hP
  have hx := Bd.exec
  have hby := Bd.bytes
  have hml : c.maxLocals = 6 := hml0
  have hown : s.vm.findClass "java/lang/AbstractStringBuilder" = some m.cls := findClass_of_methodNamed Bd.named
  have hnm := (name_of_methodNamed Bd.named Bd.method).1
  have hlk : meth.locks = false := BodyLoose.notSynchronized Bd
  have X0 : Stand p l e ({ frames := 2, cells := 0, slots := 0, locals := 29 } : Room) s m #[(.ref r0), (.int p1)] below meth c s₁ [] 0 0 := Stand.of_body Bd
  have e0 : s₁.heap = h0 := by rw [← hh, Bd.state]; rfl
  have N0 := Fr.nil n0
  show own_W p e below s (Q_rmNewC Z r0 p1 da kb vs h0 n0) 0 0 s₁ (entryFrame m #[(.ref r0), (.int p1)] 6)
  skip
  skip
  refine own_go (T' := s₁) (g' := (mkF m 0 #[oa r0, oi p1, .unset, .unset, .unset, .unset] [])) (fun _ k => castTop (ef_rmNewC m r0 p1) k) ?_
  refine own_g s₁ (mkF m 1 #[oa r0, oi p1, .unset, .unset, .unset, .unset] [(.ref r0)]) (fun _ k => XS.aloadN X0.here hx rfl (hb hby d32_0) rfl rfl k) ?_
  obtain ⟨T1, X1, e1, st1⟩ := getF X0 hx hZ hown (host := "") (Or.inl (own_w hw 67 rfl)) Via.refl e0 hp1 (g := (mkF m 1 #[oa r0, oi p1, .unset, .unset, .unset, .unset] [(.ref r0)])) rfl rfl (hb hby d32_1)
  refine own_g T1 (mkF m 4 #[oa r0, oi p1, .unset, .unset, .unset, .unset] [(.ref da)]) (fun _ k => st1 _ k) ?_
  obtain ⟨cl2, Ar2, q12, q22, q32, H2, G2⟩ := id hp3
  have st2 := X1.arraylength hx (by rw [e1]; exact Ar2.1) (State.isArrayOf_alike hZ.alike Ar2.2.1) (g := (mkF m 4 #[oa r0, oi p1, .unset, .unset, .unset, .unset] [(.ref da)])) rfl rfl (hb hby d32_4)
  rw [len_of q22 q32] at st2
  refine own_g T1 (mkF m 8 #[oa r0, oi p1, oi 16, .unset, .unset, .unset] [(.ref r0), (.int p1)]) (fun _ k => st2 _ (XS.istoreN X1.here hx rfl (hb hby d32_5) rfl (l' := #[oa r0, oi p1, oi 16, .unset, .unset, .unset]) rfl (XS.iloadN X1.here hx rfl (hb hby d32_6) rfl (XS.aloadN X1.here hx rfl (hb hby d32_7) rfl rfl k)))) ?_
  obtain ⟨T3, X3, e3, st3⟩ := getF X1 hx hZ hown (host := "") (Or.inl (own_w hw 69 rfl)) Via.refl e1 hp2 (g := (mkF m 8 #[oa r0, oi p1, oi 16, .unset, .unset, .unset] [(.ref r0), (.int p1)])) rfl rfl (hb hby d32_8)
  refine own_g T3 (mkF m 19 #[oa r0, oi p1, oi 16, .val (.int (p1 <<< ((0 : Int32) &&& 31))), .val (.int ((p1 <<< ((0 : Int32) &&& 31)) - (16 : Int32))), .unset] [(.int (16 : Int32))]) (fun _ k => st3 _ (XS.ishl X3.here hx rfl (hb hby d32_11) rfl (XS.istoreN X3.here hx rfl (hb hby d32_12) rfl (l' := #[oa r0, oi p1, oi 16, .val (.int (p1 <<< ((0 : Int32) &&& 31))), .unset, .unset]) rfl (XS.iloadN X3.here hx rfl (hb hby d32_13) rfl (XS.iloadN X3.here hx rfl (hb hby d32_14) rfl (XS.isub X3.here hx rfl (hb hby d32_15) rfl (XS.istore X3.here hx rfl (hb hby d32_16) rfl (l' := #[oa r0, oi p1, oi 16, .val (.int (p1 <<< ((0 : Int32) &&& 31))), .val (.int ((p1 <<< ((0 : Int32) &&& 31)) - (16 : Int32))), .unset]) rfl (XS.iloadN X3.here hx rfl (hb hby d32_18) rfl k)))))))) ?_
  refine own_g T3 (mkF m 24 #[oa r0, oi p1, oi 16, .val (.int (p1 <<< ((0 : Int32) &&& 31))), .val (.int ((p1 <<< ((0 : Int32) &&& 31)) - (16 : Int32))), .unset] [(.ref r0), (.int (2 : Int32)), (.int (16 : Int32)), (.int ((p1 <<< ((0 : Int32) &&& 31)) - (16 : Int32))), (.int (16 : Int32))]) (fun _ k => XS.iload X3.here hx rfl (hb hby d32_19) rfl (XS.iloadN X3.here hx rfl (hb hby d32_21) rfl (XS.iconst X3.here hx rfl (hb hby d32_22) (XS.aloadN X3.here hx rfl (hb hby d32_23) rfl rfl k)))) ?_
  obtain ⟨T4, X4, e4, st4⟩ := getF X3 hx hZ hown (host := "") (Or.inl (own_w hw 69 rfl)) Via.refl e3 hp2 (g := (mkF m 24 #[oa r0, oi p1, oi 16, .val (.int (p1 <<< ((0 : Int32) &&& 31))), .val (.int ((p1 <<< ((0 : Int32) &&& 31)) - (16 : Int32))), .unset] [(.ref r0), (.int (2 : Int32)), (.int (16 : Int32)), (.int ((p1 <<< ((0 : Int32) &&& 31)) - (16 : Int32))), (.int (16 : Int32))])) rfl rfl (hb hby d32_24)
  refine own_g T4 (mkF m 29 #[oa r0, oi p1, oi 16, .val (.int (p1 <<< ((0 : Int32) &&& 31))), .val (.int ((p1 <<< ((0 : Int32) &&& 31)) - (16 : Int32))), .unset] [(.int (18 : Int32)), (.int ((p1 <<< ((0 : Int32) &&& 31)) - (16 : Int32))), (.int (16 : Int32))]) (fun _ k => st4 _ (XS.ishl X4.here hx rfl (hb hby d32_27) rfl (XS.iadd X4.here hx rfl (hb hby d32_28) rfl k))) ?_
  obtain ⟨_, _, ⟨T5, L5, k5, n5⟩, -, X5, ⟨Lc5, hQ5, l5, y5, z5⟩, st5⟩ := Jvm.LawKit.callS X4 hx (y := (⟨"jdk/internal/util/ArraysSupport", "newLength", "(III)I"⟩ : MethodName)) hown (mvT hZ (own_w hw 178 rfl)) (mvT hZ (own_w hw 179 rfl)) (mvT hZ (own_w hw 180 rfl)) (mvT hZ (own_w hw 181 rfl)) (by decide) (backOf (W := 0) (rmNewL l Z a0 hw [] ((p1 <<< ((0 : Int32) &&& 31)) - (16 : Int32)) h0 n0 Z0 hh0) hZ (own_w hw 181 rfl) (own_w hw 180 rfl) (by decide) (by decide)) (g := (mkF m 29 #[oa r0, oi p1, oi 16, .val (.int (p1 <<< ((0 : Int32) &&& 31))), .val (.int ((p1 <<< ((0 : Int32) &&& 31)) - (16 : Int32))), .unset] [(.int (18 : Int32)), (.int ((p1 <<< ((0 : Int32) &&& 31)) - (16 : Int32))), (.int (16 : Int32))])) rfl (by rw [hml]; rfl) (argsL := [(.int (16 : Int32)), (.int ((p1 <<< ((0 : Int32) &&& 31)) - (16 : Int32))), (.int (18 : Int32))]) (rest := []) (lenOf own_pd8 rfl) rfl (Nat.le_of_eq rfl) (hb hby d32_29) (fun _ _ => ⟨rfl, e4, (by decide : 0 + 0 ≤ _), (by decide : 0 + 0 ≤ _)⟩)
  dsimp only [Pt.U, Pt.locs, Pt.cells, Pt.slots] at X5 l5 y5 z5 st5 hQ5
  subst l5 y5 z5
  obtain ⟨rfl, N5q, e5⟩ := hQ5
  have N5 := Fr.app N0 N5q
  obtain ⟨Lv5, X5, N5⟩ := own_hide X5 (Nat.le_refl 0) (Nat.le_refl 0) N5
  refine own_g T5 (mkF m 54 #[oa r0, oi p1, oi 16, .val (.int (p1 <<< ((0 : Int32) &&& 31))), .val (.int ((p1 <<< ((0 : Int32) &&& 31)) - (16 : Int32))), oi 34] [(.ref r0), (.int (34 : Int32))]) (fun _ k => st5 _ (XS.istore X5.here hx rfl (hb hby d32_32) rfl (l' := #[oa r0, oi p1, oi 16, .val (.int (p1 <<< ((0 : Int32) &&& 31))), .val (.int ((p1 <<< ((0 : Int32) &&& 31)) - (16 : Int32))), oi 34]) rfl (XS.iload X5.here hx rfl (hb hby d32_34) rfl (X5.ldcInt hx hown (mvT hZ (own_w hw 186 rfl)) (g := (mkF m 36 #[oa r0, oi p1, oi 16, .val (.int (p1 <<< ((0 : Int32) &&& 31))), .val (.int ((p1 <<< ((0 : Int32) &&& 31)) - (16 : Int32))), oi 34] [(.int (34 : Int32))])) rfl (hb hby d32_36) _ (XS.icmpYes X5.here hx rfl (pc0 := 38) (pc' := 51) rfl (hb hby d32_38) rfl (XT.ii_ne_t (by decide : ¬ ((34 : Int32) = (2147483647 : Int32)))) (by decide) (by decide) (XS.iload X5.here hx rfl (hb hby d32_51) rfl (XS.aloadN X5.here hx rfl (hb hby d32_53) rfl rfl k))))))) ?_
  obtain ⟨T6, X6, e6, st6⟩ := getF X5 hx hZ hown (host := "") (Or.inl (own_w hw 69 rfl)) Via.refl e5 hp2 (g := (mkF m 54 #[oa r0, oi p1, oi 16, .val (.int (p1 <<< ((0 : Int32) &&& 31))), .val (.int ((p1 <<< ((0 : Int32) &&& 31)) - (16 : Int32))), oi 34] [(.ref r0), (.int (34 : Int32))])) rfl rfl (hb hby d32_54)
  refine own_g T6 (mkF m 58 #[oa r0, oi p1, oi 16, .val (.int (p1 <<< ((0 : Int32) &&& 31))), .val (.int ((p1 <<< ((0 : Int32) &&& 31)) - (16 : Int32))), oi 34] [(.int (34 : Int32))]) (fun _ k => st6 _ (XS.ishr X6.here hx rfl (hb hby d32_57) rfl k)) ?_
  exact own_ret X6 hx Bd.returns hlk rfl (Or.inl ⟨rfl, Or.inl rfl, _, rfl⟩) (hb hby d32_58) e6 ⟨rfl, N5, rfl⟩ (by decide) (by decide)
theorem d35_0 : decode jdk_65_method_121_code 0 = .ok (.iload_n 1, 1) := by decide +kernel
theorem d35_1 : decode jdk_65_method_121_code 1 = .ok (.aload_n 0, 1) := by decide +kernel
theorem d35_2 : decode jdk_65_method_121_code 2 = .ok (.arraylength, 1) := by decide +kernel
theorem d35_3 : decode jdk_65_method_121_code 3 = .ok (.if_icmp .ne 11, 3) := by decide +kernel
theorem d35_14 : decode jdk_65_method_121_code 14 = .ok (.iload_n 1, 1) := by decide +kernel
theorem d35_15 : decode jdk_65_method_121_code 15 = .ok (.newarray .byte, 2) := by decide +kernel
theorem d35_17 : decode jdk_65_method_121_code 17 = .ok (.astore_n 2, 1) := by decide +kernel
theorem d35_18 : decode jdk_65_method_121_code 18 = .ok (.aload_n 0, 1) := by decide +kernel
theorem d35_19 : decode jdk_65_method_121_code 19 = .ok (.iconst 0, 1) := by decide +kernel
theorem d35_20 : decode jdk_65_method_121_code 20 = .ok (.aload_n 2, 1) := by decide +kernel
theorem d35_21 : decode jdk_65_method_121_code 21 = .ok (.iconst 0, 1) := by decide +kernel
theorem d35_22 : decode jdk_65_method_121_code 22 = .ok (.aload_n 0, 1) := by decide +kernel
theorem d35_23 : decode jdk_65_method_121_code 23 = .ok (.arraylength, 1) := by decide +kernel
theorem d35_24 : decode jdk_65_method_121_code 24 = .ok (.iload_n 1, 1) := by decide +kernel
theorem d35_25 : decode jdk_65_method_121_code 25 = .ok (.invokestatic 304, 3) := by decide +kernel
theorem d35_28 : decode jdk_65_method_121_code 28 = .ok (.invokestatic 150, 3) := by decide +kernel
theorem d35_31 : decode jdk_65_method_121_code 31 = .ok (.aload_n 2, 1) := by decide +kernel
theorem d35_32 : decode jdk_65_method_121_code 32 = .ok (.areturn, 1) := by decide +kernel
def Q_rmCopyOf (Z : State) (r0 : Addr) (kb : ClassId) (vs : List Value) (h0 : Heap) (n0 : Nat) (v : Option Value) (h : Heap) (L : List Loc) : Prop := ∃ (xb : Addr) (xk : ClassId), v = some (.ref xb) ∧ Fr n0 L ∧ Keep h0 h [] ∧ h0.size ≤ xb ∧ Arv Z h xb xk .byte (34 : Int32) (vs ++ List.replicate 18 (.int (0 : Int32)) : List Value) (.int (0 : Int32))
theorem ef_rmCopyOf (m : MethodId) (x0 : Addr) (x1 : Int32) : entryFrame m #[(.ref x0), (.int x1)] 3 = mkF m 0 #[.val (.ref x0), .val (.int x1), .unset] [] := by first | (simp [entryFrame, mkF, argsToLocals, Value.category]; done) | rfl
theorem pn_rmCopyOf : plainName "java/util/Arrays" = true := by first | (simp [plainName, overriddenIn]; done) | decide +kernel
set_option maxRecDepth 65536 in
set_option maxHeartbeats 40000000 in
theorem rmCopyOf (l : Launch) (Z : State) (a0 : Array Value) (hw : ∀ d ∈ tables_1, d.before a0 Z = true) (ws : List Jvm.Cond) (r0 : Addr) (kb : ClassId) (vs : List Value) (h0 : Heap) (n0 : Nat) (Z0 : n0 ≤ h0.size) (hp0 : Arv Z h0 r0 kb .byte (16 : Int32) vs (.int (0 : Int32))) (hh0 : vs.length = 16) :
    MetFree l (⟨"java/util/Arrays", "copyOf", "([BI)[B"⟩ : MethodName) (head1 (Jvm.Cond.code (⟨"java/util/Arrays", "copyOf", "([BI)[B"⟩ : MethodName) jdk_65_method_121_code 3 (some (.array .byte)) :: ws) ({ frames := 1, cells := 1, slots := 34, locals := 18 } : Room)) (fun a U => a = #[(.ref r0), (.int (34 : Int32))] ∧ Z.Warmed39 U.vm ∧ U.heap = h0) (fun _ _ _ _ _ => True) (fun _ U o U' => ∃ v L, o = .returned v ∧ Q_rmCopyOf Z r0 kb vs h0 n0 v U'.heap L ∧ FrameEnd U o U' L ({ frames := 1, cells := 1, slots := 34, locals := 18 } : Room).cells ({ frames := 1, cells := 1, slots := 34, locals := 18 } : Room).slots) := by
  refine MetFree.of_bodySF (plainFor_of_name pn_rmCopyOf) hisR ?_
  intro p e s m args below meth c s₁ Bd hml0 hP hK
  obtain ⟨rfl, hZ, hh⟩ := hP
  have hx := Bd.exec
  have hby := Bd.bytes
  have hml : c.maxLocals = 3 := hml0
  have hown : s.vm.findClass "java/util/Arrays" = some m.cls := findClass_of_methodNamed Bd.named
  have hnm := (name_of_methodNamed Bd.named Bd.method).1
  have hlk : meth.locks = false := BodyLoose.notSynchronized Bd
  have X0 : Stand p l e ({ frames := 1, cells := 1, slots := 34, locals := 18 } : Room) s m #[(.ref r0), (.int (34 : Int32))] below meth c s₁ [] 0 0 := Stand.of_body Bd
  have e0 : s₁.heap = h0 := by rw [← hh, Bd.state]; rfl
  have N0 := Fr.nil n0
  show own_W p e below s (Q_rmCopyOf Z r0 kb vs h0 n0) 1 34 s₁ (entryFrame m #[(.ref r0), (.int (34 : Int32))] 3)
  skip
  skip
  refine own_go (T' := s₁) (g' := (mkF m 0 #[oa r0, oi 34, .unset] [])) (fun _ k => castTop (ef_rmCopyOf m r0 (34 : Int32)) k) ?_
  refine own_g s₁ (mkF m 2 #[oa r0, oi 34, .unset] [(.ref r0), (.int (34 : Int32))]) (fun _ k => XS.iloadN X0.here hx rfl (hb hby d35_0) rfl (XS.aloadN X0.here hx rfl (hb hby d35_1) rfl rfl k)) ?_
  obtain ⟨cl1, Ar1, q11, q21, q31, H1, G1⟩ := id hp0
  have st1 := X0.arraylength hx (by rw [e0]; exact Ar1.1) (State.isArrayOf_alike hZ.alike Ar1.2.1) (g := (mkF m 2 #[oa r0, oi 34, .unset] [(.ref r0), (.int (34 : Int32))])) rfl rfl (hb hby d35_2)
  rw [len_of q21 q31] at st1
  refine own_g s₁ (mkF m 15 #[oa r0, oi 34, .unset] [(.int (34 : Int32))]) (fun _ k => st1 _ (XS.icmpYes X0.here hx rfl (pc0 := 3) (pc' := 14) rfl (hb hby d35_3) rfl (XT.ii_ne_t (by decide : ¬ ((34 : Int32) = (16 : Int32)))) (by decide) (by decide) (XS.iloadN X0.here hx rfl (hb hby d35_14) rfl k))) ?_
  obtain ⟨T2, h2, k2, X2, e2, E2, A2, st2⟩ := newP X0 hx hZ (own_w hw 18 rfl) e0 (g := (mkF m 15 #[oa r0, oi 34, .unset] [(.int (34 : Int32))])) rfl (hb hby d35_15) rfl (by decide) (cap := 34) (by decide) (by decide) (by decide) (by decide)
  obtain ⟨b2, g2⟩ : ∃ z, z = h0.size := ⟨_, rfl⟩
  have ne3 : r0 ≠ b2 := Nat.ne_of_lt (Nat.lt_of_lt_of_le hp0.lt (Nat.le_of_eq g2.symm))
  rw [← g2] at A2 st2
  have f4 := (hp0.ext E2)
  have V2 : Arv Z h2 b2 k2 .byte (34 : Int32) [(.int (0 : Int32)), (.int (0 : Int32)), (.int (0 : Int32)), (.int (0 : Int32)), (.int (0 : Int32)), (.int (0 : Int32)), (.int (0 : Int32)), (.int (0 : Int32)), (.int (0 : Int32)), (.int (0 : Int32)), (.int (0 : Int32)), (.int (0 : Int32)), (.int (0 : Int32)), (.int (0 : Int32)), (.int (0 : Int32)), (.int (0 : Int32)), (.int (0 : Int32)), (.int (0 : Int32)), (.int (0 : Int32)), (.int (0 : Int32)), (.int (0 : Int32)), (.int (0 : Int32)), (.int (0 : Int32)), (.int (0 : Int32)), (.int (0 : Int32)), (.int (0 : Int32)), (.int (0 : Int32)), (.int (0 : Int32)), (.int (0 : Int32)), (.int (0 : Int32)), (.int (0 : Int32)), (.int (0 : Int32)), (.int (0 : Int32)), (.int (0 : Int32))] (.int (0 : Int32)) := (Arv.new A2 (by decide)).pad (pad_rep [] (.int (0 : Int32)) 34)
  have ge2 : n0 ≤ b2 := Nat.le_trans Z0 (Nat.le_of_eq g2.symm)
  have sz2 : h0.size ≤ b2 := Nat.le_trans (Keep.refl h0 []).1 (Nat.le_of_eq g2.symm)
  have kk2 : Keep h0 h2 [] := (Keep.refl h0 []).ext E2
  have zs2 : n0 ≤ h2.size := Nat.le_trans Z0 E2.1
  refine own_g T2 (mkF m 23 #[oa r0, oi 34, oa b2] [(.ref r0), (.int (0 : Int32)), (.ref b2), (.int (0 : Int32)), (.ref r0)]) (fun _ k => st2 _ (XS.astoreN X2.here hx rfl (hb hby d35_17) rfl rfl (l' := #[oa r0, oi 34, oa b2]) rfl (XS.aloadN X2.here hx rfl (hb hby d35_18) rfl rfl (XS.iconst X2.here hx rfl (hb hby d35_19) (XS.aloadN X2.here hx rfl (hb hby d35_20) rfl rfl (XS.iconst X2.here hx rfl (hb hby d35_21) (XS.aloadN X2.here hx rfl (hb hby d35_22) rfl rfl k))))))) ?_
  obtain ⟨cl5, Ar5, q15, q25, q35, H5, G5⟩ := id f4
  have st5 := X2.arraylength hx (by rw [e2]; exact Ar5.1) (State.isArrayOf_alike hZ.alike Ar5.2.1) (g := (mkF m 23 #[oa r0, oi 34, oa b2] [(.ref r0), (.int (0 : Int32)), (.ref b2), (.int (0 : Int32)), (.ref r0)])) rfl rfl (hb hby d35_23)
  rw [len_of q25 q35] at st5
  refine own_g T2 (mkF m 25 #[oa r0, oi 34, oa b2] [(.int (34 : Int32)), (.int (16 : Int32)), (.int (0 : Int32)), (.ref b2), (.int (0 : Int32)), (.ref r0)]) (fun _ k => st5 _ (XS.iloadN X2.here hx rfl (hb hby d35_24) rfl k)) ?_
  obtain ⟨_, _, ⟨T6, L6, k6, n6⟩, -, X6, ⟨Lc6, hQ6, l6, y6, z6⟩, st6⟩ := Jvm.LawKit.callS X2 hx (y := (⟨"java/lang/Math", "min", "(II)I"⟩ : MethodName)) hown (mvT hZ (own_w hw 162 rfl)) (mvT hZ (own_w hw 163 rfl)) (mvT hZ (own_w hw 164 rfl)) (mvT hZ (own_w hw 165 rfl)) (by decide) (backOf (W := 4) (rmMin l Z a0 hw [] (16 : Int32) (34 : Int32) h2 n0 zs2 ) hZ (own_w hw 165 rfl) (own_w hw 164 rfl) (by decide) (by decide)) (g := (mkF m 25 #[oa r0, oi 34, oa b2] [(.int (34 : Int32)), (.int (16 : Int32)), (.int (0 : Int32)), (.ref b2), (.int (0 : Int32)), (.ref r0)])) rfl (by rw [hml]; rfl) (argsL := [(.int (16 : Int32)), (.int (34 : Int32))]) (rest := [(.int (0 : Int32)), (.ref b2), (.int (0 : Int32)), (.ref r0)]) (lenOf own_pd7 rfl) rfl (Nat.le_of_eq rfl) (hb hby d35_25) (fun _ _ => ⟨rfl, e2, (by decide : 1 + 0 ≤ _), (by decide : 34 + 0 ≤ _)⟩)
  dsimp only [Pt.U, Pt.locs, Pt.cells, Pt.slots] at X6 l6 y6 z6 st6 hQ6
  subst l6 y6 z6
  obtain ⟨rfl, N6q, e6⟩ := hQ6
  have N6 := Fr.app N0 N6q
  obtain ⟨Lv6, X6, N6⟩ := own_hide X6 (Nat.le_refl 1) (Nat.le_refl 34) N6
  refine own_g T6 (mkF m 28 #[oa r0, oi 34, oa b2] [(.int (own_min (16 : Int32) (34 : Int32))), (.int (0 : Int32)), (.ref b2), (.int (0 : Int32)), (.ref r0)]) (fun _ k => st6 _ k) ?_
  obtain ⟨T7, h7, L7, X7, e7, N7, K7, V7, st7⟩ := cpA X6 hx hZ hown (own_w hw 166 rfl) (own_w hw 120 rfl) (own_w hw 118 rfl) (own_w hw 119 rfl) e6 f4 V2 (Or.inl ⟨rfl, rfl⟩) (by decide) (by decide) (by unfold own_min; decide) (by show 0 + (own_min (16 : Int32) (34 : Int32)).toNatClampNeg ≤ _; unfold own_min; decide) (by show 0 + (own_min (16 : Int32) (34 : Int32)).toNatClampNeg ≤ _; unfold own_min; decide) (us := vs) (own_hus (n := 16) (by unfold own_min; decide) hh0) (by show 0 + (own_min (16 : Int32) (34 : Int32)).toNatClampNeg ≤ _; unfold own_min; decide) N6 ge2 (g := (mkF m 28 #[oa r0, oi 34, oa b2] [(.int (own_min (16 : Int32) (34 : Int32))), (.int (0 : Int32)), (.ref b2), (.int (0 : Int32)), (.ref r0)])) rfl (by rw [hml]; rfl) (rest := []) rfl (hb hby d35_28) (by decide) (W := 0) (Nat.le_of_eq rfl) (by decide)
  have f8 := (f4.keep K7 (ninS ne3 nin0))
  have W7 : Arv Z h7 b2 k2 .byte (34 : Int32) (vs ++ List.replicate 18 (.int (0 : Int32)) : List Value) (.int (0 : Int32)) := (by have q := V7; rw [show (own_min (16 : Int32) (34 : Int32)).toNatClampNeg = 16 from (by unfold own_min; decide)] at q; exact q)
  have zs7 : n0 ≤ h7.size := Nat.le_trans zs2 K7.1
  have kk7 : Keep h0 h7 [] := kk2.trans K7 (allS (Or.inr sz2) all0)
  refine own_g T7 (mkF m 32 #[oa r0, oi 34, oa b2] [(.ref b2)]) (fun _ k => st7 _ (XS.aloadN X7.here hx rfl (hb hby d35_31) rfl rfl k)) ?_
  exact own_ret X7 hx Bd.returns hlk rfl (Or.inr (Or.inr (Or.inr (Or.inr ⟨rfl, rfl, rfl⟩)))) (hb hby d35_32) e7 ⟨b2, k2, rfl, N7, kk7, sz2, W7⟩ (by decide) (by decide)
theorem d16_0 : decode jdk_68_method_9_code 0 = .ok (.aload_n 0, 1) := by decide +kernel
theorem d16_1 : decode jdk_68_method_9_code 1 = .ok (.getfield 15, 3) := by decide +kernel
theorem d16_4 : decode jdk_68_method_9_code 4 = .ok (.arraylength, 1) := by decide +kernel
theorem d16_5 : decode jdk_68_method_9_code 5 = .ok (.aload_n 0, 1) := by decide +kernel
theorem d16_6 : decode jdk_68_method_9_code 6 = .ok (.getfield 22, 3) := by decide +kernel
theorem d16_9 : decode jdk_68_method_9_code 9 = .ok (.ishr, 1) := by decide +kernel
theorem d16_10 : decode jdk_68_method_9_code 10 = .ok (.istore_n 2, 1) := by decide +kernel
theorem d16_11 : decode jdk_68_method_9_code 11 = .ok (.iload_n 1, 1) := by decide +kernel
theorem d16_12 : decode jdk_68_method_9_code 12 = .ok (.iload_n 2, 1) := by decide +kernel
theorem d16_13 : decode jdk_68_method_9_code 13 = .ok (.isub, 1) := by decide +kernel
theorem d16_14 : decode jdk_68_method_9_code 14 = .ok (.ifCond .le 24, 3) := by decide +kernel
theorem d16_38 : decode jdk_68_method_9_code 38 = .ok (.return_, 1) := by decide +kernel
def Q_rmEnsN (Z : State) (r0 : Addr) (p1 : Int32) (da : Addr) (kb : ClassId) (zc : Int32) (vs : List Value) (h0 : Heap) (n0 : Nat) (v : Option Value) (h : Heap) (L : List Loc) : Prop := v = none ∧ Fr n0 L ∧ h = h0
theorem ef_rmEnsN (m : MethodId) (x0 : Addr) (x1 : Int32) : entryFrame m #[(.ref x0), (.int x1)] 3 = mkF m 0 #[.val (.ref x0), .val (.int x1), .unset] [] := by first | (simp [entryFrame, mkF, argsToLocals, Value.category]; done) | rfl
theorem pn_rmEnsN : plainName "java/lang/AbstractStringBuilder" = true := by first | (simp [plainName, overriddenIn]; done) | decide +kernel
set_option maxRecDepth 65536 in
set_option maxHeartbeats 40000000 in
theorem rmEnsN (l : Launch) (Z : State) (a0 : Array Value) (hw : ∀ d ∈ tables_1, d.before a0 Z = true) (ws : List Jvm.Cond) (r0 : Addr) (p1 : Int32) (da : Addr) (kb : ClassId) (zc : Int32) (vs : List Value) (h0 : Heap) (n0 : Nat) (Z0 : n0 ≤ h0.size) (hp0 : Exa Z h0 r0 "java/lang/StringBuilder") (hp1 : Fld Z h0 r0 "java/lang/AbstractStringBuilder" "value" "[B" (.ref da)) (hp2 : Fld Z h0 r0 "java/lang/AbstractStringBuilder" "coder" "B" (.int (0 : Int32))) (hp3 : Arv Z h0 da kb .byte zc vs (.int (0 : Int32))) (hh0 : ¬ (0 : Int32) < (p1 - (zc >>> ((0 : Int32) &&& 31)))) :
    MetFree l (⟨"java/lang/AbstractStringBuilder", "ensureCapacityInternal", "(I)V"⟩ : MethodName) (head1 (Jvm.Cond.code (⟨"java/lang/AbstractStringBuilder", "ensureCapacityInternal", "(I)V"⟩ : MethodName) jdk_68_method_9_code 3 none :: ws) ({ frames := 0, cells := 0, slots := 0, locals := 0 } : Room)) (fun a U => a = #[(.ref r0), (.int p1)] ∧ Z.Warmed39 U.vm ∧ U.heap = h0) (fun _ _ _ _ _ => True) (fun _ U o U' => ∃ v L, o = .returned v ∧ Q_rmEnsN Z r0 p1 da kb zc vs h0 n0 v U'.heap L ∧ FrameEnd U o U' L ({ frames := 0, cells := 0, slots := 0, locals := 0 } : Room).cells ({ frames := 0, cells := 0, slots := 0, locals := 0 } : Room).slots) := by
  refine MetFree.of_bodySF (plainFor_of_name pn_rmEnsN) hisR ?_
  intro p e s m args below meth c s₁ Bd hml0 hP hK
  obtain ⟨rfl, hZ, hh⟩ := hP
  have hx := Bd.exec
  have hby := Bd.bytes
  have hml : c.maxLocals = 3 := hml0
  have hown : s.vm.findClass "java/lang/AbstractStringBuilder" = some m.cls := findClass_of_methodNamed Bd.named
  have hnm := (name_of_methodNamed Bd.named Bd.method).1
  have hlk : meth.locks = false := BodyLoose.notSynchronized Bd
  have X0 : Stand p l e ({ frames := 0, cells := 0, slots := 0, locals := 0 } : Room) s m #[(.ref r0), (.int p1)] below meth c s₁ [] 0 0 := Stand.of_body Bd
  have e0 : s₁.heap = h0 := by rw [← hh, Bd.state]; rfl
  have N0 := Fr.nil n0
  show own_W p e below s (Q_rmEnsN Z r0 p1 da kb zc vs h0 n0) 0 0 s₁ (entryFrame m #[(.ref r0), (.int p1)] 3)
  skip
  skip
  refine own_go (T' := s₁) (g' := (mkF m 0 #[oa r0, oi p1, .unset] [])) (fun _ k => castTop (ef_rmEnsN m r0 p1) k) ?_
  refine own_g s₁ (mkF m 1 #[oa r0, oi p1, .unset] [(.ref r0)]) (fun _ k => XS.aloadN X0.here hx rfl (hb hby d16_0) rfl rfl k) ?_
  obtain ⟨T1, X1, e1, st1⟩ := getF X0 hx hZ hown (host := "") (Or.inl (own_w hw 67 rfl)) Via.refl e0 hp1 (g := (mkF m 1 #[oa r0, oi p1, .unset] [(.ref r0)])) rfl rfl (hb hby d16_1)
  refine own_g T1 (mkF m 4 #[oa r0, oi p1, .unset] [(.ref da)]) (fun _ k => st1 _ k) ?_
  obtain ⟨cl2, Ar2, q12, q22, q32, H2, G2⟩ := id hp3
  have st2 := X1.arraylength hx (by rw [e1]; exact Ar2.1) (State.isArrayOf_alike hZ.alike Ar2.2.1) (g := (mkF m 4 #[oa r0, oi p1, .unset] [(.ref da)])) rfl rfl (hb hby d16_4)
  rw [len_of q22 q32] at st2
  refine own_g T1 (mkF m 6 #[oa r0, oi p1, .unset] [(.ref r0), (.int zc)]) (fun _ k => st2 _ (XS.aloadN X1.here hx rfl (hb hby d16_5) rfl rfl k)) ?_
  obtain ⟨T3, X3, e3, st3⟩ := getF X1 hx hZ hown (host := "") (Or.inl (own_w hw 69 rfl)) Via.refl e1 hp2 (g := (mkF m 6 #[oa r0, oi p1, .unset] [(.ref r0), (.int zc)])) rfl rfl (hb hby d16_6)
  refine own_g T3 (mkF m 38 #[oa r0, oi p1, .val (.int (zc >>> ((0 : Int32) &&& 31)))] []) (fun _ k => st3 _ (XS.ishr X3.here hx rfl (hb hby d16_9) rfl (XS.istoreN X3.here hx rfl (hb hby d16_10) rfl (l' := #[oa r0, oi p1, .val (.int (zc >>> ((0 : Int32) &&& 31)))]) rfl (XS.iloadN X3.here hx rfl (hb hby d16_11) rfl (XS.iloadN X3.here hx rfl (hb hby d16_12) rfl (XS.isub X3.here hx rfl (hb hby d16_13) rfl (XS.ifYes X3.here hx rfl (pc0 := 14) (pc' := 38) rfl (hb hby d16_14) rfl (XT.i0_le_t hh0) (by decide) (by decide) k))))))) ?_
  exact own_ret0 X3 hx Bd.returns hlk (hb hby d16_38) e3 ⟨rfl, N0, rfl⟩ (by decide) (by decide)
theorem own_pd9 : parseMethodDescriptor "(I)I" = some ⟨[.int], some .int⟩ := by decide +kernel
theorem own_pd10 : parseMethodDescriptor "([BI)[B" = some ⟨[(.array .byte), .int], some (.array .byte)⟩ := by decide +kernel
theorem d16_17 : decode jdk_68_method_9_code 17 = .ok (.aload_n 0, 1) := by decide +kernel
theorem d16_18 : decode jdk_68_method_9_code 18 = .ok (.aload_n 0, 1) := by decide +kernel
theorem d16_19 : decode jdk_68_method_9_code 19 = .ok (.getfield 15, 3) := by decide +kernel
theorem d16_22 : decode jdk_68_method_9_code 22 = .ok (.aload_n 0, 1) := by decide +kernel
theorem d16_23 : decode jdk_68_method_9_code 23 = .ok (.iload_n 1, 1) := by decide +kernel
theorem d16_24 : decode jdk_68_method_9_code 24 = .ok (.invokevirtual 104, 3) := by decide +kernel
theorem d16_27 : decode jdk_68_method_9_code 27 = .ok (.aload_n 0, 1) := by decide +kernel
theorem d16_28 : decode jdk_68_method_9_code 28 = .ok (.getfield 22, 3) := by decide +kernel
theorem d16_31 : decode jdk_68_method_9_code 31 = .ok (.ishl, 1) := by decide +kernel
theorem d16_32 : decode jdk_68_method_9_code 32 = .ok (.invokestatic 108, 3) := by decide +kernel
theorem d16_35 : decode jdk_68_method_9_code 35 = .ok (.putfield 15, 3) := by decide +kernel
def Q_rmEnsG (Z : State) (r0 : Addr) (p1 : Int32) (da : Addr) (c1 : Int32) (kb : ClassId) (vs : List Value) (h0 : Heap) (n0 : Nat) (v : Option Value) (h : Heap) (L : List Loc) : Prop := ∃ (xb : Addr) (xk : ClassId), v = none ∧ Fr n0 L ∧ Keep h0 h [r0] ∧ h0.size ≤ xb ∧ Fld Z h r0 "java/lang/AbstractStringBuilder" "value" "[B" (.ref xb) ∧ Fld Z h r0 "java/lang/AbstractStringBuilder" "coder" "B" (.int (0 : Int32)) ∧ Fld Z h r0 "java/lang/AbstractStringBuilder" "count" "I" (.int c1) ∧ Arv Z h xb xk .byte (34 : Int32) (vs ++ List.replicate 18 (.int (0 : Int32)) : List Value) (.int (0 : Int32))
theorem ef_rmEnsG (m : MethodId) (x0 : Addr) (x1 : Int32) : entryFrame m #[(.ref x0), (.int x1)] 3 = mkF m 0 #[.val (.ref x0), .val (.int x1), .unset] [] := by first | (simp [entryFrame, mkF, argsToLocals, Value.category]; done) | rfl
theorem pn_rmEnsG : plainName "java/lang/AbstractStringBuilder" = true := by first | (simp [plainName, overriddenIn]; done) | decide +kernel
set_option maxRecDepth 65536 in
set_option maxHeartbeats 40000000 in
theorem rmEnsG (l : Launch) (Z : State) (a0 : Array Value) (hw : ∀ d ∈ tables_1, d.before a0 Z = true) (ws : List Jvm.Cond) (r0 : Addr) (p1 : Int32) (da : Addr) (c1 : Int32) (kb : ClassId) (vs : List Value) (h0 : Heap) (n0 : Nat) (Z0 : n0 ≤ h0.size) (hp0 : Exa Z h0 r0 "java/lang/StringBuilder") (hp1 : n0 ≤ r0) (hp2 : Fld Z h0 r0 "java/lang/AbstractStringBuilder" "value" "[B" (.ref da)) (hp3 : Fld Z h0 r0 "java/lang/AbstractStringBuilder" "coder" "B" (.int (0 : Int32))) (hp4 : Fld Z h0 r0 "java/lang/AbstractStringBuilder" "count" "I" (.int c1)) (hp5 : Arv Z h0 da kb .byte (16 : Int32) vs (.int (0 : Int32))) (hh0 : (0 : Int32) < (p1 - (16 : Int32))) (hh1 : own_max ((p1 <<< ((0 : Int32) &&& 31)) - (16 : Int32)) (18 : Int32) = (18 : Int32)) (hh2 : vs.length = 16) :
    MetFree l (⟨"java/lang/AbstractStringBuilder", "ensureCapacityInternal", "(I)V"⟩ : MethodName) (head1 (Jvm.Cond.code (⟨"java/lang/AbstractStringBuilder", "ensureCapacityInternal", "(I)V"⟩ : MethodName) jdk_68_method_9_code 3 none :: ws) ({ frames := 3, cells := 1, slots := 34, locals := 48 } : Room)) (fun a U => a = #[(.ref r0), (.int p1)] ∧ Z.Warmed39 U.vm ∧ U.heap = h0) (fun _ _ _ _ _ => True) (fun _ U o U' => ∃ v L, o = .returned v ∧ Q_rmEnsG Z r0 p1 da c1 kb vs h0 n0 v U'.heap L ∧ FrameEnd U o U' L ({ frames := 3, cells := 1, slots := 34, locals := 48 } : Room).cells ({ frames := 3, cells := 1, slots := 34, locals := 48 } : Room).slots) := by
  refine MetFree.of_bodySF (plainFor_of_name pn_rmEnsG) hisR ?_
  intro p e s m args below meth c s₁ Bd hml0 hP hK
  obtain ⟨rfl, hZ, hh⟩ := hP
  have hx := Bd.exec
  have hby := Bd.bytes
  have hml : c.maxLocals = 3 := hml0
  have hown : s.vm.findClass "java/lang/AbstractStringBuilder" = some m.cls := findClass_of_methodNamed Bd.named
  have hnm := (name_of_methodNamed Bd.named Bd.method).1
  have hlk : meth.locks = false := BodyLoose.notSynchronized Bd
  have X0 : Stand p l e ({ frames := 3, cells := 1, slots := 34, locals := 48 } : Room) s m #[(.ref r0), (.int p1)] below meth c s₁ [] 0 0 := Stand.of_body Bd
  have e0 : s₁.heap = h0 := by rw [← hh, Bd.state]; rfl
  have N0 := Fr.nil n0
  show own_W p e below s (Q_rmEnsG Z r0 p1 da c1 kb vs h0 n0) 1 34 s₁ (entryFrame m #[(.ref r0), (.int p1)] 3)
  skip
  skip
  refine own_go (T' := s₁) (g' := (mkF m 0 #[oa r0, oi p1, .unset] [])) (fun _ k => castTop (ef_rmEnsG m r0 p1) k) ?_
  refine own_g s₁ (mkF m 1 #[oa r0, oi p1, .unset] [(.ref r0)]) (fun _ k => XS.aloadN X0.here hx rfl (hb hby d16_0) rfl rfl k) ?_
  obtain ⟨T1, X1, e1, st1⟩ := getF X0 hx hZ hown (host := "") (Or.inl (own_w hw 67 rfl)) Via.refl e0 hp2 (g := (mkF m 1 #[oa r0, oi p1, .unset] [(.ref r0)])) rfl rfl (hb hby d16_1)
  refine own_g T1 (mkF m 4 #[oa r0, oi p1, .unset] [(.ref da)]) (fun _ k => st1 _ k) ?_
  obtain ⟨cl2, Ar2, q12, q22, q32, H2, G2⟩ := id hp5
  have st2 := X1.arraylength hx (by rw [e1]; exact Ar2.1) (State.isArrayOf_alike hZ.alike Ar2.2.1) (g := (mkF m 4 #[oa r0, oi p1, .unset] [(.ref da)])) rfl rfl (hb hby d16_4)
  rw [len_of q22 q32] at st2
  refine own_g T1 (mkF m 6 #[oa r0, oi p1, .unset] [(.ref r0), (.int (16 : Int32))]) (fun _ k => st2 _ (XS.aloadN X1.here hx rfl (hb hby d16_5) rfl rfl k)) ?_
  obtain ⟨T3, X3, e3, st3⟩ := getF X1 hx hZ hown (host := "") (Or.inl (own_w hw 69 rfl)) Via.refl e1 hp3 (g := (mkF m 6 #[oa r0, oi p1, .unset] [(.ref r0), (.int (16 : Int32))])) rfl rfl (hb hby d16_6)
  refine own_g T3 (mkF m 18 #[oa r0, oi p1, oi 16] [(.ref r0)]) (fun _ k => st3 _ (XS.ishr X3.here hx rfl (hb hby d16_9) rfl (XS.istoreN X3.here hx rfl (hb hby d16_10) rfl (l' := #[oa r0, oi p1, oi 16]) rfl (XS.iloadN X3.here hx rfl (hb hby d16_11) rfl (XS.iloadN X3.here hx rfl (hb hby d16_12) rfl (XS.isub X3.here hx rfl (hb hby d16_13) rfl (XS.ifNo X3.here hx rfl (hb hby d16_14) rfl (XT.i0_le_f hh0) (XS.aloadN X3.here hx rfl (hb hby d16_17) rfl rfl k)))))))) ?_
  refine own_g T3 (mkF m 19 #[oa r0, oi p1, oi 16] [(.ref r0), (.ref r0)]) (fun _ k => XS.aloadN X3.here hx rfl (hb hby d16_18) rfl rfl k) ?_
  obtain ⟨T4, X4, e4, st4⟩ := getF X3 hx hZ hown (host := "") (Or.inl (own_w hw 67 rfl)) Via.refl e3 hp2 (g := (mkF m 19 #[oa r0, oi p1, oi 16] [(.ref r0), (.ref r0)])) rfl rfl (hb hby d16_19)
  refine own_g T4 (mkF m 24 #[oa r0, oi p1, oi 16] [(.int p1), (.ref r0), (.ref da), (.ref r0)]) (fun _ k => st4 _ (XS.aloadN X4.here hx rfl (hb hby d16_22) rfl rfl (XS.iloadN X4.here hx rfl (hb hby d16_23) rfl k))) ?_
  obtain ⟨cq5, kq5, q5a, q5b, cl5, q5d, -, q5e⟩ := isOf hZ e4 hp0
  obtain ⟨_, _, ⟨T5, L5, k5, n5⟩, -, X5, ⟨Lc5, hQ5, l5, y5, z5⟩, st5⟩ := X4.privateBack hx (y := (⟨"java/lang/AbstractStringBuilder", "newCapacity", "(I)I"⟩ : MethodName)) hown (mvT hZ (own_w hw 173 rfl)) (mvT hZ (own_w hw 174 rfl)) (own_selfSel (mvT hZ (own_w hw 176 rfl)) (Cond.privateMethod_at (args := #[]) (mvP hZ (own_w hw 175 rfl))) (mvT hZ (own_w hw 174 rfl)) (by decide)) (Cond.privateMethod_at (args := #[]) (mvP hZ (own_w hw 175 rfl))) (mvT hZ (own_w hw 177 rfl)) (by decide) (backOf (W := 2) (rmNewC l Z a0 hw [] r0 p1 da kb vs h0 n0 Z0 hp0 hp2 hp3 hp5 hh1) hZ (own_w hw 177 rfl) (own_w hw 63 rfl) (by decide) (by decide)) (g := (mkF m 24 #[oa r0, oi p1, oi 16] [(.int p1), (.ref r0), (.ref da), (.ref r0)])) rfl (by rw [hml]; rfl) (Steps.refl _) (a := r0) q5d (own_nst q5e) (argsL := [(.int p1)]) (rest := [(.ref da), (.ref r0)]) (lenOf own_pd9 rfl) rfl (Nat.le_of_eq rfl) (hb hby d16_24) (fun _ _ => ⟨rfl, e4, (by decide : 0 + 0 ≤ _), (by decide : 0 + 0 ≤ _)⟩)
  dsimp only [Pt.U, Pt.locs, Pt.cells, Pt.slots] at X5 l5 y5 z5 st5 hQ5
  subst l5 y5 z5
  obtain ⟨rfl, N5q, e5⟩ := hQ5
  have N5 := Fr.app N0 N5q
  obtain ⟨Lv5, X5, N5⟩ := own_hide X5 (Nat.le_refl 0) (Nat.le_refl 0) N5
  refine own_g T5 (mkF m 28 #[oa r0, oi p1, oi 16] [(.ref r0), (.int (34 : Int32)), (.ref da), (.ref r0)]) (fun _ k => st5.trans (XS.aloadN X5.here hx rfl (hb hby d16_27) rfl rfl k)) ?_
  obtain ⟨T6, X6, e6, st6⟩ := getF X5 hx hZ hown (host := "") (Or.inl (own_w hw 69 rfl)) Via.refl e5 hp3 (g := (mkF m 28 #[oa r0, oi p1, oi 16] [(.ref r0), (.int (34 : Int32)), (.ref da), (.ref r0)])) rfl rfl (hb hby d16_28)
  refine own_g T6 (mkF m 32 #[oa r0, oi p1, oi 16] [(.int (34 : Int32)), (.ref da), (.ref r0)]) (fun _ k => st6 _ (XS.ishl X6.here hx rfl (hb hby d16_31) rfl k)) ?_
  obtain ⟨_, _, ⟨T7, L7, k7, n7⟩, -, X7, ⟨Lc7, hQ7, l7, y7, z7⟩, st7⟩ := Jvm.LawKit.callS X6 hx (y := (⟨"java/util/Arrays", "copyOf", "([BI)[B"⟩ : MethodName)) hown (mvT hZ (own_w hw 187 rfl)) (mvT hZ (own_w hw 188 rfl)) (mvT hZ (own_w hw 154 rfl)) (mvT hZ (own_w hw 189 rfl)) (by decide) (backOf (W := 1) (rmCopyOf l Z a0 hw [] da kb vs h0 n0 Z0 hp5 hh2) hZ (own_w hw 189 rfl) (own_w hw 154 rfl) (by decide) (by decide)) (g := (mkF m 32 #[oa r0, oi p1, oi 16] [(.int (34 : Int32)), (.ref da), (.ref r0)])) rfl (by rw [hml]; rfl) (argsL := [(.ref da), (.int (34 : Int32))]) (rest := [(.ref r0)]) (lenOf own_pd10 rfl) rfl (Nat.le_of_eq rfl) (hb hby d16_32) (fun _ _ => ⟨rfl, e6, (by decide : 0 + 1 ≤ _), (by decide : 0 + 34 ≤ _)⟩)
  dsimp only [Pt.U, Pt.locs, Pt.cells, Pt.slots] at X7 l7 y7 z7 st7 hQ7
  subst l7 y7 z7
  obtain ⟨xb_7, xk_7, rfl, N7q, K7, po8, po9⟩ := hQ7
  have f10 := (hp0.keep K7)
  have f11 := (hp2.keep K7 nin0)
  have f12 := (hp3.keep K7 nin0)
  have f13 := (hp4.keep K7 nin0)
  have f14 := (hp5.keep K7 nin0)
  have ne15 : r0 ≠ xb_7 := Nat.ne_of_lt (Nat.lt_of_lt_of_le hp0.lt po8)
  have ne16 : da ≠ xb_7 := Nat.ne_of_lt (Nat.lt_of_lt_of_le hp5.lt po8)
  have ge17 : n0 ≤ xb_7 := Nat.le_trans Z0 po8
  have sz18 : h0.size ≤ xb_7 := Nat.le_trans (Keep.refl h0 [r0]).1 po8
  have zs7 : n0 ≤ T7.heap.size := Nat.le_trans Z0 K7.1
  have kk7 : Keep h0 T7.heap [r0] := (Keep.refl h0 [r0]).trans K7 all0
  have N7 := Fr.app N5 N7q
  obtain ⟨Lv7, X7, N7⟩ := own_hide X7 (Nat.le_refl 1) (Nat.le_refl 34) N7
  refine own_g T7 (mkF m 35 #[oa r0, oi p1, oi 16] [(.ref xb_7), (.ref r0)]) (fun _ k => st7 _ k) ?_
  obtain ⟨T19, h19, X19, e19, W19, st19⟩ := putF X7 hx hZ hown (host := "") (Or.inl (own_w hw 67 rfl)) Via.refl rfl f11 f10 (Or.inl (own_w hw 68 rfl)) (own_w hw 54 rfl) (ty := (.array .byte)) (by decide) rfl rfl (g := (mkF m 35 #[oa r0, oi p1, oi 16] [(.ref xb_7), (.ref r0)])) rfl rfl (hb hby d16_35)
  have f20 := (f10.wr W19)
  have f21 := (f12.other W19 (Or.inr (slot_ne (Or.inl (own_w hw 70 rfl)) (Or.inl (own_w hw 68 rfl)) (by decide) (t := .byte) (t' := (.array .byte)) (by decide) (by decide))))
  have f22 := (f13.other W19 (Or.inr (slot_ne (Or.inl (own_w hw 95 rfl)) (Or.inl (own_w hw 68 rfl)) (by decide) (t := .int) (t' := (.array .byte)) (by decide) (by decide))))
  have f23 := (po9.other W19 (Ne.symm ne15))
  have fw19 : Fld Z h19 r0 "java/lang/AbstractStringBuilder" "value" "[B" (.ref xb_7) := f11.same W19
  have N19 := Fr.snoc X19 N7 hp1
  have zs19 : n0 ≤ h19.size := by rw [W19.size]; exact zs7
  have kk19 : Keep h0 h19 [r0] := kk7.wr W19 (Or.inl (List.mem_of_getElem? (i := 0) rfl))
  refine own_g T19 (mkF m 38 #[oa r0, oi p1, oi 16] []) (fun _ k => st19 _ k) ?_
  exact own_ret0 X19 hx Bd.returns hlk (hb hby d16_38) e19 ⟨xb_7, xk_7, rfl, N19, kk19, sz18, fw19, f21, f22, f23⟩ (by decide) (by decide)
theorem own_pd11 : parseMethodDescriptor "()I" = some ⟨[], some .int⟩ := by decide +kernel
theorem own_pd12 : parseMethodDescriptor "(I)V" = some ⟨[.int], none⟩ := by decide +kernel
theorem own_pd13 : parseMethodDescriptor "(ILjava/lang/String;)V" = some ⟨[.int, (.object "java/lang/String")], none⟩ := by decide +kernel
theorem d13_0 : decode jdk_68_method_22_code 0 = .ok (.aload_n 1, 1) := by decide +kernel
theorem d13_1 : decode jdk_68_method_22_code 1 = .ok (.ifnonnull 8, 3) := by decide +kernel
theorem d13_9 : decode jdk_68_method_22_code 9 = .ok (.aload_n 1, 1) := by decide +kernel
theorem d13_10 : decode jdk_68_method_22_code 10 = .ok (.invokevirtual 32, 3) := by decide +kernel
theorem d13_13 : decode jdk_68_method_22_code 13 = .ok (.istore_n 2, 1) := by decide +kernel
theorem d13_14 : decode jdk_68_method_22_code 14 = .ok (.aload_n 0, 1) := by decide +kernel
theorem d13_15 : decode jdk_68_method_22_code 15 = .ok (.aload_n 0, 1) := by decide +kernel
theorem d13_16 : decode jdk_68_method_22_code 16 = .ok (.getfield 79, 3) := by decide +kernel
theorem d13_19 : decode jdk_68_method_22_code 19 = .ok (.iload_n 2, 1) := by decide +kernel
theorem d13_20 : decode jdk_68_method_22_code 20 = .ok (.iadd, 1) := by decide +kernel
theorem d13_21 : decode jdk_68_method_22_code 21 = .ok (.invokevirtual 100, 3) := by decide +kernel
theorem d13_24 : decode jdk_68_method_22_code 24 = .ok (.aload_n 0, 1) := by decide +kernel
theorem d13_25 : decode jdk_68_method_22_code 25 = .ok (.aload_n 0, 1) := by decide +kernel
theorem d13_26 : decode jdk_68_method_22_code 26 = .ok (.getfield 79, 3) := by decide +kernel
theorem d13_29 : decode jdk_68_method_22_code 29 = .ok (.aload_n 1, 1) := by decide +kernel
theorem d13_30 : decode jdk_68_method_22_code 30 = .ok (.invokevirtual 208, 3) := by decide +kernel
theorem d13_33 : decode jdk_68_method_22_code 33 = .ok (.aload_n 0, 1) := by decide +kernel
theorem d13_34 : decode jdk_68_method_22_code 34 = .ok (.dup, 1) := by decide +kernel
theorem d13_35 : decode jdk_68_method_22_code 35 = .ok (.getfield 79, 3) := by decide +kernel
theorem d13_38 : decode jdk_68_method_22_code 38 = .ok (.iload_n 2, 1) := by decide +kernel
theorem d13_39 : decode jdk_68_method_22_code 39 = .ok (.iadd, 1) := by decide +kernel
theorem d13_40 : decode jdk_68_method_22_code 40 = .ok (.putfield 79, 3) := by decide +kernel
theorem d13_43 : decode jdk_68_method_22_code 43 = .ok (.aload_n 0, 1) := by decide +kernel
theorem d13_44 : decode jdk_68_method_22_code 44 = .ok (.areturn, 1) := by decide +kernel
def Q_rmApN (Z : State) (r0 : Addr) (r1 : Addr) (da : Addr) (c1 : Int32) (kb : ClassId) (zc : Int32) (vs : List Value) (d1 : Addr) (kd : ClassId) (z1 : Int32) (us : List Value) (cs : Int32) (cN : Nat) (nN : Nat) (h0 : Heap) (n0 : Nat) (v : Option Value) (h : Heap) (L : List Loc) : Prop := v = some (.ref r0) ∧ Fr n0 L ∧ Keep h0 h [r0, da] ∧ Fld Z h r0 "java/lang/AbstractStringBuilder" "value" "[B" (.ref da) ∧ Fld Z h r0 "java/lang/AbstractStringBuilder" "coder" "B" (.int (0 : Int32)) ∧ Fld Z h r0 "java/lang/AbstractStringBuilder" "count" "I" (.int (c1 + (z1 >>> ((0 : Int32) &&& 31)))) ∧ Arv Z h da kb .byte zc (vs.take cN ++ us ++ vs.drop (cN + nN)) (.int (0 : Int32))
theorem ef_rmApN (m : MethodId) (x0 : Addr) (x1 : Addr) : entryFrame m #[(.ref x0), (.ref x1)] 3 = mkF m 0 #[.val (.ref x0), .val (.ref x1), .unset] [] := by first | (simp [entryFrame, mkF, argsToLocals, Value.category]; done) | rfl
theorem pn_rmApN : plainName "java/lang/AbstractStringBuilder" = true := by first | (simp [plainName, overriddenIn]; done) | decide +kernel
set_option maxRecDepth 65536 in
set_option maxHeartbeats 40000000 in
theorem rmApN (l : Launch) (Z : State) (a0 : Array Value) (hw : ∀ d ∈ tables_1, d.before a0 Z = true) (ws : List Jvm.Cond) (r0 : Addr) (r1 : Addr) (da : Addr) (c1 : Int32) (kb : ClassId) (zc : Int32) (vs : List Value) (d1 : Addr) (kd : ClassId) (z1 : Int32) (us : List Value) (cs : Int32) (cN : Nat) (nN : Nat) (h0 : Heap) (n0 : Nat) (Z0 : n0 ≤ h0.size) (hp0 : Exa Z h0 r0 "java/lang/StringBuilder") (hp1 : n0 ≤ r0) (hp2 : Fld Z h0 r0 "java/lang/AbstractStringBuilder" "value" "[B" (.ref da)) (hp3 : Fld Z h0 r0 "java/lang/AbstractStringBuilder" "coder" "B" (.int (0 : Int32))) (hp4 : Fld Z h0 r0 "java/lang/AbstractStringBuilder" "count" "I" (.int c1)) (hp5 : Arv Z h0 da kb .byte zc vs (.int (0 : Int32))) (hp6 : n0 ≤ da) (hp7 : r0 ≠ da) (hp8 : Exa Z h0 r1 "java/lang/String") (hp9 : Fld Z h0 r1 "java/lang/String" "coder" "B" (.int (0 : Int32))) (hp10 : Fld Z h0 r1 "java/lang/String" "value" "[B" (.ref d1)) (hp11 : Arv Z h0 d1 kd .byte z1 us (.int (0 : Int32))) (hp12 : Sta Z h0 "java/lang/String" "COMPACT_STRINGS" "Z" (.int cs)) (hh0 : ¬ cs = (0 : Int32)) (hh1 : ¬ (c1 <<< ((0 : Int32) &&& 31)) < (0 : Int32)) (hh2 : (c1 <<< ((0 : Int32) &&& 31)).toNatClampNeg = cN) (hh3 : z1.toNatClampNeg = nN) (hh4 : us.length = nN) (hh5 : cN + nN ≤ zc.toNatClampNeg) (hh6 : cN + nN ≤ vs.length) (hh7 : ¬ z1 < (0 : Int32)) (hh8 : ¬ (0 : Int32) < ((c1 + (z1 >>> ((0 : Int32) &&& 31))) - (zc >>> ((0 : Int32) &&& 31)))) :
    MetFree l (⟨"java/lang/AbstractStringBuilder", "append", "(Ljava/lang/String;)Ljava/lang/AbstractStringBuilder;"⟩ : MethodName) (head1 (Jvm.Cond.code (⟨"java/lang/AbstractStringBuilder", "append", "(Ljava/lang/String;)Ljava/lang/AbstractStringBuilder;"⟩ : MethodName) jdk_68_method_22_code 3 (some (.object "java/lang/AbstractStringBuilder")) :: ws) ({ frames := 3, cells := 0, slots := 0, locals := 47 } : Room)) (fun a U => a = #[(.ref r0), (.ref r1)] ∧ Z.Warmed39 U.vm ∧ U.heap = h0) (fun _ _ _ _ _ => True) (fun _ U o U' => ∃ v L, o = .returned v ∧ Q_rmApN Z r0 r1 da c1 kb zc vs d1 kd z1 us cs cN nN h0 n0 v U'.heap L ∧ FrameEnd U o U' L ({ frames := 3, cells := 0, slots := 0, locals := 47 } : Room).cells ({ frames := 3, cells := 0, slots := 0, locals := 47 } : Room).slots) := by
  refine MetFree.of_bodySF (plainFor_of_name pn_rmApN) hisR ?_
  intro p e s m args below meth c s₁ Bd hml0 hP hK
  obtain ⟨rfl, hZ, hh⟩ := hP
  have hx := Bd.exec
  have hby := Bd.bytes
  have hml : c.maxLocals = 3 := hml0
  have hown : s.vm.findClass "java/lang/AbstractStringBuilder" = some m.cls := findClass_of_methodNamed Bd.named
  have hnm := (name_of_methodNamed Bd.named Bd.method).1
  have hlk : meth.locks = false := BodyLoose.notSynchronized Bd
  have X0 : Stand p l e ({ frames := 3, cells := 0, slots := 0, locals := 47 } : Room) s m #[(.ref r0), (.ref r1)] below meth c s₁ [] 0 0 := Stand.of_body Bd
  have e0 : s₁.heap = h0 := by rw [← hh, Bd.state]; rfl
  have N0 := Fr.nil n0
  show own_W p e below s (Q_rmApN Z r0 r1 da c1 kb zc vs d1 kd z1 us cs cN nN h0 n0) 0 0 s₁ (entryFrame m #[(.ref r0), (.ref r1)] 3)
  skip
  skip
  refine own_go (T' := s₁) (g' := (mkF m 0 #[oa r0, oa r1, .unset] [])) (fun _ k => castTop (ef_rmApN m r0 r1) k) ?_
  refine own_g s₁ (mkF m 10 #[oa r0, oa r1, .unset] [(.ref r1)]) (fun _ k => XS.aloadN X0.here hx rfl (hb hby d13_0) rfl rfl (XT.ifnonnullYes X0.here hx rfl (pc0 := 1) (pc' := 9) rfl (hb hby d13_1) rfl (by decide) (by decide) (XS.aloadN X0.here hx rfl (hb hby d13_9) rfl rfl k))) ?_
  obtain ⟨cq1, kq1, q1a, q1b, q1c⟩ := isOf hZ e0 hp8
  obtain ⟨_, _, ⟨T1, L1, k1, n1⟩, -, X1, ⟨Lc1, hQ1, l1, y1, z1⟩, st1⟩ := X0.virtualBack hx (y := (⟨"java/lang/String", "length", "()I"⟩ : MethodName)) (z := (⟨"java/lang/String", "length", "()I"⟩ : MethodName)) hown (mvT hZ (own_w hw 84 rfl)) (mvT hZ (own_w hw 85 rfl)) (notFace_of_selects (args := #[]) (mvT hZ (own_w hw 87 rfl))) (mvT hZ (own_w hw 87 rfl)) (mvT hZ (own_w hw 86 rfl)) (by decide) (backOf (W := 0) (rmLen l Z a0 hw [] r1 d1 kd z1 us cs h0 n0 Z0 hp8 hp9 hp10 hp11 hp12 hh0) hZ (own_w hw 88 rfl) (own_w hw 6 rfl) (by decide) (by decide)) q1a q1c (g := (mkF m 10 #[oa r0, oa r1, .unset] [(.ref r1)])) rfl (by rw [hml]; rfl) (Steps.refl _) (argsL := []) (rest := []) (lenOf own_pd11 rfl) rfl (Nat.le_of_eq rfl) (hb hby d13_10) (fun _ _ => ⟨rfl, e0, (by decide : 0 + 0 ≤ _), (by decide : 0 + 0 ≤ _)⟩)
  dsimp only [Pt.U, Pt.locs, Pt.cells, Pt.slots] at X1 l1 y1 z1 st1 hQ1
  subst l1 y1 z1
  obtain ⟨rfl, N1q, e1⟩ := hQ1
  have N1 := Fr.app N0 N1q
  obtain ⟨Lv1, X1, N1⟩ := own_hide X1 (Nat.le_refl 0) (Nat.le_refl 0) N1
  refine own_g T1 (mkF m 16 #[oa r0, oa r1, .val (.int (z1 >>> ((0 : Int32) &&& 31)))] [(.ref r0), (.ref r0)]) (fun _ k => st1.trans (XS.istoreN X1.here hx rfl (hb hby d13_13) rfl (l' := #[oa r0, oa r1, .val (.int (z1 >>> ((0 : Int32) &&& 31)))]) rfl (XS.aloadN X1.here hx rfl (hb hby d13_14) rfl rfl (XS.aloadN X1.here hx rfl (hb hby d13_15) rfl rfl k)))) ?_
  obtain ⟨T2, X2, e2, st2⟩ := getF X1 hx hZ hown (host := "") (Or.inl (own_w hw 94 rfl)) Via.refl e1 hp4 (g := (mkF m 16 #[oa r0, oa r1, .val (.int (z1 >>> ((0 : Int32) &&& 31)))] [(.ref r0), (.ref r0)])) rfl rfl (hb hby d13_16)
  refine own_g T2 (mkF m 21 #[oa r0, oa r1, .val (.int (z1 >>> ((0 : Int32) &&& 31)))] [(.int (c1 + (z1 >>> ((0 : Int32) &&& 31)))), (.ref r0)]) (fun _ k => st2 _ (XS.iloadN X2.here hx rfl (hb hby d13_19) rfl (XS.iadd X2.here hx rfl (hb hby d13_20) rfl k))) ?_
  obtain ⟨cq3, kq3, q3a, q3b, cl3, q3d, -, q3e⟩ := isOf hZ e2 hp0
  obtain ⟨_, _, ⟨T3, L3, k3, n3⟩, -, X3, ⟨Lc3, hQ3, l3, y3, z3⟩, st3⟩ := X2.privateBack hx (y := (⟨"java/lang/AbstractStringBuilder", "ensureCapacityInternal", "(I)V"⟩ : MethodName)) hown (mvT hZ (own_w hw 96 rfl)) (mvT hZ (own_w hw 97 rfl)) (own_selfSel (mvT hZ (own_w hw 99 rfl)) (Cond.privateMethod_at (args := #[]) (mvP hZ (own_w hw 98 rfl))) (mvT hZ (own_w hw 97 rfl)) (by decide)) (Cond.privateMethod_at (args := #[]) (mvP hZ (own_w hw 98 rfl))) (mvT hZ (own_w hw 100 rfl)) (by decide) (backOf (W := 0) (rmEnsN l Z a0 hw [] r0 (c1 + (z1 >>> ((0 : Int32) &&& 31))) da kb zc vs h0 n0 Z0 hp0 hp2 hp3 hp5 hh8) hZ (own_w hw 100 rfl) (own_w hw 63 rfl) (by decide) (by decide)) (g := (mkF m 21 #[oa r0, oa r1, .val (.int (z1 >>> ((0 : Int32) &&& 31)))] [(.int (c1 + (z1 >>> ((0 : Int32) &&& 31)))), (.ref r0)])) rfl (by rw [hml]; rfl) (Steps.refl _) (a := r0) q3d (own_nst q3e) (argsL := [(.int (c1 + (z1 >>> ((0 : Int32) &&& 31))))]) (rest := []) (lenOf own_pd12 rfl) rfl (Nat.le_of_eq rfl) (hb hby d13_21) (fun _ _ => ⟨rfl, e2, (by decide : 0 + 0 ≤ _), (by decide : 0 + 0 ≤ _)⟩)
  dsimp only [Pt.U, Pt.locs, Pt.cells, Pt.slots] at X3 l3 y3 z3 st3 hQ3
  subst l3 y3 z3
  obtain ⟨rfl, N3q, e3⟩ := hQ3
  have N3 := Fr.app N1 N3q
  obtain ⟨Lv3, X3, N3⟩ := own_hide X3 (Nat.le_refl 0) (Nat.le_refl 0) N3
  refine own_g T3 (mkF m 26 #[oa r0, oa r1, .val (.int (z1 >>> ((0 : Int32) &&& 31)))] [(.ref r0), (.ref r0)]) (fun _ k => st3.trans (XS.aloadN X3.here hx rfl (hb hby d13_24) rfl rfl (XS.aloadN X3.here hx rfl (hb hby d13_25) rfl rfl k))) ?_
  obtain ⟨T4, X4, e4, st4⟩ := getF X3 hx hZ hown (host := "") (Or.inl (own_w hw 94 rfl)) Via.refl e3 hp4 (g := (mkF m 26 #[oa r0, oa r1, .val (.int (z1 >>> ((0 : Int32) &&& 31)))] [(.ref r0), (.ref r0)])) rfl rfl (hb hby d13_26)
  refine own_g T4 (mkF m 30 #[oa r0, oa r1, .val (.int (z1 >>> ((0 : Int32) &&& 31)))] [(.ref r1), (.int c1), (.ref r0)]) (fun _ k => st4 _ (XS.aloadN X4.here hx rfl (hb hby d13_29) rfl rfl k)) ?_
  obtain ⟨cq5, kq5, q5a, q5b, cl5, q5d, -, q5e⟩ := isOf hZ e4 hp0
  obtain ⟨_, _, ⟨T5, L5, k5, n5⟩, -, X5, ⟨Lc5, hQ5, l5, y5, z5⟩, st5⟩ := X4.privateBack hx (y := (⟨"java/lang/AbstractStringBuilder", "putStringAt", "(ILjava/lang/String;)V"⟩ : MethodName)) hown (mvT hZ (own_w hw 101 rfl)) (mvT hZ (own_w hw 102 rfl)) (own_selfSel (mvT hZ (own_w hw 104 rfl)) (Cond.privateMethod_at (args := #[]) (mvP hZ (own_w hw 103 rfl))) (mvT hZ (own_w hw 102 rfl)) (by decide)) (Cond.privateMethod_at (args := #[]) (mvP hZ (own_w hw 103 rfl))) (mvT hZ (own_w hw 105 rfl)) (by decide) (backOf (W := 0) (rmPutS l Z a0 hw [] r0 c1 r1 da d1 kd z1 us cs kb zc vs cN nN h0 n0 Z0 hp0 hp1 hp2 hp3 hp5 hp6 hp8 hp9 hp10 hp11 hp12 hh0 hh1 hh2 hh3 hh4 hh5 hh6 hh7) hZ (own_w hw 105 rfl) (own_w hw 63 rfl) (by decide) (by decide)) (g := (mkF m 30 #[oa r0, oa r1, .val (.int (z1 >>> ((0 : Int32) &&& 31)))] [(.ref r1), (.int c1), (.ref r0)])) rfl (by rw [hml]; rfl) (Steps.refl _) (a := r0) q5d (own_nst q5e) (argsL := [(.int c1), (.ref r1)]) (rest := []) (lenOf own_pd13 rfl) rfl (Nat.le_of_eq rfl) (hb hby d13_30) (fun _ _ => ⟨rfl, e4, (by decide : 0 + 0 ≤ _), (by decide : 0 + 0 ≤ _)⟩)
  dsimp only [Pt.U, Pt.locs, Pt.cells, Pt.slots] at X5 l5 y5 z5 st5 hQ5
  subst l5 y5 z5
  obtain ⟨rfl, N5q, K5, po6⟩ := hQ5
  have f7 := (hp0.keep K5)
  have f8 := (hp2.keep K5 (ninS hp7 nin0))
  have f9 := (hp3.keep K5 (ninS hp7 nin0))
  have f10 := (hp4.keep K5 (ninS hp7 nin0))
  have f11 := (hp8.keep K5)
  have f12 := (own_sta_keep hp12 K5 (nsS (own_arv_ns hp5) ns0))
  have zs5 : n0 ≤ T5.heap.size := Nat.le_trans Z0 K5.1
  have kk5 : Keep h0 T5.heap [r0, da] := (Keep.refl h0 [r0, da]).trans K5 (allS (Or.inl (List.mem_of_getElem? (i := 1) rfl)) all0)
  have N5 := Fr.app N3 N5q
  obtain ⟨Lv5, X5, N5⟩ := own_hide X5 (Nat.le_refl 0) (Nat.le_refl 0) N5
  refine own_g T5 (mkF m 35 #[oa r0, oa r1, .val (.int (z1 >>> ((0 : Int32) &&& 31)))] [(.ref r0), (.ref r0)]) (fun _ k => st5.trans (XS.aloadN X5.here hx rfl (hb hby d13_33) rfl rfl (XS.dup X5.here hx rfl (hb hby d13_34) rfl rfl k))) ?_
  obtain ⟨T13, X13, e13, st13⟩ := getF X5 hx hZ hown (host := "") (Or.inl (own_w hw 94 rfl)) Via.refl rfl f10 (g := (mkF m 35 #[oa r0, oa r1, .val (.int (z1 >>> ((0 : Int32) &&& 31)))] [(.ref r0), (.ref r0)])) rfl rfl (hb hby d13_35)
  refine own_g T13 (mkF m 40 #[oa r0, oa r1, .val (.int (z1 >>> ((0 : Int32) &&& 31)))] [(.int (c1 + (z1 >>> ((0 : Int32) &&& 31)))), (.ref r0)]) (fun _ k => st13 _ (XS.iloadN X13.here hx rfl (hb hby d13_38) rfl (XS.iadd X13.here hx rfl (hb hby d13_39) rfl k))) ?_
  obtain ⟨T14, h14, X14, e14, W14, st14⟩ := putF X13 hx hZ hown (host := "") (Or.inl (own_w hw 94 rfl)) Via.refl e13 f10 f7 (Or.inl (own_w hw 95 rfl)) (own_w hw 54 rfl) (ty := .int) (by decide) rfl rfl (g := (mkF m 40 #[oa r0, oa r1, .val (.int (z1 >>> ((0 : Int32) &&& 31)))] [(.int (c1 + (z1 >>> ((0 : Int32) &&& 31)))), (.ref r0)])) rfl rfl (hb hby d13_40)
  have f15 := (f7.wr W14)
  have f16 := (f8.other W14 (Or.inr (slot_ne (Or.inl (own_w hw 68 rfl)) (Or.inl (own_w hw 95 rfl)) (by decide) (t := (.array .byte)) (t' := .int) (by decide) (by decide))))
  have f17 := (f9.other W14 (Or.inr (slot_ne (Or.inl (own_w hw 70 rfl)) (Or.inl (own_w hw 95 rfl)) (by decide) (t := .byte) (t' := .int) (by decide) (by decide))))
  have f18 := (f11.wr W14)
  have f19 := (f12.wr W14)
  have f20 := (po6.other W14 (Ne.symm hp7))
  have fw14 : Fld Z h14 r0 "java/lang/AbstractStringBuilder" "count" "I" (.int (c1 + (z1 >>> ((0 : Int32) &&& 31)))) := f10.same W14
  have N14 := Fr.snoc X14 N5 hp1
  have zs14 : n0 ≤ h14.size := by rw [W14.size]; exact zs5
  have kk14 : Keep h0 h14 [r0, da] := kk5.wr W14 (Or.inl (List.mem_of_getElem? (i := 0) rfl))
  refine own_g T14 (mkF m 44 #[oa r0, oa r1, .val (.int (z1 >>> ((0 : Int32) &&& 31)))] [(.ref r0)]) (fun _ k => st14 _ (XS.aloadN X14.here hx rfl (hb hby d13_43) rfl rfl k)) ?_
  exact own_ret X14 hx Bd.returns hlk rfl (Or.inr (Or.inr (Or.inr (Or.inr ⟨rfl, rfl, rfl⟩)))) (hb hby d13_44) e14 ⟨rfl, N14, kk14, f16, f17, fw14, f20⟩ (by decide) (by decide)
theorem own_pd14 : parseMethodDescriptor "(Ljava/lang/String;)Ljava/lang/AbstractStringBuilder;" = some ⟨[(.object "java/lang/String")], some (.object "java/lang/AbstractStringBuilder")⟩ := by decide +kernel
theorem d12_0 : decode jdk_67_method_7_code 0 = .ok (.aload_n 0, 1) := by decide +kernel
theorem d12_1 : decode jdk_67_method_7_code 1 = .ok (.aload_n 1, 1) := by decide +kernel
theorem d12_2 : decode jdk_67_method_7_code 2 = .ok (.invokespecial 29, 3) := by decide +kernel
theorem d12_5 : decode jdk_67_method_7_code 5 = .ok (.pop, 1) := by decide +kernel
theorem d12_6 : decode jdk_67_method_7_code 6 = .ok (.aload_n 0, 1) := by decide +kernel
theorem d12_7 : decode jdk_67_method_7_code 7 = .ok (.areturn, 1) := by decide +kernel
def Q_rmSbN (Z : State) (r0 : Addr) (r1 : Addr) (da : Addr) (c1 : Int32) (kb : ClassId) (zc : Int32) (vs : List Value) (d1 : Addr) (kd : ClassId) (z1 : Int32) (us : List Value) (cs : Int32) (cN : Nat) (nN : Nat) (h0 : Heap) (n0 : Nat) (v : Option Value) (h : Heap) (L : List Loc) : Prop := v = some (.ref r0) ∧ Fr n0 L ∧ Keep h0 h [r0, da] ∧ Fld Z h r0 "java/lang/AbstractStringBuilder" "value" "[B" (.ref da) ∧ Fld Z h r0 "java/lang/AbstractStringBuilder" "coder" "B" (.int (0 : Int32)) ∧ Fld Z h r0 "java/lang/AbstractStringBuilder" "count" "I" (.int (c1 + (z1 >>> ((0 : Int32) &&& 31)))) ∧ Arv Z h da kb .byte zc (vs.take cN ++ us ++ vs.drop (cN + nN)) (.int (0 : Int32))
theorem ef_rmSbN (m : MethodId) (x0 : Addr) (x1 : Addr) : entryFrame m #[(.ref x0), (.ref x1)] 2 = mkF m 0 #[.val (.ref x0), .val (.ref x1)] [] := by first | (simp [entryFrame, mkF, argsToLocals, Value.category]; done) | rfl
theorem pn_rmSbN : plainName "java/lang/StringBuilder" = true := by first | (simp [plainName, overriddenIn]; done) | decide +kernel
set_option maxRecDepth 65536 in
set_option maxHeartbeats 40000000 in
theorem rmSbN (l : Launch) (Z : State) (a0 : Array Value) (hw : ∀ d ∈ tables_1, d.before a0 Z = true) (ws : List Jvm.Cond) (r0 : Addr) (r1 : Addr) (da : Addr) (c1 : Int32) (kb : ClassId) (zc : Int32) (vs : List Value) (d1 : Addr) (kd : ClassId) (z1 : Int32) (us : List Value) (cs : Int32) (cN : Nat) (nN : Nat) (h0 : Heap) (n0 : Nat) (Z0 : n0 ≤ h0.size) (hp0 : Exa Z h0 r0 "java/lang/StringBuilder") (hp1 : n0 ≤ r0) (hp2 : Fld Z h0 r0 "java/lang/AbstractStringBuilder" "value" "[B" (.ref da)) (hp3 : Fld Z h0 r0 "java/lang/AbstractStringBuilder" "coder" "B" (.int (0 : Int32))) (hp4 : Fld Z h0 r0 "java/lang/AbstractStringBuilder" "count" "I" (.int c1)) (hp5 : Arv Z h0 da kb .byte zc vs (.int (0 : Int32))) (hp6 : n0 ≤ da) (hp7 : r0 ≠ da) (hp8 : Exa Z h0 r1 "java/lang/String") (hp9 : Fld Z h0 r1 "java/lang/String" "coder" "B" (.int (0 : Int32))) (hp10 : Fld Z h0 r1 "java/lang/String" "value" "[B" (.ref d1)) (hp11 : Arv Z h0 d1 kd .byte z1 us (.int (0 : Int32))) (hp12 : Sta Z h0 "java/lang/String" "COMPACT_STRINGS" "Z" (.int cs)) (hh0 : ¬ cs = (0 : Int32)) (hh1 : ¬ (c1 <<< ((0 : Int32) &&& 31)) < (0 : Int32)) (hh2 : (c1 <<< ((0 : Int32) &&& 31)).toNatClampNeg = cN) (hh3 : z1.toNatClampNeg = nN) (hh4 : us.length = nN) (hh5 : cN + nN ≤ zc.toNatClampNeg) (hh6 : cN + nN ≤ vs.length) (hh7 : ¬ z1 < (0 : Int32)) (hh8 : ¬ (0 : Int32) < ((c1 + (z1 >>> ((0 : Int32) &&& 31))) - (zc >>> ((0 : Int32) &&& 31)))) :
    MetFree l (⟨"java/lang/StringBuilder", "append", "(Ljava/lang/String;)Ljava/lang/StringBuilder;"⟩ : MethodName) (head1 (Jvm.Cond.code (⟨"java/lang/StringBuilder", "append", "(Ljava/lang/String;)Ljava/lang/StringBuilder;"⟩ : MethodName) jdk_67_method_7_code 2 (some (.object "java/lang/StringBuilder")) :: ws) ({ frames := 4, cells := 0, slots := 0, locals := 61 } : Room)) (fun a U => a = #[(.ref r0), (.ref r1)] ∧ Z.Warmed39 U.vm ∧ U.heap = h0) (fun _ _ _ _ _ => True) (fun _ U o U' => ∃ v L, o = .returned v ∧ Q_rmSbN Z r0 r1 da c1 kb zc vs d1 kd z1 us cs cN nN h0 n0 v U'.heap L ∧ FrameEnd U o U' L ({ frames := 4, cells := 0, slots := 0, locals := 61 } : Room).cells ({ frames := 4, cells := 0, slots := 0, locals := 61 } : Room).slots) := by
  refine MetFree.of_bodySF (plainFor_of_name pn_rmSbN) hisR ?_
  intro p e s m args below meth c s₁ Bd hml0 hP hK
  obtain ⟨rfl, hZ, hh⟩ := hP
  have hx := Bd.exec
  have hby := Bd.bytes
  have hml : c.maxLocals = 2 := hml0
  have hown : s.vm.findClass "java/lang/StringBuilder" = some m.cls := findClass_of_methodNamed Bd.named
  have hnm := (name_of_methodNamed Bd.named Bd.method).1
  have hlk : meth.locks = false := BodyLoose.notSynchronized Bd
  have X0 : Stand p l e ({ frames := 4, cells := 0, slots := 0, locals := 61 } : Room) s m #[(.ref r0), (.ref r1)] below meth c s₁ [] 0 0 := Stand.of_body Bd
  have e0 : s₁.heap = h0 := by rw [← hh, Bd.state]; rfl
  have N0 := Fr.nil n0
  show own_W p e below s (Q_rmSbN Z r0 r1 da c1 kb zc vs d1 kd z1 us cs cN nN h0 n0) 0 0 s₁ (entryFrame m #[(.ref r0), (.ref r1)] 2)
  skip
  skip
  refine own_go (T' := s₁) (g' := (mkF m 0 #[oa r0, oa r1] [])) (fun _ k => castTop (ef_rmSbN m r0 r1) k) ?_
  refine own_g s₁ (mkF m 2 #[oa r0, oa r1] [(.ref r1), (.ref r0)]) (fun _ k => XS.aloadN X0.here hx rfl (hb hby d12_0) rfl rfl (XS.aloadN X0.here hx rfl (hb hby d12_1) rfl rfl k)) ?_
  obtain ⟨_, _, ⟨T1, L1, k1, n1⟩, -, X1, ⟨Lc1, hQ1, l1, y1, z1⟩, st1⟩ := superBack X0 hx hZ (y := (⟨"java/lang/AbstractStringBuilder", "append", "(Ljava/lang/String;)Ljava/lang/AbstractStringBuilder;"⟩ : MethodName)) hown (own_w hw 79 rfl) (own_same (own_w hw 80 rfl) (own_w hw 99 rfl) rfl (by decide)) (own_w hw 80 rfl) (own_w hw 81 rfl) (by decide) (backOf (W := 0) (rmApN l Z a0 hw [] r0 r1 da c1 kb zc vs d1 kd z1 us cs cN nN h0 n0 Z0 hp0 hp1 hp2 hp3 hp4 hp5 hp6 hp7 hp8 hp9 hp10 hp11 hp12 hh0 hh1 hh2 hh3 hh4 hh5 hh6 hh7 hh8) hZ (own_w hw 83 rfl) (own_w hw 63 rfl) (by decide) (by decide)) e0 (Ins.self hp0) (g := (mkF m 2 #[oa r0, oa r1] [(.ref r1), (.ref r0)])) rfl (by rw [hml]; rfl) (own_w hw 83 rfl) (argsL := [(.ref r1)]) (rest := []) (lenOf own_pd14 rfl) rfl (Nat.le_of_eq rfl) (hb hby d12_2) (fun _ _ => ⟨rfl, e0, (by decide : 0 + 0 ≤ _), (by decide : 0 + 0 ≤ _)⟩)
  dsimp only [Pt.U, Pt.locs, Pt.cells, Pt.slots] at X1 l1 y1 z1 st1 hQ1
  subst l1 y1 z1
  obtain ⟨rfl, N1q, K1, po2, po3, po4, po5⟩ := hQ1
  have f6 := (hp0.keep K1)
  have f7 := (hp8.keep K1)
  have f8 := (own_sta_keep hp12 K1 (nsS hp0.nostat (nsS (own_arv_ns hp5) ns0)))
  have zs1 : n0 ≤ T1.heap.size := Nat.le_trans Z0 K1.1
  have kk1 : Keep h0 T1.heap [r0, da] := (Keep.refl h0 [r0, da]).trans K1 (allS (Or.inl (List.mem_of_getElem? (i := 0) rfl)) (allS (Or.inl (List.mem_of_getElem? (i := 1) rfl)) all0))
  have N1 := Fr.app N0 N1q
  obtain ⟨Lv1, X1, N1⟩ := own_hide X1 (Nat.le_refl 0) (Nat.le_refl 0) N1
  refine own_g T1 (mkF m 7 #[oa r0, oa r1] [(.ref r0)]) (fun _ k => st1.trans (XT.pop X1.here hx rfl (hb hby d12_5) rfl rfl (XS.aloadN X1.here hx rfl (hb hby d12_6) rfl rfl k))) ?_
  exact own_ret X1 hx Bd.returns hlk rfl (Or.inr (Or.inr (Or.inr (Or.inr ⟨rfl, rfl, rfl⟩)))) (hb hby d12_7) rfl ⟨rfl, N1, kk1, po2, po3, po4, po5⟩ (by decide) (by decide)
def Q_rmApG (Z : State) (r0 : Addr) (r1 : Addr) (da : Addr) (c1 : Int32) (kb : ClassId) (vs : List Value) (d1 : Addr) (kd : ClassId) (z1 : Int32) (us : List Value) (cs : Int32) (cN : Nat) (nN : Nat) (h0 : Heap) (n0 : Nat) (v : Option Value) (h : Heap) (L : List Loc) : Prop := ∃ (xb : Addr) (xk : ClassId), v = some (.ref r0) ∧ Fr n0 L ∧ Keep h0 h [r0] ∧ h0.size ≤ xb ∧ Fld Z h r0 "java/lang/AbstractStringBuilder" "value" "[B" (.ref xb) ∧ Fld Z h r0 "java/lang/AbstractStringBuilder" "coder" "B" (.int (0 : Int32)) ∧ Fld Z h r0 "java/lang/AbstractStringBuilder" "count" "I" (.int (c1 + (z1 >>> ((0 : Int32) &&& 31)))) ∧ Arv Z h xb xk .byte (34 : Int32) ((vs ++ List.replicate 18 (.int (0 : Int32)) : List Value).take cN ++ us ++ (vs ++ List.replicate 18 (.int (0 : Int32)) : List Value).drop (cN + nN)) (.int (0 : Int32))
theorem ef_rmApG (m : MethodId) (x0 : Addr) (x1 : Addr) : entryFrame m #[(.ref x0), (.ref x1)] 3 = mkF m 0 #[.val (.ref x0), .val (.ref x1), .unset] [] := by first | (simp [entryFrame, mkF, argsToLocals, Value.category]; done) | rfl
theorem pn_rmApG : plainName "java/lang/AbstractStringBuilder" = true := by first | (simp [plainName, overriddenIn]; done) | decide +kernel
set_option maxRecDepth 65536 in
set_option maxHeartbeats 40000000 in
theorem rmApG (l : Launch) (Z : State) (a0 : Array Value) (hw : ∀ d ∈ tables_1, d.before a0 Z = true) (ws : List Jvm.Cond) (r0 : Addr) (r1 : Addr) (da : Addr) (c1 : Int32) (kb : ClassId) (vs : List Value) (d1 : Addr) (kd : ClassId) (z1 : Int32) (us : List Value) (cs : Int32) (cN : Nat) (nN : Nat) (h0 : Heap) (n0 : Nat) (Z0 : n0 ≤ h0.size) (hp0 : Exa Z h0 r0 "java/lang/StringBuilder") (hp1 : n0 ≤ r0) (hp2 : Fld Z h0 r0 "java/lang/AbstractStringBuilder" "value" "[B" (.ref da)) (hp3 : Fld Z h0 r0 "java/lang/AbstractStringBuilder" "coder" "B" (.int (0 : Int32))) (hp4 : Fld Z h0 r0 "java/lang/AbstractStringBuilder" "count" "I" (.int c1)) (hp5 : Arv Z h0 da kb .byte (16 : Int32) vs (.int (0 : Int32))) (hp6 : r1 ≠ r0) (hp7 : d1 ≠ r0) (hp8 : Exa Z h0 r1 "java/lang/String") (hp9 : Fld Z h0 r1 "java/lang/String" "coder" "B" (.int (0 : Int32))) (hp10 : Fld Z h0 r1 "java/lang/String" "value" "[B" (.ref d1)) (hp11 : Arv Z h0 d1 kd .byte z1 us (.int (0 : Int32))) (hp12 : Sta Z h0 "java/lang/String" "COMPACT_STRINGS" "Z" (.int cs)) (hh0 : ¬ cs = (0 : Int32)) (hh1 : ¬ (c1 <<< ((0 : Int32) &&& 31)) < (0 : Int32)) (hh2 : (c1 <<< ((0 : Int32) &&& 31)).toNatClampNeg = cN) (hh3 : z1.toNatClampNeg = nN) (hh4 : us.length = nN) (hh5 : cN + nN ≤ (34 : Int32).toNatClampNeg) (hh6 : cN + nN ≤ (vs ++ List.replicate 18 (.int (0 : Int32)) : List Value).length) (hh7 : ¬ z1 < (0 : Int32)) (hh8 : (0 : Int32) < ((c1 + (z1 >>> ((0 : Int32) &&& 31))) - (16 : Int32))) (hh9 : own_max (((c1 + (z1 >>> ((0 : Int32) &&& 31))) <<< ((0 : Int32) &&& 31)) - (16 : Int32)) (18 : Int32) = (18 : Int32)) (hh10 : vs.length = 16) :
    MetFree l (⟨"java/lang/AbstractStringBuilder", "append", "(Ljava/lang/String;)Ljava/lang/AbstractStringBuilder;"⟩ : MethodName) (head1 (Jvm.Cond.code (⟨"java/lang/AbstractStringBuilder", "append", "(Ljava/lang/String;)Ljava/lang/AbstractStringBuilder;"⟩ : MethodName) jdk_68_method_22_code 3 (some (.object "java/lang/AbstractStringBuilder")) :: ws) ({ frames := 4, cells := 1, slots := 34, locals := 62 } : Room)) (fun a U => a = #[(.ref r0), (.ref r1)] ∧ Z.Warmed39 U.vm ∧ U.heap = h0) (fun _ _ _ _ _ => True) (fun _ U o U' => ∃ v L, o = .returned v ∧ Q_rmApG Z r0 r1 da c1 kb vs d1 kd z1 us cs cN nN h0 n0 v U'.heap L ∧ FrameEnd U o U' L ({ frames := 4, cells := 1, slots := 34, locals := 62 } : Room).cells ({ frames := 4, cells := 1, slots := 34, locals := 62 } : Room).slots) := by
  refine MetFree.of_bodySF (plainFor_of_name pn_rmApG) hisR ?_
  intro p e s m args below meth c s₁ Bd hml0 hP hK
  obtain ⟨rfl, hZ, hh⟩ := hP
  have hx := Bd.exec
  have hby := Bd.bytes
  have hml : c.maxLocals = 3 := hml0
  have hown : s.vm.findClass "java/lang/AbstractStringBuilder" = some m.cls := findClass_of_methodNamed Bd.named
  have hnm := (name_of_methodNamed Bd.named Bd.method).1
  have hlk : meth.locks = false := BodyLoose.notSynchronized Bd
  have X0 : Stand p l e ({ frames := 4, cells := 1, slots := 34, locals := 62 } : Room) s m #[(.ref r0), (.ref r1)] below meth c s₁ [] 0 0 := Stand.of_body Bd
  have e0 : s₁.heap = h0 := by rw [← hh, Bd.state]; rfl
  have N0 := Fr.nil n0
  show own_W p e below s (Q_rmApG Z r0 r1 da c1 kb vs d1 kd z1 us cs cN nN h0 n0) 1 34 s₁ (entryFrame m #[(.ref r0), (.ref r1)] 3)
  skip
  skip
  refine own_go (T' := s₁) (g' := (mkF m 0 #[oa r0, oa r1, .unset] [])) (fun _ k => castTop (ef_rmApG m r0 r1) k) ?_
  refine own_g s₁ (mkF m 10 #[oa r0, oa r1, .unset] [(.ref r1)]) (fun _ k => XS.aloadN X0.here hx rfl (hb hby d13_0) rfl rfl (XT.ifnonnullYes X0.here hx rfl (pc0 := 1) (pc' := 9) rfl (hb hby d13_1) rfl (by decide) (by decide) (XS.aloadN X0.here hx rfl (hb hby d13_9) rfl rfl k))) ?_
  obtain ⟨cq1, kq1, q1a, q1b, q1c⟩ := isOf hZ e0 hp8
  obtain ⟨_, _, ⟨T1, L1, k1, n1⟩, -, X1, ⟨Lc1, hQ1, l1, y1, z1⟩, st1⟩ := X0.virtualBack hx (y := (⟨"java/lang/String", "length", "()I"⟩ : MethodName)) (z := (⟨"java/lang/String", "length", "()I"⟩ : MethodName)) hown (mvT hZ (own_w hw 84 rfl)) (mvT hZ (own_w hw 85 rfl)) (notFace_of_selects (args := #[]) (mvT hZ (own_w hw 87 rfl))) (mvT hZ (own_w hw 87 rfl)) (mvT hZ (own_w hw 86 rfl)) (by decide) (backOf (W := 0) (rmLen l Z a0 hw [] r1 d1 kd z1 us cs h0 n0 Z0 hp8 hp9 hp10 hp11 hp12 hh0) hZ (own_w hw 88 rfl) (own_w hw 6 rfl) (by decide) (by decide)) q1a q1c (g := (mkF m 10 #[oa r0, oa r1, .unset] [(.ref r1)])) rfl (by rw [hml]; rfl) (Steps.refl _) (argsL := []) (rest := []) (lenOf own_pd11 rfl) rfl (Nat.le_of_eq rfl) (hb hby d13_10) (fun _ _ => ⟨rfl, e0, (by decide : 0 + 0 ≤ _), (by decide : 0 + 0 ≤ _)⟩)
  dsimp only [Pt.U, Pt.locs, Pt.cells, Pt.slots] at X1 l1 y1 z1 st1 hQ1
  subst l1 y1 z1
  obtain ⟨rfl, N1q, e1⟩ := hQ1
  have N1 := Fr.app N0 N1q
  obtain ⟨Lv1, X1, N1⟩ := own_hide X1 (Nat.le_refl 0) (Nat.le_refl 0) N1
  refine own_g T1 (mkF m 16 #[oa r0, oa r1, .val (.int (z1 >>> ((0 : Int32) &&& 31)))] [(.ref r0), (.ref r0)]) (fun _ k => st1.trans (XS.istoreN X1.here hx rfl (hb hby d13_13) rfl (l' := #[oa r0, oa r1, .val (.int (z1 >>> ((0 : Int32) &&& 31)))]) rfl (XS.aloadN X1.here hx rfl (hb hby d13_14) rfl rfl (XS.aloadN X1.here hx rfl (hb hby d13_15) rfl rfl k)))) ?_
  obtain ⟨T2, X2, e2, st2⟩ := getF X1 hx hZ hown (host := "") (Or.inl (own_w hw 94 rfl)) Via.refl e1 hp4 (g := (mkF m 16 #[oa r0, oa r1, .val (.int (z1 >>> ((0 : Int32) &&& 31)))] [(.ref r0), (.ref r0)])) rfl rfl (hb hby d13_16)
  refine own_g T2 (mkF m 21 #[oa r0, oa r1, .val (.int (z1 >>> ((0 : Int32) &&& 31)))] [(.int (c1 + (z1 >>> ((0 : Int32) &&& 31)))), (.ref r0)]) (fun _ k => st2 _ (XS.iloadN X2.here hx rfl (hb hby d13_19) rfl (XS.iadd X2.here hx rfl (hb hby d13_20) rfl k))) ?_
  obtain ⟨cq3, kq3, q3a, q3b, cl3, q3d, -, q3e⟩ := isOf hZ e2 hp0
  obtain ⟨_, _, ⟨T3, L3, k3, n3⟩, -, X3, ⟨Lc3, hQ3, l3, y3, z3⟩, st3⟩ := X2.privateBack hx (y := (⟨"java/lang/AbstractStringBuilder", "ensureCapacityInternal", "(I)V"⟩ : MethodName)) hown (mvT hZ (own_w hw 96 rfl)) (mvT hZ (own_w hw 97 rfl)) (own_selfSel (mvT hZ (own_w hw 99 rfl)) (Cond.privateMethod_at (args := #[]) (mvP hZ (own_w hw 98 rfl))) (mvT hZ (own_w hw 97 rfl)) (by decide)) (Cond.privateMethod_at (args := #[]) (mvP hZ (own_w hw 98 rfl))) (mvT hZ (own_w hw 100 rfl)) (by decide) (backOf (W := 0) (rmEnsG l Z a0 hw [] r0 (c1 + (z1 >>> ((0 : Int32) &&& 31))) da c1 kb vs h0 n0 Z0 hp0 hp1 hp2 hp3 hp4 hp5 hh8 hh9 hh10) hZ (own_w hw 100 rfl) (own_w hw 63 rfl) (by decide) (by decide)) (g := (mkF m 21 #[oa r0, oa r1, .val (.int (z1 >>> ((0 : Int32) &&& 31)))] [(.int (c1 + (z1 >>> ((0 : Int32) &&& 31)))), (.ref r0)])) rfl (by rw [hml]; rfl) (Steps.refl _) (a := r0) q3d (own_nst q3e) (argsL := [(.int (c1 + (z1 >>> ((0 : Int32) &&& 31))))]) (rest := []) (lenOf own_pd12 rfl) rfl (Nat.le_of_eq rfl) (hb hby d13_21) (fun _ _ => ⟨rfl, e2, (by decide : 0 + 1 ≤ _), (by decide : 0 + 34 ≤ _)⟩)
  dsimp only [Pt.U, Pt.locs, Pt.cells, Pt.slots] at X3 l3 y3 z3 st3 hQ3
  subst l3 y3 z3
  obtain ⟨xb_3, xk_3, rfl, N3q, K3, po4, po5, po6, po7, po8⟩ := hQ3
  have f9 := (hp0.keep K3)
  have f10 := (hp8.keep K3)
  have f11 := (hp9.keep K3 (ninS hp6 nin0))
  have f12 := (hp10.keep K3 (ninS hp6 nin0))
  have f13 := (hp11.keep K3 (ninS hp7 nin0))
  have f14 := (own_sta_keep hp12 K3 (nsS hp0.nostat ns0))
  have ne15 : r0 ≠ xb_3 := Nat.ne_of_lt (Nat.lt_of_lt_of_le hp0.lt po4)
  have ne16 : da ≠ xb_3 := Nat.ne_of_lt (Nat.lt_of_lt_of_le hp5.lt po4)
  have ne17 : r1 ≠ xb_3 := Nat.ne_of_lt (Nat.lt_of_lt_of_le hp8.lt po4)
  have ne18 : d1 ≠ xb_3 := Nat.ne_of_lt (Nat.lt_of_lt_of_le hp11.lt po4)
  have ge19 : n0 ≤ xb_3 := Nat.le_trans Z0 po4
  have sz20 : h0.size ≤ xb_3 := Nat.le_trans (Keep.refl h0 [r0]).1 po4
  have zs3 : n0 ≤ T3.heap.size := Nat.le_trans Z0 K3.1
  have kk3 : Keep h0 T3.heap [r0] := (Keep.refl h0 [r0]).trans K3 (allS (Or.inl (List.mem_of_getElem? (i := 0) rfl)) all0)
  have N3 := Fr.app N1 N3q
  obtain ⟨Lv3, X3, N3⟩ := own_hide X3 (Nat.le_refl 1) (Nat.le_refl 34) N3
  refine own_g T3 (mkF m 26 #[oa r0, oa r1, .val (.int (z1 >>> ((0 : Int32) &&& 31)))] [(.ref r0), (.ref r0)]) (fun _ k => st3.trans (XS.aloadN X3.here hx rfl (hb hby d13_24) rfl rfl (XS.aloadN X3.here hx rfl (hb hby d13_25) rfl rfl k))) ?_
  obtain ⟨T21, X21, e21, st21⟩ := getF X3 hx hZ hown (host := "") (Or.inl (own_w hw 94 rfl)) Via.refl rfl po7 (g := (mkF m 26 #[oa r0, oa r1, .val (.int (z1 >>> ((0 : Int32) &&& 31)))] [(.ref r0), (.ref r0)])) rfl rfl (hb hby d13_26)
  refine own_g T21 (mkF m 30 #[oa r0, oa r1, .val (.int (z1 >>> ((0 : Int32) &&& 31)))] [(.ref r1), (.int c1), (.ref r0)]) (fun _ k => st21 _ (XS.aloadN X21.here hx rfl (hb hby d13_29) rfl rfl k)) ?_
  obtain ⟨cq22, kq22, q22a, q22b, cl22, q22d, -, q22e⟩ := isOf hZ e21 f9
  obtain ⟨_, _, ⟨T22, L22, k22, n22⟩, -, X22, ⟨Lc22, hQ22, l22, y22, z22⟩, st22⟩ := X21.privateBack hx (y := (⟨"java/lang/AbstractStringBuilder", "putStringAt", "(ILjava/lang/String;)V"⟩ : MethodName)) hown (mvT hZ (own_w hw 101 rfl)) (mvT hZ (own_w hw 102 rfl)) (own_selfSel (mvT hZ (own_w hw 104 rfl)) (Cond.privateMethod_at (args := #[]) (mvP hZ (own_w hw 103 rfl))) (mvT hZ (own_w hw 102 rfl)) (by decide)) (Cond.privateMethod_at (args := #[]) (mvP hZ (own_w hw 103 rfl))) (mvT hZ (own_w hw 105 rfl)) (by decide) (backOf (W := 0) (rmPutS l Z a0 hw [] r0 c1 r1 xb_3 d1 kd z1 us cs xk_3 (34 : Int32) (vs ++ List.replicate 18 (.int (0 : Int32)) : List Value) cN nN T3.heap n0 zs3 f9 hp1 po5 po6 po8 ge19 f10 f11 f12 f13 f14 hh0 hh1 hh2 hh3 hh4 hh5 hh6 hh7) hZ (own_w hw 105 rfl) (own_w hw 63 rfl) (by decide) (by decide)) (g := (mkF m 30 #[oa r0, oa r1, .val (.int (z1 >>> ((0 : Int32) &&& 31)))] [(.ref r1), (.int c1), (.ref r0)])) rfl (by rw [hml]; rfl) (Steps.refl _) (a := r0) q22d (own_nst q22e) (argsL := [(.int c1), (.ref r1)]) (rest := []) (lenOf own_pd13 rfl) rfl (Nat.le_of_eq rfl) (hb hby d13_30) (fun _ _ => ⟨rfl, e21, (by decide : 1 + 0 ≤ _), (by decide : 34 + 0 ≤ _)⟩)
  dsimp only [Pt.U, Pt.locs, Pt.cells, Pt.slots] at X22 l22 y22 z22 st22 hQ22
  subst l22 y22 z22
  obtain ⟨rfl, N22q, K22, po23⟩ := hQ22
  have f24 := (f9.keep K22)
  have f25 := (f10.keep K22)
  have f26 := (f11.keep K22 (ninS ne17 nin0))
  have f27 := (f12.keep K22 (ninS ne17 nin0))
  have f28 := (f13.keep K22 (ninS ne18 nin0))
  have f29 := (own_sta_keep f14 K22 (nsS (own_arv_ns po8) ns0))
  have f30 := (po5.keep K22 (ninS ne15 nin0))
  have f31 := (po6.keep K22 (ninS ne15 nin0))
  have f32 := (po7.keep K22 (ninS ne15 nin0))
  have zs22 : n0 ≤ T22.heap.size := Nat.le_trans zs3 K22.1
  have kk22 : Keep h0 T22.heap [r0] := kk3.trans K22 (allS (Or.inr sz20) all0)
  have N22 := Fr.app N3 N22q
  obtain ⟨Lv22, X22, N22⟩ := own_hide X22 (Nat.le_refl 1) (Nat.le_refl 34) N22
  refine own_g T22 (mkF m 35 #[oa r0, oa r1, .val (.int (z1 >>> ((0 : Int32) &&& 31)))] [(.ref r0), (.ref r0)]) (fun _ k => st22.trans (XS.aloadN X22.here hx rfl (hb hby d13_33) rfl rfl (XS.dup X22.here hx rfl (hb hby d13_34) rfl rfl k))) ?_
  obtain ⟨T33, X33, e33, st33⟩ := getF X22 hx hZ hown (host := "") (Or.inl (own_w hw 94 rfl)) Via.refl rfl f32 (g := (mkF m 35 #[oa r0, oa r1, .val (.int (z1 >>> ((0 : Int32) &&& 31)))] [(.ref r0), (.ref r0)])) rfl rfl (hb hby d13_35)
  refine own_g T33 (mkF m 40 #[oa r0, oa r1, .val (.int (z1 >>> ((0 : Int32) &&& 31)))] [(.int (c1 + (z1 >>> ((0 : Int32) &&& 31)))), (.ref r0)]) (fun _ k => st33 _ (XS.iloadN X33.here hx rfl (hb hby d13_38) rfl (XS.iadd X33.here hx rfl (hb hby d13_39) rfl k))) ?_
  obtain ⟨T34, h34, X34, e34, W34, st34⟩ := putF X33 hx hZ hown (host := "") (Or.inl (own_w hw 94 rfl)) Via.refl e33 f32 f24 (Or.inl (own_w hw 95 rfl)) (own_w hw 54 rfl) (ty := .int) (by decide) rfl rfl (g := (mkF m 40 #[oa r0, oa r1, .val (.int (z1 >>> ((0 : Int32) &&& 31)))] [(.int (c1 + (z1 >>> ((0 : Int32) &&& 31)))), (.ref r0)])) rfl rfl (hb hby d13_40)
  have f35 := (f24.wr W34)
  have f36 := (f25.wr W34)
  have f37 := (f26.other W34 (Or.inl hp6))
  have f38 := (f27.other W34 (Or.inl hp6))
  have f39 := (f28.other W34 hp7)
  have f40 := (f29.wr W34)
  have f41 := (f30.other W34 (Or.inr (slot_ne (Or.inl (own_w hw 68 rfl)) (Or.inl (own_w hw 95 rfl)) (by decide) (t := (.array .byte)) (t' := .int) (by decide) (by decide))))
  have f42 := (f31.other W34 (Or.inr (slot_ne (Or.inl (own_w hw 70 rfl)) (Or.inl (own_w hw 95 rfl)) (by decide) (t := .byte) (t' := .int) (by decide) (by decide))))
  have f43 := (po23.other W34 (Ne.symm ne15))
  have fw34 : Fld Z h34 r0 "java/lang/AbstractStringBuilder" "count" "I" (.int (c1 + (z1 >>> ((0 : Int32) &&& 31)))) := f32.same W34
  have N34 := Fr.snoc X34 N22 hp1
  have zs34 : n0 ≤ h34.size := by rw [W34.size]; exact zs22
  have kk34 : Keep h0 h34 [r0] := kk22.wr W34 (Or.inl (List.mem_of_getElem? (i := 0) rfl))
  refine own_g T34 (mkF m 44 #[oa r0, oa r1, .val (.int (z1 >>> ((0 : Int32) &&& 31)))] [(.ref r0)]) (fun _ k => st34 _ (XS.aloadN X34.here hx rfl (hb hby d13_43) rfl rfl k)) ?_
  exact own_ret X34 hx Bd.returns hlk rfl (Or.inr (Or.inr (Or.inr (Or.inr ⟨rfl, rfl, rfl⟩)))) (hb hby d13_44) e34 ⟨xb_3, xk_3, rfl, N34, kk34, sz20, f41, f42, fw34, f43⟩ (by decide) (by decide)
def Q_rmSbG (Z : State) (r0 : Addr) (r1 : Addr) (da : Addr) (c1 : Int32) (kb : ClassId) (vs : List Value) (d1 : Addr) (kd : ClassId) (z1 : Int32) (us : List Value) (cs : Int32) (cN : Nat) (nN : Nat) (h0 : Heap) (n0 : Nat) (v : Option Value) (h : Heap) (L : List Loc) : Prop := ∃ (xb : Addr) (xk : ClassId), v = some (.ref r0) ∧ Fr n0 L ∧ Keep h0 h [r0] ∧ h0.size ≤ xb ∧ Fld Z h r0 "java/lang/AbstractStringBuilder" "value" "[B" (.ref xb) ∧ Fld Z h r0 "java/lang/AbstractStringBuilder" "coder" "B" (.int (0 : Int32)) ∧ Fld Z h r0 "java/lang/AbstractStringBuilder" "count" "I" (.int (c1 + (z1 >>> ((0 : Int32) &&& 31)))) ∧ Arv Z h xb xk .byte (34 : Int32) ((vs ++ List.replicate 18 (.int (0 : Int32)) : List Value).take cN ++ us ++ (vs ++ List.replicate 18 (.int (0 : Int32)) : List Value).drop (cN + nN)) (.int (0 : Int32))
theorem ef_rmSbG (m : MethodId) (x0 : Addr) (x1 : Addr) : entryFrame m #[(.ref x0), (.ref x1)] 2 = mkF m 0 #[.val (.ref x0), .val (.ref x1)] [] := by first | (simp [entryFrame, mkF, argsToLocals, Value.category]; done) | rfl
theorem pn_rmSbG : plainName "java/lang/StringBuilder" = true := by first | (simp [plainName, overriddenIn]; done) | decide +kernel
set_option maxRecDepth 65536 in
set_option maxHeartbeats 40000000 in
theorem rmSbG (l : Launch) (Z : State) (a0 : Array Value) (hw : ∀ d ∈ tables_1, d.before a0 Z = true) (ws : List Jvm.Cond) (r0 : Addr) (r1 : Addr) (da : Addr) (c1 : Int32) (kb : ClassId) (vs : List Value) (d1 : Addr) (kd : ClassId) (z1 : Int32) (us : List Value) (cs : Int32) (cN : Nat) (nN : Nat) (h0 : Heap) (n0 : Nat) (Z0 : n0 ≤ h0.size) (hp0 : Exa Z h0 r0 "java/lang/StringBuilder") (hp1 : n0 ≤ r0) (hp2 : Fld Z h0 r0 "java/lang/AbstractStringBuilder" "value" "[B" (.ref da)) (hp3 : Fld Z h0 r0 "java/lang/AbstractStringBuilder" "coder" "B" (.int (0 : Int32))) (hp4 : Fld Z h0 r0 "java/lang/AbstractStringBuilder" "count" "I" (.int c1)) (hp5 : Arv Z h0 da kb .byte (16 : Int32) vs (.int (0 : Int32))) (hp6 : r1 ≠ r0) (hp7 : d1 ≠ r0) (hp8 : Exa Z h0 r1 "java/lang/String") (hp9 : Fld Z h0 r1 "java/lang/String" "coder" "B" (.int (0 : Int32))) (hp10 : Fld Z h0 r1 "java/lang/String" "value" "[B" (.ref d1)) (hp11 : Arv Z h0 d1 kd .byte z1 us (.int (0 : Int32))) (hp12 : Sta Z h0 "java/lang/String" "COMPACT_STRINGS" "Z" (.int cs)) (hh0 : ¬ cs = (0 : Int32)) (hh1 : ¬ (c1 <<< ((0 : Int32) &&& 31)) < (0 : Int32)) (hh2 : (c1 <<< ((0 : Int32) &&& 31)).toNatClampNeg = cN) (hh3 : z1.toNatClampNeg = nN) (hh4 : us.length = nN) (hh5 : cN + nN ≤ (34 : Int32).toNatClampNeg) (hh6 : cN + nN ≤ (vs ++ List.replicate 18 (.int (0 : Int32)) : List Value).length) (hh7 : ¬ z1 < (0 : Int32)) (hh8 : (0 : Int32) < ((c1 + (z1 >>> ((0 : Int32) &&& 31))) - (16 : Int32))) (hh9 : own_max (((c1 + (z1 >>> ((0 : Int32) &&& 31))) <<< ((0 : Int32) &&& 31)) - (16 : Int32)) (18 : Int32) = (18 : Int32)) (hh10 : vs.length = 16) :
    MetFree l (⟨"java/lang/StringBuilder", "append", "(Ljava/lang/String;)Ljava/lang/StringBuilder;"⟩ : MethodName) (head1 (Jvm.Cond.code (⟨"java/lang/StringBuilder", "append", "(Ljava/lang/String;)Ljava/lang/StringBuilder;"⟩ : MethodName) jdk_67_method_7_code 2 (some (.object "java/lang/StringBuilder")) :: ws) ({ frames := 5, cells := 1, slots := 34, locals := 76 } : Room)) (fun a U => a = #[(.ref r0), (.ref r1)] ∧ Z.Warmed39 U.vm ∧ U.heap = h0) (fun _ _ _ _ _ => True) (fun _ U o U' => ∃ v L, o = .returned v ∧ Q_rmSbG Z r0 r1 da c1 kb vs d1 kd z1 us cs cN nN h0 n0 v U'.heap L ∧ FrameEnd U o U' L ({ frames := 5, cells := 1, slots := 34, locals := 76 } : Room).cells ({ frames := 5, cells := 1, slots := 34, locals := 76 } : Room).slots) := by
  refine MetFree.of_bodySF (plainFor_of_name pn_rmSbG) hisR ?_
  intro p e s m args below meth c s₁ Bd hml0 hP hK
  obtain ⟨rfl, hZ, hh⟩ := hP
  have hx := Bd.exec
  have hby := Bd.bytes
  have hml : c.maxLocals = 2 := hml0
  have hown : s.vm.findClass "java/lang/StringBuilder" = some m.cls := findClass_of_methodNamed Bd.named
  have hnm := (name_of_methodNamed Bd.named Bd.method).1
  have hlk : meth.locks = false := BodyLoose.notSynchronized Bd
  have X0 : Stand p l e ({ frames := 5, cells := 1, slots := 34, locals := 76 } : Room) s m #[(.ref r0), (.ref r1)] below meth c s₁ [] 0 0 := Stand.of_body Bd
  have e0 : s₁.heap = h0 := by rw [← hh, Bd.state]; rfl
  have N0 := Fr.nil n0
  show own_W p e below s (Q_rmSbG Z r0 r1 da c1 kb vs d1 kd z1 us cs cN nN h0 n0) 1 34 s₁ (entryFrame m #[(.ref r0), (.ref r1)] 2)
  skip
  skip
  refine own_go (T' := s₁) (g' := (mkF m 0 #[oa r0, oa r1] [])) (fun _ k => castTop (ef_rmSbG m r0 r1) k) ?_
  refine own_g s₁ (mkF m 2 #[oa r0, oa r1] [(.ref r1), (.ref r0)]) (fun _ k => XS.aloadN X0.here hx rfl (hb hby d12_0) rfl rfl (XS.aloadN X0.here hx rfl (hb hby d12_1) rfl rfl k)) ?_
  obtain ⟨_, _, ⟨T1, L1, k1, n1⟩, -, X1, ⟨Lc1, hQ1, l1, y1, z1⟩, st1⟩ := superBack X0 hx hZ (y := (⟨"java/lang/AbstractStringBuilder", "append", "(Ljava/lang/String;)Ljava/lang/AbstractStringBuilder;"⟩ : MethodName)) hown (own_w hw 79 rfl) (own_same (own_w hw 80 rfl) (own_w hw 99 rfl) rfl (by decide)) (own_w hw 80 rfl) (own_w hw 81 rfl) (by decide) (backOf (W := 0) (rmApG l Z a0 hw [] r0 r1 da c1 kb vs d1 kd z1 us cs cN nN h0 n0 Z0 hp0 hp1 hp2 hp3 hp4 hp5 hp6 hp7 hp8 hp9 hp10 hp11 hp12 hh0 hh1 hh2 hh3 hh4 hh5 hh6 hh7 hh8 hh9 hh10) hZ (own_w hw 83 rfl) (own_w hw 63 rfl) (by decide) (by decide)) e0 (Ins.self hp0) (g := (mkF m 2 #[oa r0, oa r1] [(.ref r1), (.ref r0)])) rfl (by rw [hml]; rfl) (own_w hw 83 rfl) (argsL := [(.ref r1)]) (rest := []) (lenOf own_pd14 rfl) rfl (Nat.le_of_eq rfl) (hb hby d12_2) (fun _ _ => ⟨rfl, e0, (by decide : 0 + 1 ≤ _), (by decide : 0 + 34 ≤ _)⟩)
  dsimp only [Pt.U, Pt.locs, Pt.cells, Pt.slots] at X1 l1 y1 z1 st1 hQ1
  subst l1 y1 z1
  obtain ⟨xb_1, xk_1, rfl, N1q, K1, po2, po3, po4, po5, po6⟩ := hQ1
  have f7 := (hp0.keep K1)
  have f8 := (hp8.keep K1)
  have f9 := (hp9.keep K1 (ninS hp6 nin0))
  have f10 := (hp10.keep K1 (ninS hp6 nin0))
  have f11 := (hp11.keep K1 (ninS hp7 nin0))
  have f12 := (own_sta_keep hp12 K1 (nsS hp0.nostat ns0))
  have ne13 : r0 ≠ xb_1 := Nat.ne_of_lt (Nat.lt_of_lt_of_le hp0.lt po2)
  have ne14 : da ≠ xb_1 := Nat.ne_of_lt (Nat.lt_of_lt_of_le hp5.lt po2)
  have ne15 : r1 ≠ xb_1 := Nat.ne_of_lt (Nat.lt_of_lt_of_le hp8.lt po2)
  have ne16 : d1 ≠ xb_1 := Nat.ne_of_lt (Nat.lt_of_lt_of_le hp11.lt po2)
  have ge17 : n0 ≤ xb_1 := Nat.le_trans Z0 po2
  have sz18 : h0.size ≤ xb_1 := Nat.le_trans (Keep.refl h0 [r0]).1 po2
  have zs1 : n0 ≤ T1.heap.size := Nat.le_trans Z0 K1.1
  have kk1 : Keep h0 T1.heap [r0] := (Keep.refl h0 [r0]).trans K1 (allS (Or.inl (List.mem_of_getElem? (i := 0) rfl)) all0)
  have N1 := Fr.app N0 N1q
  obtain ⟨Lv1, X1, N1⟩ := own_hide X1 (Nat.le_refl 1) (Nat.le_refl 34) N1
  refine own_g T1 (mkF m 7 #[oa r0, oa r1] [(.ref r0)]) (fun _ k => st1.trans (XT.pop X1.here hx rfl (hb hby d12_5) rfl rfl (XS.aloadN X1.here hx rfl (hb hby d12_6) rfl rfl k))) ?_
  exact own_ret X1 hx Bd.returns hlk rfl (Or.inr (Or.inr (Or.inr (Or.inr ⟨rfl, rfl, rfl⟩)))) (hb hby d12_7) rfl ⟨xb_1, xk_1, rfl, N1, kk1, sz18, po3, po4, po5, po6⟩ (by decide) (by decide)
theorem d11_0 : decode jdk_68_method_2_code 0 = .ok (.aload_n 0, 1) := by decide +kernel
theorem d11_1 : decode jdk_68_method_2_code 1 = .ok (.invokespecial 3, 3) := by decide +kernel
theorem d11_4 : decode jdk_68_method_2_code 4 = .ok (.getstatic 18, 3) := by decide +kernel
theorem d11_7 : decode jdk_68_method_2_code 7 = .ok (.ifCond .eq 18, 3) := by decide +kernel
theorem d11_10 : decode jdk_68_method_2_code 10 = .ok (.aload_n 0, 1) := by decide +kernel
theorem d11_11 : decode jdk_68_method_2_code 11 = .ok (.iload_n 1, 1) := by decide +kernel
theorem d11_12 : decode jdk_68_method_2_code 12 = .ok (.newarray .byte, 2) := by decide +kernel
theorem d11_14 : decode jdk_68_method_2_code 14 = .ok (.putfield 15, 3) := by decide +kernel
theorem d11_17 : decode jdk_68_method_2_code 17 = .ok (.aload_n 0, 1) := by decide +kernel
theorem d11_18 : decode jdk_68_method_2_code 18 = .ok (.iconst 0, 1) := by decide +kernel
theorem d11_19 : decode jdk_68_method_2_code 19 = .ok (.putfield 22, 3) := by decide +kernel
theorem d11_22 : decode jdk_68_method_2_code 22 = .ok (.goto 16, 3) := by decide +kernel
theorem d11_38 : decode jdk_68_method_2_code 38 = .ok (.return_, 1) := by decide +kernel
def Q_rmAI (Z : State) (r0 : Addr) (cs : Int32) (h0 : Heap) (n0 : Nat) (v : Option Value) (h : Heap) (L : List Loc) : Prop := ∃ (xb : Addr) (xk : ClassId), v = none ∧ Fr n0 L ∧ Keep h0 h [r0] ∧ h0.size ≤ xb ∧ Fld Z h r0 "java/lang/AbstractStringBuilder" "value" "[B" (.ref xb) ∧ Fld Z h r0 "java/lang/AbstractStringBuilder" "coder" "B" (.int (0 : Int32)) ∧ Fld Z h r0 "java/lang/AbstractStringBuilder" "count" "I" (.int (0 : Int32)) ∧ Arv Z h xb xk .byte (16 : Int32) [(.int (0 : Int32)), (.int (0 : Int32)), (.int (0 : Int32)), (.int (0 : Int32)), (.int (0 : Int32)), (.int (0 : Int32)), (.int (0 : Int32)), (.int (0 : Int32)), (.int (0 : Int32)), (.int (0 : Int32)), (.int (0 : Int32)), (.int (0 : Int32)), (.int (0 : Int32)), (.int (0 : Int32)), (.int (0 : Int32)), (.int (0 : Int32))] (.int (0 : Int32))
theorem ef_rmAI (m : MethodId) (x0 : Addr) (x1 : Int32) : entryFrame m #[(.ref x0), (.int x1)] 2 = mkF m 0 #[.val (.ref x0), .val (.int x1)] [] := by first | (simp [entryFrame, mkF, argsToLocals, Value.category]; done) | rfl
theorem pn_rmAI : plainName "java/lang/AbstractStringBuilder" = true := by first | (simp [plainName, overriddenIn]; done) | decide +kernel
set_option maxRecDepth 65536 in
set_option maxHeartbeats 40000000 in
theorem rmAI (l : Launch) (Z : State) (a0 : Array Value) (hw : ∀ d ∈ tables_1, d.before a0 Z = true) (ws : List Jvm.Cond) (r0 : Addr) (cs : Int32) (h0 : Heap) (n0 : Nat) (Z0 : n0 ≤ h0.size) (hp0 : Exa Z h0 r0 "java/lang/StringBuilder") (hp1 : n0 ≤ r0) (hp2 : Fld Z h0 r0 "java/lang/AbstractStringBuilder" "value" "[B" .null) (hp3 : Fld Z h0 r0 "java/lang/AbstractStringBuilder" "coder" "B" (.int (0 : Int32))) (hp4 : Fld Z h0 r0 "java/lang/AbstractStringBuilder" "count" "I" (.int (0 : Int32))) (hp5 : Sta Z h0 "java/lang/String" "COMPACT_STRINGS" "Z" (.int cs)) (hh0 : ¬ cs = (0 : Int32)) :
    MetFree l (⟨"java/lang/AbstractStringBuilder", "<init>", "(I)V"⟩ : MethodName) (head1 (Jvm.Cond.code (⟨"java/lang/AbstractStringBuilder", "<init>", "(I)V"⟩ : MethodName) jdk_68_method_2_code 2 none :: ws) ({ frames := 1, cells := 1, slots := 16, locals := 12 } : Room)) (fun a U => a = #[(.ref r0), (.int (16 : Int32))] ∧ Z.Warmed39 U.vm ∧ U.heap = h0) (fun _ _ _ _ _ => True) (fun _ U o U' => ∃ v L, o = .returned v ∧ Q_rmAI Z r0 cs h0 n0 v U'.heap L ∧ FrameEnd U o U' L ({ frames := 1, cells := 1, slots := 16, locals := 12 } : Room).cells ({ frames := 1, cells := 1, slots := 16, locals := 12 } : Room).slots) := by
  refine MetFree.of_bodySF (plainFor_of_name pn_rmAI) hisR ?_
  intro p e s m args below meth c s₁ Bd hml0 hP hK
  obtain ⟨rfl, hZ, hh⟩ := hP
  have hx := Bd.exec
  have hby := Bd.bytes
  have hml : c.maxLocals = 2 := hml0
  have hown : s.vm.findClass "java/lang/AbstractStringBuilder" = some m.cls := findClass_of_methodNamed Bd.named
  have hnm := (name_of_methodNamed Bd.named Bd.method).1
  have hlk : meth.locks = false := BodyLoose.notSynchronized Bd
  have X0 : Stand p l e ({ frames := 1, cells := 1, slots := 16, locals := 12 } : Room) s m #[(.ref r0), (.int (16 : Int32))] below meth c s₁ [] 0 0 := Stand.of_body Bd
  have e0 : s₁.heap = h0 := by rw [← hh, Bd.state]; rfl
  have N0 := Fr.nil n0
  show own_W p e below s (Q_rmAI Z r0 cs h0 n0) 1 16 s₁ (entryFrame m #[(.ref r0), (.int (16 : Int32))] 2)
  skip
  skip
  refine own_go (T' := s₁) (g' := (mkF m 0 #[oa r0, oi 16] [])) (fun _ k => castTop (ef_rmAI m r0 (16 : Int32)) k) ?_
  refine own_g s₁ (mkF m 1 #[oa r0, oi 16] [(.ref r0)]) (fun _ k => XS.aloadN X0.here hx rfl (hb hby d11_0) rfl rfl k) ?_
  obtain ⟨T1, X1, e1, st1⟩ := initO X0 hx hZ hown (own_w hw 65 rfl) (own_w hw 24 rfl) (own_w hw 25 rfl) e0 (g := (mkF m 1 #[oa r0, oi 16] [(.ref r0)])) rfl (by rw [hml]; rfl) rfl (hb hby d11_1) (by decide) (W := 0) (Nat.le_of_eq rfl) (by decide)
  refine own_g T1 (mkF m 4 #[oa r0, oi 16] []) (fun _ k => st1 _ k) ?_
  obtain ⟨T2, X2, e2, st2⟩ := getS2 X1 hx hZ hown (host := "") (Or.inl (own_w hw 66 rfl)) Via.refl e1 hp5 (g := (mkF m 4 #[oa r0, oi 16] [])) rfl (hb hby d11_4)
  refine own_g T2 (mkF m 12 #[oa r0, oi 16] [(.int (16 : Int32)), (.ref r0)]) (fun _ k => st2 _ (XS.ifNo X2.here hx rfl (hb hby d11_7) rfl (XT.i0_eq_f hh0) (XS.aloadN X2.here hx rfl (hb hby d11_10) rfl rfl (XS.iloadN X2.here hx rfl (hb hby d11_11) rfl k)))) ?_
  obtain ⟨T3, h3, k3, X3, e3, E3, A3, st3⟩ := newP X2 hx hZ (own_w hw 18 rfl) e2 (g := (mkF m 12 #[oa r0, oi 16] [(.int (16 : Int32)), (.ref r0)])) rfl (hb hby d11_12) rfl (by decide) (cap := 16) (by decide) (by decide) (by decide) (by decide)
  obtain ⟨b3, g3⟩ : ∃ z, z = h0.size := ⟨_, rfl⟩
  have ne4 : r0 ≠ b3 := Nat.ne_of_lt (Nat.lt_of_lt_of_le hp0.lt (Nat.le_of_eq g3.symm))
  rw [← g3] at A3 st3
  have f5 := (hp0.ext E3)
  have f6 := (hp2.ext E3)
  have f7 := (hp3.ext E3)
  have f8 := (hp4.ext E3)
  have f9 := (hp5.ext E3)
  have V3 : Arv Z h3 b3 k3 .byte (16 : Int32) [(.int (0 : Int32)), (.int (0 : Int32)), (.int (0 : Int32)), (.int (0 : Int32)), (.int (0 : Int32)), (.int (0 : Int32)), (.int (0 : Int32)), (.int (0 : Int32)), (.int (0 : Int32)), (.int (0 : Int32)), (.int (0 : Int32)), (.int (0 : Int32)), (.int (0 : Int32)), (.int (0 : Int32)), (.int (0 : Int32)), (.int (0 : Int32))] (.int (0 : Int32)) := (Arv.new A3 (by decide)).pad (pad_rep [] (.int (0 : Int32)) 16)
  have ge3 : n0 ≤ b3 := Nat.le_trans Z0 (Nat.le_of_eq g3.symm)
  have sz3 : h0.size ≤ b3 := Nat.le_trans (Keep.refl h0 [r0]).1 (Nat.le_of_eq g3.symm)
  have kk3 : Keep h0 h3 [r0] := (Keep.refl h0 [r0]).ext E3
  have zs3 : n0 ≤ h3.size := Nat.le_trans Z0 E3.1
  refine own_g T3 (mkF m 14 #[oa r0, oi 16] [(.ref b3), (.ref r0)]) (fun _ k => st3 _ k) ?_
  obtain ⟨T10, h10, X10, e10, W10, st10⟩ := putF X3 hx hZ hown (host := "") (Or.inl (own_w hw 67 rfl)) Via.refl e3 f6 f5 (Or.inl (own_w hw 68 rfl)) (own_w hw 54 rfl) (ty := (.array .byte)) (by decide) rfl rfl (g := (mkF m 14 #[oa r0, oi 16] [(.ref b3), (.ref r0)])) rfl rfl (hb hby d11_14)
  have f11 := (f5.wr W10)
  have f12 := (f7.other W10 (Or.inr (slot_ne (Or.inl (own_w hw 70 rfl)) (Or.inl (own_w hw 68 rfl)) (by decide) (t := .byte) (t' := (.array .byte)) (by decide) (by decide))))
  have f13 := (f8.other W10 (Or.inr (slot_ne (Or.inl (own_w hw 95 rfl)) (Or.inl (own_w hw 68 rfl)) (by decide) (t := .int) (t' := (.array .byte)) (by decide) (by decide))))
  have f14 := (f9.wr W10)
  have f15 := (V3.other W10 (Ne.symm ne4))
  have fw10 : Fld Z h10 r0 "java/lang/AbstractStringBuilder" "value" "[B" (.ref b3) := f6.same W10
  have N10 := Fr.snoc X10 N0 hp1
  have zs10 : n0 ≤ h10.size := by rw [W10.size]; exact zs3
  have kk10 : Keep h0 h10 [r0] := kk3.wr W10 (Or.inl (List.mem_of_getElem? (i := 0) rfl))
  refine own_g T10 (mkF m 19 #[oa r0, oi 16] [(.int (0 : Int32)), (.ref r0)]) (fun _ k => st10 _ (XS.aloadN X10.here hx rfl (hb hby d11_17) rfl rfl (XS.iconst X10.here hx rfl (hb hby d11_18) k))) ?_
  obtain ⟨T16, h16, X16, e16, W16, st16⟩ := putFN X10 hx hZ hown (own_w hw 69 rfl) Via.refl e10 f12 f11 (Or.inl (own_w hw 70 rfl)) (own_w hw 54 rfl) (ty := .byte) (v' := (.int (0 : Int32))) (by decide) rfl (by decide) (g := (mkF m 19 #[oa r0, oi 16] [(.int (0 : Int32)), (.ref r0)])) rfl rfl (hb hby d11_19)
  have f17 := (f11.wr W16)
  have f18 := (f13.other W16 (Or.inr (slot_ne (Or.inl (own_w hw 95 rfl)) (Or.inl (own_w hw 70 rfl)) (by decide) (t := .int) (t' := .byte) (by decide) (by decide))))
  have f19 := (f14.wr W16)
  have f20 := (f15.other W16 (Ne.symm ne4))
  have f21 := (fw10.other W16 (Or.inr (slot_ne (Or.inl (own_w hw 68 rfl)) (Or.inl (own_w hw 70 rfl)) (by decide) (t := (.array .byte)) (t' := .byte) (by decide) (by decide))))
  have fw16 : Fld Z h16 r0 "java/lang/AbstractStringBuilder" "coder" "B" (.int (0 : Int32)) := f12.same W16
  have N16 := Fr.snoc X16 N10 hp1
  have zs16 : n0 ≤ h16.size := by rw [W16.size]; exact zs10
  have kk16 : Keep h0 h16 [r0] := kk10.wr W16 (Or.inl (List.mem_of_getElem? (i := 0) rfl))
  refine own_g T16 (mkF m 38 #[oa r0, oi 16] []) (fun _ k => st16 _ (XS.goto X16.here hx rfl (pc0 := 22) (pc' := 38) rfl (hb hby d11_22) (by decide) (by decide) k)) ?_
  exact own_ret0 X16 hx Bd.returns hlk (hb hby d11_38) e16 ⟨b3, k3, rfl, N16, kk16, sz3, f21, fw16, f18, f20⟩ (by decide) (by decide)
theorem d10_0 : decode jdk_67_method_1_code 0 = .ok (.aload_n 0, 1) := by decide +kernel
theorem d10_1 : decode jdk_67_method_1_code 1 = .ok (.bipush 16, 2) := by decide +kernel
theorem d10_3 : decode jdk_67_method_1_code 3 = .ok (.invokespecial 1, 3) := by decide +kernel
theorem d10_6 : decode jdk_67_method_1_code 6 = .ok (.return_, 1) := by decide +kernel
def Q_rmSI (Z : State) (r0 : Addr) (cs : Int32) (h0 : Heap) (n0 : Nat) (v : Option Value) (h : Heap) (L : List Loc) : Prop := ∃ (xb : Addr) (xk : ClassId), v = none ∧ Fr n0 L ∧ Keep h0 h [r0] ∧ h0.size ≤ xb ∧ Fld Z h r0 "java/lang/AbstractStringBuilder" "value" "[B" (.ref xb) ∧ Fld Z h r0 "java/lang/AbstractStringBuilder" "coder" "B" (.int (0 : Int32)) ∧ Fld Z h r0 "java/lang/AbstractStringBuilder" "count" "I" (.int (0 : Int32)) ∧ Arv Z h xb xk .byte (16 : Int32) [(.int (0 : Int32)), (.int (0 : Int32)), (.int (0 : Int32)), (.int (0 : Int32)), (.int (0 : Int32)), (.int (0 : Int32)), (.int (0 : Int32)), (.int (0 : Int32)), (.int (0 : Int32)), (.int (0 : Int32)), (.int (0 : Int32)), (.int (0 : Int32)), (.int (0 : Int32)), (.int (0 : Int32)), (.int (0 : Int32)), (.int (0 : Int32))] (.int (0 : Int32))
theorem ef_rmSI (m : MethodId) (x0 : Addr) : entryFrame m #[(.ref x0)] 1 = mkF m 0 #[.val (.ref x0)] [] := by first | (simp [entryFrame, mkF, argsToLocals, Value.category]; done) | rfl
theorem pn_rmSI : plainName "java/lang/StringBuilder" = true := by first | (simp [plainName, overriddenIn]; done) | decide +kernel
set_option maxRecDepth 65536 in
set_option maxHeartbeats 40000000 in
theorem rmSI (l : Launch) (Z : State) (a0 : Array Value) (hw : ∀ d ∈ tables_1, d.before a0 Z = true) (ws : List Jvm.Cond) (r0 : Addr) (cs : Int32) (h0 : Heap) (n0 : Nat) (Z0 : n0 ≤ h0.size) (hp0 : Exa Z h0 r0 "java/lang/StringBuilder") (hp1 : n0 ≤ r0) (hp2 : Fld Z h0 r0 "java/lang/AbstractStringBuilder" "value" "[B" .null) (hp3 : Fld Z h0 r0 "java/lang/AbstractStringBuilder" "coder" "B" (.int (0 : Int32))) (hp4 : Fld Z h0 r0 "java/lang/AbstractStringBuilder" "count" "I" (.int (0 : Int32))) (hp5 : Sta Z h0 "java/lang/String" "COMPACT_STRINGS" "Z" (.int cs)) (hh0 : ¬ cs = (0 : Int32)) :
    MetFree l (⟨"java/lang/StringBuilder", "<init>", "()V"⟩ : MethodName) (head1 (Jvm.Cond.code (⟨"java/lang/StringBuilder", "<init>", "()V"⟩ : MethodName) jdk_67_method_1_code 1 none :: ws) ({ frames := 2, cells := 1, slots := 16, locals := 25 } : Room)) (fun a U => a = #[(.ref r0)] ∧ Z.Warmed39 U.vm ∧ U.heap = h0) (fun _ _ _ _ _ => True) (fun _ U o U' => ∃ v L, o = .returned v ∧ Q_rmSI Z r0 cs h0 n0 v U'.heap L ∧ FrameEnd U o U' L ({ frames := 2, cells := 1, slots := 16, locals := 25 } : Room).cells ({ frames := 2, cells := 1, slots := 16, locals := 25 } : Room).slots) := by
  refine MetFree.of_bodySF (plainFor_of_name pn_rmSI) hisR ?_
  intro p e s m args below meth c s₁ Bd hml0 hP hK
  obtain ⟨rfl, hZ, hh⟩ := hP
  have hx := Bd.exec
  have hby := Bd.bytes
  have hml : c.maxLocals = 1 := hml0
  have hown : s.vm.findClass "java/lang/StringBuilder" = some m.cls := findClass_of_methodNamed Bd.named
  have hnm := (name_of_methodNamed Bd.named Bd.method).1
  have hlk : meth.locks = false := BodyLoose.notSynchronized Bd
  have X0 : Stand p l e ({ frames := 2, cells := 1, slots := 16, locals := 25 } : Room) s m #[(.ref r0)] below meth c s₁ [] 0 0 := Stand.of_body Bd
  have e0 : s₁.heap = h0 := by rw [← hh, Bd.state]; rfl
  have N0 := Fr.nil n0
  show own_W p e below s (Q_rmSI Z r0 cs h0 n0) 1 16 s₁ (entryFrame m #[(.ref r0)] 1)
  skip
  skip
  refine own_go (T' := s₁) (g' := (mkF m 0 #[oa r0] [])) (fun _ k => castTop (ef_rmSI m r0) k) ?_
  refine own_g s₁ (mkF m 3 #[oa r0] [(.int (16 : Int32)), (.ref r0)]) (fun _ k => XS.aloadN X0.here hx rfl (hb hby d10_0) rfl rfl (XS.bipush X0.here hx rfl (hb hby d10_1) k)) ?_
  obtain ⟨_, _, ⟨T1, L1, k1, n1⟩, -, X1, ⟨Lc1, hQ1, l1, y1, z1⟩, st1⟩ := X0.specialBack hx (y := (⟨"java/lang/AbstractStringBuilder", "<init>", "(I)V"⟩ : MethodName)) rfl hown (mvT hZ (own_w hw 59 rfl)) (mvT hZ (own_w hw 60 rfl)) (mvT hZ (own_w hw 64 rfl)) (by decide) (backOf (W := 0) (rmAI l Z a0 hw [] r0 cs h0 n0 Z0 hp0 hp1 hp2 hp3 hp4 hp5 hh0) hZ (own_w hw 64 rfl) (own_w hw 63 rfl) (by decide) (by decide)) (g := (mkF m 3 #[oa r0] [(.int (16 : Int32)), (.ref r0)])) rfl (by rw [hml]; rfl) (Steps.refl _) (a := r0) (argsL := [(.int (16 : Int32))]) (rest := []) (lenOf own_pd12 rfl) rfl (Nat.le_of_eq rfl) (hb hby d10_3) (fun _ _ => ⟨rfl, e0, (by decide : 0 + 1 ≤ _), (by decide : 0 + 16 ≤ _)⟩)
  dsimp only [Pt.U, Pt.locs, Pt.cells, Pt.slots] at X1 l1 y1 z1 st1 hQ1
  subst l1 y1 z1
  obtain ⟨xb_1, xk_1, rfl, N1q, K1, po2, po3, po4, po5, po6⟩ := hQ1
  have f7 := (hp0.keep K1)
  have f8 := (own_sta_keep hp5 K1 (nsS hp0.nostat ns0))
  have ne9 : r0 ≠ xb_1 := Nat.ne_of_lt (Nat.lt_of_lt_of_le hp0.lt po2)
  have ge10 : n0 ≤ xb_1 := Nat.le_trans Z0 po2
  have sz11 : h0.size ≤ xb_1 := Nat.le_trans (Keep.refl h0 [r0]).1 po2
  have zs1 : n0 ≤ T1.heap.size := Nat.le_trans Z0 K1.1
  have kk1 : Keep h0 T1.heap [r0] := (Keep.refl h0 [r0]).trans K1 (allS (Or.inl (List.mem_of_getElem? (i := 0) rfl)) all0)
  have N1 := Fr.app N0 N1q
  obtain ⟨Lv1, X1, N1⟩ := own_hide X1 (Nat.le_refl 1) (Nat.le_refl 16) N1
  refine own_g T1 (mkF m 6 #[oa r0] []) (fun _ k => st1.trans k) ?_
  exact own_ret0 X1 hx Bd.returns hlk (hb hby d10_6) rfl ⟨xb_1, xk_1, rfl, N1, kk1, sz11, po3, po4, po5, po6⟩ (by decide) (by decide)
theorem d23_0 : decode jdk_68_method_64_code 0 = .ok (.aload_n 0, 1) := by decide +kernel
theorem d23_1 : decode jdk_68_method_64_code 1 = .ok (.getfield 15, 3) := by decide +kernel
theorem d23_4 : decode jdk_68_method_64_code 4 = .ok (.areturn, 1) := by decide +kernel
def Q_rmGetV (Z : State) (r0 : Addr) (da : Addr) (h0 : Heap) (n0 : Nat) (v : Option Value) (h : Heap) (L : List Loc) : Prop := v = some (.ref da) ∧ Fr n0 L ∧ h = h0
theorem ef_rmGetV (m : MethodId) (x0 : Addr) : entryFrame m #[(.ref x0)] 1 = mkF m 0 #[.val (.ref x0)] [] := by first | (simp [entryFrame, mkF, argsToLocals, Value.category]; done) | rfl
theorem pn_rmGetV : plainName "java/lang/AbstractStringBuilder" = true := by first | (simp [plainName, overriddenIn]; done) | decide +kernel
set_option maxRecDepth 65536 in
set_option maxHeartbeats 40000000 in
theorem rmGetV (l : Launch) (Z : State) (a0 : Array Value) (hw : ∀ d ∈ tables_1, d.before a0 Z = true) (ws : List Jvm.Cond) (r0 : Addr) (da : Addr) (h0 : Heap) (n0 : Nat) (Z0 : n0 ≤ h0.size) (hp0 : Fld Z h0 r0 "java/lang/AbstractStringBuilder" "value" "[B" (.ref da)) :
    MetFree l (⟨"java/lang/AbstractStringBuilder", "getValue", "()[B"⟩ : MethodName) (head1 (Jvm.Cond.code (⟨"java/lang/AbstractStringBuilder", "getValue", "()[B"⟩ : MethodName) jdk_68_method_64_code 1 (some (.array .byte)) :: ws) ({ frames := 0, cells := 0, slots := 0, locals := 0 } : Room)) (fun a U => a = #[(.ref r0)] ∧ Z.Warmed39 U.vm ∧ U.heap = h0) (fun _ _ _ _ _ => True) (fun _ U o U' => ∃ v L, o = .returned v ∧ Q_rmGetV Z r0 da h0 n0 v U'.heap L ∧ FrameEnd U o U' L ({ frames := 0, cells := 0, slots := 0, locals := 0 } : Room).cells ({ frames := 0, cells := 0, slots := 0, locals := 0 } : Room).slots) := by
  refine MetFree.of_bodySF (plainFor_of_name pn_rmGetV) hisR ?_
  intro p e s m args below meth c s₁ Bd hml0 hP hK
  obtain ⟨rfl, hZ, hh⟩ := hP
  have hx := Bd.exec
  have hby := Bd.bytes
  have hml : c.maxLocals = 1 := hml0
  have hown : s.vm.findClass "java/lang/AbstractStringBuilder" = some m.cls := findClass_of_methodNamed Bd.named
  have hnm := (name_of_methodNamed Bd.named Bd.method).1
  have hlk : meth.locks = false := BodyLoose.notSynchronized Bd
  have X0 : Stand p l e ({ frames := 0, cells := 0, slots := 0, locals := 0 } : Room) s m #[(.ref r0)] below meth c s₁ [] 0 0 := Stand.of_body Bd
  have e0 : s₁.heap = h0 := by rw [← hh, Bd.state]; rfl
  have N0 := Fr.nil n0
  show own_W p e below s (Q_rmGetV Z r0 da h0 n0) 0 0 s₁ (entryFrame m #[(.ref r0)] 1)
  skip
  skip
  refine own_go (T' := s₁) (g' := (mkF m 0 #[oa r0] [])) (fun _ k => castTop (ef_rmGetV m r0) k) ?_
  refine own_g s₁ (mkF m 1 #[oa r0] [(.ref r0)]) (fun _ k => XS.aloadN X0.here hx rfl (hb hby d23_0) rfl rfl k) ?_
  obtain ⟨T1, X1, e1, st1⟩ := getF X0 hx hZ hown (host := "") (Or.inl (own_w hw 67 rfl)) Via.refl e0 hp0 (g := (mkF m 1 #[oa r0] [(.ref r0)])) rfl rfl (hb hby d23_1)
  refine own_g T1 (mkF m 4 #[oa r0] [(.ref da)]) (fun _ k => st1 _ k) ?_
  exact own_ret X1 hx Bd.returns hlk rfl (Or.inr (Or.inr (Or.inr (Or.inr ⟨rfl, rfl, rfl⟩)))) (hb hby d23_4) e1 ⟨rfl, N0, rfl⟩ (by decide) (by decide)
theorem d25_0 : decode jdk_68_method_6_code 0 = .ok (.aload_n 0, 1) := by decide +kernel
theorem d25_1 : decode jdk_68_method_6_code 1 = .ok (.getfield 79, 3) := by decide +kernel
theorem d25_4 : decode jdk_68_method_6_code 4 = .ok (.ireturn, 1) := by decide +kernel
def Q_rmALen (Z : State) (r0 : Addr) (c1 : Int32) (h0 : Heap) (n0 : Nat) (v : Option Value) (h : Heap) (L : List Loc) : Prop := v = some (.int c1) ∧ Fr n0 L ∧ h = h0
theorem ef_rmALen (m : MethodId) (x0 : Addr) : entryFrame m #[(.ref x0)] 1 = mkF m 0 #[.val (.ref x0)] [] := by first | (simp [entryFrame, mkF, argsToLocals, Value.category]; done) | rfl
theorem pn_rmALen : plainName "java/lang/AbstractStringBuilder" = true := by first | (simp [plainName, overriddenIn]; done) | decide +kernel
set_option maxRecDepth 65536 in
set_option maxHeartbeats 40000000 in
theorem rmALen (l : Launch) (Z : State) (a0 : Array Value) (hw : ∀ d ∈ tables_1, d.before a0 Z = true) (ws : List Jvm.Cond) (r0 : Addr) (c1 : Int32) (h0 : Heap) (n0 : Nat) (Z0 : n0 ≤ h0.size) (hp0 : Fld Z h0 r0 "java/lang/AbstractStringBuilder" "count" "I" (.int c1)) :
    MetFree l (⟨"java/lang/AbstractStringBuilder", "length", "()I"⟩ : MethodName) (head1 (Jvm.Cond.code (⟨"java/lang/AbstractStringBuilder", "length", "()I"⟩ : MethodName) jdk_68_method_6_code 1 (some .int) :: ws) ({ frames := 0, cells := 0, slots := 0, locals := 0 } : Room)) (fun a U => a = #[(.ref r0)] ∧ Z.Warmed39 U.vm ∧ U.heap = h0) (fun _ _ _ _ _ => True) (fun _ U o U' => ∃ v L, o = .returned v ∧ Q_rmALen Z r0 c1 h0 n0 v U'.heap L ∧ FrameEnd U o U' L ({ frames := 0, cells := 0, slots := 0, locals := 0 } : Room).cells ({ frames := 0, cells := 0, slots := 0, locals := 0 } : Room).slots) := by
  refine MetFree.of_bodySF (plainFor_of_name pn_rmALen) hisR ?_
  intro p e s m args below meth c s₁ Bd hml0 hP hK
  obtain ⟨rfl, hZ, hh⟩ := hP
  have hx := Bd.exec
  have hby := Bd.bytes
  have hml : c.maxLocals = 1 := hml0
  have hown : s.vm.findClass "java/lang/AbstractStringBuilder" = some m.cls := findClass_of_methodNamed Bd.named
  have hnm := (name_of_methodNamed Bd.named Bd.method).1
  have hlk : meth.locks = false := BodyLoose.notSynchronized Bd
  have X0 : Stand p l e ({ frames := 0, cells := 0, slots := 0, locals := 0 } : Room) s m #[(.ref r0)] below meth c s₁ [] 0 0 := Stand.of_body Bd
  have e0 : s₁.heap = h0 := by rw [← hh, Bd.state]; rfl
  have N0 := Fr.nil n0
  show own_W p e below s (Q_rmALen Z r0 c1 h0 n0) 0 0 s₁ (entryFrame m #[(.ref r0)] 1)
  skip
  skip
  refine own_go (T' := s₁) (g' := (mkF m 0 #[oa r0] [])) (fun _ k => castTop (ef_rmALen m r0) k) ?_
  refine own_g s₁ (mkF m 1 #[oa r0] [(.ref r0)]) (fun _ k => XS.aloadN X0.here hx rfl (hb hby d25_0) rfl rfl k) ?_
  obtain ⟨T1, X1, e1, st1⟩ := getF X0 hx hZ hown (host := "") (Or.inl (own_w hw 94 rfl)) Via.refl e0 hp0 (g := (mkF m 1 #[oa r0] [(.ref r0)])) rfl rfl (hb hby d25_1)
  refine own_g T1 (mkF m 4 #[oa r0] [(.int c1)]) (fun _ k => st1 _ k) ?_
  exact own_ret X1 hx Bd.returns hlk rfl (Or.inl ⟨rfl, Or.inl rfl, _, rfl⟩) (hb hby d25_4) e1 ⟨rfl, N0, rfl⟩ (by decide) (by decide)
theorem d24_0 : decode jdk_67_method_93_code 0 = .ok (.aload_n 0, 1) := by decide +kernel
theorem d24_1 : decode jdk_67_method_93_code 1 = .ok (.invokespecial 343, 3) := by decide +kernel
theorem d24_4 : decode jdk_67_method_93_code 4 = .ok (.ireturn, 1) := by decide +kernel
def Q_rmSLen (Z : State) (r0 : Addr) (c1 : Int32) (h0 : Heap) (n0 : Nat) (v : Option Value) (h : Heap) (L : List Loc) : Prop := v = some (.int c1) ∧ Fr n0 L ∧ h = h0
theorem ef_rmSLen (m : MethodId) (x0 : Addr) : entryFrame m #[(.ref x0)] 1 = mkF m 0 #[.val (.ref x0)] [] := by first | (simp [entryFrame, mkF, argsToLocals, Value.category]; done) | rfl
theorem pn_rmSLen : plainName "java/lang/StringBuilder" = true := by first | (simp [plainName, overriddenIn]; done) | decide +kernel
set_option maxRecDepth 65536 in
set_option maxHeartbeats 40000000 in
theorem rmSLen (l : Launch) (Z : State) (a0 : Array Value) (hw : ∀ d ∈ tables_1, d.before a0 Z = true) (ws : List Jvm.Cond) (r0 : Addr) (c1 : Int32) (h0 : Heap) (n0 : Nat) (Z0 : n0 ≤ h0.size) (hp0 : Exa Z h0 r0 "java/lang/StringBuilder") (hp1 : Fld Z h0 r0 "java/lang/AbstractStringBuilder" "count" "I" (.int c1)) :
    MetFree l (⟨"java/lang/StringBuilder", "length", "()I"⟩ : MethodName) (head1 (Jvm.Cond.code (⟨"java/lang/StringBuilder", "length", "()I"⟩ : MethodName) jdk_67_method_93_code 1 (some .int) :: ws) ({ frames := 1, cells := 0, slots := 0, locals := 12 } : Room)) (fun a U => a = #[(.ref r0)] ∧ Z.Warmed39 U.vm ∧ U.heap = h0) (fun _ _ _ _ _ => True) (fun _ U o U' => ∃ v L, o = .returned v ∧ Q_rmSLen Z r0 c1 h0 n0 v U'.heap L ∧ FrameEnd U o U' L ({ frames := 1, cells := 0, slots := 0, locals := 12 } : Room).cells ({ frames := 1, cells := 0, slots := 0, locals := 12 } : Room).slots) := by
  refine MetFree.of_bodySF (plainFor_of_name pn_rmSLen) hisR ?_
  intro p e s m args below meth c s₁ Bd hml0 hP hK
  obtain ⟨rfl, hZ, hh⟩ := hP
  have hx := Bd.exec
  have hby := Bd.bytes
  have hml : c.maxLocals = 1 := hml0
  have hown : s.vm.findClass "java/lang/StringBuilder" = some m.cls := findClass_of_methodNamed Bd.named
  have hnm := (name_of_methodNamed Bd.named Bd.method).1
  have hlk : meth.locks = false := BodyLoose.notSynchronized Bd
  have X0 : Stand p l e ({ frames := 1, cells := 0, slots := 0, locals := 12 } : Room) s m #[(.ref r0)] below meth c s₁ [] 0 0 := Stand.of_body Bd
  have e0 : s₁.heap = h0 := by rw [← hh, Bd.state]; rfl
  have N0 := Fr.nil n0
  show own_W p e below s (Q_rmSLen Z r0 c1 h0 n0) 0 0 s₁ (entryFrame m #[(.ref r0)] 1)
  skip
  skip
  refine own_go (T' := s₁) (g' := (mkF m 0 #[oa r0] [])) (fun _ k => castTop (ef_rmSLen m r0) k) ?_
  refine own_g s₁ (mkF m 1 #[oa r0] [(.ref r0)]) (fun _ k => XS.aloadN X0.here hx rfl (hb hby d24_0) rfl rfl k) ?_
  obtain ⟨_, _, ⟨T1, L1, k1, n1⟩, -, X1, ⟨Lc1, hQ1, l1, y1, z1⟩, st1⟩ := superBack X0 hx hZ (y := (⟨"java/lang/AbstractStringBuilder", "length", "()I"⟩ : MethodName)) hown (own_w hw 145 rfl) (own_same (own_w hw 141 rfl) (own_w hw 99 rfl) rfl (by decide)) (own_w hw 141 rfl) (own_w hw 81 rfl) (by decide) (backOf (W := 0) (rmALen l Z a0 hw [] r0 c1 h0 n0 Z0 hp1) hZ (own_w hw 146 rfl) (own_w hw 63 rfl) (by decide) (by decide)) e0 (Ins.self hp0) (g := (mkF m 1 #[oa r0] [(.ref r0)])) rfl (by rw [hml]; rfl) (own_w hw 146 rfl) (argsL := []) (rest := []) (lenOf own_pd11 rfl) rfl (Nat.le_of_eq rfl) (hb hby d24_1) (fun _ _ => ⟨rfl, e0, (by decide : 0 + 0 ≤ _), (by decide : 0 + 0 ≤ _)⟩)
  dsimp only [Pt.U, Pt.locs, Pt.cells, Pt.slots] at X1 l1 y1 z1 st1 hQ1
  subst l1 y1 z1
  obtain ⟨rfl, N1q, e1⟩ := hQ1
  have N1 := Fr.app N0 N1q
  obtain ⟨Lv1, X1, N1⟩ := own_hide X1 (Nat.le_refl 0) (Nat.le_refl 0) N1
  refine own_g T1 (mkF m 4 #[oa r0] [(.int c1)]) (fun _ k => st1.trans k) ?_
  exact own_ret X1 hx Bd.returns hlk rfl (Or.inl ⟨rfl, Or.inl rfl, _, rfl⟩) (hb hby d24_4) e1 ⟨rfl, N1, rfl⟩ (by decide) (by decide)
theorem d26_0 : decode jdk_68_method_68_code 0 = .ok (.getstatic 18, 3) := by decide +kernel
theorem d26_3 : decode jdk_68_method_68_code 3 = .ok (.ifCond .eq 14, 3) := by decide +kernel
theorem d26_6 : decode jdk_68_method_68_code 6 = .ok (.aload_n 0, 1) := by decide +kernel
theorem d26_7 : decode jdk_68_method_68_code 7 = .ok (.getfield 22, 3) := by decide +kernel
theorem d26_10 : decode jdk_68_method_68_code 10 = .ok (.ifCond .ne 7, 3) := by decide +kernel
theorem d26_13 : decode jdk_68_method_68_code 13 = .ok (.iconst 1, 1) := by decide +kernel
theorem d26_14 : decode jdk_68_method_68_code 14 = .ok (.goto 4, 3) := by decide +kernel
theorem d26_18 : decode jdk_68_method_68_code 18 = .ok (.ireturn, 1) := by decide +kernel
def Q_rmAIsL (Z : State) (r0 : Addr) (cs : Int32) (h0 : Heap) (n0 : Nat) (v : Option Value) (h : Heap) (L : List Loc) : Prop := v = some (.int (1 : Int32)) ∧ Fr n0 L ∧ h = h0
theorem ef_rmAIsL (m : MethodId) (x0 : Addr) : entryFrame m #[(.ref x0)] 1 = mkF m 0 #[.val (.ref x0)] [] := by first | (simp [entryFrame, mkF, argsToLocals, Value.category]; done) | rfl
theorem pn_rmAIsL : plainName "java/lang/AbstractStringBuilder" = true := by first | (simp [plainName, overriddenIn]; done) | decide +kernel
set_option maxRecDepth 65536 in
set_option maxHeartbeats 40000000 in
theorem rmAIsL (l : Launch) (Z : State) (a0 : Array Value) (hw : ∀ d ∈ tables_1, d.before a0 Z = true) (ws : List Jvm.Cond) (r0 : Addr) (cs : Int32) (h0 : Heap) (n0 : Nat) (Z0 : n0 ≤ h0.size) (hp0 : Fld Z h0 r0 "java/lang/AbstractStringBuilder" "coder" "B" (.int (0 : Int32))) (hp1 : Sta Z h0 "java/lang/String" "COMPACT_STRINGS" "Z" (.int cs)) (hh0 : ¬ cs = (0 : Int32)) :
    MetFree l (⟨"java/lang/AbstractStringBuilder", "isLatin1", "()Z"⟩ : MethodName) (head1 (Jvm.Cond.code (⟨"java/lang/AbstractStringBuilder", "isLatin1", "()Z"⟩ : MethodName) jdk_68_method_68_code 1 (some .boolean) :: ws) ({ frames := 0, cells := 0, slots := 0, locals := 0 } : Room)) (fun a U => a = #[(.ref r0)] ∧ Z.Warmed39 U.vm ∧ U.heap = h0) (fun _ _ _ _ _ => True) (fun _ U o U' => ∃ v L, o = .returned v ∧ Q_rmAIsL Z r0 cs h0 n0 v U'.heap L ∧ FrameEnd U o U' L ({ frames := 0, cells := 0, slots := 0, locals := 0 } : Room).cells ({ frames := 0, cells := 0, slots := 0, locals := 0 } : Room).slots) := by
  refine MetFree.of_bodySF (plainFor_of_name pn_rmAIsL) hisR ?_
  intro p e s m args below meth c s₁ Bd hml0 hP hK
  obtain ⟨rfl, hZ, hh⟩ := hP
  have hx := Bd.exec
  have hby := Bd.bytes
  have hml : c.maxLocals = 1 := hml0
  have hown : s.vm.findClass "java/lang/AbstractStringBuilder" = some m.cls := findClass_of_methodNamed Bd.named
  have hnm := (name_of_methodNamed Bd.named Bd.method).1
  have hlk : meth.locks = false := BodyLoose.notSynchronized Bd
  have X0 : Stand p l e ({ frames := 0, cells := 0, slots := 0, locals := 0 } : Room) s m #[(.ref r0)] below meth c s₁ [] 0 0 := Stand.of_body Bd
  have e0 : s₁.heap = h0 := by rw [← hh, Bd.state]; rfl
  have N0 := Fr.nil n0
  show own_W p e below s (Q_rmAIsL Z r0 cs h0 n0) 0 0 s₁ (entryFrame m #[(.ref r0)] 1)
  skip
  skip
  refine own_go (T' := s₁) (g' := (mkF m 0 #[oa r0] [])) (fun _ k => castTop (ef_rmAIsL m r0) k) ?_
  obtain ⟨T1, X1, e1, st1⟩ := getS2 X0 hx hZ hown (host := "") (Or.inl (own_w hw 66 rfl)) Via.refl e0 hp1 (g := (mkF m 0 #[oa r0] [])) rfl (hb hby d26_0)
  refine own_g T1 (mkF m 7 #[oa r0] [(.ref r0)]) (fun _ k => st1 _ (XS.ifNo X1.here hx rfl (hb hby d26_3) rfl (XT.i0_eq_f hh0) (XS.aloadN X1.here hx rfl (hb hby d26_6) rfl rfl k))) ?_
  obtain ⟨T2, X2, e2, st2⟩ := getF X1 hx hZ hown (host := "") (Or.inl (own_w hw 69 rfl)) Via.refl e1 hp0 (g := (mkF m 7 #[oa r0] [(.ref r0)])) rfl rfl (hb hby d26_7)
  refine own_g T2 (mkF m 18 #[oa r0] [(.int (1 : Int32))]) (fun _ k => st2 _ (XS.ifNo X2.here hx rfl (hb hby d26_10) rfl (XT.i0_ne_f (rfl : (0 : Int32) = (0 : Int32))) (XS.iconst X2.here hx rfl (hb hby d26_13) (XS.goto X2.here hx rfl (pc0 := 14) (pc' := 18) rfl (hb hby d26_14) (by decide) (by decide) k)))) ?_
  exact own_retN X2 hx (t := .boolean) Bd.returns hlk (by simp) (hb hby d26_18) e2 ⟨rfl, N0, rfl⟩ (by decide) (by decide)
theorem d29_0 : decode jdk_65_method_131_code 0 = .ok (.iload_n 1, 1) := by decide +kernel
theorem d29_1 : decode jdk_65_method_131_code 1 = .ok (.iload_n 0, 1) := by decide +kernel
theorem d29_2 : decode jdk_65_method_131_code 2 = .ok (.if_icmp .ge 35, 3) := by decide +kernel
theorem d29_37 : decode jdk_65_method_131_code 37 = .ok (.return_, 1) := by decide +kernel
def Q_rmCkL (Z : State) (p1 : Int32) (h0 : Heap) (n0 : Nat) (v : Option Value) (h : Heap) (L : List Loc) : Prop := v = none ∧ Fr n0 L ∧ h = h0
theorem ef_rmCkL (m : MethodId) (x0 : Int32) (x1 : Int32) : entryFrame m #[(.int x0), (.int x1)] 2 = mkF m 0 #[.val (.int x0), .val (.int x1)] [] := by first | (simp [entryFrame, mkF, argsToLocals, Value.category]; done) | rfl
theorem pn_rmCkL : plainName "java/util/Arrays" = true := by first | (simp [plainName, overriddenIn]; done) | decide +kernel
set_option maxRecDepth 65536 in
set_option maxHeartbeats 40000000 in
theorem rmCkL (l : Launch) (Z : State) (a0 : Array Value) (hw : ∀ d ∈ tables_1, d.before a0 Z = true) (ws : List Jvm.Cond) (p1 : Int32) (h0 : Heap) (n0 : Nat) (Z0 : n0 ≤ h0.size) (hh0 : ¬ p1 < (0 : Int32)) :
    MetFree l (⟨"java/util/Arrays", "checkLength", "(II)V"⟩ : MethodName) (head1 (Jvm.Cond.code (⟨"java/util/Arrays", "checkLength", "(II)V"⟩ : MethodName) jdk_65_method_131_code 2 none :: ws) ({ frames := 0, cells := 0, slots := 0, locals := 0 } : Room)) (fun a U => a = #[(.int (0 : Int32)), (.int p1)] ∧ Z.Warmed39 U.vm ∧ U.heap = h0) (fun _ _ _ _ _ => True) (fun _ U o U' => ∃ v L, o = .returned v ∧ Q_rmCkL Z p1 h0 n0 v U'.heap L ∧ FrameEnd U o U' L ({ frames := 0, cells := 0, slots := 0, locals := 0 } : Room).cells ({ frames := 0, cells := 0, slots := 0, locals := 0 } : Room).slots) := by
  refine MetFree.of_bodySF (plainFor_of_name pn_rmCkL) hisR ?_
  intro p e s m args below meth c s₁ Bd hml0 hP hK
  obtain ⟨rfl, hZ, hh⟩ := hP
  have hx := Bd.exec
  have hby := Bd.bytes
  have hml : c.maxLocals = 2 := hml0
  have hown : s.vm.findClass "java/util/Arrays" = some m.cls := findClass_of_methodNamed Bd.named
  have hnm := (name_of_methodNamed Bd.named Bd.method).1
  have hlk : meth.locks = false := BodyLoose.notSynchronized Bd
  have X0 : Stand p l e ({ frames := 0, cells := 0, slots := 0, locals := 0 } : Room) s m #[(.int (0 : Int32)), (.int p1)] below meth c s₁ [] 0 0 := Stand.of_body Bd
  have e0 : s₁.heap = h0 := by rw [← hh, Bd.state]; rfl
  have N0 := Fr.nil n0
  show own_W p e below s (Q_rmCkL Z p1 h0 n0) 0 0 s₁ (entryFrame m #[(.int (0 : Int32)), (.int p1)] 2)
  skip
  skip
  refine own_go (T' := s₁) (g' := (mkF m 0 #[oi 0, oi p1] [])) (fun _ k => castTop (ef_rmCkL m (0 : Int32) p1) k) ?_
  refine own_g s₁ (mkF m 37 #[oi 0, oi p1] []) (fun _ k => XS.iloadN X0.here hx rfl (hb hby d29_0) rfl (XS.iloadN X0.here hx rfl (hb hby d29_1) rfl (XS.icmpYes X0.here hx rfl (pc0 := 2) (pc' := 37) rfl (hb hby d29_2) rfl (XT.ii_ge_t hh0) (by decide) (by decide) k))) ?_
  exact own_ret0 X0 hx Bd.returns hlk (hb hby d29_37) e0 ⟨rfl, N0, rfl⟩ (by decide) (by decide)
theorem d28_0 : decode jdk_65_method_133_code 0 = .ok (.iload_n 1, 1) := by decide +kernel
theorem d28_1 : decode jdk_65_method_133_code 1 = .ok (.iload_n 2, 1) := by decide +kernel
theorem d28_2 : decode jdk_65_method_133_code 2 = .ok (.invokestatic 343, 3) := by decide +kernel
theorem d28_5 : decode jdk_65_method_133_code 5 = .ok (.iload_n 2, 1) := by decide +kernel
theorem d28_6 : decode jdk_65_method_133_code 6 = .ok (.iload_n 1, 1) := by decide +kernel
theorem d28_7 : decode jdk_65_method_133_code 7 = .ok (.isub, 1) := by decide +kernel
theorem d28_8 : decode jdk_65_method_133_code 8 = .ok (.istore_n 3, 1) := by decide +kernel
theorem d28_9 : decode jdk_65_method_133_code 9 = .ok (.iload_n 3, 1) := by decide +kernel
theorem d28_10 : decode jdk_65_method_133_code 10 = .ok (.newarray .byte, 2) := by decide +kernel
theorem d28_12 : decode jdk_65_method_133_code 12 = .ok (.astore 4, 2) := by decide +kernel
theorem d28_14 : decode jdk_65_method_133_code 14 = .ok (.aload_n 0, 1) := by decide +kernel
theorem d28_15 : decode jdk_65_method_133_code 15 = .ok (.iload_n 1, 1) := by decide +kernel
theorem d28_16 : decode jdk_65_method_133_code 16 = .ok (.aload 4, 2) := by decide +kernel
theorem d28_18 : decode jdk_65_method_133_code 18 = .ok (.iconst 0, 1) := by decide +kernel
theorem d28_19 : decode jdk_65_method_133_code 19 = .ok (.aload_n 0, 1) := by decide +kernel
theorem d28_20 : decode jdk_65_method_133_code 20 = .ok (.arraylength, 1) := by decide +kernel
theorem d28_21 : decode jdk_65_method_133_code 21 = .ok (.iload_n 1, 1) := by decide +kernel
theorem d28_22 : decode jdk_65_method_133_code 22 = .ok (.isub, 1) := by decide +kernel
theorem d28_23 : decode jdk_65_method_133_code 23 = .ok (.iload_n 3, 1) := by decide +kernel
theorem d28_24 : decode jdk_65_method_133_code 24 = .ok (.invokestatic 304, 3) := by decide +kernel
theorem d28_27 : decode jdk_65_method_133_code 27 = .ok (.invokestatic 150, 3) := by decide +kernel
theorem d28_30 : decode jdk_65_method_133_code 30 = .ok (.aload 4, 2) := by decide +kernel
theorem d28_32 : decode jdk_65_method_133_code 32 = .ok (.areturn, 1) := by decide +kernel
def Q_rmCRB (Z : State) (r0 : Addr) (p2 : Int32) (kb : ClassId) (zc : Int32) (vs : List Value) (cN : Nat) (h0 : Heap) (n0 : Nat) (v : Option Value) (h : Heap) (L : List Loc) : Prop := ∃ (xb : Addr) (xk : ClassId), v = some (.ref xb) ∧ Fr n0 L ∧ Keep h0 h [] ∧ h0.size ≤ xb ∧ Arv Z h xb xk .byte (p2 - (0 : Int32)) (vs.take cN) (.int (0 : Int32))
theorem ef_rmCRB (m : MethodId) (x0 : Addr) (x1 : Int32) (x2 : Int32) : entryFrame m #[(.ref x0), (.int x1), (.int x2)] 5 = mkF m 0 #[.val (.ref x0), .val (.int x1), .val (.int x2), .unset, .unset] [] := by first | (simp [entryFrame, mkF, argsToLocals, Value.category]; done) | rfl
theorem pn_rmCRB : plainName "java/util/Arrays" = true := by first | (simp [plainName, overriddenIn]; done) | decide +kernel
set_option maxRecDepth 65536 in
set_option maxHeartbeats 40000000 in
theorem rmCRB (l : Launch) (Z : State) (a0 : Array Value) (hw : ∀ d ∈ tables_1, d.before a0 Z = true) (ws : List Jvm.Cond) (r0 : Addr) (p2 : Int32) (kb : ClassId) (zc : Int32) (vs : List Value) (cN : Nat) (h0 : Heap) (n0 : Nat) (Z0 : n0 ≤ h0.size) (hp0 : Arv Z h0 r0 kb .byte zc vs (.int (0 : Int32))) (hh0 : ¬ p2 < (0 : Int32)) (hh1 : (p2 - (0 : Int32)).toNatClampNeg = cN) (hh2 : ¬ (p2 - (0 : Int32)) < (0 : Int32)) (hh3 : (own_min (zc - (0 : Int32)) (p2 - (0 : Int32))).toNatClampNeg = cN) (hh4 : ¬ (own_min (zc - (0 : Int32)) (p2 - (0 : Int32))) < (0 : Int32)) (hh5 : cN ≤ 40) (hh6 : cN ≤ zc.toNatClampNeg) (hh7 : cN ≤ vs.length) (hh8 : ¬ p2 = zc) :
    MetFree l (⟨"java/util/Arrays", "copyOfRangeByte", "([BII)[B"⟩ : MethodName) (head1 (Jvm.Cond.code (⟨"java/util/Arrays", "copyOfRangeByte", "([BII)[B"⟩ : MethodName) jdk_65_method_133_code 5 (some (.array .byte)) :: ws) ({ frames := 1, cells := 1, slots := 40, locals := 18 } : Room)) (fun a U => a = #[(.ref r0), (.int (0 : Int32)), (.int p2)] ∧ Z.Warmed39 U.vm ∧ U.heap = h0) (fun _ _ _ _ _ => True) (fun _ U o U' => ∃ v L, o = .returned v ∧ Q_rmCRB Z r0 p2 kb zc vs cN h0 n0 v U'.heap L ∧ FrameEnd U o U' L ({ frames := 1, cells := 1, slots := 40, locals := 18 } : Room).cells ({ frames := 1, cells := 1, slots := 40, locals := 18 } : Room).slots) := by
  refine MetFree.of_bodySF (plainFor_of_name pn_rmCRB) hisR ?_
  intro p e s m args below meth c s₁ Bd hml0 hP hK
  obtain ⟨rfl, hZ, hh⟩ := hP
  have hx := Bd.exec
  have hby := Bd.bytes
  have hml : c.maxLocals = 5 := hml0
  have hown : s.vm.findClass "java/util/Arrays" = some m.cls := findClass_of_methodNamed Bd.named
  have hnm := (name_of_methodNamed Bd.named Bd.method).1
  have hlk : meth.locks = false := BodyLoose.notSynchronized Bd
  have X0 : Stand p l e ({ frames := 1, cells := 1, slots := 40, locals := 18 } : Room) s m #[(.ref r0), (.int (0 : Int32)), (.int p2)] below meth c s₁ [] 0 0 := Stand.of_body Bd
  have e0 : s₁.heap = h0 := by rw [← hh, Bd.state]; rfl
  have N0 := Fr.nil n0
  show own_W p e below s (Q_rmCRB Z r0 p2 kb zc vs cN h0 n0) 1 40 s₁ (entryFrame m #[(.ref r0), (.int (0 : Int32)), (.int p2)] 5)
  skip
  skip
  refine own_go (T' := s₁) (g' := (mkF m 0 #[oa r0, oi 0, oi p2, .unset, .unset] [])) (fun _ k => castTop (ef_rmCRB m r0 (0 : Int32) p2) k) ?_
  refine own_g s₁ (mkF m 2 #[oa r0, oi 0, oi p2, .unset, .unset] [(.int p2), (.int (0 : Int32))]) (fun _ k => XS.iloadN X0.here hx rfl (hb hby d28_0) rfl (XS.iloadN X0.here hx rfl (hb hby d28_1) rfl k)) ?_
  obtain ⟨_, _, ⟨T1, L1, k1, n1⟩, -, X1, ⟨Lc1, hQ1, l1, y1, z1⟩, st1⟩ := Jvm.LawKit.callS X0 hx (y := (⟨"java/util/Arrays", "checkLength", "(II)V"⟩ : MethodName)) hown (mvT hZ (own_w hw 159 rfl)) (mvT hZ (own_w hw 160 rfl)) (mvT hZ (own_w hw 154 rfl)) (mvT hZ (own_w hw 161 rfl)) (by decide) (backOf (W := 0) (rmCkL l Z a0 hw [] p2 h0 n0 Z0 hh0) hZ (own_w hw 161 rfl) (own_w hw 154 rfl) (by decide) (by decide)) (g := (mkF m 2 #[oa r0, oi 0, oi p2, .unset, .unset] [(.int p2), (.int (0 : Int32))])) rfl (by rw [hml]; rfl) (argsL := [(.int (0 : Int32)), (.int p2)]) (rest := []) (lenOf own_pd2 rfl) rfl (Nat.le_of_eq rfl) (hb hby d28_2) (fun _ _ => ⟨rfl, e0, (by decide : 0 + 0 ≤ _), (by decide : 0 + 0 ≤ _)⟩)
  dsimp only [Pt.U, Pt.locs, Pt.cells, Pt.slots] at X1 l1 y1 z1 st1 hQ1
  subst l1 y1 z1
  obtain ⟨rfl, N1q, e1⟩ := hQ1
  have N1 := Fr.app N0 N1q
  obtain ⟨Lv1, X1, N1⟩ := own_hide X1 (Nat.le_refl 0) (Nat.le_refl 0) N1
  refine own_g T1 (mkF m 10 #[oa r0, oi 0, oi p2, .val (.int (p2 - (0 : Int32))), .unset] [(.int (p2 - (0 : Int32)))]) (fun _ k => st1 _ (XS.iloadN X1.here hx rfl (hb hby d28_5) rfl (XS.iloadN X1.here hx rfl (hb hby d28_6) rfl (XS.isub X1.here hx rfl (hb hby d28_7) rfl (XS.istoreN X1.here hx rfl (hb hby d28_8) rfl (l' := #[oa r0, oi 0, oi p2, .val (.int (p2 - (0 : Int32))), .unset]) rfl (XS.iloadN X1.here hx rfl (hb hby d28_9) rfl k)))))) ?_
  obtain ⟨T2, h2, k2, X2, e2, E2, A2, st2⟩ := newP X1 hx hZ (own_w hw 18 rfl) e1 (g := (mkF m 10 #[oa r0, oi 0, oi p2, .val (.int (p2 - (0 : Int32))), .unset] [(.int (p2 - (0 : Int32)))])) rfl (hb hby d28_10) rfl hh2 (cap := 40) (by rw [hh1]; exact hh5) (by decide) (by decide) (by decide)
  obtain ⟨b2, g2⟩ : ∃ z, z = h0.size := ⟨_, rfl⟩
  have ne3 : r0 ≠ b2 := Nat.ne_of_lt (Nat.lt_of_lt_of_le hp0.lt (Nat.le_of_eq g2.symm))
  rw [← g2] at A2 st2
  have f4 := (hp0.ext E2)
  have V2 : Arv Z h2 b2 k2 .byte (p2 - (0 : Int32)) ([] ++ List.replicate cN (.int (0 : Int32)) : List Value) (.int (0 : Int32)) := (Arv.new A2 hh2).pad (pad_rep [] (.int (0 : Int32)) cN)
  have ge2 : n0 ≤ b2 := Nat.le_trans Z0 (Nat.le_of_eq g2.symm)
  have sz2 : h0.size ≤ b2 := Nat.le_trans (Keep.refl h0 []).1 (Nat.le_of_eq g2.symm)
  have kk2 : Keep h0 h2 [] := (Keep.refl h0 []).ext E2
  have zs2 : n0 ≤ h2.size := Nat.le_trans Z0 E2.1
  refine own_g T2 (mkF m 20 #[oa r0, oi 0, oi p2, .val (.int (p2 - (0 : Int32))), oa b2] [(.ref r0), (.int (0 : Int32)), (.ref b2), (.int (0 : Int32)), (.ref r0)]) (fun _ k => st2 _ (XS.astore X2.here hx rfl (hb hby d28_12) rfl rfl (l' := #[oa r0, oi 0, oi p2, .val (.int (p2 - (0 : Int32))), oa b2]) rfl (XS.aloadN X2.here hx rfl (hb hby d28_14) rfl rfl (XS.iloadN X2.here hx rfl (hb hby d28_15) rfl (XS.aload X2.here hx rfl (hb hby d28_16) rfl rfl (XS.iconst X2.here hx rfl (hb hby d28_18) (XS.aloadN X2.here hx rfl (hb hby d28_19) rfl rfl k))))))) ?_
  obtain ⟨cl5, Ar5, q15, q25, q35, H5, G5⟩ := id f4
  have st5 := X2.arraylength hx (by rw [e2]; exact Ar5.1) (State.isArrayOf_alike hZ.alike Ar5.2.1) (g := (mkF m 20 #[oa r0, oi 0, oi p2, .val (.int (p2 - (0 : Int32))), oa b2] [(.ref r0), (.int (0 : Int32)), (.ref b2), (.int (0 : Int32)), (.ref r0)])) rfl rfl (hb hby d28_20)
  rw [len_of q25 q35] at st5
  refine own_g T2 (mkF m 24 #[oa r0, oi 0, oi p2, .val (.int (p2 - (0 : Int32))), oa b2] [(.int (p2 - (0 : Int32))), (.int (zc - (0 : Int32))), (.int (0 : Int32)), (.ref b2), (.int (0 : Int32)), (.ref r0)]) (fun _ k => st5 _ (XS.iloadN X2.here hx rfl (hb hby d28_21) rfl (XS.isub X2.here hx rfl (hb hby d28_22) rfl (XS.iloadN X2.here hx rfl (hb hby d28_23) rfl k)))) ?_
  obtain ⟨_, _, ⟨T6, L6, k6, n6⟩, -, X6, ⟨Lc6, hQ6, l6, y6, z6⟩, st6⟩ := Jvm.LawKit.callS X2 hx (y := (⟨"java/lang/Math", "min", "(II)I"⟩ : MethodName)) hown (mvT hZ (own_w hw 162 rfl)) (mvT hZ (own_w hw 163 rfl)) (mvT hZ (own_w hw 164 rfl)) (mvT hZ (own_w hw 165 rfl)) (by decide) (backOf (W := 4) (rmMin l Z a0 hw [] (zc - (0 : Int32)) (p2 - (0 : Int32)) h2 n0 zs2 ) hZ (own_w hw 165 rfl) (own_w hw 164 rfl) (by decide) (by decide)) (g := (mkF m 24 #[oa r0, oi 0, oi p2, .val (.int (p2 - (0 : Int32))), oa b2] [(.int (p2 - (0 : Int32))), (.int (zc - (0 : Int32))), (.int (0 : Int32)), (.ref b2), (.int (0 : Int32)), (.ref r0)])) rfl (by rw [hml]; rfl) (argsL := [(.int (zc - (0 : Int32))), (.int (p2 - (0 : Int32)))]) (rest := [(.int (0 : Int32)), (.ref b2), (.int (0 : Int32)), (.ref r0)]) (lenOf own_pd7 rfl) rfl (Nat.le_of_eq rfl) (hb hby d28_24) (fun _ _ => ⟨rfl, e2, (by decide : 1 + 0 ≤ _), (by decide : 40 + 0 ≤ _)⟩)
  dsimp only [Pt.U, Pt.locs, Pt.cells, Pt.slots] at X6 l6 y6 z6 st6 hQ6
  subst l6 y6 z6
  obtain ⟨rfl, N6q, e6⟩ := hQ6
  have N6 := Fr.app N1 N6q
  obtain ⟨Lv6, X6, N6⟩ := own_hide X6 (Nat.le_refl 1) (Nat.le_refl 40) N6
  refine own_g T6 (mkF m 27 #[oa r0, oi 0, oi p2, .val (.int (p2 - (0 : Int32))), oa b2] [(.int (own_min (zc - (0 : Int32)) (p2 - (0 : Int32)))), (.int (0 : Int32)), (.ref b2), (.int (0 : Int32)), (.ref r0)]) (fun _ k => st6 _ k) ?_
  obtain ⟨T7, h7, L7, X7, e7, N7, K7, V7, st7⟩ := cpA X6 hx hZ hown (own_w hw 166 rfl) (own_w hw 120 rfl) (own_w hw 118 rfl) (own_w hw 119 rfl) e6 f4 V2 (Or.inl ⟨rfl, rfl⟩) (by decide) (by decide) hh4 (by rw [hh3]; show 0 + cN ≤ _; omega) (by rw [hh3, hh1]; show 0 + cN ≤ cN; omega) (us := (vs.take cN)) (own_husT hh3 hh7) (by rw [hh3]; show 0 + cN ≤ _; simp) N6 ge2 (g := (mkF m 27 #[oa r0, oi 0, oi p2, .val (.int (p2 - (0 : Int32))), oa b2] [(.int (own_min (zc - (0 : Int32)) (p2 - (0 : Int32)))), (.int (0 : Int32)), (.ref b2), (.int (0 : Int32)), (.ref r0)])) rfl (by rw [hml]; rfl) (rest := []) rfl (hb hby d28_27) (by decide) (W := 0) (Nat.le_of_eq rfl) (by decide)
  have f8 := (f4.keep K7 (ninS ne3 nin0))
  have W7 : Arv Z h7 b2 k2 .byte (p2 - (0 : Int32)) (vs.take cN) (.int (0 : Int32)) := (by have q := V7; rw [hh3] at q; simpa [show (0 : Int32).toNatClampNeg = 0 from rfl] using q)
  have zs7 : n0 ≤ h7.size := Nat.le_trans zs2 K7.1
  have kk7 : Keep h0 h7 [] := kk2.trans K7 (allS (Or.inr sz2) all0)
  refine own_g T7 (mkF m 32 #[oa r0, oi 0, oi p2, .val (.int (p2 - (0 : Int32))), oa b2] [(.ref b2)]) (fun _ k => st7 _ (XS.aload X7.here hx rfl (hb hby d28_30) rfl rfl k)) ?_
  exact own_ret X7 hx Bd.returns hlk rfl (Or.inr (Or.inr (Or.inr (Or.inr ⟨rfl, rfl, rfl⟩)))) (hb hby d28_32) e7 ⟨b2, k2, rfl, N7, kk7, sz2, W7⟩ (by decide) (by decide)
theorem own_pd15 : parseMethodDescriptor "([BII)[B" = some ⟨[(.array .byte), .int, .int], some (.array .byte)⟩ := by decide +kernel
theorem d27_0 : decode jdk_65_method_132_code 0 = .ok (.iload_n 1, 1) := by decide +kernel
theorem d27_1 : decode jdk_65_method_132_code 1 = .ok (.ifCond .ne 9, 3) := by decide +kernel
theorem d27_4 : decode jdk_65_method_132_code 4 = .ok (.iload_n 2, 1) := by decide +kernel
theorem d27_5 : decode jdk_65_method_132_code 5 = .ok (.aload_n 0, 1) := by decide +kernel
theorem d27_6 : decode jdk_65_method_132_code 6 = .ok (.arraylength, 1) := by decide +kernel
theorem d27_7 : decode jdk_65_method_132_code 7 = .ok (.if_icmp .eq 10, 3) := by decide +kernel
theorem d27_10 : decode jdk_65_method_132_code 10 = .ok (.aload_n 0, 1) := by decide +kernel
theorem d27_11 : decode jdk_65_method_132_code 11 = .ok (.iload_n 1, 1) := by decide +kernel
theorem d27_12 : decode jdk_65_method_132_code 12 = .ok (.iload_n 2, 1) := by decide +kernel
theorem d27_13 : decode jdk_65_method_132_code 13 = .ok (.invokestatic 339, 3) := by decide +kernel
theorem d27_16 : decode jdk_65_method_132_code 16 = .ok (.areturn, 1) := by decide +kernel
def Q_rmCOR (Z : State) (r0 : Addr) (p2 : Int32) (kb : ClassId) (zc : Int32) (vs : List Value) (cN : Nat) (h0 : Heap) (n0 : Nat) (v : Option Value) (h : Heap) (L : List Loc) : Prop := ∃ (xb : Addr) (xk : ClassId), v = some (.ref xb) ∧ Fr n0 L ∧ Keep h0 h [] ∧ h0.size ≤ xb ∧ Arv Z h xb xk .byte (p2 - (0 : Int32)) (vs.take cN) (.int (0 : Int32))
theorem ef_rmCOR (m : MethodId) (x0 : Addr) (x1 : Int32) (x2 : Int32) : entryFrame m #[(.ref x0), (.int x1), (.int x2)] 3 = mkF m 0 #[.val (.ref x0), .val (.int x1), .val (.int x2)] [] := by first | (simp [entryFrame, mkF, argsToLocals, Value.category]; done) | rfl
theorem pn_rmCOR : plainName "java/util/Arrays" = true := by first | (simp [plainName, overriddenIn]; done) | decide +kernel
set_option maxRecDepth 65536 in
set_option maxHeartbeats 40000000 in
theorem rmCOR (l : Launch) (Z : State) (a0 : Array Value) (hw : ∀ d ∈ tables_1, d.before a0 Z = true) (ws : List Jvm.Cond) (r0 : Addr) (p2 : Int32) (kb : ClassId) (zc : Int32) (vs : List Value) (cN : Nat) (h0 : Heap) (n0 : Nat) (Z0 : n0 ≤ h0.size) (hp0 : Arv Z h0 r0 kb .byte zc vs (.int (0 : Int32))) (hh0 : ¬ p2 < (0 : Int32)) (hh1 : (p2 - (0 : Int32)).toNatClampNeg = cN) (hh2 : ¬ (p2 - (0 : Int32)) < (0 : Int32)) (hh3 : (own_min (zc - (0 : Int32)) (p2 - (0 : Int32))).toNatClampNeg = cN) (hh4 : ¬ (own_min (zc - (0 : Int32)) (p2 - (0 : Int32))) < (0 : Int32)) (hh5 : cN ≤ 40) (hh6 : cN ≤ zc.toNatClampNeg) (hh7 : cN ≤ vs.length) (hh8 : ¬ p2 = zc) :
    MetFree l (⟨"java/util/Arrays", "copyOfRange", "([BII)[B"⟩ : MethodName) (head1 (Jvm.Cond.code (⟨"java/util/Arrays", "copyOfRange", "([BII)[B"⟩ : MethodName) jdk_65_method_132_code 3 (some (.array .byte)) :: ws) ({ frames := 2, cells := 1, slots := 40, locals := 34 } : Room)) (fun a U => a = #[(.ref r0), (.int (0 : Int32)), (.int p2)] ∧ Z.Warmed39 U.vm ∧ U.heap = h0) (fun _ _ _ _ _ => True) (fun _ U o U' => ∃ v L, o = .returned v ∧ Q_rmCOR Z r0 p2 kb zc vs cN h0 n0 v U'.heap L ∧ FrameEnd U o U' L ({ frames := 2, cells := 1, slots := 40, locals := 34 } : Room).cells ({ frames := 2, cells := 1, slots := 40, locals := 34 } : Room).slots) := by
  refine MetFree.of_bodySF (plainFor_of_name pn_rmCOR) hisR ?_
  intro p e s m args below meth c s₁ Bd hml0 hP hK
  obtain ⟨rfl, hZ, hh⟩ := hP
  have hx := Bd.exec
  have hby := Bd.bytes
  have hml : c.maxLocals = 3 := hml0
  have hown : s.vm.findClass "java/util/Arrays" = some m.cls := findClass_of_methodNamed Bd.named
  have hnm := (name_of_methodNamed Bd.named Bd.method).1
  have hlk : meth.locks = false := BodyLoose.notSynchronized Bd
  have X0 : Stand p l e ({ frames := 2, cells := 1, slots := 40, locals := 34 } : Room) s m #[(.ref r0), (.int (0 : Int32)), (.int p2)] below meth c s₁ [] 0 0 := Stand.of_body Bd
  have e0 : s₁.heap = h0 := by rw [← hh, Bd.state]; rfl
  have N0 := Fr.nil n0
  show own_W p e below s (Q_rmCOR Z r0 p2 kb zc vs cN h0 n0) 1 40 s₁ (entryFrame m #[(.ref r0), (.int (0 : Int32)), (.int p2)] 3)
  skip
  skip
  refine own_go (T' := s₁) (g' := (mkF m 0 #[oa r0, oi 0, oi p2] [])) (fun _ k => castTop (ef_rmCOR m r0 (0 : Int32) p2) k) ?_
  refine own_g s₁ (mkF m 6 #[oa r0, oi 0, oi p2] [(.ref r0), (.int p2)]) (fun _ k => XS.iloadN X0.here hx rfl (hb hby d27_0) rfl (XS.ifNo X0.here hx rfl (hb hby d27_1) rfl (XT.i0_ne_f (rfl : (0 : Int32) = (0 : Int32))) (XS.iloadN X0.here hx rfl (hb hby d27_4) rfl (XS.aloadN X0.here hx rfl (hb hby d27_5) rfl rfl k)))) ?_
  obtain ⟨cl1, Ar1, q11, q21, q31, H1, G1⟩ := id hp0
  have st1 := X0.arraylength hx (by rw [e0]; exact Ar1.1) (State.isArrayOf_alike hZ.alike Ar1.2.1) (g := (mkF m 6 #[oa r0, oi 0, oi p2] [(.ref r0), (.int p2)])) rfl rfl (hb hby d27_6)
  rw [len_of q21 q31] at st1
  refine own_g s₁ (mkF m 13 #[oa r0, oi 0, oi p2] [(.int p2), (.int (0 : Int32)), (.ref r0)]) (fun _ k => st1 _ (XS.icmpNo X0.here hx rfl (hb hby d27_7) rfl (XT.ii_eq_f hh8) (XS.aloadN X0.here hx rfl (hb hby d27_10) rfl rfl (XS.iloadN X0.here hx rfl (hb hby d27_11) rfl (XS.iloadN X0.here hx rfl (hb hby d27_12) rfl k))))) ?_
  obtain ⟨_, _, ⟨T2, L2, k2, n2⟩, -, X2, ⟨Lc2, hQ2, l2, y2, z2⟩, st2⟩ := Jvm.LawKit.callS X0 hx (y := (⟨"java/util/Arrays", "copyOfRangeByte", "([BII)[B"⟩ : MethodName)) hown (mvT hZ (own_w hw 156 rfl)) (mvT hZ (own_w hw 157 rfl)) (mvT hZ (own_w hw 154 rfl)) (mvT hZ (own_w hw 158 rfl)) (by decide) (backOf (W := 0) (rmCRB l Z a0 hw [] r0 p2 kb zc vs cN h0 n0 Z0 hp0 hh0 hh1 hh2 hh3 hh4 hh5 hh6 hh7 hh8) hZ (own_w hw 158 rfl) (own_w hw 154 rfl) (by decide) (by decide)) (g := (mkF m 13 #[oa r0, oi 0, oi p2] [(.int p2), (.int (0 : Int32)), (.ref r0)])) rfl (by rw [hml]; rfl) (argsL := [(.ref r0), (.int (0 : Int32)), (.int p2)]) (rest := []) (lenOf own_pd15 rfl) rfl (Nat.le_of_eq rfl) (hb hby d27_13) (fun _ _ => ⟨rfl, e0, (by decide : 0 + 1 ≤ _), (by decide : 0 + 40 ≤ _)⟩)
  dsimp only [Pt.U, Pt.locs, Pt.cells, Pt.slots] at X2 l2 y2 z2 st2 hQ2
  subst l2 y2 z2
  obtain ⟨xb_2, xk_2, rfl, N2q, K2, po3, po4⟩ := hQ2
  have f5 := (hp0.keep K2 nin0)
  have ne6 : r0 ≠ xb_2 := Nat.ne_of_lt (Nat.lt_of_lt_of_le hp0.lt po3)
  have ge7 : n0 ≤ xb_2 := Nat.le_trans Z0 po3
  have sz8 : h0.size ≤ xb_2 := Nat.le_trans (Keep.refl h0 []).1 po3
  have zs2 : n0 ≤ T2.heap.size := Nat.le_trans Z0 K2.1
  have kk2 : Keep h0 T2.heap [] := (Keep.refl h0 []).trans K2 all0
  have N2 := Fr.app N0 N2q
  obtain ⟨Lv2, X2, N2⟩ := own_hide X2 (Nat.le_refl 1) (Nat.le_refl 40) N2
  refine own_g T2 (mkF m 16 #[oa r0, oi 0, oi p2] [(.ref xb_2)]) (fun _ k => st2 _ k) ?_
  exact own_ret X2 hx Bd.returns hlk rfl (Or.inr (Or.inr (Or.inr (Or.inr ⟨rfl, rfl, rfl⟩)))) (hb hby d27_16) rfl ⟨xb_2, xk_2, rfl, N2, kk2, sz8, po4⟩ (by decide) (by decide)
theorem own_pd16 : parseMethodDescriptor "()[B" = some ⟨[], some (.array .byte)⟩ := by decide +kernel
theorem d22_0 : decode jdk_42_method_150_code 0 = .ok (.aload_n 0, 1) := by decide +kernel
theorem d22_1 : decode jdk_42_method_150_code 1 = .ok (.invokespecial 1, 3) := by decide +kernel
theorem d22_4 : decode jdk_42_method_150_code 4 = .ok (.aload_n 1, 1) := by decide +kernel
theorem d22_5 : decode jdk_42_method_150_code 5 = .ok (.invokevirtual 552, 3) := by decide +kernel
theorem d22_8 : decode jdk_42_method_150_code 8 = .ok (.astore_n 3, 1) := by decide +kernel
theorem d22_9 : decode jdk_42_method_150_code 9 = .ok (.aload_n 1, 1) := by decide +kernel
theorem d22_10 : decode jdk_42_method_150_code 10 = .ok (.invokevirtual 549, 3) := by decide +kernel
theorem d22_13 : decode jdk_42_method_150_code 13 = .ok (.istore 4, 2) := by decide +kernel
theorem d22_15 : decode jdk_42_method_150_code 15 = .ok (.aload_n 1, 1) := by decide +kernel
theorem d22_16 : decode jdk_42_method_150_code 16 = .ok (.invokevirtual 1047, 3) := by decide +kernel
theorem d22_19 : decode jdk_42_method_150_code 19 = .ok (.ifCond .eq 22, 3) := by decide +kernel
theorem d22_22 : decode jdk_42_method_150_code 22 = .ok (.aload_n 0, 1) := by decide +kernel
theorem d22_23 : decode jdk_42_method_150_code 23 = .ok (.iconst 0, 1) := by decide +kernel
theorem d22_24 : decode jdk_42_method_150_code 24 = .ok (.putfield 15, 3) := by decide +kernel
theorem d22_27 : decode jdk_42_method_150_code 27 = .ok (.aload_n 0, 1) := by decide +kernel
theorem d22_28 : decode jdk_42_method_150_code 28 = .ok (.aload_n 3, 1) := by decide +kernel
theorem d22_29 : decode jdk_42_method_150_code 29 = .ok (.iconst 0, 1) := by decide +kernel
theorem d22_30 : decode jdk_42_method_150_code 30 = .ok (.iload 4, 2) := by decide +kernel
theorem d22_32 : decode jdk_42_method_150_code 32 = .ok (.invokestatic 54, 3) := by decide +kernel
theorem d22_35 : decode jdk_42_method_150_code 35 = .ok (.putfield 9, 3) := by decide +kernel
theorem d22_38 : decode jdk_42_method_150_code 38 = .ok (.goto 59, 3) := by decide +kernel
theorem d22_97 : decode jdk_42_method_150_code 97 = .ok (.return_, 1) := by decide +kernel
def Q_rmSAV (Z : State) (r0 : Addr) (r1 : Addr) (da : Addr) (c1 : Int32) (kb : ClassId) (zc : Int32) (vs : List Value) (cN : Nat) (cs : Int32) (h0 : Heap) (n0 : Nat) (v : Option Value) (h : Heap) (L : List Loc) : Prop := ∃ (xb : Addr) (xk : ClassId), v = none ∧ Fr n0 L ∧ Keep h0 h [r0] ∧ h0.size ≤ xb ∧ Fld Z h r0 "java/lang/String" "value" "[B" (.ref xb) ∧ Fld Z h r0 "java/lang/String" "coder" "B" (.int (0 : Int32)) ∧ Arv Z h xb xk .byte (c1 - (0 : Int32)) (vs.take cN) (.int (0 : Int32))
theorem ef_rmSAV (m : MethodId) (x0 : Addr) (x1 : Addr) : entryFrame m #[(.ref x0), (.ref x1), .null] 5 = mkF m 0 #[.val (.ref x0), .val (.ref x1), .val .null, .unset, .unset] [] := by first | (simp [entryFrame, mkF, argsToLocals, Value.category]; done) | rfl
theorem pn_rmSAV : plainName "java/lang/String" = true := by first | (simp [plainName, overriddenIn]; done) | decide +kernel
set_option maxRecDepth 65536 in
set_option maxHeartbeats 40000000 in
theorem rmSAV (l : Launch) (Z : State) (a0 : Array Value) (hw : ∀ d ∈ tables_1, d.before a0 Z = true) (ws : List Jvm.Cond) (r0 : Addr) (r1 : Addr) (da : Addr) (c1 : Int32) (kb : ClassId) (zc : Int32) (vs : List Value) (cN : Nat) (cs : Int32) (h0 : Heap) (n0 : Nat) (Z0 : n0 ≤ h0.size) (hp0 : Exa Z h0 r0 "java/lang/String") (hp1 : n0 ≤ r0) (hp2 : Fld Z h0 r0 "java/lang/String" "value" "[B" .null) (hp3 : Fld Z h0 r0 "java/lang/String" "coder" "B" (.int (0 : Int32))) (hp4 : Exa Z h0 r1 "java/lang/StringBuilder") (hp5 : Fld Z h0 r1 "java/lang/AbstractStringBuilder" "value" "[B" (.ref da)) (hp6 : Fld Z h0 r1 "java/lang/AbstractStringBuilder" "coder" "B" (.int (0 : Int32))) (hp7 : Fld Z h0 r1 "java/lang/AbstractStringBuilder" "count" "I" (.int c1)) (hp8 : Arv Z h0 da kb .byte zc vs (.int (0 : Int32))) (hp9 : da ≠ r0) (hp10 : Sta Z h0 "java/lang/String" "COMPACT_STRINGS" "Z" (.int cs)) (hh0 : ¬ c1 < (0 : Int32)) (hh1 : (c1 - (0 : Int32)).toNatClampNeg = cN) (hh2 : ¬ (c1 - (0 : Int32)) < (0 : Int32)) (hh3 : (own_min (zc - (0 : Int32)) (c1 - (0 : Int32))).toNatClampNeg = cN) (hh4 : ¬ (own_min (zc - (0 : Int32)) (c1 - (0 : Int32))) < (0 : Int32)) (hh5 : cN ≤ 40) (hh6 : cN ≤ zc.toNatClampNeg) (hh7 : cN ≤ vs.length) (hh8 : ¬ c1 = zc) (hh9 : ¬ cs = (0 : Int32)) :
    MetFree l (⟨"java/lang/String", "<init>", "(Ljava/lang/AbstractStringBuilder;Ljava/lang/Void;)V"⟩ : MethodName) (head1 (Jvm.Cond.code (⟨"java/lang/String", "<init>", "(Ljava/lang/AbstractStringBuilder;Ljava/lang/Void;)V"⟩ : MethodName) jdk_42_method_150_code 5 none :: ws) ({ frames := 3, cells := 1, slots := 40, locals := 49 } : Room)) (fun a U => a = #[(.ref r0), (.ref r1), .null] ∧ Z.Warmed39 U.vm ∧ U.heap = h0) (fun _ _ _ _ _ => True) (fun _ U o U' => ∃ v L, o = .returned v ∧ Q_rmSAV Z r0 r1 da c1 kb zc vs cN cs h0 n0 v U'.heap L ∧ FrameEnd U o U' L ({ frames := 3, cells := 1, slots := 40, locals := 49 } : Room).cells ({ frames := 3, cells := 1, slots := 40, locals := 49 } : Room).slots) := by
  refine MetFree.of_bodySF (plainFor_of_name pn_rmSAV) hisR ?_
  intro p e s m args below meth c s₁ Bd hml0 hP hK
  obtain ⟨rfl, hZ, hh⟩ := hP
  have hx := Bd.exec
  have hby := Bd.bytes
  have hml : c.maxLocals = 5 := hml0
  have hown : s.vm.findClass "java/lang/String" = some m.cls := findClass_of_methodNamed Bd.named
  have hnm := (name_of_methodNamed Bd.named Bd.method).1
  have hlk : meth.locks = false := BodyLoose.notSynchronized Bd
  have X0 : Stand p l e ({ frames := 3, cells := 1, slots := 40, locals := 49 } : Room) s m #[(.ref r0), (.ref r1), .null] below meth c s₁ [] 0 0 := Stand.of_body Bd
  have e0 : s₁.heap = h0 := by rw [← hh, Bd.state]; rfl
  have N0 := Fr.nil n0
  show own_W p e below s (Q_rmSAV Z r0 r1 da c1 kb zc vs cN cs h0 n0) 1 40 s₁ (entryFrame m #[(.ref r0), (.ref r1), .null] 5)
  skip
  skip
  refine own_go (T' := s₁) (g' := (mkF m 0 #[oa r0, oa r1, .val .null, .unset, .unset] [])) (fun _ k => castTop (ef_rmSAV m r0 r1) k) ?_
  refine own_g s₁ (mkF m 1 #[oa r0, oa r1, .val .null, .unset, .unset] [(.ref r0)]) (fun _ k => XS.aloadN X0.here hx rfl (hb hby d22_0) rfl rfl k) ?_
  obtain ⟨T1, X1, e1, st1⟩ := initO X0 hx hZ hown (own_w hw 23 rfl) (own_w hw 24 rfl) (own_w hw 25 rfl) e0 (g := (mkF m 1 #[oa r0, oa r1, .val .null, .unset, .unset] [(.ref r0)])) rfl (by rw [hml]; rfl) rfl (hb hby d22_1) (by decide) (W := 0) (Nat.le_of_eq rfl) (by decide)
  refine own_g T1 (mkF m 5 #[oa r0, oa r1, .val .null, .unset, .unset] [(.ref r1)]) (fun _ k => st1 _ (XS.aloadN X1.here hx rfl (hb hby d22_4) rfl rfl k)) ?_
  obtain ⟨cq2, kq2, q2a, q2b, q2c⟩ := isOf hZ e1 hp4
  obtain ⟨_, _, ⟨T2, L2, k2, n2⟩, -, X2, ⟨Lc2, hQ2, l2, y2, z2⟩, st2⟩ := X1.virtualBack hx (y := (⟨"java/lang/AbstractStringBuilder", "getValue", "()[B"⟩ : MethodName)) (z := (⟨"java/lang/AbstractStringBuilder", "getValue", "()[B"⟩ : MethodName)) hown (mvT hZ (own_w hw 134 rfl)) (mvT hZ (own_w hw 135 rfl)) (notFace_of_selects (args := #[]) (mvT hZ (own_w hw 137 rfl))) (mvT hZ (own_w hw 137 rfl)) (mvT hZ (own_w hw 136 rfl)) (by decide) (backOf (W := 0) (rmGetV l Z a0 hw [] r1 da h0 n0 Z0 hp5) hZ (own_w hw 138 rfl) (own_w hw 63 rfl) (by decide) (by decide)) q2a q2c (g := (mkF m 5 #[oa r0, oa r1, .val .null, .unset, .unset] [(.ref r1)])) rfl (by rw [hml]; rfl) (Steps.refl _) (argsL := []) (rest := []) (lenOf own_pd16 rfl) rfl (Nat.le_of_eq rfl) (hb hby d22_5) (fun _ _ => ⟨rfl, e1, (by decide : 0 + 0 ≤ _), (by decide : 0 + 0 ≤ _)⟩)
  dsimp only [Pt.U, Pt.locs, Pt.cells, Pt.slots] at X2 l2 y2 z2 st2 hQ2
  subst l2 y2 z2
  obtain ⟨rfl, N2q, e2⟩ := hQ2
  have N2 := Fr.app N0 N2q
  obtain ⟨Lv2, X2, N2⟩ := own_hide X2 (Nat.le_refl 0) (Nat.le_refl 0) N2
  refine own_g T2 (mkF m 10 #[oa r0, oa r1, .val .null, oa da, .unset] [(.ref r1)]) (fun _ k => st2.trans (XS.astoreN X2.here hx rfl (hb hby d22_8) rfl rfl (l' := #[oa r0, oa r1, .val .null, oa da, .unset]) rfl (XS.aloadN X2.here hx rfl (hb hby d22_9) rfl rfl k))) ?_
  obtain ⟨cq3, kq3, q3a, q3b, q3c⟩ := isOf hZ e2 hp4
  obtain ⟨_, _, ⟨T3, L3, k3, n3⟩, -, X3, ⟨Lc3, hQ3, l3, y3, z3⟩, st3⟩ := X2.virtualBack hx (y := (⟨"java/lang/AbstractStringBuilder", "length", "()I"⟩ : MethodName)) (z := (⟨"java/lang/StringBuilder", "length", "()I"⟩ : MethodName)) hown (mvT hZ (own_w hw 139 rfl)) (mvT hZ (own_w hw 140 rfl)) (own_nf (args := #[]) (mvT hZ (own_w hw 99 rfl)) rfl) (mvT hZ (own_w hw 142 rfl)) (mvT hZ (own_w hw 143 rfl)) (by decide) (backOf (W := 0) (rmSLen l Z a0 hw [] r1 c1 h0 n0 Z0 hp4 hp7) hZ (own_w hw 144 rfl) (own_w hw 55 rfl) (by decide) (by decide)) q3a q3c (g := (mkF m 10 #[oa r0, oa r1, .val .null, oa da, .unset] [(.ref r1)])) rfl (by rw [hml]; rfl) (Steps.refl _) (argsL := []) (rest := []) (lenOf own_pd11 rfl) rfl (Nat.le_of_eq rfl) (hb hby d22_10) (fun _ _ => ⟨rfl, e2, (by decide : 0 + 0 ≤ _), (by decide : 0 + 0 ≤ _)⟩)
  dsimp only [Pt.U, Pt.locs, Pt.cells, Pt.slots] at X3 l3 y3 z3 st3 hQ3
  subst l3 y3 z3
  obtain ⟨rfl, N3q, e3⟩ := hQ3
  have N3 := Fr.app N2 N3q
  obtain ⟨Lv3, X3, N3⟩ := own_hide X3 (Nat.le_refl 0) (Nat.le_refl 0) N3
  refine own_g T3 (mkF m 16 #[oa r0, oa r1, .val .null, oa da, oi c1] [(.ref r1)]) (fun _ k => st3.trans (XS.istore X3.here hx rfl (hb hby d22_13) rfl (l' := #[oa r0, oa r1, .val .null, oa da, oi c1]) rfl (XS.aloadN X3.here hx rfl (hb hby d22_15) rfl rfl k))) ?_
  obtain ⟨cq4, kq4, q4a, q4b, q4c⟩ := isOf hZ e3 hp4
  obtain ⟨_, _, ⟨T4, L4, k4, n4⟩, -, X4, ⟨Lc4, hQ4, l4, y4, z4⟩, st4⟩ := X3.virtualBack hx (y := (⟨"java/lang/AbstractStringBuilder", "isLatin1", "()Z"⟩ : MethodName)) (z := (⟨"java/lang/AbstractStringBuilder", "isLatin1", "()Z"⟩ : MethodName)) hown (mvT hZ (own_w hw 147 rfl)) (mvT hZ (own_w hw 148 rfl)) (notFace_of_selects (args := #[]) (mvT hZ (own_w hw 150 rfl))) (mvT hZ (own_w hw 150 rfl)) (mvT hZ (own_w hw 149 rfl)) (by decide) (backOf (W := 0) (rmAIsL l Z a0 hw [] r1 cs h0 n0 Z0 hp6 hp10 hh9) hZ (own_w hw 151 rfl) (own_w hw 63 rfl) (by decide) (by decide)) q4a q4c (g := (mkF m 16 #[oa r0, oa r1, .val .null, oa da, oi c1] [(.ref r1)])) rfl (by rw [hml]; rfl) (Steps.refl _) (argsL := []) (rest := []) (lenOf own_pd3 rfl) rfl (Nat.le_of_eq rfl) (hb hby d22_16) (fun _ _ => ⟨rfl, e3, (by decide : 0 + 0 ≤ _), (by decide : 0 + 0 ≤ _)⟩)
  dsimp only [Pt.U, Pt.locs, Pt.cells, Pt.slots] at X4 l4 y4 z4 st4 hQ4
  subst l4 y4 z4
  obtain ⟨rfl, N4q, e4⟩ := hQ4
  have N4 := Fr.app N3 N4q
  obtain ⟨Lv4, X4, N4⟩ := own_hide X4 (Nat.le_refl 0) (Nat.le_refl 0) N4
  refine own_g T4 (mkF m 24 #[oa r0, oa r1, .val .null, oa da, oi c1] [(.int (0 : Int32)), (.ref r0)]) (fun _ k => st4.trans (XS.ifNo X4.here hx rfl (hb hby d22_19) rfl (XT.i0_eq_f (by decide : ¬ ((1 : Int32) = (0 : Int32)))) (XS.aloadN X4.here hx rfl (hb hby d22_22) rfl rfl (XS.iconst X4.here hx rfl (hb hby d22_23) k)))) ?_
  obtain ⟨T5, h5, X5, e5, W5, st5⟩ := putFN X4 hx hZ hown (own_w hw 28 rfl) Via.refl e4 hp3 hp0 (Or.inr ⟨(own_w hw 29 rfl), rfl, hnm⟩) (own_w hw 14 rfl) (ty := .byte) (v' := (.int (0 : Int32))) (by decide) rfl (by decide) (g := (mkF m 24 #[oa r0, oa r1, .val .null, oa da, oi c1] [(.int (0 : Int32)), (.ref r0)])) rfl rfl (hb hby d22_24)
  have f6 := (hp0.wr W5)
  have f7 := (hp2.other W5 (Or.inr (slot_ne (Or.inr (own_w hw 27 rfl)) (Or.inr (own_w hw 29 rfl)) (by decide) (t := (.array .byte)) (t' := .byte) (by decide) (by decide))))
  have f8 := (hp4.wr W5)
  have f9 := (hp8.other W5 hp9)
  have f10 := (hp10.wr W5)
  have fw5 : Fld Z h5 r0 "java/lang/String" "coder" "B" (.int (0 : Int32)) := hp3.same W5
  have N5 := Fr.snoc X5 N4 hp1
  have zs5 : n0 ≤ h5.size := by rw [W5.size]; exact Z0
  have kk5 : Keep h0 h5 [r0] := (Keep.refl h0 [r0]).wr W5 (Or.inl (List.mem_of_getElem? (i := 0) rfl))
  refine own_g T5 (mkF m 32 #[oa r0, oa r1, .val .null, oa da, oi c1] [(.int c1), (.int (0 : Int32)), (.ref da), (.ref r0)]) (fun _ k => st5 _ (XS.aloadN X5.here hx rfl (hb hby d22_27) rfl rfl (XS.aloadN X5.here hx rfl (hb hby d22_28) rfl rfl (XS.iconst X5.here hx rfl (hb hby d22_29) (XS.iload X5.here hx rfl (hb hby d22_30) rfl k))))) ?_
  obtain ⟨_, _, ⟨T11, L11, k11, n11⟩, -, X11, ⟨Lc11, hQ11, l11, y11, z11⟩, st11⟩ := Jvm.LawKit.callS X5 hx (y := (⟨"java/util/Arrays", "copyOfRange", "([BII)[B"⟩ : MethodName)) hown (mvT hZ (own_w hw 152 rfl)) (mvT hZ (own_w hw 153 rfl)) (mvT hZ (own_w hw 154 rfl)) (mvT hZ (own_w hw 155 rfl)) (by decide) (backOf (W := 1) (rmCOR l Z a0 hw [] da c1 kb zc vs cN h5 n0 zs5 f9 hh0 hh1 hh2 hh3 hh4 hh5 hh6 hh7 hh8) hZ (own_w hw 155 rfl) (own_w hw 154 rfl) (by decide) (by decide)) (g := (mkF m 32 #[oa r0, oa r1, .val .null, oa da, oi c1] [(.int c1), (.int (0 : Int32)), (.ref da), (.ref r0)])) rfl (by rw [hml]; rfl) (argsL := [(.ref da), (.int (0 : Int32)), (.int c1)]) (rest := [(.ref r0)]) (lenOf own_pd15 rfl) rfl (Nat.le_of_eq rfl) (hb hby d22_32) (fun _ _ => ⟨rfl, e5, (by decide : 0 + 1 ≤ _), (by decide : 0 + 40 ≤ _)⟩)
  dsimp only [Pt.U, Pt.locs, Pt.cells, Pt.slots] at X11 l11 y11 z11 st11 hQ11
  subst l11 y11 z11
  obtain ⟨xb_11, xk_11, rfl, N11q, K11, po12, po13⟩ := hQ11
  have f14 := (f6.keep K11)
  have f15 := (f7.keep K11 nin0)
  have f16 := (f8.keep K11)
  have f17 := (f9.keep K11 nin0)
  have f18 := (own_sta_keep f10 K11 ns0)
  have f19 := (fw5.keep K11 nin0)
  have ne20 : r0 ≠ xb_11 := Nat.ne_of_lt (Nat.lt_of_lt_of_le f6.lt po12)
  have ne21 : r1 ≠ xb_11 := Nat.ne_of_lt (Nat.lt_of_lt_of_le f8.lt po12)
  have ne22 : da ≠ xb_11 := Nat.ne_of_lt (Nat.lt_of_lt_of_le f9.lt po12)
  have ge23 : n0 ≤ xb_11 := Nat.le_trans zs5 po12
  have sz24 : h0.size ≤ xb_11 := Nat.le_trans kk5.1 po12
  have zs11 : n0 ≤ T11.heap.size := Nat.le_trans zs5 K11.1
  have kk11 : Keep h0 T11.heap [r0] := kk5.trans K11 all0
  have N11 := Fr.app N5 N11q
  obtain ⟨Lv11, X11, N11⟩ := own_hide X11 (Nat.le_refl 1) (Nat.le_refl 40) N11
  refine own_g T11 (mkF m 35 #[oa r0, oa r1, .val .null, oa da, oi c1] [(.ref xb_11), (.ref r0)]) (fun _ k => st11 _ k) ?_
  obtain ⟨T25, h25, X25, e25, W25, st25⟩ := putF X11 hx hZ hown (host := "") (Or.inl (own_w hw 26 rfl)) Via.refl rfl f15 f14 (Or.inr ⟨(own_w hw 27 rfl), rfl, hnm⟩) (own_w hw 14 rfl) (ty := (.array .byte)) (by decide) rfl rfl (g := (mkF m 35 #[oa r0, oa r1, .val .null, oa da, oi c1] [(.ref xb_11), (.ref r0)])) rfl rfl (hb hby d22_35)
  have f26 := (f14.wr W25)
  have f27 := (f16.wr W25)
  have f28 := (f17.other W25 hp9)
  have f29 := (f18.wr W25)
  have f30 := (f19.other W25 (Or.inr (slot_ne (Or.inr (own_w hw 29 rfl)) (Or.inr (own_w hw 27 rfl)) (by decide) (t := .byte) (t' := (.array .byte)) (by decide) (by decide))))
  have f31 := (po13.other W25 (Ne.symm ne20))
  have fw25 : Fld Z h25 r0 "java/lang/String" "value" "[B" (.ref xb_11) := f15.same W25
  have N25 := Fr.snoc X25 N11 hp1
  have zs25 : n0 ≤ h25.size := by rw [W25.size]; exact zs11
  have kk25 : Keep h0 h25 [r0] := kk11.wr W25 (Or.inl (List.mem_of_getElem? (i := 0) rfl))
  refine own_g T25 (mkF m 97 #[oa r0, oa r1, .val .null, oa da, oi c1] []) (fun _ k => st25 _ (XS.goto X25.here hx rfl (pc0 := 38) (pc' := 97) rfl (hb hby d22_38) (by decide) (by decide) k)) ?_
  exact own_ret0 X25 hx Bd.returns hlk (hb hby d22_97) e25 ⟨xb_11, xk_11, rfl, N25, kk25, sz24, fw25, f30, f31⟩ (by decide) (by decide)
theorem own_pd17 : parseMethodDescriptor "(Ljava/lang/AbstractStringBuilder;Ljava/lang/Void;)V" = some ⟨[(.object "java/lang/AbstractStringBuilder"), (.object "java/lang/Void")], none⟩ := by decide +kernel
theorem d21_0 : decode jdk_42_method_53_code 0 = .ok (.aload_n 0, 1) := by decide +kernel
theorem d21_1 : decode jdk_42_method_53_code 1 = .ok (.aload_n 1, 1) := by decide +kernel
theorem d21_2 : decode jdk_42_method_53_code 2 = .ok (.aconst_null, 1) := by decide +kernel
theorem d21_3 : decode jdk_42_method_53_code 3 = .ok (.invokespecial 489, 3) := by decide +kernel
theorem d21_6 : decode jdk_42_method_53_code 6 = .ok (.return_, 1) := by decide +kernel
def Q_rmSSB (Z : State) (r0 : Addr) (r1 : Addr) (da : Addr) (c1 : Int32) (kb : ClassId) (zc : Int32) (vs : List Value) (cN : Nat) (cs : Int32) (h0 : Heap) (n0 : Nat) (v : Option Value) (h : Heap) (L : List Loc) : Prop := ∃ (xb : Addr) (xk : ClassId), v = none ∧ Fr n0 L ∧ Keep h0 h [r0] ∧ h0.size ≤ xb ∧ Fld Z h r0 "java/lang/String" "value" "[B" (.ref xb) ∧ Fld Z h r0 "java/lang/String" "coder" "B" (.int (0 : Int32)) ∧ Arv Z h xb xk .byte (c1 - (0 : Int32)) (vs.take cN) (.int (0 : Int32))
theorem ef_rmSSB (m : MethodId) (x0 : Addr) (x1 : Addr) : entryFrame m #[(.ref x0), (.ref x1)] 2 = mkF m 0 #[.val (.ref x0), .val (.ref x1)] [] := by first | (simp [entryFrame, mkF, argsToLocals, Value.category]; done) | rfl
theorem pn_rmSSB : plainName "java/lang/String" = true := by first | (simp [plainName, overriddenIn]; done) | decide +kernel
set_option maxRecDepth 65536 in
set_option maxHeartbeats 40000000 in
theorem rmSSB (l : Launch) (Z : State) (a0 : Array Value) (hw : ∀ d ∈ tables_1, d.before a0 Z = true) (ws : List Jvm.Cond) (r0 : Addr) (r1 : Addr) (da : Addr) (c1 : Int32) (kb : ClassId) (zc : Int32) (vs : List Value) (cN : Nat) (cs : Int32) (h0 : Heap) (n0 : Nat) (Z0 : n0 ≤ h0.size) (hp0 : Exa Z h0 r0 "java/lang/String") (hp1 : n0 ≤ r0) (hp2 : Fld Z h0 r0 "java/lang/String" "value" "[B" .null) (hp3 : Fld Z h0 r0 "java/lang/String" "coder" "B" (.int (0 : Int32))) (hp4 : Exa Z h0 r1 "java/lang/StringBuilder") (hp5 : Fld Z h0 r1 "java/lang/AbstractStringBuilder" "value" "[B" (.ref da)) (hp6 : Fld Z h0 r1 "java/lang/AbstractStringBuilder" "coder" "B" (.int (0 : Int32))) (hp7 : Fld Z h0 r1 "java/lang/AbstractStringBuilder" "count" "I" (.int c1)) (hp8 : Arv Z h0 da kb .byte zc vs (.int (0 : Int32))) (hp9 : da ≠ r0) (hp10 : Sta Z h0 "java/lang/String" "COMPACT_STRINGS" "Z" (.int cs)) (hh0 : ¬ c1 < (0 : Int32)) (hh1 : (c1 - (0 : Int32)).toNatClampNeg = cN) (hh2 : ¬ (c1 - (0 : Int32)) < (0 : Int32)) (hh3 : (own_min (zc - (0 : Int32)) (c1 - (0 : Int32))).toNatClampNeg = cN) (hh4 : ¬ (own_min (zc - (0 : Int32)) (c1 - (0 : Int32))) < (0 : Int32)) (hh5 : cN ≤ 40) (hh6 : cN ≤ zc.toNatClampNeg) (hh7 : cN ≤ vs.length) (hh8 : ¬ c1 = zc) (hh9 : ¬ cs = (0 : Int32)) :
    MetFree l (⟨"java/lang/String", "<init>", "(Ljava/lang/StringBuilder;)V"⟩ : MethodName) (head1 (Jvm.Cond.code (⟨"java/lang/String", "<init>", "(Ljava/lang/StringBuilder;)V"⟩ : MethodName) jdk_42_method_53_code 2 none :: ws) ({ frames := 4, cells := 1, slots := 40, locals := 65 } : Room)) (fun a U => a = #[(.ref r0), (.ref r1)] ∧ Z.Warmed39 U.vm ∧ U.heap = h0) (fun _ _ _ _ _ => True) (fun _ U o U' => ∃ v L, o = .returned v ∧ Q_rmSSB Z r0 r1 da c1 kb zc vs cN cs h0 n0 v U'.heap L ∧ FrameEnd U o U' L ({ frames := 4, cells := 1, slots := 40, locals := 65 } : Room).cells ({ frames := 4, cells := 1, slots := 40, locals := 65 } : Room).slots) := by
  refine MetFree.of_bodySF (plainFor_of_name pn_rmSSB) hisR ?_
  intro p e s m args below meth c s₁ Bd hml0 hP hK
  obtain ⟨rfl, hZ, hh⟩ := hP
  have hx := Bd.exec
  have hby := Bd.bytes
  have hml : c.maxLocals = 2 := hml0
  have hown : s.vm.findClass "java/lang/String" = some m.cls := findClass_of_methodNamed Bd.named
  have hnm := (name_of_methodNamed Bd.named Bd.method).1
  have hlk : meth.locks = false := BodyLoose.notSynchronized Bd
  have X0 : Stand p l e ({ frames := 4, cells := 1, slots := 40, locals := 65 } : Room) s m #[(.ref r0), (.ref r1)] below meth c s₁ [] 0 0 := Stand.of_body Bd
  have e0 : s₁.heap = h0 := by rw [← hh, Bd.state]; rfl
  have N0 := Fr.nil n0
  show own_W p e below s (Q_rmSSB Z r0 r1 da c1 kb zc vs cN cs h0 n0) 1 40 s₁ (entryFrame m #[(.ref r0), (.ref r1)] 2)
  skip
  skip
  refine own_go (T' := s₁) (g' := (mkF m 0 #[oa r0, oa r1] [])) (fun _ k => castTop (ef_rmSSB m r0 r1) k) ?_
  refine own_g s₁ (mkF m 3 #[oa r0, oa r1] [.null, (.ref r1), (.ref r0)]) (fun _ k => XS.aloadN X0.here hx rfl (hb hby d21_0) rfl rfl (XS.aloadN X0.here hx rfl (hb hby d21_1) rfl rfl (XS.aconstNull X0.here hx rfl (hb hby d21_2) k))) ?_
  obtain ⟨_, _, ⟨T1, L1, k1, n1⟩, -, X1, ⟨Lc1, hQ1, l1, y1, z1⟩, st1⟩ := X0.specialBack hx (y := (⟨"java/lang/String", "<init>", "(Ljava/lang/AbstractStringBuilder;Ljava/lang/Void;)V"⟩ : MethodName)) rfl hown (mvT hZ (own_w hw 131 rfl)) (mvT hZ (own_w hw 132 rfl)) (mvT hZ (own_w hw 133 rfl)) (by decide) (backOf (W := 0) (rmSAV l Z a0 hw [] r0 r1 da c1 kb zc vs cN cs h0 n0 Z0 hp0 hp1 hp2 hp3 hp4 hp5 hp6 hp7 hp8 hp9 hp10 hh0 hh1 hh2 hh3 hh4 hh5 hh6 hh7 hh8 hh9) hZ (own_w hw 133 rfl) (own_w hw 6 rfl) (by decide) (by decide)) (g := (mkF m 3 #[oa r0, oa r1] [.null, (.ref r1), (.ref r0)])) rfl (by rw [hml]; rfl) (Steps.refl _) (a := r0) (argsL := [(.ref r1), .null]) (rest := []) (lenOf own_pd17 rfl) rfl (Nat.le_of_eq rfl) (hb hby d21_3) (fun _ _ => ⟨rfl, e0, (by decide : 0 + 1 ≤ _), (by decide : 0 + 40 ≤ _)⟩)
  dsimp only [Pt.U, Pt.locs, Pt.cells, Pt.slots] at X1 l1 y1 z1 st1 hQ1
  subst l1 y1 z1
  obtain ⟨xb_1, xk_1, rfl, N1q, K1, po2, po3, po4, po5⟩ := hQ1
  have f6 := (hp0.keep K1)
  have f7 := (hp4.keep K1)
  have f8 := (hp8.keep K1 (ninS hp9 nin0))
  have f9 := (own_sta_keep hp10 K1 (nsS hp0.nostat ns0))
  have ne10 : r0 ≠ xb_1 := Nat.ne_of_lt (Nat.lt_of_lt_of_le hp0.lt po2)
  have ne11 : r1 ≠ xb_1 := Nat.ne_of_lt (Nat.lt_of_lt_of_le hp4.lt po2)
  have ne12 : da ≠ xb_1 := Nat.ne_of_lt (Nat.lt_of_lt_of_le hp8.lt po2)
  have ge13 : n0 ≤ xb_1 := Nat.le_trans Z0 po2
  have sz14 : h0.size ≤ xb_1 := Nat.le_trans (Keep.refl h0 [r0]).1 po2
  have zs1 : n0 ≤ T1.heap.size := Nat.le_trans Z0 K1.1
  have kk1 : Keep h0 T1.heap [r0] := (Keep.refl h0 [r0]).trans K1 (allS (Or.inl (List.mem_of_getElem? (i := 0) rfl)) all0)
  have N1 := Fr.app N0 N1q
  obtain ⟨Lv1, X1, N1⟩ := own_hide X1 (Nat.le_refl 1) (Nat.le_refl 40) N1
  refine own_g T1 (mkF m 6 #[oa r0, oa r1] []) (fun _ k => st1.trans k) ?_
  exact own_ret0 X1 hx Bd.returns hlk (hb hby d21_6) rfl ⟨xb_1, xk_1, rfl, N1, kk1, sz14, po3, po4, po5⟩ (by decide) (by decide)
theorem own_pd18 : parseMethodDescriptor "(Ljava/lang/StringBuilder;)V" = some ⟨[(.object "java/lang/StringBuilder")], none⟩ := by decide +kernel
theorem d20_0 : decode jdk_67_method_42_code 0 = .ok (.new 18, 3) := by decide +kernel
theorem d20_3 : decode jdk_67_method_42_code 3 = .ok (.dup, 1) := by decide +kernel
theorem d20_4 : decode jdk_67_method_42_code 4 = .ok (.aload_n 0, 1) := by decide +kernel
theorem d20_5 : decode jdk_67_method_42_code 5 = .ok (.invokespecial 137, 3) := by decide +kernel
theorem d20_8 : decode jdk_67_method_42_code 8 = .ok (.areturn, 1) := by decide +kernel
def Q_rmSTS (Z : State) (r0 : Addr) (da : Addr) (c1 : Int32) (kb : ClassId) (zc : Int32) (vs : List Value) (cN : Nat) (cs : Int32) (h0 : Heap) (n0 : Nat) (v : Option Value) (h : Heap) (L : List Loc) : Prop := ∃ (xs : Addr) (xb : Addr) (xk : ClassId), v = some (.ref xs) ∧ Fr n0 L ∧ Keep h0 h [] ∧ h0.size ≤ xs ∧ h0.size ≤ xb ∧ xs ≠ xb ∧ Exa Z h xs "java/lang/String" ∧ Fld Z h xs "java/lang/String" "value" "[B" (.ref xb) ∧ Fld Z h xs "java/lang/String" "coder" "B" (.int (0 : Int32)) ∧ Arv Z h xb xk .byte (c1 - (0 : Int32)) (vs.take cN) (.int (0 : Int32))
theorem ef_rmSTS (m : MethodId) (x0 : Addr) : entryFrame m #[(.ref x0)] 1 = mkF m 0 #[.val (.ref x0)] [] := by first | (simp [entryFrame, mkF, argsToLocals, Value.category]; done) | rfl
theorem pn_rmSTS : plainName "java/lang/StringBuilder" = true := by first | (simp [plainName, overriddenIn]; done) | decide +kernel
set_option maxRecDepth 65536 in
set_option maxHeartbeats 40000000 in
theorem rmSTS (l : Launch) (Z : State) (a0 : Array Value) (hw : ∀ d ∈ tables_1, d.before a0 Z = true) (ws : List Jvm.Cond) (r0 : Addr) (da : Addr) (c1 : Int32) (kb : ClassId) (zc : Int32) (vs : List Value) (cN : Nat) (cs : Int32) (h0 : Heap) (n0 : Nat) (Z0 : n0 ≤ h0.size) (hp0 : Exa Z h0 r0 "java/lang/StringBuilder") (hp1 : Fld Z h0 r0 "java/lang/AbstractStringBuilder" "value" "[B" (.ref da)) (hp2 : Fld Z h0 r0 "java/lang/AbstractStringBuilder" "coder" "B" (.int (0 : Int32))) (hp3 : Fld Z h0 r0 "java/lang/AbstractStringBuilder" "count" "I" (.int c1)) (hp4 : Arv Z h0 da kb .byte zc vs (.int (0 : Int32))) (hp5 : Sta Z h0 "java/lang/String" "COMPACT_STRINGS" "Z" (.int cs)) (hh0 : ¬ c1 < (0 : Int32)) (hh1 : (c1 - (0 : Int32)).toNatClampNeg = cN) (hh2 : ¬ (c1 - (0 : Int32)) < (0 : Int32)) (hh3 : (own_min (zc - (0 : Int32)) (c1 - (0 : Int32))).toNatClampNeg = cN) (hh4 : ¬ (own_min (zc - (0 : Int32)) (c1 - (0 : Int32))) < (0 : Int32)) (hh5 : cN ≤ 40) (hh6 : cN ≤ zc.toNatClampNeg) (hh7 : cN ≤ vs.length) (hh8 : ¬ c1 = zc) (hh9 : ¬ cs = (0 : Int32)) :
    MetFree l (⟨"java/lang/StringBuilder", "toString", "()Ljava/lang/String;"⟩ : MethodName) (head1 (Jvm.Cond.code (⟨"java/lang/StringBuilder", "toString", "()Ljava/lang/String;"⟩ : MethodName) jdk_67_method_42_code 1 (some (.object "java/lang/String")) :: ws) ({ frames := 5, cells := 2, slots := 44, locals := 79 } : Room)) (fun a U => a = #[(.ref r0)] ∧ Z.Warmed39 U.vm ∧ U.heap = h0) (fun _ _ _ _ _ => True) (fun _ U o U' => ∃ v L, o = .returned v ∧ Q_rmSTS Z r0 da c1 kb zc vs cN cs h0 n0 v U'.heap L ∧ FrameEnd U o U' L ({ frames := 5, cells := 2, slots := 44, locals := 79 } : Room).cells ({ frames := 5, cells := 2, slots := 44, locals := 79 } : Room).slots) := by
  refine MetFree.of_bodySF (plainFor_of_name pn_rmSTS) hisR ?_
  intro p e s m args below meth c s₁ Bd hml0 hP hK
  obtain ⟨rfl, hZ, hh⟩ := hP
  have hx := Bd.exec
  have hby := Bd.bytes
  have hml : c.maxLocals = 1 := hml0
  have hown : s.vm.findClass "java/lang/StringBuilder" = some m.cls := findClass_of_methodNamed Bd.named
  have hnm := (name_of_methodNamed Bd.named Bd.method).1
  have hlk : meth.locks = false := BodyLoose.notSynchronized Bd
  have X0 : Stand p l e ({ frames := 5, cells := 2, slots := 44, locals := 79 } : Room) s m #[(.ref r0)] below meth c s₁ [] 0 0 := Stand.of_body Bd
  have e0 : s₁.heap = h0 := by rw [← hh, Bd.state]; rfl
  have N0 := Fr.nil n0
  show own_W p e below s (Q_rmSTS Z r0 da c1 kb zc vs cN cs h0 n0) 2 44 s₁ (entryFrame m #[(.ref r0)] 1)
  skip
  skip
  refine own_go (T' := s₁) (g' := (mkF m 0 #[oa r0] [])) (fun _ k => castTop (ef_rmSTS m r0) k) ?_
  obtain ⟨T1, h1, X1, e1, E1, A1, D1, -, st1⟩ := newO X0 hx hZ hown (own_w hw 127 rfl) (own_w hw 14 rfl) (own_w hw 6 rfl) e0 (g := (mkF m 0 #[oa r0] [])) rfl (hb hby d20_0) (by decide) (by decide)
  obtain ⟨b1, g1⟩ : ∃ z, z = h0.size := ⟨_, rfl⟩
  have ne2 : r0 ≠ b1 := Nat.ne_of_lt (Nat.lt_of_lt_of_le hp0.lt (Nat.le_of_eq g1.symm))
  have ne3 : da ≠ b1 := Nat.ne_of_lt (Nat.lt_of_lt_of_le hp4.lt (Nat.le_of_eq g1.symm))
  rw [← g1] at A1 D1 st1
  have f4 := (hp0.ext E1)
  have f5 := (hp1.ext E1)
  have f6 := (hp2.ext E1)
  have f7 := (hp3.ext E1)
  have f8 := (hp4.ext E1)
  have f9 := (hp5.ext E1)
  have fn10 : Fld Z h1 b1 "java/lang/String" "value" "[B" .null := D1 (Or.inr (own_w hw 27 rfl)) (ty := (.array .byte)) (by decide)
  have fn11 : Fld Z h1 b1 "java/lang/String" "coder" "B" (.int (0 : Int32)) := D1 (Or.inr (own_w hw 29 rfl)) (ty := .byte) (by decide)
  have ge1 : n0 ≤ b1 := Nat.le_trans Z0 (Nat.le_of_eq g1.symm)
  have sz1 : h0.size ≤ b1 := Nat.le_trans (Keep.refl h0 []).1 (Nat.le_of_eq g1.symm)
  have kk1 : Keep h0 h1 [] := (Keep.refl h0 []).ext E1
  have zs1 : n0 ≤ h1.size := Nat.le_trans Z0 E1.1
  refine own_g T1 (mkF m 5 #[oa r0] [(.ref r0), (.ref b1), (.ref b1)]) (fun _ k => st1 _ (XS.dup X1.here hx rfl (hb hby d20_3) rfl rfl (XS.aloadN X1.here hx rfl (hb hby d20_4) rfl rfl k))) ?_
  obtain ⟨_, _, ⟨T12, L12, k12, n12⟩, -, X12, ⟨Lc12, hQ12, l12, y12, z12⟩, st12⟩ := X1.specialBack hx (y := (⟨"java/lang/String", "<init>", "(Ljava/lang/StringBuilder;)V"⟩ : MethodName)) rfl hown (mvT hZ (own_w hw 128 rfl)) (mvT hZ (own_w hw 129 rfl)) (mvT hZ (own_w hw 130 rfl)) (by decide) (backOf (W := 1) (rmSSB l Z a0 hw [] b1 r0 da c1 kb zc vs cN cs h1 n0 zs1 A1 ge1 fn10 fn11 f4 f5 f6 f7 f8 ne3 f9 hh0 hh1 hh2 hh3 hh4 hh5 hh6 hh7 hh8 hh9) hZ (own_w hw 130 rfl) (own_w hw 6 rfl) (by decide) (by decide)) (g := (mkF m 5 #[oa r0] [(.ref r0), (.ref b1), (.ref b1)])) rfl (by rw [hml]; rfl) (Steps.refl _) (a := b1) (argsL := [(.ref r0)]) (rest := [(.ref b1)]) (lenOf own_pd18 rfl) rfl (Nat.le_of_eq rfl) (hb hby d20_5) (fun _ _ => ⟨rfl, e1, (by decide : 1 + 1 ≤ _), (by decide : 4 + 40 ≤ _)⟩)
  dsimp only [Pt.U, Pt.locs, Pt.cells, Pt.slots] at X12 l12 y12 z12 st12 hQ12
  subst l12 y12 z12
  obtain ⟨xb_12, xk_12, rfl, N12q, K12, po13, po14, po15, po16⟩ := hQ12
  have f17 := (f4.keep K12)
  have f18 := (f5.keep K12 (ninS ne2 nin0))
  have f19 := (f6.keep K12 (ninS ne2 nin0))
  have f20 := (f7.keep K12 (ninS ne2 nin0))
  have f21 := (f8.keep K12 (ninS ne3 nin0))
  have f22 := (own_sta_keep f9 K12 (nsS A1.nostat ns0))
  have f23 := (A1.keep K12)
  have ne24 : r0 ≠ xb_12 := Nat.ne_of_lt (Nat.lt_of_lt_of_le f4.lt po13)
  have ne25 : da ≠ xb_12 := Nat.ne_of_lt (Nat.lt_of_lt_of_le f8.lt po13)
  have ne26 : b1 ≠ xb_12 := Nat.ne_of_lt (Nat.lt_of_lt_of_le A1.lt po13)
  have ge27 : n0 ≤ xb_12 := Nat.le_trans zs1 po13
  have sz28 : h0.size ≤ xb_12 := Nat.le_trans kk1.1 po13
  have zs12 : n0 ≤ T12.heap.size := Nat.le_trans zs1 K12.1
  have kk12 : Keep h0 T12.heap [] := kk1.trans K12 (allS (Or.inr sz1) all0)
  have N12 := Fr.app N0 N12q
  obtain ⟨Lv12, X12, N12⟩ := own_hide X12 (Nat.le_refl 2) (Nat.le_refl 44) N12
  refine own_g T12 (mkF m 8 #[oa r0] [(.ref b1)]) (fun _ k => st12.trans k) ?_
  exact own_ret X12 hx Bd.returns hlk rfl (Or.inr (Or.inr (Or.inr (Or.inr ⟨rfl, rfl, rfl⟩)))) (hb hby d20_8) rfl ⟨b1, xb_12, xk_12, rfl, N12, kk12, sz1, sz28, ne26, f23, po14, po15, po16⟩ (by decide) (by decide)
theorem own_EW {a0 : Array Value} {Z : State} (hw : ∀ d ∈ tables_1, d.before a0 Z = true) : EW Z a0 consts_1 := (EW.cons (own_w hw 71 rfl) (by decide +kernel) (EW.cons (own_w hw 121 rfl) (by decide +kernel) (EW.cons (own_w hw 172 rfl) (by decide +kernel) (EW.cons (own_w hw 190 rfl) (by decide +kernel) (EW.cons (own_w hw 219 rfl) (by decide +kernel) (EW.cons (own_w hw 238 rfl) (by decide +kernel) EW.nil))))))
theorem d44_0 : decode jdk_42_method_149_code 0 = .ok (.aload_n 0, 1) := by decide +kernel
theorem d44_1 : decode jdk_42_method_149_code 1 = .ok (.invokespecial 1, 3) := by decide +kernel
theorem d44_4 : decode jdk_42_method_149_code 4 = .ok (.iload_n 3, 1) := by decide +kernel
theorem d44_5 : decode jdk_42_method_149_code 5 = .ok (.ifCond .ne 22, 3) := by decide +kernel
theorem d44_8 : decode jdk_42_method_149_code 8 = .ok (.aload_n 0, 1) := by decide +kernel
theorem d44_9 : decode jdk_42_method_149_code 9 = .ok (.ldc 7, 2) := by decide +kernel
theorem d44_11 : decode jdk_42_method_149_code 11 = .ok (.getfield 9, 3) := by decide +kernel
theorem d44_14 : decode jdk_42_method_149_code 14 = .ok (.putfield 9, 3) := by decide +kernel
theorem d44_17 : decode jdk_42_method_149_code 17 = .ok (.aload_n 0, 1) := by decide +kernel
theorem d44_18 : decode jdk_42_method_149_code 18 = .ok (.ldc 7, 2) := by decide +kernel
theorem d44_20 : decode jdk_42_method_149_code 20 = .ok (.getfield 15, 3) := by decide +kernel
theorem d44_23 : decode jdk_42_method_149_code 23 = .ok (.putfield 15, 3) := by decide +kernel
theorem d44_26 : decode jdk_42_method_149_code 26 = .ok (.return_, 1) := by decide +kernel
def Q_rmS4_0 (Z : State) (r0 : Addr) (r1 : Addr) (h0 : Heap) (n0 : Nat) (v : Option Value) (h : Heap) (L : List Loc) : Prop := ∃ (xb : Addr) (xk : ClassId), v = none ∧ Fr n0 L ∧ Keep h0 h [r0] ∧ Fld Z h r0 "java/lang/String" "value" "[B" (.ref xb) ∧ Fld Z h r0 "java/lang/String" "coder" "B" (.int (0 : Int32)) ∧ Arv Z h xb xk .byte (0 : Int32) [] (.int (0 : Int32))
theorem ef_rmS4_0 (m : MethodId) (x0 : Addr) (x1 : Addr) (x2 : Int32) (x3 : Int32) : entryFrame m #[(.ref x0), (.ref x1), (.int x2), (.int x3), .null] 6 = mkF m 0 #[.val (.ref x0), .val (.ref x1), .val (.int x2), .val (.int x3), .val .null, .unset] [] := by first | (simp [entryFrame, mkF, argsToLocals, Value.category]; done) | rfl
theorem pn_rmS4_0 : plainName "java/lang/String" = true := by first | (simp [plainName, overriddenIn]; done) | decide +kernel
set_option maxRecDepth 65536 in
set_option maxHeartbeats 40000000 in
theorem rmS4_0 (l : Launch) (Z : State) (a0 : Array Value) (hw : ∀ d ∈ tables_1, d.before a0 Z = true) (ws : List Jvm.Cond) (r0 : Addr) (r1 : Addr) (h0 : Heap) (n0 : Nat) (Z0 : n0 ≤ h0.size) (hp0 : Exa Z h0 r0 "java/lang/String") (hp1 : n0 ≤ r0) (hp2 : Fld Z h0 r0 "java/lang/String" "value" "[B" .null) (hp3 : Fld Z h0 r0 "java/lang/String" "coder" "B" (.int (0 : Int32))) :
    MetFree l (⟨"java/lang/String", "<init>", "([CIILjava/lang/Void;)V"⟩ : MethodName) (head1 (Jvm.Cond.code (⟨"java/lang/String", "<init>", "([CIILjava/lang/Void;)V"⟩ : MethodName) jdk_42_method_149_code 6 none :: ws) ({ frames := 1, cells := 4, slots := 8, locals := 12 } : Room)) (fun a U => a = #[(.ref r0), (.ref r1), (.int (0 : Int32)), (.int (0 : Int32)), .null] ∧ Z.Warmed39 U.vm ∧ U.heap = h0 ∧ CHv Z consts_1 U.vm h0) (fun _ _ _ _ _ => True) (fun _ U o U' => ∃ v L, o = .returned v ∧ Q_rmS4_0 Z r0 r1 h0 n0 v U'.heap L ∧ CHr Z consts_1 U.vm U.heap U'.vm U'.heap ∧ ReturnedEndW U o U' L ({ frames := 1, cells := 4, slots := 8, locals := 12 } : Room).cells ({ frames := 1, cells := 4, slots := 8, locals := 12 } : Room).slots) := by
  refine MetFree.of_bodySF (plainFor_of_name pn_rmS4_0) hisR ?_
  intro p e s m args below meth c s₁ Bd hml0 hP hK
  obtain ⟨rfl, hZ, hh, hH0⟩ := hP
  have hx := Bd.exec
  have hby := Bd.bytes
  have hml : c.maxLocals = 6 := hml0
  have hown : s.vm.findClass "java/lang/String" = some m.cls := findClass_of_methodNamed Bd.named
  have hnm := (name_of_methodNamed Bd.named Bd.method).1
  have hlk : meth.locks = false := BodyLoose.notSynchronized Bd
  have X0 : Stand p l e ({ frames := 1, cells := 4, slots := 8, locals := 12 } : Room) (s.setVm s.vm) m #[(.ref r0), (.ref r1), (.int (0 : Int32)), (.int (0 : Int32)), .null] below meth c s₁ [] 0 0 := Stand.of_body Bd
  have e0 : s₁.heap = h0 := by rw [← hh, Bd.state]; rfl
  have N0 := Fr.nil n0
  show own_WH Z consts_1 p e below s (Q_rmS4_0 Z r0 r1 h0 n0) 4 8 s₁ (entryFrame m #[(.ref r0), (.ref r1), (.int (0 : Int32)), (.int (0 : Int32)), .null] 6)
  have hS0 : s.Since s.vm 0 := (State.WarmedH.refl s).since 0
  have hk0 : 0 ≤ h0.size := Nat.zero_le _
  refine own_goH (T' := s₁) (g' := (mkF m 0 #[oa r0, oa r1, oi 0, oi 0, .val .null, .unset] [])) (fun _ k => castTop (ef_rmS4_0 m r0 r1 (0 : Int32) (0 : Int32)) k) ?_
  have R0 : CHr Z consts_1 s.vm s.heap s.vm h0 := by rw [hh]; exact CHr.refl hH0
  have sf1 := own_safe_null (EL := consts_1) hZ.alike hp0 hp2
  refine own_h s₁ (mkF m 1 #[oa r0, oa r1, oi 0, oi 0, .val .null, .unset] [(.ref r0)]) (fun _ k => XS.aloadN X0.here hx rfl (hb hby d44_0) rfl rfl k) ?_
  obtain ⟨T2, X2, e2, st2⟩ := initO X0 hx hZ hown (own_w hw 23 rfl) (own_w hw 24 rfl) (own_w hw 25 rfl) e0 (g := (mkF m 1 #[oa r0, oa r1, oi 0, oi 0, .val .null, .unset] [(.ref r0)])) rfl (by rw [hml]; rfl) rfl (hb hby d44_1) (by decide) (W := 0) (Nat.le_of_eq rfl) (by decide)
  refine own_h T2 (mkF m 9 #[oa r0, oa r1, oi 0, oi 0, .val .null, .unset] [(.ref r0)]) (fun _ k => st2 _ (XS.iloadN X2.here hx rfl (hb hby d44_4) rfl (XS.ifNo X2.here hx rfl (hb hby d44_5) rfl (XT.i0_ne_f (rfl : (0 : Int32) = (0 : Int32))) (XS.aloadN X2.here hx rfl (hb hby d44_8) rfl rfl k)))) ?_
  obtain ⟨lt3, T3, h3, k3, lb3, lk3, X3, e3, E3, hS3, hk3, hZ3, hown3, Le3, Lc3, Lv3, La3, -, -, ch3, -, hne3, st3⟩ := ldcCH X2 hx hZ hown (own_w hw 238 rfl) (own_wS hw) e2 hS0 hk0 (own_EW hw) (by simp [consts_1]) R0.1 (vs := []) (z := (0 : Int32)) ⟨by decide +kernel, by decide +kernel⟩ (by decide) (by decide) (g := (mkF m 9 #[oa r0, oa r1, oi 0, oi 0, .val .null, .unset] [(.ref r0)])) rfl (hb hby d44_9) (n := 0) (by decide +kernel) (by decide) (by decide) (by decide)
  have f4 := (hp0.ext E3)
  have f5 := (hp2.ext E3)
  have f6 := (hp3.ext E3)
  have kk3 : Keep h0 h3 [r0] := (Keep.refl h0 [r0]).ext E3
  have zs3 : n0 ≤ h3.size := Nat.le_trans Z0 E3.1
  have R3 := R0.trans ch3
  have sf7 := ch3.safe hp0.lt sf1
  have ln8 := hne3 _ sf7
  refine own_h T3 (mkF m 11 #[oa r0, oa r1, oi 0, oi 0, .val .null, .unset] [(.ref lt3), (.ref r0)]) (fun _ k => st3 _ k) ?_
  obtain ⟨T9, X9, e9, st9⟩ := getF X3 hx hZ3 hown3 (host := "") (Or.inl (own_w hw 26 rfl)) Via.refl e3 Lv3 (g := (mkF m 11 #[oa r0, oa r1, oi 0, oi 0, .val .null, .unset] [(.ref lt3), (.ref r0)])) rfl rfl (hb hby d44_11)
  refine own_h T9 (mkF m 14 #[oa r0, oa r1, oi 0, oi 0, .val .null, .unset] [(.ref lb3), (.ref r0)]) (fun _ k => st9 _ k) ?_
  obtain ⟨T10, h10, X10, e10, W10, st10⟩ := putF X9 hx hZ3 hown3 (host := "") (Or.inl (own_w hw 26 rfl)) Via.refl e9 f5 f4 (Or.inr ⟨(own_w hw 27 rfl), rfl, hnm⟩) (own_w hw 14 rfl) (ty := (.array .byte)) (by decide) rfl rfl (g := (mkF m 14 #[oa r0, oa r1, oi 0, oi 0, .val .null, .unset] [(.ref lb3), (.ref r0)])) rfl rfl (hb hby d44_14)
  have f11 := (f4.wr W10)
  have f12 := (f6.other W10 (Or.inr (slot_ne (Or.inr (own_w hw 29 rfl)) (Or.inr (own_w hw 27 rfl)) (by decide) (t := .byte) (t' := (.array .byte)) (by decide) (by decide))))
  have f13 := (La3.other W10 (Ne.symm ln8.2))
  have fw10 : Fld Z h10 r0 "java/lang/String" "value" "[B" (.ref lb3) := f5.same W10
  have N10 := Fr.snoc X10 N0 hp1
  have zs10 : n0 ≤ h10.size := by rw [W10.size]; exact zs3
  have kk10 : Keep h0 h10 [r0] := kk3.wr W10 (Or.inl (List.mem_of_getElem? (i := 0) rfl))
  have hk14 := Nat.le_trans hk3 (Nat.le_of_eq W10.size.symm)
  have R10 := R3.trans (CHr.wr W10 sf7 R3.1)
  have sf15 := Safe.wr W10 sf7 R3.1 sf7
  refine own_h T10 (mkF m 18 #[oa r0, oa r1, oi 0, oi 0, .val .null, .unset] [(.ref r0)]) (fun _ k => st10 _ (XS.aloadN X10.here hx rfl (hb hby d44_17) rfl rfl k)) ?_
  obtain ⟨lt16, T16, h16, k16, lb16, lk16, X16, e16, E16, hS16, hk16, hZ16, hown16, Le16, Lc16, Lv16, La16, -, -, ch16, -, hne16, st16⟩ := ldcCH X10 hx hZ3 hown3 (own_w hw 238 rfl) (own_wS hw) e10 hS3 hk14 (own_EW hw) (by simp [consts_1]) R10.1 (vs := []) (z := (0 : Int32)) ⟨by decide +kernel, by decide +kernel⟩ (by decide) (by decide) (g := (mkF m 18 #[oa r0, oa r1, oi 0, oi 0, .val .null, .unset] [(.ref r0)])) rfl (hb hby d44_18) (n := 0) (by decide +kernel) (by decide) (by decide) (by decide)
  have f17 := (f11.ext E16)
  have f18 := (f12.ext E16)
  have f19 := (f13.ext E16)
  have f20 := (fw10.ext E16)
  have kk16 : Keep h0 h16 [r0] := kk10.ext E16
  have zs16 : n0 ≤ h16.size := Nat.le_trans zs10 E16.1
  have R16 := R10.trans ch16
  have sf21 := ch16.safe f11.lt sf15
  have ln22 := hne16 _ sf21
  refine own_h T16 (mkF m 20 #[oa r0, oa r1, oi 0, oi 0, .val .null, .unset] [(.ref lt16), (.ref r0)]) (fun _ k => st16 _ k) ?_
  obtain ⟨T23, X23, e23, st23⟩ := getF X16 hx hZ16 hown16 (host := "") (Or.inl (own_w hw 28 rfl)) Via.refl e16 Lc16 (g := (mkF m 20 #[oa r0, oa r1, oi 0, oi 0, .val .null, .unset] [(.ref lt16), (.ref r0)])) rfl rfl (hb hby d44_20)
  refine own_h T23 (mkF m 23 #[oa r0, oa r1, oi 0, oi 0, .val .null, .unset] [(.int (0 : Int32)), (.ref r0)]) (fun _ k => st23 _ k) ?_
  obtain ⟨T24, h24, X24, e24, W24, st24⟩ := putFN X23 hx hZ16 hown16 (own_w hw 28 rfl) Via.refl e23 f18 f17 (Or.inr ⟨(own_w hw 29 rfl), rfl, hnm⟩) (own_w hw 14 rfl) (ty := .byte) (v' := (.int (0 : Int32))) (by decide) rfl (by decide) (g := (mkF m 23 #[oa r0, oa r1, oi 0, oi 0, .val .null, .unset] [(.int (0 : Int32)), (.ref r0)])) rfl rfl (hb hby d44_23)
  have f25 := (f17.wr W24)
  have f26 := (f19.other W24 (Ne.symm ln8.2))
  have f27 := (f20.other W24 (Or.inr (slot_ne (Or.inr (own_w hw 27 rfl)) (Or.inr (own_w hw 29 rfl)) (by decide) (t := (.array .byte)) (t' := .byte) (by decide) (by decide))))
  have fw24 : Fld Z h24 r0 "java/lang/String" "coder" "B" (.int (0 : Int32)) := f18.same W24
  have N24 := Fr.snoc X24 N10 hp1
  have zs24 : n0 ≤ h24.size := by rw [W24.size]; exact zs16
  have kk24 : Keep h0 h24 [r0] := kk16.wr W24 (Or.inl (List.mem_of_getElem? (i := 0) rfl))
  have hk28 := Nat.le_trans hk16 (Nat.le_of_eq W24.size.symm)
  have R24 := R16.trans (CHr.wr W24 sf21 R16.1)
  have sf29 := Safe.wr W24 sf21 R16.1 sf21
  refine own_h T24 (mkF m 26 #[oa r0, oa r1, oi 0, oi 0, .val .null, .unset] []) (fun _ k => st24 _ k) ?_
  exact own_ret0H X24 hS16 hx Bd.returns hlk (hb hby d44_26) hZ16 (own_EW hw) R24 e24 hk28 ⟨lb3, lk3, rfl, N24, kk24, f27, fw24, f26⟩ (by decide) (by decide)
theorem own_pd19 : parseMethodDescriptor "([CIILjava/lang/Void;)V" = some ⟨[(.array .char), .int, .int, (.object "java/lang/Void")], none⟩ := by decide +kernel
theorem d43_0 : decode jdk_42_method_3_code 0 = .ok (.aload_n 0, 1) := by decide +kernel
theorem d43_1 : decode jdk_42_method_3_code 1 = .ok (.aload_n 1, 1) := by decide +kernel
theorem d43_2 : decode jdk_42_method_3_code 2 = .ok (.iconst 0, 1) := by decide +kernel
theorem d43_3 : decode jdk_42_method_3_code 3 = .ok (.aload_n 1, 1) := by decide +kernel
theorem d43_4 : decode jdk_42_method_3_code 4 = .ok (.arraylength, 1) := by decide +kernel
theorem d43_5 : decode jdk_42_method_3_code 5 = .ok (.aconst_null, 1) := by decide +kernel
theorem d43_6 : decode jdk_42_method_3_code 6 = .ok (.invokespecial 27, 3) := by decide +kernel
theorem d43_9 : decode jdk_42_method_3_code 9 = .ok (.return_, 1) := by decide +kernel
def Q_rmS1_0 (Z : State) (r0 : Addr) (r1 : Addr) (kc : ClassId) (h0 : Heap) (n0 : Nat) (v : Option Value) (h : Heap) (L : List Loc) : Prop := ∃ (xb : Addr) (xk : ClassId), v = none ∧ Fr n0 L ∧ Keep h0 h [r0] ∧ Fld Z h r0 "java/lang/String" "value" "[B" (.ref xb) ∧ Fld Z h r0 "java/lang/String" "coder" "B" (.int (0 : Int32)) ∧ Arv Z h xb xk .byte (0 : Int32) [] (.int (0 : Int32))
theorem ef_rmS1_0 (m : MethodId) (x0 : Addr) (x1 : Addr) : entryFrame m #[(.ref x0), (.ref x1)] 2 = mkF m 0 #[.val (.ref x0), .val (.ref x1)] [] := by first | (simp [entryFrame, mkF, argsToLocals, Value.category]; done) | rfl
theorem pn_rmS1_0 : plainName "java/lang/String" = true := by first | (simp [plainName, overriddenIn]; done) | decide +kernel
set_option maxRecDepth 65536 in
set_option maxHeartbeats 40000000 in
theorem rmS1_0 (l : Launch) (Z : State) (a0 : Array Value) (hw : ∀ d ∈ tables_1, d.before a0 Z = true) (ws : List Jvm.Cond) (r0 : Addr) (r1 : Addr) (kc : ClassId) (h0 : Heap) (n0 : Nat) (Z0 : n0 ≤ h0.size) (hp0 : Exa Z h0 r0 "java/lang/String") (hp1 : n0 ≤ r0) (hp2 : Fld Z h0 r0 "java/lang/String" "value" "[B" .null) (hp3 : Fld Z h0 r0 "java/lang/String" "coder" "B" (.int (0 : Int32))) (hp4 : Arv Z h0 r1 kc .char (0 : Int32) [] (.int (0 : Int32))) :
    MetFree l (⟨"java/lang/String", "<init>", "([C)V"⟩ : MethodName) (head1 (Jvm.Cond.code (⟨"java/lang/String", "<init>", "([C)V"⟩ : MethodName) jdk_42_method_3_code 2 none :: ws) ({ frames := 2, cells := 4, slots := 8, locals := 29 } : Room)) (fun a U => a = #[(.ref r0), (.ref r1)] ∧ Z.Warmed39 U.vm ∧ U.heap = h0 ∧ CHv Z consts_1 U.vm h0) (fun _ _ _ _ _ => True) (fun _ U o U' => ∃ v L, o = .returned v ∧ Q_rmS1_0 Z r0 r1 kc h0 n0 v U'.heap L ∧ CHr Z consts_1 U.vm U.heap U'.vm U'.heap ∧ ReturnedEndW U o U' L ({ frames := 2, cells := 4, slots := 8, locals := 29 } : Room).cells ({ frames := 2, cells := 4, slots := 8, locals := 29 } : Room).slots) := by
  refine MetFree.of_bodySF (plainFor_of_name pn_rmS1_0) hisR ?_
  intro p e s m args below meth c s₁ Bd hml0 hP hK
  obtain ⟨rfl, hZ, hh, hH0⟩ := hP
  have hx := Bd.exec
  have hby := Bd.bytes
  have hml : c.maxLocals = 2 := hml0
  have hown : s.vm.findClass "java/lang/String" = some m.cls := findClass_of_methodNamed Bd.named
  have hnm := (name_of_methodNamed Bd.named Bd.method).1
  have hlk : meth.locks = false := BodyLoose.notSynchronized Bd
  have X0 : Stand p l e ({ frames := 2, cells := 4, slots := 8, locals := 29 } : Room) (s.setVm s.vm) m #[(.ref r0), (.ref r1)] below meth c s₁ [] 0 0 := Stand.of_body Bd
  have e0 : s₁.heap = h0 := by rw [← hh, Bd.state]; rfl
  have N0 := Fr.nil n0
  show own_WH Z consts_1 p e below s (Q_rmS1_0 Z r0 r1 kc h0 n0) 4 8 s₁ (entryFrame m #[(.ref r0), (.ref r1)] 2)
  have hS0 : s.Since s.vm 0 := (State.WarmedH.refl s).since 0
  have hk0 : 0 ≤ h0.size := Nat.zero_le _
  refine own_goH (T' := s₁) (g' := (mkF m 0 #[oa r0, oa r1] [])) (fun _ k => castTop (ef_rmS1_0 m r0 r1) k) ?_
  have R0 : CHr Z consts_1 s.vm s.heap s.vm h0 := by rw [hh]; exact CHr.refl hH0
  have sf1 := own_safe_null (EL := consts_1) hZ.alike hp0 hp2
  refine own_h s₁ (mkF m 4 #[oa r0, oa r1] [(.ref r1), (.int (0 : Int32)), (.ref r1), (.ref r0)]) (fun _ k => XS.aloadN X0.here hx rfl (hb hby d43_0) rfl rfl (XS.aloadN X0.here hx rfl (hb hby d43_1) rfl rfl (XS.iconst X0.here hx rfl (hb hby d43_2) (XS.aloadN X0.here hx rfl (hb hby d43_3) rfl rfl k)))) ?_
  obtain ⟨cl2, Ar2, q12, q22, q32, H2, G2⟩ := id hp4
  have st2 := X0.arraylength hx (by rw [e0]; exact Ar2.1) (State.isArrayOf_alike hZ.alike Ar2.2.1) (g := (mkF m 4 #[oa r0, oa r1] [(.ref r1), (.int (0 : Int32)), (.ref r1), (.ref r0)])) rfl rfl (hb hby d43_4)
  rw [len_of q22 q32] at st2
  refine own_h s₁ (mkF m 6 #[oa r0, oa r1] [.null, (.int (0 : Int32)), (.int (0 : Int32)), (.ref r1), (.ref r0)]) (fun _ k => st2 _ (XS.aconstNull X0.here hx rfl (hb hby d43_5) k)) ?_
  obtain ⟨_, _, ⟨T3, L3, k3, n3⟩, -, XX3, hs23, hg23, ⟨Lc3, hQ3, l3, y3, z3, ch3⟩, st3⟩ := X0.specialBackS hx (y := (⟨"java/lang/String", "<init>", "([CIILjava/lang/Void;)V"⟩ : MethodName)) rfl hown (mvT hZ (own_w hw 225 rfl)) (mvT hZ (own_w hw 226 rfl)) (mvT hZ (own_w hw 227 rfl)) (by decide) (backOfSH (W := 0) (rmS4_0 l Z a0 hw [] r0 r1 h0 n0 Z0 hp0 hp1 hp2 hp3) hZ (own_w hw 227 rfl) (own_w hw 6 rfl) (by decide) (by decide) (own_EW hw) R0.1) (g := (mkF m 6 #[oa r0, oa r1] [.null, (.int (0 : Int32)), (.int (0 : Int32)), (.ref r1), (.ref r0)])) rfl (by rw [hml]; rfl) (Steps.refl _) (a := r0) (argsL := [(.ref r1), (.int (0 : Int32)), (.int (0 : Int32)), .null]) (rest := []) (lenOf own_pd19 rfl) rfl (Nat.le_of_eq rfl) (hb hby d43_6) (fun _ _ => ⟨rfl, e0, (by decide : 0 + 4 ≤ _), (by decide : 0 + 8 ≤ _)⟩)
  dsimp only [Pt.U, Pt.locs, Pt.cells, Pt.slots] at XX3 hs23 hg23 l3 y3 z3 st3 hQ3 ch3
  subst l3 y3 z3
  obtain ⟨X3, hS3, hZ3, hown3⟩ := rebS hS0 (n1 := s₁.heap.size) (by rw [e0]; exact hk0) XX3 hs23 hg23 hZ hown
  obtain ⟨xb_3, xk_3, rfl, N3q, K3, po4, po5, po6⟩ := hQ3
  have f7 := (hp0.keep K3)
  have zs3 : n0 ≤ T3.heap.size := Nat.le_trans Z0 K3.1
  have hk3 : T3.heap.size ≤ T3.heap.size := Nat.le_refl _
  have kk3 : Keep h0 T3.heap [r0] := (Keep.refl h0 [r0]).trans K3 (allS (Or.inl (List.mem_of_getElem? (i := 0) rfl)) all0)
  have R3 := R0.trans ch3
  have sf8 := ch3.safe hp0.lt sf1
  have N3 := Fr.app N0 N3q
  obtain ⟨Lv3, X3, N3⟩ := own_hide X3 (Nat.le_refl 4) (Nat.le_refl 8) N3
  refine own_h T3 (mkF m 9 #[oa r0, oa r1] []) (fun _ k => st3.trans k) ?_
  exact own_ret0H X3 hS3 hx Bd.returns hlk (hb hby d43_9) hZ3 (own_EW hw) R3 rfl hk3 ⟨xb_3, xk_3, rfl, N3, kk3, po4, po5, po6⟩ (by decide) (by decide)
def own_canEnc (p0 : Int32) : Int32 := (if (255 : Int32) < p0 then (0 : Int32) else (1 : Int32))
theorem d3_0 : decode jdk_43_method_3_code 0 = .ok (.iload_n 0, 1) := by decide +kernel
theorem d3_1 : decode jdk_43_method_3_code 1 = .ok (.sipush 255, 3) := by decide +kernel
theorem d3_4 : decode jdk_43_method_3_code 4 = .ok (.if_icmp .gt 7, 3) := by decide +kernel
theorem d3_7 : decode jdk_43_method_3_code 7 = .ok (.iconst 1, 1) := by decide +kernel
theorem d3_8 : decode jdk_43_method_3_code 8 = .ok (.goto 4, 3) := by decide +kernel
theorem d3_11 : decode jdk_43_method_3_code 11 = .ok (.iconst 0, 1) := by decide +kernel
theorem d3_12 : decode jdk_43_method_3_code 12 = .ok (.ireturn, 1) := by decide +kernel
def Q_rmCan (Z : State) (p0 : Int32) (h0 : Heap) (n0 : Nat) (v : Option Value) (h : Heap) (L : List Loc) : Prop := v = some (.int (own_canEnc p0)) ∧ Fr n0 L ∧ h = h0
theorem ef_rmCan (m : MethodId) (x0 : Int32) : entryFrame m #[(.int x0)] 1 = mkF m 0 #[.val (.int x0)] [] := by first | (simp [entryFrame, mkF, argsToLocals, Value.category]; done) | rfl
theorem pn_rmCan : plainName "java/lang/StringLatin1" = true := by first | (simp [plainName, overriddenIn]; done) | decide +kernel
set_option maxRecDepth 65536 in
set_option maxHeartbeats 40000000 in
theorem rmCan (l : Launch) (Z : State) (a0 : Array Value) (hw : ∀ d ∈ tables_1, d.before a0 Z = true) (ws : List Jvm.Cond) (p0 : Int32) (h0 : Heap) (n0 : Nat) (Z0 : n0 ≤ h0.size)  :
    MetFree l (⟨"java/lang/StringLatin1", "canEncode", "(C)Z"⟩ : MethodName) (head1 (Jvm.Cond.code (⟨"java/lang/StringLatin1", "canEncode", "(C)Z"⟩ : MethodName) jdk_43_method_3_code 1 (some .boolean) :: ws) ({ frames := 0, cells := 0, slots := 0, locals := 0 } : Room)) (fun a U => a = #[(.int p0)] ∧ Z.Warmed39 U.vm ∧ U.heap = h0) (fun _ _ _ _ _ => True) (fun _ U o U' => ∃ v L, o = .returned v ∧ Q_rmCan Z p0 h0 n0 v U'.heap L ∧ FrameEnd U o U' L ({ frames := 0, cells := 0, slots := 0, locals := 0 } : Room).cells ({ frames := 0, cells := 0, slots := 0, locals := 0 } : Room).slots) := by
  refine MetFree.of_bodySF (plainFor_of_name pn_rmCan) hisR ?_
  intro p e s m args below meth c s₁ Bd hml0 hP hK
  obtain ⟨rfl, hZ, hh⟩ := hP
  have hx := Bd.exec
  have hby := Bd.bytes
  have hml : c.maxLocals = 1 := hml0
  have hown : s.vm.findClass "java/lang/StringLatin1" = some m.cls := findClass_of_methodNamed Bd.named
  have hnm := (name_of_methodNamed Bd.named Bd.method).1
  have hlk : meth.locks = false := BodyLoose.notSynchronized Bd
  have X0 : Stand p l e ({ frames := 0, cells := 0, slots := 0, locals := 0 } : Room) s m #[(.int p0)] below meth c s₁ [] 0 0 := Stand.of_body Bd
  have e0 : s₁.heap = h0 := by rw [← hh, Bd.state]; rfl
  have N0 := Fr.nil n0
  show own_W p e below s (Q_rmCan Z p0 h0 n0) 0 0 s₁ (entryFrame m #[(.int p0)] 1)
  skip
  skip
  refine own_go (T' := s₁) (g' := (mkF m 0 #[oi p0] [])) (fun _ k => castTop (ef_rmCan m p0) k) ?_
  refine own_g s₁ (mkF m 4 #[oi p0] [(.int (255 : Int32)), (.int p0)]) (fun _ k => XS.iloadN X0.here hx rfl (hb hby d3_0) rfl (XS.sipush X0.here hx rfl (hb hby d3_1) k)) ?_
  by_cases hc4_1 : (255 : Int32) < p0
  · skip
    refine own_g s₁ (mkF m 12 #[oi p0] [(.int (0 : Int32))]) (fun _ k => XS.icmpYes X0.here hx rfl (pc0 := 4) (pc' := 11) rfl (hb hby d3_4) rfl (XT.ii_gt_t hc4_1) (by decide) (by decide) (XS.iconst X0.here hx rfl (hb hby d3_11) k)) ?_
    exact own_retN X0 hx (t := .boolean) Bd.returns hlk (by simp) (hb hby d3_12) e0 ⟨(by unfold own_canEnc; first | (rw [if_pos hc4_1]; done) | (rw [if_pos hc4_1]; rfl)), N0, rfl⟩ (by decide) (by decide)
  · skip
    refine own_g s₁ (mkF m 12 #[oi p0] [(.int (1 : Int32))]) (fun _ k => XS.icmpNo X0.here hx rfl (hb hby d3_4) rfl (XT.ii_gt_f hc4_1) (XS.iconst X0.here hx rfl (hb hby d3_7) (XS.goto X0.here hx rfl (pc0 := 8) (pc' := 12) rfl (hb hby d3_8) (by decide) (by decide) k))) ?_
    exact own_retN X0 hx (t := .boolean) Bd.returns hlk (by simp) (hb hby d3_12) e0 ⟨(by unfold own_canEnc; first | (rw [if_neg hc4_1]; done) | (rw [if_neg hc4_1]; rfl)), N0, rfl⟩ (by decide) (by decide)
theorem d4_0 : decode jdk_43_method_46_code 0 = .ok (.iconst 1, 1) := by decide +kernel
theorem d4_1 : decode jdk_43_method_46_code 1 = .ok (.newarray .byte, 2) := by decide +kernel
theorem d4_3 : decode jdk_43_method_46_code 3 = .ok (.dup, 1) := by decide +kernel
theorem d4_4 : decode jdk_43_method_46_code 4 = .ok (.iconst 0, 1) := by decide +kernel
theorem d4_5 : decode jdk_43_method_46_code 5 = .ok (.iload_n 0, 1) := by decide +kernel
theorem d4_6 : decode jdk_43_method_46_code 6 = .ok (.i2b, 1) := by decide +kernel
theorem d4_7 : decode jdk_43_method_46_code 7 = .ok (.bastore, 1) := by decide +kernel
theorem d4_8 : decode jdk_43_method_46_code 8 = .ok (.areturn, 1) := by decide +kernel
def Q_rmToB (Z : State) (p0 : Int32) (h0 : Heap) (n0 : Nat) (v : Option Value) (h : Heap) (L : List Loc) : Prop := ∃ (xb : Addr) (xk : ClassId), v = some (.ref xb) ∧ Fr n0 L ∧ Keep h0 h [] ∧ h0.size ≤ xb ∧ Arv Z h xb xk .byte (1 : Int32) [(.int (nar .byte (p0.toInt8.toInt32)))] (.int (0 : Int32))
theorem ef_rmToB (m : MethodId) (x0 : Int32) : entryFrame m #[(.int x0)] 1 = mkF m 0 #[.val (.int x0)] [] := by first | (simp [entryFrame, mkF, argsToLocals, Value.category]; done) | rfl
theorem pn_rmToB : plainName "java/lang/StringLatin1" = true := by first | (simp [plainName, overriddenIn]; done) | decide +kernel
set_option maxRecDepth 65536 in
set_option maxHeartbeats 40000000 in
theorem rmToB (l : Launch) (Z : State) (a0 : Array Value) (hw : ∀ d ∈ tables_1, d.before a0 Z = true) (ws : List Jvm.Cond) (p0 : Int32) (h0 : Heap) (n0 : Nat) (Z0 : n0 ≤ h0.size)  :
    MetFree l (⟨"java/lang/StringLatin1", "toBytes", "(C)[B"⟩ : MethodName) (head1 (Jvm.Cond.code (⟨"java/lang/StringLatin1", "toBytes", "(C)[B"⟩ : MethodName) jdk_43_method_46_code 1 (some (.array .byte)) :: ws) ({ frames := 0, cells := 1, slots := 1, locals := 0 } : Room)) (fun a U => a = #[(.int p0)] ∧ Z.Warmed39 U.vm ∧ U.heap = h0) (fun _ _ _ _ _ => True) (fun _ U o U' => ∃ v L, o = .returned v ∧ Q_rmToB Z p0 h0 n0 v U'.heap L ∧ FrameEnd U o U' L ({ frames := 0, cells := 1, slots := 1, locals := 0 } : Room).cells ({ frames := 0, cells := 1, slots := 1, locals := 0 } : Room).slots) := by
  refine MetFree.of_bodySF (plainFor_of_name pn_rmToB) hisR ?_
  intro p e s m args below meth c s₁ Bd hml0 hP hK
  obtain ⟨rfl, hZ, hh⟩ := hP
  have hx := Bd.exec
  have hby := Bd.bytes
  have hml : c.maxLocals = 1 := hml0
  have hown : s.vm.findClass "java/lang/StringLatin1" = some m.cls := findClass_of_methodNamed Bd.named
  have hnm := (name_of_methodNamed Bd.named Bd.method).1
  have hlk : meth.locks = false := BodyLoose.notSynchronized Bd
  have X0 : Stand p l e ({ frames := 0, cells := 1, slots := 1, locals := 0 } : Room) s m #[(.int p0)] below meth c s₁ [] 0 0 := Stand.of_body Bd
  have e0 : s₁.heap = h0 := by rw [← hh, Bd.state]; rfl
  have N0 := Fr.nil n0
  show own_W p e below s (Q_rmToB Z p0 h0 n0) 1 1 s₁ (entryFrame m #[(.int p0)] 1)
  skip
  skip
  refine own_go (T' := s₁) (g' := (mkF m 0 #[oi p0] [])) (fun _ k => castTop (ef_rmToB m p0) k) ?_
  refine own_g s₁ (mkF m 1 #[oi p0] [(.int (1 : Int32))]) (fun _ k => XS.iconst X0.here hx rfl (hb hby d4_0) k) ?_
  obtain ⟨T1, h1, k1, X1, e1, E1, A1, st1⟩ := newP X0 hx hZ (own_w hw 18 rfl) e0 (g := (mkF m 1 #[oi p0] [(.int (1 : Int32))])) rfl (hb hby d4_1) rfl (by decide) (cap := 1) (by decide) (by decide) (by decide) (by decide)
  obtain ⟨b1, g1⟩ : ∃ z, z = h0.size := ⟨_, rfl⟩
  rw [← g1] at A1 st1
  have V1 : Arv Z h1 b1 k1 .byte (1 : Int32) [(.int (0 : Int32))] (.int (0 : Int32)) := (Arv.new A1 (by decide)).pad (pad_rep [] (.int (0 : Int32)) 1)
  have ge1 : n0 ≤ b1 := Nat.le_trans Z0 (Nat.le_of_eq g1.symm)
  have sz1 : h0.size ≤ b1 := Nat.le_trans (Keep.refl h0 []).1 (Nat.le_of_eq g1.symm)
  have kk1 : Keep h0 h1 [] := (Keep.refl h0 []).ext E1
  have zs1 : n0 ≤ h1.size := Nat.le_trans Z0 E1.1
  refine own_g T1 (mkF m 7 #[oi p0] [(.int (p0.toInt8.toInt32)), (.int (0 : Int32)), (.ref b1), (.ref b1)]) (fun _ k => st1 _ (XS.dup X1.here hx rfl (hb hby d4_3) rfl rfl (XS.iconst X1.here hx rfl (hb hby d4_4) (XS.iloadN X1.here hx rfl (hb hby d4_5) rfl (XT.i2b X1.here hx rfl (hb hby d4_6) rfl k))))) ?_
  obtain ⟨cl2, Ar2, q12, q22, q32, H2, G2⟩ := id V1
  have hin2 := inb_of q22 (j := (0 : Int32)) (by decide)
  obtain ⟨T2, h2, X2, e2, W2, st2⟩ := stB X1 hx hZ e1 Ar2 (j := (0 : Int32)) hin2 (g := (mkF m 7 #[oi p0] [(.int (p0.toInt8.toInt32)), (.int (0 : Int32)), (.ref b1), (.ref b1)])) rfl rfl (hb hby d4_7)
  have V2 : Arv Z h2 b1 k1 .byte (1 : Int32) [(.int (nar .byte (p0.toInt8.toInt32)))] (.int (0 : Int32)) := Arv.set Ar2 q12 q22 q32 H2 G2 (fits_nar_byte _) W2 0 (by decide) (by simp)
  have N2 := Fr.snoc X2 N0 ge1
  have zs2 : n0 ≤ h2.size := by rw [W2.size]; exact zs1
  have kk2 : Keep h0 h2 [] := kk1.wr W2 (Or.inr sz1)
  refine own_g T2 (mkF m 8 #[oi p0] [(.ref b1)]) (fun _ k => st2 _ k) ?_
  exact own_ret X2 hx Bd.returns hlk rfl (Or.inr (Or.inr (Or.inr (Or.inr ⟨rfl, rfl, rfl⟩)))) (hb hby d4_8) e2 ⟨b1, k1, rfl, N2, kk2, sz1, V2⟩ (by decide) (by decide)
theorem d5_0 : decode jdk_42_method_151_code 0 = .ok (.aload_n 0, 1) := by decide +kernel
theorem d5_1 : decode jdk_42_method_151_code 1 = .ok (.invokespecial 1, 3) := by decide +kernel
theorem d5_4 : decode jdk_42_method_151_code 4 = .ok (.aload_n 0, 1) := by decide +kernel
theorem d5_5 : decode jdk_42_method_151_code 5 = .ok (.aload_n 1, 1) := by decide +kernel
theorem d5_6 : decode jdk_42_method_151_code 6 = .ok (.putfield 9, 3) := by decide +kernel
theorem d5_9 : decode jdk_42_method_151_code 9 = .ok (.aload_n 0, 1) := by decide +kernel
theorem d5_10 : decode jdk_42_method_151_code 10 = .ok (.iload_n 2, 1) := by decide +kernel
theorem d5_11 : decode jdk_42_method_151_code 11 = .ok (.putfield 15, 3) := by decide +kernel
theorem d5_14 : decode jdk_42_method_151_code 14 = .ok (.return_, 1) := by decide +kernel
def Q_rmStr (Z : State) (r0 : Addr) (r1 : Addr) (h0 : Heap) (n0 : Nat) (v : Option Value) (h : Heap) (L : List Loc) : Prop := v = none ∧ Fr n0 L ∧ Keep h0 h [r0] ∧ Fld Z h r0 "java/lang/String" "value" "[B" (.ref r1) ∧ Fld Z h r0 "java/lang/String" "coder" "B" (.int (0 : Int32)) ∧ Exa Z h r0 "java/lang/String"
theorem ef_rmStr (m : MethodId) (x0 : Addr) (x1 : Addr) (x2 : Int32) : entryFrame m #[(.ref x0), (.ref x1), (.int x2)] 3 = mkF m 0 #[.val (.ref x0), .val (.ref x1), .val (.int x2)] [] := by first | (simp [entryFrame, mkF, argsToLocals, Value.category]; done) | rfl
theorem pn_rmStr : plainName "java/lang/String" = true := by first | (simp [plainName, overriddenIn]; done) | decide +kernel
set_option maxRecDepth 65536 in
set_option maxHeartbeats 40000000 in
theorem rmStr (l : Launch) (Z : State) (a0 : Array Value) (hw : ∀ d ∈ tables_1, d.before a0 Z = true) (ws : List Jvm.Cond) (r0 : Addr) (r1 : Addr) (h0 : Heap) (n0 : Nat) (Z0 : n0 ≤ h0.size) (hp0 : Exa Z h0 r0 "java/lang/String") (hp1 : n0 ≤ r0) (hp2 : Fld Z h0 r0 "java/lang/String" "value" "[B" .null) (hp3 : Fld Z h0 r0 "java/lang/String" "coder" "B" (.int (0 : Int32))) :
    MetFree l (⟨"java/lang/String", "<init>", "([BB)V"⟩ : MethodName) (head1 (Jvm.Cond.code (⟨"java/lang/String", "<init>", "([BB)V"⟩ : MethodName) jdk_42_method_151_code 3 none :: ws) ({ frames := 1, cells := 0, slots := 0, locals := 12 } : Room)) (fun a U => a = #[(.ref r0), (.ref r1), (.int (0 : Int32))] ∧ Z.Warmed39 U.vm ∧ U.heap = h0) (fun _ _ _ _ _ => True) (fun _ U o U' => ∃ v L, o = .returned v ∧ Q_rmStr Z r0 r1 h0 n0 v U'.heap L ∧ FrameEnd U o U' L ({ frames := 1, cells := 0, slots := 0, locals := 12 } : Room).cells ({ frames := 1, cells := 0, slots := 0, locals := 12 } : Room).slots) := by
  refine MetFree.of_bodySF (plainFor_of_name pn_rmStr) hisR ?_
  intro p e s m args below meth c s₁ Bd hml0 hP hK
  obtain ⟨rfl, hZ, hh⟩ := hP
  have hx := Bd.exec
  have hby := Bd.bytes
  have hml : c.maxLocals = 3 := hml0
  have hown : s.vm.findClass "java/lang/String" = some m.cls := findClass_of_methodNamed Bd.named
  have hnm := (name_of_methodNamed Bd.named Bd.method).1
  have hlk : meth.locks = false := BodyLoose.notSynchronized Bd
  have X0 : Stand p l e ({ frames := 1, cells := 0, slots := 0, locals := 12 } : Room) s m #[(.ref r0), (.ref r1), (.int (0 : Int32))] below meth c s₁ [] 0 0 := Stand.of_body Bd
  have e0 : s₁.heap = h0 := by rw [← hh, Bd.state]; rfl
  have N0 := Fr.nil n0
  show own_W p e below s (Q_rmStr Z r0 r1 h0 n0) 0 0 s₁ (entryFrame m #[(.ref r0), (.ref r1), (.int (0 : Int32))] 3)
  skip
  skip
  refine own_go (T' := s₁) (g' := (mkF m 0 #[oa r0, oa r1, oi 0] [])) (fun _ k => castTop (ef_rmStr m r0 r1 (0 : Int32)) k) ?_
  refine own_g s₁ (mkF m 1 #[oa r0, oa r1, oi 0] [(.ref r0)]) (fun _ k => XS.aloadN X0.here hx rfl (hb hby d5_0) rfl rfl k) ?_
  obtain ⟨T1, X1, e1, st1⟩ := initO X0 hx hZ hown (own_w hw 23 rfl) (own_w hw 24 rfl) (own_w hw 25 rfl) e0 (g := (mkF m 1 #[oa r0, oa r1, oi 0] [(.ref r0)])) rfl (by rw [hml]; rfl) rfl (hb hby d5_1) (by decide) (W := 0) (Nat.le_of_eq rfl) (by decide)
  refine own_g T1 (mkF m 6 #[oa r0, oa r1, oi 0] [(.ref r1), (.ref r0)]) (fun _ k => st1 _ (XS.aloadN X1.here hx rfl (hb hby d5_4) rfl rfl (XS.aloadN X1.here hx rfl (hb hby d5_5) rfl rfl k))) ?_
  obtain ⟨T2, h2, X2, e2, W2, st2⟩ := putF X1 hx hZ hown (host := "") (Or.inl (own_w hw 26 rfl)) Via.refl e1 hp2 hp0 (Or.inr ⟨(own_w hw 27 rfl), rfl, hnm⟩) (own_w hw 14 rfl) (ty := (.array .byte)) (by decide) rfl rfl (g := (mkF m 6 #[oa r0, oa r1, oi 0] [(.ref r1), (.ref r0)])) rfl rfl (hb hby d5_6)
  have f3 := (hp0.wr W2)
  have f4 := (hp3.other W2 (Or.inr (slot_ne (Or.inr (own_w hw 29 rfl)) (Or.inr (own_w hw 27 rfl)) (by decide) (t := .byte) (t' := (.array .byte)) (by decide) (by decide))))
  have fw2 : Fld Z h2 r0 "java/lang/String" "value" "[B" (.ref r1) := hp2.same W2
  have N2 := Fr.snoc X2 N0 hp1
  have zs2 : n0 ≤ h2.size := by rw [W2.size]; exact Z0
  have kk2 : Keep h0 h2 [r0] := (Keep.refl h0 [r0]).wr W2 (Or.inl (List.mem_of_getElem? (i := 0) rfl))
  refine own_g T2 (mkF m 11 #[oa r0, oa r1, oi 0] [(.int (0 : Int32)), (.ref r0)]) (fun _ k => st2 _ (XS.aloadN X2.here hx rfl (hb hby d5_9) rfl rfl (XS.iloadN X2.here hx rfl (hb hby d5_10) rfl k))) ?_
  obtain ⟨T5, h5, X5, e5, W5, st5⟩ := putFN X2 hx hZ hown (own_w hw 28 rfl) Via.refl e2 f4 f3 (Or.inr ⟨(own_w hw 29 rfl), rfl, hnm⟩) (own_w hw 14 rfl) (ty := .byte) (v' := (.int (0 : Int32))) (by decide) rfl (by decide) (g := (mkF m 11 #[oa r0, oa r1, oi 0] [(.int (0 : Int32)), (.ref r0)])) rfl rfl (hb hby d5_11)
  have f6 := (f3.wr W5)
  have f7 := (fw2.other W5 (Or.inr (slot_ne (Or.inr (own_w hw 27 rfl)) (Or.inr (own_w hw 29 rfl)) (by decide) (t := (.array .byte)) (t' := .byte) (by decide) (by decide))))
  have fw5 : Fld Z h5 r0 "java/lang/String" "coder" "B" (.int (0 : Int32)) := f4.same W5
  have N5 := Fr.snoc X5 N2 hp1
  have zs5 : n0 ≤ h5.size := by rw [W5.size]; exact zs2
  have kk5 : Keep h0 h5 [r0] := kk2.wr W5 (Or.inl (List.mem_of_getElem? (i := 0) rfl))
  refine own_g T5 (mkF m 14 #[oa r0, oa r1, oi 0] []) (fun _ k => st5 _ k) ?_
  exact own_ret0 X5 hx Bd.returns hlk (hb hby d5_14) e5 ⟨rfl, N5, kk5, f7, fw5, f6⟩ (by decide) (by decide)
theorem own_canYes {x : Int32} (h : ¬ (255 : Int32) < x) : ¬ own_canEnc x = (0 : Int32) := by
  unfold own_canEnc; rw [if_neg h]; decide
theorem own_pd20 : parseMethodDescriptor "(C)Z" = some ⟨[.char], some .boolean⟩ := by decide +kernel
theorem own_pd21 : parseMethodDescriptor "(C)[B" = some ⟨[.char], some (.array .byte)⟩ := by decide +kernel
theorem own_pd22 : parseMethodDescriptor "([BB)V" = some ⟨[(.array .byte), .byte], none⟩ := by decide +kernel
theorem d2_0 : decode jdk_42_method_139_code 0 = .ok (.getstatic 38, 3) := by decide +kernel
theorem d2_3 : decode jdk_42_method_139_code 3 = .ok (.ifCond .eq 23, 3) := by decide +kernel
theorem d2_6 : decode jdk_42_method_139_code 6 = .ok (.iload_n 0, 1) := by decide +kernel
theorem d2_7 : decode jdk_42_method_139_code 7 = .ok (.invokestatic 1015, 3) := by decide +kernel
theorem d2_10 : decode jdk_42_method_139_code 10 = .ok (.ifCond .eq 16, 3) := by decide +kernel
theorem d2_13 : decode jdk_42_method_139_code 13 = .ok (.new 10, 3) := by decide +kernel
theorem d2_16 : decode jdk_42_method_139_code 16 = .ok (.dup, 1) := by decide +kernel
theorem d2_17 : decode jdk_42_method_139_code 17 = .ok (.iload_n 0, 1) := by decide +kernel
theorem d2_18 : decode jdk_42_method_139_code 18 = .ok (.invokestatic 1018, 3) := by decide +kernel
theorem d2_21 : decode jdk_42_method_139_code 21 = .ok (.iconst 0, 1) := by decide +kernel
theorem d2_22 : decode jdk_42_method_139_code 22 = .ok (.invokespecial 209, 3) := by decide +kernel
theorem d2_25 : decode jdk_42_method_139_code 25 = .ok (.areturn, 1) := by decide +kernel
def Q_rmVal (Z : State) (p0 : Int32) (cs : Int32) (h0 : Heap) (n0 : Nat) (v : Option Value) (h : Heap) (L : List Loc) : Prop := ∃ (xs : Addr) (xb : Addr) (xk : ClassId), v = some (.ref xs) ∧ Fr n0 L ∧ Keep h0 h [] ∧ h0.size ≤ xs ∧ h0.size ≤ xb ∧ xs ≠ xb ∧ Exa Z h xs "java/lang/String" ∧ Fld Z h xs "java/lang/String" "value" "[B" (.ref xb) ∧ Fld Z h xs "java/lang/String" "coder" "B" (.int (0 : Int32)) ∧ Arv Z h xb xk .byte (1 : Int32) [(.int (nar .byte (p0.toInt8.toInt32)))] (.int (0 : Int32))
theorem ef_rmVal (m : MethodId) (x0 : Int32) : entryFrame m #[(.int x0)] 1 = mkF m 0 #[.val (.int x0)] [] := by first | (simp [entryFrame, mkF, argsToLocals, Value.category]; done) | rfl
theorem pn_rmVal : plainName "java/lang/String" = true := by first | (simp [plainName, overriddenIn]; done) | decide +kernel
set_option maxRecDepth 65536 in
set_option maxHeartbeats 40000000 in
theorem rmVal (l : Launch) (Z : State) (a0 : Array Value) (hw : ∀ d ∈ tables_1, d.before a0 Z = true) (ws : List Jvm.Cond) (p0 : Int32) (cs : Int32) (h0 : Heap) (n0 : Nat) (Z0 : n0 ≤ h0.size) (hp0 : Sta Z h0 "java/lang/String" "COMPACT_STRINGS" "Z" (.int cs)) (hh0 : ¬ cs = (0 : Int32)) (hh1 : ¬ (255 : Int32) < p0) :
    MetFree l (⟨"java/lang/String", "valueOf", "(C)Ljava/lang/String;"⟩ : MethodName) (head1 (Jvm.Cond.code (⟨"java/lang/String", "valueOf", "(C)Ljava/lang/String;"⟩ : MethodName) jdk_42_method_139_code 1 (some (.object "java/lang/String")) :: ws) ({ frames := 2, cells := 2, slots := 5, locals := 40 } : Room)) (fun a U => a = #[(.int p0)] ∧ Z.Warmed39 U.vm ∧ U.heap = h0) (fun _ _ _ _ _ => True) (fun _ U o U' => ∃ v L, o = .returned v ∧ Q_rmVal Z p0 cs h0 n0 v U'.heap L ∧ FrameEnd U o U' L ({ frames := 2, cells := 2, slots := 5, locals := 40 } : Room).cells ({ frames := 2, cells := 2, slots := 5, locals := 40 } : Room).slots) := by
  refine MetFree.of_bodySF (plainFor_of_name pn_rmVal) hisR ?_
  intro p e s m args below meth c s₁ Bd hml0 hP hK
  obtain ⟨rfl, hZ, hh⟩ := hP
  have hx := Bd.exec
  have hby := Bd.bytes
  have hml : c.maxLocals = 1 := hml0
  have hown : s.vm.findClass "java/lang/String" = some m.cls := findClass_of_methodNamed Bd.named
  have hnm := (name_of_methodNamed Bd.named Bd.method).1
  have hlk : meth.locks = false := BodyLoose.notSynchronized Bd
  have X0 : Stand p l e ({ frames := 2, cells := 2, slots := 5, locals := 40 } : Room) s m #[(.int p0)] below meth c s₁ [] 0 0 := Stand.of_body Bd
  have e0 : s₁.heap = h0 := by rw [← hh, Bd.state]; rfl
  have N0 := Fr.nil n0
  show own_W p e below s (Q_rmVal Z p0 cs h0 n0) 2 5 s₁ (entryFrame m #[(.int p0)] 1)
  skip
  skip
  refine own_go (T' := s₁) (g' := (mkF m 0 #[oi p0] [])) (fun _ k => castTop (ef_rmVal m p0) k) ?_
  obtain ⟨T1, X1, e1, st1⟩ := getS2 X0 hx hZ hown (host := "") (Or.inl (own_w hw 8 rfl)) Via.refl e0 hp0 (g := (mkF m 0 #[oi p0] [])) rfl (hb hby d2_0)
  refine own_g T1 (mkF m 7 #[oi p0] [(.int p0)]) (fun _ k => st1 _ (XS.ifNo X1.here hx rfl (hb hby d2_3) rfl (XT.i0_eq_f hh0) (XS.iloadN X1.here hx rfl (hb hby d2_6) rfl k))) ?_
  obtain ⟨_, _, ⟨T2, L2, k2, n2⟩, -, X2, ⟨Lc2, hQ2, l2, y2, z2⟩, st2⟩ := Jvm.LawKit.callS X1 hx (y := (⟨"java/lang/StringLatin1", "canEncode", "(C)Z"⟩ : MethodName)) hown (mvT hZ (own_w hw 9 rfl)) (mvT hZ (own_w hw 10 rfl)) (mvT hZ (own_w hw 11 rfl)) (mvT hZ (own_w hw 12 rfl)) (by decide) (backOf (W := 0) (rmCan l Z a0 hw [] p0 h0 n0 Z0 ) hZ (own_w hw 12 rfl) (own_w hw 11 rfl) (by decide) (by decide)) (g := (mkF m 7 #[oi p0] [(.int p0)])) rfl (by rw [hml]; rfl) (argsL := [(.int p0)]) (rest := []) (lenOf own_pd20 rfl) rfl (Nat.le_of_eq rfl) (hb hby d2_7) (fun _ _ => ⟨rfl, e1, (by decide : 0 + 0 ≤ _), (by decide : 0 + 0 ≤ _)⟩)
  dsimp only [Pt.U, Pt.locs, Pt.cells, Pt.slots] at X2 l2 y2 z2 st2 hQ2
  subst l2 y2 z2
  obtain ⟨rfl, N2q, e2⟩ := hQ2
  have N2 := Fr.app N0 N2q
  obtain ⟨Lv2, X2, N2⟩ := own_hide X2 (Nat.le_refl 0) (Nat.le_refl 0) N2
  refine own_g T2 (mkF m 13 #[oi p0] []) (fun _ k => st2 _ (XS.ifNo X2.here hx rfl (hb hby d2_10) rfl (XT.i0_eq_f (own_canYes hh1)) k)) ?_
  obtain ⟨T3, h3, X3, e3, E3, A3, D3, -, st3⟩ := newO X2 hx hZ hown (own_w hw 13 rfl) (own_w hw 14 rfl) (own_w hw 6 rfl) e2 (g := (mkF m 13 #[oi p0] [])) rfl (hb hby d2_13) (by decide) (by decide)
  obtain ⟨b3, g3⟩ : ∃ z, z = h0.size := ⟨_, rfl⟩
  rw [← g3] at A3 D3 st3
  have f4 := (hp0.ext E3)
  have fn5 : Fld Z h3 b3 "java/lang/String" "value" "[B" .null := D3 (Or.inr (own_w hw 27 rfl)) (ty := (.array .byte)) (by decide)
  have fn6 : Fld Z h3 b3 "java/lang/String" "coder" "B" (.int (0 : Int32)) := D3 (Or.inr (own_w hw 29 rfl)) (ty := .byte) (by decide)
  have ge3 : n0 ≤ b3 := Nat.le_trans Z0 (Nat.le_of_eq g3.symm)
  have sz3 : h0.size ≤ b3 := Nat.le_trans (Keep.refl h0 []).1 (Nat.le_of_eq g3.symm)
  have kk3 : Keep h0 h3 [] := (Keep.refl h0 []).ext E3
  have zs3 : n0 ≤ h3.size := Nat.le_trans Z0 E3.1
  refine own_g T3 (mkF m 18 #[oi p0] [(.int p0), (.ref b3), (.ref b3)]) (fun _ k => st3 _ (XS.dup X3.here hx rfl (hb hby d2_16) rfl rfl (XS.iloadN X3.here hx rfl (hb hby d2_17) rfl k))) ?_
  obtain ⟨_, _, ⟨T7, L7, k7, n7⟩, -, X7, ⟨Lc7, hQ7, l7, y7, z7⟩, st7⟩ := Jvm.LawKit.callS X3 hx (y := (⟨"java/lang/StringLatin1", "toBytes", "(C)[B"⟩ : MethodName)) hown (mvT hZ (own_w hw 15 rfl)) (mvT hZ (own_w hw 16 rfl)) (mvT hZ (own_w hw 11 rfl)) (mvT hZ (own_w hw 17 rfl)) (by decide) (backOf (W := 2) (rmToB l Z a0 hw [] p0 h3 n0 zs3 ) hZ (own_w hw 17 rfl) (own_w hw 11 rfl) (by decide) (by decide)) (g := (mkF m 18 #[oi p0] [(.int p0), (.ref b3), (.ref b3)])) rfl (by rw [hml]; rfl) (argsL := [(.int p0)]) (rest := [(.ref b3), (.ref b3)]) (lenOf own_pd21 rfl) rfl (Nat.le_of_eq rfl) (hb hby d2_18) (fun _ _ => ⟨rfl, e3, (by decide : 1 + 1 ≤ _), (by decide : 4 + 1 ≤ _)⟩)
  dsimp only [Pt.U, Pt.locs, Pt.cells, Pt.slots] at X7 l7 y7 z7 st7 hQ7
  subst l7 y7 z7
  obtain ⟨xb_7, xk_7, rfl, N7q, K7, po8, po9⟩ := hQ7
  have f10 := (own_sta_keep f4 K7 ns0)
  have f11 := (A3.keep K7)
  have f12 := (fn5.keep K7 nin0)
  have f13 := (fn6.keep K7 nin0)
  have ne14 : b3 ≠ xb_7 := Nat.ne_of_lt (Nat.lt_of_lt_of_le A3.lt po8)
  have ge15 : n0 ≤ xb_7 := Nat.le_trans zs3 po8
  have sz16 : h0.size ≤ xb_7 := Nat.le_trans kk3.1 po8
  have zs7 : n0 ≤ T7.heap.size := Nat.le_trans zs3 K7.1
  have kk7 : Keep h0 T7.heap [] := kk3.trans K7 all0
  have N7 := Fr.app N2 N7q
  obtain ⟨Lv7, X7, N7⟩ := own_hide X7 (Nat.le_refl 2) (Nat.le_refl 5) N7
  refine own_g T7 (mkF m 22 #[oi p0] [(.int (0 : Int32)), (.ref xb_7), (.ref b3), (.ref b3)]) (fun _ k => st7 _ (XS.iconst X7.here hx rfl (hb hby d2_21) k)) ?_
  obtain ⟨_, _, ⟨T17, L17, k17, n17⟩, -, X17, ⟨Lc17, hQ17, l17, y17, z17⟩, st17⟩ := X7.specialBack hx (y := (⟨"java/lang/String", "<init>", "([BB)V"⟩ : MethodName)) rfl hown (mvT hZ (own_w hw 19 rfl)) (mvT hZ (own_w hw 20 rfl)) (mvT hZ (own_w hw 22 rfl)) (by decide) (backOf (W := 1) (rmStr l Z a0 hw [] b3 xb_7 T7.heap n0 zs7 f11 ge3 f12 f13) hZ (own_w hw 22 rfl) (own_w hw 6 rfl) (by decide) (by decide)) (g := (mkF m 22 #[oi p0] [(.int (0 : Int32)), (.ref xb_7), (.ref b3), (.ref b3)])) rfl (by rw [hml]; rfl) (Steps.refl _) (a := b3) (argsL := [(.ref xb_7), (.int (0 : Int32))]) (rest := [(.ref b3)]) (lenOf own_pd22 rfl) rfl (Nat.le_of_eq rfl) (hb hby d2_22) (fun _ _ => ⟨rfl, rfl, (by decide : 2 + 0 ≤ _), (by decide : 5 + 0 ≤ _)⟩)
  dsimp only [Pt.U, Pt.locs, Pt.cells, Pt.slots] at X17 l17 y17 z17 st17 hQ17
  subst l17 y17 z17
  obtain ⟨rfl, N17q, K17, po18, po19, po20⟩ := hQ17
  have f21 := (own_sta_keep f10 K17 (nsS f11.nostat ns0))
  have f22 := (f11.keep K17)
  have f23 := (po9.keep K17 (ninS (Ne.symm ne14) nin0))
  have zs17 : n0 ≤ T17.heap.size := Nat.le_trans zs7 K17.1
  have kk17 : Keep h0 T17.heap [] := kk7.trans K17 (allS (Or.inr sz3) all0)
  have N17 := Fr.app N7 N17q
  obtain ⟨Lv17, X17, N17⟩ := own_hide X17 (Nat.le_refl 2) (Nat.le_refl 5) N17
  refine own_g T17 (mkF m 25 #[oi p0] [(.ref b3)]) (fun _ k => st17.trans k) ?_
  exact own_ret X17 hx Bd.returns hlk rfl (Or.inr (Or.inr (Or.inr (Or.inr ⟨rfl, rfl, rfl⟩)))) (hb hby d2_25) rfl ⟨b3, xb_7, xk_7, rfl, N17, kk17, sz3, sz16, ne14, po20, po18, po19, f23⟩ (by decide) (by decide)
theorem d46_0 : decode jdk_52_method_21_code 0 = .ok (.iconst 0, 1) := by decide +kernel
theorem d46_1 : decode jdk_52_method_21_code 1 = .ok (.istore 5, 2) := by decide +kernel
theorem d46_3 : decode jdk_52_method_21_code 3 = .ok (.iload 5, 2) := by decide +kernel
theorem d46_5 : decode jdk_52_method_21_code 5 = .ok (.iload 4, 2) := by decide +kernel
theorem d46_7 : decode jdk_52_method_21_code 7 = .ok (.if_icmp .ge 37, 3) := by decide +kernel
theorem d46_10 : decode jdk_52_method_21_code 10 = .ok (.aload_n 0, 1) := by decide +kernel
theorem d46_11 : decode jdk_52_method_21_code 11 = .ok (.iload_n 1, 1) := by decide +kernel
theorem d46_12 : decode jdk_52_method_21_code 12 = .ok (.caload, 1) := by decide +kernel
theorem d46_13 : decode jdk_52_method_21_code 13 = .ok (.istore 6, 2) := by decide +kernel
theorem d46_15 : decode jdk_52_method_21_code 15 = .ok (.iload 6, 2) := by decide +kernel
theorem d46_17 : decode jdk_52_method_21_code 17 = .ok (.sipush 255, 3) := by decide +kernel
theorem d46_20 : decode jdk_52_method_21_code 20 = .ok (.if_icmp .le 6, 3) := by decide +kernel
theorem d46_26 : decode jdk_52_method_21_code 26 = .ok (.aload_n 2, 1) := by decide +kernel
theorem d46_27 : decode jdk_52_method_21_code 27 = .ok (.iload_n 3, 1) := by decide +kernel
theorem d46_28 : decode jdk_52_method_21_code 28 = .ok (.iload 6, 2) := by decide +kernel
theorem d46_30 : decode jdk_52_method_21_code 30 = .ok (.i2b, 1) := by decide +kernel
theorem d46_31 : decode jdk_52_method_21_code 31 = .ok (.bastore, 1) := by decide +kernel
theorem d46_32 : decode jdk_52_method_21_code 32 = .ok (.iinc 1 1, 3) := by decide +kernel
theorem d46_35 : decode jdk_52_method_21_code 35 = .ok (.iinc 3 1, 3) := by decide +kernel
theorem d46_38 : decode jdk_52_method_21_code 38 = .ok (.iinc 5 1, 3) := by decide +kernel
theorem d46_41 : decode jdk_52_method_21_code 41 = .ok (.goto (-38), 3) := by decide +kernel
theorem d46_44 : decode jdk_52_method_21_code 44 = .ok (.iload 4, 2) := by decide +kernel
theorem d46_46 : decode jdk_52_method_21_code 46 = .ok (.ireturn, 1) := by decide +kernel
def Q_rmC5_2 (Z : State) (r0 : Addr) (r2 : Addr) (kc : ClassId) (c0_ : Int32) (c1_ : Int32) (kb : ClassId) (h0 : Heap) (n0 : Nat) (v : Option Value) (h : Heap) (L : List Loc) : Prop := v = some (.int (2 : Int32)) ∧ Fr n0 L ∧ Keep h0 h [r2] ∧ Arv Z h r2 kb .byte (2 : Int32) [(.int (nar .byte (c0_.toInt8.toInt32))), (.int (nar .byte (c1_.toInt8.toInt32)))] (.int (0 : Int32))
theorem ef_rmC5_2 (m : MethodId) (x0 : Addr) (x1 : Int32) (x2 : Addr) (x3 : Int32) (x4 : Int32) : entryFrame m #[(.ref x0), (.int x1), (.ref x2), (.int x3), (.int x4)] 7 = mkF m 0 #[.val (.ref x0), .val (.int x1), .val (.ref x2), .val (.int x3), .val (.int x4), .unset, .unset] [] := by first | (simp [entryFrame, mkF, argsToLocals, Value.category]; done) | rfl
theorem pn_rmC5_2 : plainName "java/lang/StringUTF16" = true := by first | (simp [plainName, overriddenIn]; done) | decide +kernel
set_option maxRecDepth 65536 in
set_option maxHeartbeats 40000000 in
theorem rmC5_2 (l : Launch) (Z : State) (a0 : Array Value) (hw : ∀ d ∈ tables_1, d.before a0 Z = true) (ws : List Jvm.Cond) (r0 : Addr) (r2 : Addr) (kc : ClassId) (c0_ : Int32) (c1_ : Int32) (kb : ClassId) (h0 : Heap) (n0 : Nat) (Z0 : n0 ≤ h0.size) (hp0 : Arv Z h0 r0 kc .char (2 : Int32) [(.int c0_), (.int c1_)] (.int (0 : Int32))) (hp1 : Arv Z h0 r2 kb .byte (2 : Int32) [(.int (0 : Int32)), (.int (0 : Int32))] (.int (0 : Int32))) (hp2 : n0 ≤ r2) (hp3 : r0 ≠ r2) (hh0 : ¬ (255 : Int32) < c0_) (hh1 : ¬ (255 : Int32) < c1_) :
    MetFree l (⟨"java/lang/StringUTF16", "compress", "([CI[BII)I"⟩ : MethodName) (head1 (Jvm.Cond.code (⟨"java/lang/StringUTF16", "compress", "([CI[BII)I"⟩ : MethodName) jdk_52_method_21_code 7 (some .int) :: ws) ({ frames := 0, cells := 0, slots := 0, locals := 0 } : Room)) (fun a U => a = #[(.ref r0), (.int (0 : Int32)), (.ref r2), (.int (0 : Int32)), (.int (2 : Int32))] ∧ Z.Warmed39 U.vm ∧ U.heap = h0) (fun _ _ _ _ _ => True) (fun _ U o U' => ∃ v L, o = .returned v ∧ Q_rmC5_2 Z r0 r2 kc c0_ c1_ kb h0 n0 v U'.heap L ∧ FrameEnd U o U' L ({ frames := 0, cells := 0, slots := 0, locals := 0 } : Room).cells ({ frames := 0, cells := 0, slots := 0, locals := 0 } : Room).slots) := by
  refine MetFree.of_bodySF (plainFor_of_name pn_rmC5_2) hisR ?_
  intro p e s m args below meth c s₁ Bd hml0 hP hK
  obtain ⟨rfl, hZ, hh⟩ := hP
  have hx := Bd.exec
  have hby := Bd.bytes
  have hml : c.maxLocals = 7 := hml0
  have hown : s.vm.findClass "java/lang/StringUTF16" = some m.cls := findClass_of_methodNamed Bd.named
  have hnm := (name_of_methodNamed Bd.named Bd.method).1
  have hlk : meth.locks = false := BodyLoose.notSynchronized Bd
  have X0 : Stand p l e ({ frames := 0, cells := 0, slots := 0, locals := 0 } : Room) s m #[(.ref r0), (.int (0 : Int32)), (.ref r2), (.int (0 : Int32)), (.int (2 : Int32))] below meth c s₁ [] 0 0 := Stand.of_body Bd
  have e0 : s₁.heap = h0 := by rw [← hh, Bd.state]; rfl
  have N0 := Fr.nil n0
  show own_W p e below s (Q_rmC5_2 Z r0 r2 kc c0_ c1_ kb h0 n0) 0 0 s₁ (entryFrame m #[(.ref r0), (.int (0 : Int32)), (.ref r2), (.int (0 : Int32)), (.int (2 : Int32))] 7)
  skip
  skip
  refine own_go (T' := s₁) (g' := (mkF m 0 #[oa r0, oi 0, oa r2, oi 0, oi 2, .unset, .unset] [])) (fun _ k => castTop (ef_rmC5_2 m r0 (0 : Int32) r2 (0 : Int32) (2 : Int32)) k) ?_
  refine own_g s₁ (mkF m 12 #[oa r0, oi 0, oa r2, oi 0, oi 2, oi 0, .unset] [(.int (0 : Int32)), (.ref r0)]) (fun _ k => XS.iconst X0.here hx rfl (hb hby d46_0) (XS.istore X0.here hx rfl (hb hby d46_1) rfl (l' := #[oa r0, oi 0, oa r2, oi 0, oi 2, oi 0, .unset]) rfl (XS.iload X0.here hx rfl (hb hby d46_3) rfl (XS.iload X0.here hx rfl (hb hby d46_5) rfl (XS.icmpNo X0.here hx rfl (hb hby d46_7) rfl (XT.ii_ge_f (by decide : (0 : Int32) < (2 : Int32))) (XS.aloadN X0.here hx rfl (hb hby d46_10) rfl rfl (XS.iloadN X0.here hx rfl (hb hby d46_11) rfl k))))))) ?_
  obtain ⟨cl1, Ar1, q11, q21, q31, H1, G1⟩ := id hp0
  have hin1 := inb_of q21 (j := (0 : Int32)) (by decide)
  refine own_g s₁ (mkF m 30 #[oa r0, oi 0, oa r2, oi 0, oi 2, oi 0, oi c0_] [(.int c0_), (.int (0 : Int32)), (.ref r2)]) (fun _ k => X0.caload hx (j := (0 : Int32)) (v := (.int c0_)) (by rw [e0]; exact Ar1.1) (State.isArrayOf_alike hZ.alike Ar1.2.1) Ar1.2.2 hin1 (Has.at H1 hin1 rfl) (g := (mkF m 12 #[oa r0, oi 0, oa r2, oi 0, oi 2, oi 0, .unset] [(.int (0 : Int32)), (.ref r0)])) rfl rfl (hb hby d46_12) _ (XS.istore X0.here hx rfl (hb hby d46_13) rfl (l' := #[oa r0, oi 0, oa r2, oi 0, oi 2, oi 0, oi c0_]) rfl (XS.iload X0.here hx rfl (hb hby d46_15) rfl (XS.sipush X0.here hx rfl (hb hby d46_17) (XS.icmpYes X0.here hx rfl (pc0 := 20) (pc' := 26) rfl (hb hby d46_20) rfl (XT.ii_le_t hh0) (by decide) (by decide) (XS.aloadN X0.here hx rfl (hb hby d46_26) rfl rfl (XS.iloadN X0.here hx rfl (hb hby d46_27) rfl (XS.iload X0.here hx rfl (hb hby d46_28) rfl k)))))))) ?_
  refine own_g s₁ (mkF m 31 #[oa r0, oi 0, oa r2, oi 0, oi 2, oi 0, oi c0_] [(.int (c0_.toInt8.toInt32)), (.int (0 : Int32)), (.ref r2)]) (fun _ k => XT.i2b X0.here hx rfl (hb hby d46_30) rfl k) ?_
  obtain ⟨cl2, Ar2, q12, q22, q32, H2, G2⟩ := id hp1
  have hin2 := inb_of q22 (j := (0 : Int32)) (by decide)
  obtain ⟨T2, h2, X2, e2, W2, st2⟩ := stB X0 hx hZ e0 Ar2 (j := (0 : Int32)) hin2 (g := (mkF m 31 #[oa r0, oi 0, oa r2, oi 0, oi 2, oi 0, oi c0_] [(.int (c0_.toInt8.toInt32)), (.int (0 : Int32)), (.ref r2)])) rfl rfl (hb hby d46_31)
  have f3 := (hp0.other W2 hp3)
  have V2 : Arv Z h2 r2 kb .byte (2 : Int32) [(.int (nar .byte (c0_.toInt8.toInt32))), (.int (0 : Int32))] (.int (0 : Int32)) := Arv.set Ar2 q12 q22 q32 H2 G2 (fits_nar_byte _) W2 0 (by decide) (by simp)
  have N2 := Fr.snoc X2 N0 hp2
  have zs2 : n0 ≤ h2.size := by rw [W2.size]; exact Z0
  have kk2 : Keep h0 h2 [r2] := (Keep.refl h0 [r2]).wr W2 (Or.inl (List.mem_of_getElem? (i := 0) rfl))
  refine own_g T2 (mkF m 10 #[oa r0, oi 1, oa r2, oi 1, oi 2, oi 1, oi c0_] []) (fun _ k => st2 _ (XS.iinc X2.here hx rfl (hb hby d46_32) rfl (l' := #[oa r0, oi 1, oa r2, oi 0, oi 2, oi 0, oi c0_]) rfl (XS.iinc X2.here hx rfl (hb hby d46_35) rfl (l' := #[oa r0, oi 1, oa r2, oi 1, oi 2, oi 0, oi c0_]) rfl (XS.iinc X2.here hx rfl (hb hby d46_38) rfl (l' := #[oa r0, oi 1, oa r2, oi 1, oi 2, oi 1, oi c0_]) rfl (XS.goto X2.here hx rfl (pc0 := 41) (pc' := 3) rfl (hb hby d46_41) (by decide) (by decide) (XS.iload X2.here hx rfl (hb hby d46_3) rfl (XS.iload X2.here hx rfl (hb hby d46_5) rfl (XS.icmpNo X2.here hx rfl (hb hby d46_7) rfl (XT.ii_ge_f (by decide : (1 : Int32) < (2 : Int32))) k)))))))) ?_
  refine own_g T2 (mkF m 12 #[oa r0, oi 1, oa r2, oi 1, oi 2, oi 1, oi c0_] [(.int (1 : Int32)), (.ref r0)]) (fun _ k => XS.aloadN X2.here hx rfl (hb hby d46_10) rfl rfl (XS.iloadN X2.here hx rfl (hb hby d46_11) rfl k)) ?_
  obtain ⟨cl4, Ar4, q14, q24, q34, H4, G4⟩ := id f3
  have hin4 := inb_of q24 (j := (1 : Int32)) (by decide)
  refine own_g T2 (mkF m 30 #[oa r0, oi 1, oa r2, oi 1, oi 2, oi 1, oi c1_] [(.int c1_), (.int (1 : Int32)), (.ref r2)]) (fun _ k => X2.caload hx (j := (1 : Int32)) (v := (.int c1_)) (by rw [e2]; exact Ar4.1) (State.isArrayOf_alike hZ.alike Ar4.2.1) Ar4.2.2 hin4 (Has.at H4 hin4 rfl) (g := (mkF m 12 #[oa r0, oi 1, oa r2, oi 1, oi 2, oi 1, oi c0_] [(.int (1 : Int32)), (.ref r0)])) rfl rfl (hb hby d46_12) _ (XS.istore X2.here hx rfl (hb hby d46_13) rfl (l' := #[oa r0, oi 1, oa r2, oi 1, oi 2, oi 1, oi c1_]) rfl (XS.iload X2.here hx rfl (hb hby d46_15) rfl (XS.sipush X2.here hx rfl (hb hby d46_17) (XS.icmpYes X2.here hx rfl (pc0 := 20) (pc' := 26) rfl (hb hby d46_20) rfl (XT.ii_le_t hh1) (by decide) (by decide) (XS.aloadN X2.here hx rfl (hb hby d46_26) rfl rfl (XS.iloadN X2.here hx rfl (hb hby d46_27) rfl (XS.iload X2.here hx rfl (hb hby d46_28) rfl k)))))))) ?_
  refine own_g T2 (mkF m 31 #[oa r0, oi 1, oa r2, oi 1, oi 2, oi 1, oi c1_] [(.int (c1_.toInt8.toInt32)), (.int (1 : Int32)), (.ref r2)]) (fun _ k => XT.i2b X2.here hx rfl (hb hby d46_30) rfl k) ?_
  obtain ⟨cl5, Ar5, q15, q25, q35, H5, G5⟩ := id V2
  have hin5 := inb_of q25 (j := (1 : Int32)) (by decide)
  obtain ⟨T5, h5, X5, e5, W5, st5⟩ := stB X2 hx hZ e2 Ar5 (j := (1 : Int32)) hin5 (g := (mkF m 31 #[oa r0, oi 1, oa r2, oi 1, oi 2, oi 1, oi c1_] [(.int (c1_.toInt8.toInt32)), (.int (1 : Int32)), (.ref r2)])) rfl rfl (hb hby d46_31)
  have f6 := (f3.other W5 hp3)
  have V5 : Arv Z h5 r2 kb .byte (2 : Int32) [(.int (nar .byte (c0_.toInt8.toInt32))), (.int (nar .byte (c1_.toInt8.toInt32)))] (.int (0 : Int32)) := Arv.set Ar5 q15 q25 q35 H5 G5 (fits_nar_byte _) W5 1 (by decide) (by simp)
  have N5 := Fr.snoc X5 N2 hp2
  have zs5 : n0 ≤ h5.size := by rw [W5.size]; exact zs2
  have kk5 : Keep h0 h5 [r2] := kk2.wr W5 (Or.inl (List.mem_of_getElem? (i := 0) rfl))
  refine own_g T5 (mkF m 44 #[oa r0, oi 2, oa r2, oi 2, oi 2, oi 2, oi c1_] []) (fun _ k => st5 _ (XS.iinc X5.here hx rfl (hb hby d46_32) rfl (l' := #[oa r0, oi 2, oa r2, oi 1, oi 2, oi 1, oi c1_]) rfl (XS.iinc X5.here hx rfl (hb hby d46_35) rfl (l' := #[oa r0, oi 2, oa r2, oi 2, oi 2, oi 1, oi c1_]) rfl (XS.iinc X5.here hx rfl (hb hby d46_38) rfl (l' := #[oa r0, oi 2, oa r2, oi 2, oi 2, oi 2, oi c1_]) rfl (XS.goto X5.here hx rfl (pc0 := 41) (pc' := 3) rfl (hb hby d46_41) (by decide) (by decide) (XS.iload X5.here hx rfl (hb hby d46_3) rfl (XS.iload X5.here hx rfl (hb hby d46_5) rfl (XS.icmpYes X5.here hx rfl (pc0 := 7) (pc' := 44) rfl (hb hby d46_7) rfl (XT.ii_ge_t (by decide : ¬ ((2 : Int32) < (2 : Int32)))) (by decide) (by decide) k)))))))) ?_
  refine own_g T5 (mkF m 46 #[oa r0, oi 2, oa r2, oi 2, oi 2, oi 2, oi c1_] [(.int (2 : Int32))]) (fun _ k => XS.iload X5.here hx rfl (hb hby d46_44) rfl k) ?_
  exact own_ret X5 hx Bd.returns hlk rfl (Or.inl ⟨rfl, Or.inl rfl, _, rfl⟩) (hb hby d46_46) e5 ⟨rfl, N5, kk5, V5⟩ (by decide) (by decide)
theorem own_pd23 : parseMethodDescriptor "([CI[BII)I" = some ⟨[(.array .char), .int, (.array .byte), .int, .int], some .int⟩ := by decide +kernel
theorem d45_0 : decode jdk_52_method_16_code 0 = .ok (.iload_n 2, 1) := by decide +kernel
theorem d45_1 : decode jdk_52_method_16_code 1 = .ok (.newarray .byte, 2) := by decide +kernel
theorem d45_3 : decode jdk_52_method_16_code 3 = .ok (.astore_n 3, 1) := by decide +kernel
theorem d45_4 : decode jdk_52_method_16_code 4 = .ok (.aload_n 0, 1) := by decide +kernel
theorem d45_5 : decode jdk_52_method_16_code 5 = .ok (.iload_n 1, 1) := by decide +kernel
theorem d45_6 : decode jdk_52_method_16_code 6 = .ok (.aload_n 3, 1) := by decide +kernel
theorem d45_7 : decode jdk_52_method_16_code 7 = .ok (.iconst 0, 1) := by decide +kernel
theorem d45_8 : decode jdk_52_method_16_code 8 = .ok (.iload_n 2, 1) := by decide +kernel
theorem d45_9 : decode jdk_52_method_16_code 9 = .ok (.invokestatic 115, 3) := by decide +kernel
theorem d45_12 : decode jdk_52_method_16_code 12 = .ok (.istore 4, 2) := by decide +kernel
theorem d45_14 : decode jdk_52_method_16_code 14 = .ok (.iload 4, 2) := by decide +kernel
theorem d45_16 : decode jdk_52_method_16_code 16 = .ok (.iload_n 2, 1) := by decide +kernel
theorem d45_17 : decode jdk_52_method_16_code 17 = .ok (.if_icmp .eq 40, 3) := by decide +kernel
theorem d45_57 : decode jdk_52_method_16_code 57 = .ok (.aload_n 3, 1) := by decide +kernel
theorem d45_58 : decode jdk_52_method_16_code 58 = .ok (.areturn, 1) := by decide +kernel
def Q_rmC3_2 (Z : State) (r0 : Addr) (kc : ClassId) (c0_ : Int32) (c1_ : Int32) (h0 : Heap) (n0 : Nat) (v : Option Value) (h : Heap) (L : List Loc) : Prop := ∃ (xb : Addr) (xk : ClassId), v = some (.ref xb) ∧ Fr n0 L ∧ Keep h0 h [] ∧ h0.size ≤ xb ∧ Arv Z h xb xk .byte (2 : Int32) [(.int (nar .byte (c0_.toInt8.toInt32))), (.int (nar .byte (c1_.toInt8.toInt32)))] (.int (0 : Int32))
theorem ef_rmC3_2 (m : MethodId) (x0 : Addr) (x1 : Int32) (x2 : Int32) : entryFrame m #[(.ref x0), (.int x1), (.int x2)] 6 = mkF m 0 #[.val (.ref x0), .val (.int x1), .val (.int x2), .unset, .unset, .unset] [] := by first | (simp [entryFrame, mkF, argsToLocals, Value.category]; done) | rfl
theorem pn_rmC3_2 : plainName "java/lang/StringUTF16" = true := by first | (simp [plainName, overriddenIn]; done) | decide +kernel
set_option maxRecDepth 65536 in
set_option maxHeartbeats 40000000 in
theorem rmC3_2 (l : Launch) (Z : State) (a0 : Array Value) (hw : ∀ d ∈ tables_1, d.before a0 Z = true) (ws : List Jvm.Cond) (r0 : Addr) (kc : ClassId) (c0_ : Int32) (c1_ : Int32) (h0 : Heap) (n0 : Nat) (Z0 : n0 ≤ h0.size) (hp0 : Arv Z h0 r0 kc .char (2 : Int32) [(.int c0_), (.int c1_)] (.int (0 : Int32))) (hh0 : ¬ (255 : Int32) < c0_) (hh1 : ¬ (255 : Int32) < c1_) :
    MetFree l (⟨"java/lang/StringUTF16", "compress", "([CII)[B"⟩ : MethodName) (head1 (Jvm.Cond.code (⟨"java/lang/StringUTF16", "compress", "([CII)[B"⟩ : MethodName) jdk_52_method_16_code 6 (some (.array .byte)) :: ws) ({ frames := 1, cells := 1, slots := 2, locals := 40 } : Room)) (fun a U => a = #[(.ref r0), (.int (0 : Int32)), (.int (2 : Int32))] ∧ Z.Warmed39 U.vm ∧ U.heap = h0) (fun _ _ _ _ _ => True) (fun _ U o U' => ∃ v L, o = .returned v ∧ Q_rmC3_2 Z r0 kc c0_ c1_ h0 n0 v U'.heap L ∧ FrameEnd U o U' L ({ frames := 1, cells := 1, slots := 2, locals := 40 } : Room).cells ({ frames := 1, cells := 1, slots := 2, locals := 40 } : Room).slots) := by
  refine MetFree.of_bodySF (plainFor_of_name pn_rmC3_2) hisR ?_
  intro p e s m args below meth c s₁ Bd hml0 hP hK
  obtain ⟨rfl, hZ, hh⟩ := hP
  have hx := Bd.exec
  have hby := Bd.bytes
  have hml : c.maxLocals = 6 := hml0
  have hown : s.vm.findClass "java/lang/StringUTF16" = some m.cls := findClass_of_methodNamed Bd.named
  have hnm := (name_of_methodNamed Bd.named Bd.method).1
  have hlk : meth.locks = false := BodyLoose.notSynchronized Bd
  have X0 : Stand p l e ({ frames := 1, cells := 1, slots := 2, locals := 40 } : Room) s m #[(.ref r0), (.int (0 : Int32)), (.int (2 : Int32))] below meth c s₁ [] 0 0 := Stand.of_body Bd
  have e0 : s₁.heap = h0 := by rw [← hh, Bd.state]; rfl
  have N0 := Fr.nil n0
  show own_W p e below s (Q_rmC3_2 Z r0 kc c0_ c1_ h0 n0) 1 2 s₁ (entryFrame m #[(.ref r0), (.int (0 : Int32)), (.int (2 : Int32))] 6)
  skip
  skip
  refine own_go (T' := s₁) (g' := (mkF m 0 #[oa r0, oi 0, oi 2, .unset, .unset, .unset] [])) (fun _ k => castTop (ef_rmC3_2 m r0 (0 : Int32) (2 : Int32)) k) ?_
  refine own_g s₁ (mkF m 1 #[oa r0, oi 0, oi 2, .unset, .unset, .unset] [(.int (2 : Int32))]) (fun _ k => XS.iloadN X0.here hx rfl (hb hby d45_0) rfl k) ?_
  obtain ⟨T1, h1, k1, X1, e1, E1, A1, st1⟩ := newP X0 hx hZ (own_w hw 18 rfl) e0 (g := (mkF m 1 #[oa r0, oi 0, oi 2, .unset, .unset, .unset] [(.int (2 : Int32))])) rfl (hb hby d45_1) rfl (by decide) (cap := 2) (by decide) (by decide) (by decide) (by decide)
  obtain ⟨b1, g1⟩ : ∃ z, z = h0.size := ⟨_, rfl⟩
  have ne2 : r0 ≠ b1 := Nat.ne_of_lt (Nat.lt_of_lt_of_le hp0.lt (Nat.le_of_eq g1.symm))
  rw [← g1] at A1 st1
  have f3 := (hp0.ext E1)
  have V1 : Arv Z h1 b1 k1 .byte (2 : Int32) [(.int (0 : Int32)), (.int (0 : Int32))] (.int (0 : Int32)) := (Arv.new A1 (by decide)).pad (pad_rep [] (.int (0 : Int32)) 2)
  have ge1 : n0 ≤ b1 := Nat.le_trans Z0 (Nat.le_of_eq g1.symm)
  have sz1 : h0.size ≤ b1 := Nat.le_trans (Keep.refl h0 []).1 (Nat.le_of_eq g1.symm)
  have kk1 : Keep h0 h1 [] := (Keep.refl h0 []).ext E1
  have zs1 : n0 ≤ h1.size := Nat.le_trans Z0 E1.1
  refine own_g T1 (mkF m 9 #[oa r0, oi 0, oi 2, oa b1, .unset, .unset] [(.int (2 : Int32)), (.int (0 : Int32)), (.ref b1), (.int (0 : Int32)), (.ref r0)]) (fun _ k => st1 _ (XS.astoreN X1.here hx rfl (hb hby d45_3) rfl rfl (l' := #[oa r0, oi 0, oi 2, oa b1, .unset, .unset]) rfl (XS.aloadN X1.here hx rfl (hb hby d45_4) rfl rfl (XS.iloadN X1.here hx rfl (hb hby d45_5) rfl (XS.aloadN X1.here hx rfl (hb hby d45_6) rfl rfl (XS.iconst X1.here hx rfl (hb hby d45_7) (XS.iloadN X1.here hx rfl (hb hby d45_8) rfl k))))))) ?_
  obtain ⟨_, _, ⟨T4, L4, k4, n4⟩, -, X4, ⟨Lc4, hQ4, l4, y4, z4⟩, st4⟩ := Jvm.LawKit.callS X1 hx (y := (⟨"java/lang/StringUTF16", "compress", "([CI[BII)I"⟩ : MethodName)) hown (mvT hZ (own_w hw 232 rfl)) (mvT hZ (own_w hw 233 rfl)) (mvT hZ (own_w hw 230 rfl)) (mvT hZ (own_w hw 234 rfl)) (by decide) (backOf (W := 0) (rmC5_2 l Z a0 hw [] r0 b1 kc c0_ c1_ k1 h1 n0 zs1 f3 V1 ge1 ne2 hh0 hh1) hZ (own_w hw 234 rfl) (own_w hw 230 rfl) (by decide) (by decide)) (g := (mkF m 9 #[oa r0, oi 0, oi 2, oa b1, .unset, .unset] [(.int (2 : Int32)), (.int (0 : Int32)), (.ref b1), (.int (0 : Int32)), (.ref r0)])) rfl (by rw [hml]; rfl) (argsL := [(.ref r0), (.int (0 : Int32)), (.ref b1), (.int (0 : Int32)), (.int (2 : Int32))]) (rest := []) (lenOf own_pd23 rfl) rfl (Nat.le_of_eq rfl) (hb hby d45_9) (fun _ _ => ⟨rfl, e1, (by decide : 1 + 0 ≤ _), (by decide : 2 + 0 ≤ _)⟩)
  dsimp only [Pt.U, Pt.locs, Pt.cells, Pt.slots] at X4 l4 y4 z4 st4 hQ4
  subst l4 y4 z4
  obtain ⟨rfl, N4q, K4, po5⟩ := hQ4
  have f6 := (f3.keep K4 (ninS ne2 nin0))
  have zs4 : n0 ≤ T4.heap.size := Nat.le_trans zs1 K4.1
  have kk4 : Keep h0 T4.heap [] := kk1.trans K4 (allS (Or.inr sz1) all0)
  have N4 := Fr.app N0 N4q
  obtain ⟨Lv4, X4, N4⟩ := own_hide X4 (Nat.le_refl 1) (Nat.le_refl 2) N4
  refine own_g T4 (mkF m 58 #[oa r0, oi 0, oi 2, oa b1, oi 2, .unset] [(.ref b1)]) (fun _ k => st4 _ (XS.istore X4.here hx rfl (hb hby d45_12) rfl (l' := #[oa r0, oi 0, oi 2, oa b1, oi 2, .unset]) rfl (XS.iload X4.here hx rfl (hb hby d45_14) rfl (XS.iloadN X4.here hx rfl (hb hby d45_16) rfl (XS.icmpYes X4.here hx rfl (pc0 := 17) (pc' := 57) rfl (hb hby d45_17) rfl (XT.ii_eq_t (rfl : (2 : Int32) = (2 : Int32))) (by decide) (by decide) (XS.aloadN X4.here hx rfl (hb hby d45_57) rfl rfl k)))))) ?_
  exact own_ret X4 hx Bd.returns hlk rfl (Or.inr (Or.inr (Or.inr (Or.inr ⟨rfl, rfl, rfl⟩)))) (hb hby d45_58) rfl ⟨b1, k1, rfl, N4, kk4, sz1, po5⟩ (by decide) (by decide)
def own_cfa2 (r0 : Addr) (kb : ClassId) (v0 : Int32) (v1 : Int32) : Int32 := (nar .byte ((((0 : Int32).toUInt32 >>> ((31 : Int32) &&& 31).toUInt32).toInt32).toInt8.toInt32))
theorem d47_0 : decode jdk_52_method_15_code 0 = .ok (.iload_n 1, 1) := by decide +kernel
theorem d47_1 : decode jdk_52_method_15_code 1 = .ok (.aload_n 0, 1) := by decide +kernel
theorem d47_2 : decode jdk_52_method_15_code 2 = .ok (.arraylength, 1) := by decide +kernel
theorem d47_3 : decode jdk_52_method_15_code 3 = .ok (.isub, 1) := by decide +kernel
theorem d47_4 : decode jdk_52_method_15_code 4 = .ok (.bipush 31, 2) := by decide +kernel
theorem d47_6 : decode jdk_52_method_15_code 6 = .ok (.iushr, 1) := by decide +kernel
theorem d47_7 : decode jdk_52_method_15_code 7 = .ok (.i2b, 1) := by decide +kernel
theorem d47_8 : decode jdk_52_method_15_code 8 = .ok (.ireturn, 1) := by decide +kernel
def Q_rmCf_2 (Z : State) (r0 : Addr) (kb : ClassId) (v0 : Int32) (v1 : Int32) (h0 : Heap) (n0 : Nat) (v : Option Value) (h : Heap) (L : List Loc) : Prop := v = some (.int (own_cfa2 r0 kb v0 v1)) ∧ Fr n0 L ∧ h = h0
theorem ef_rmCf_2 (m : MethodId) (x0 : Addr) (x1 : Int32) : entryFrame m #[(.ref x0), (.int x1)] 2 = mkF m 0 #[.val (.ref x0), .val (.int x1)] [] := by first | (simp [entryFrame, mkF, argsToLocals, Value.category]; done) | rfl
theorem pn_rmCf_2 : plainName "java/lang/StringUTF16" = true := by first | (simp [plainName, overriddenIn]; done) | decide +kernel
set_option maxRecDepth 65536 in
set_option maxHeartbeats 40000000 in
theorem rmCf_2 (l : Launch) (Z : State) (a0 : Array Value) (hw : ∀ d ∈ tables_1, d.before a0 Z = true) (ws : List Jvm.Cond) (r0 : Addr) (kb : ClassId) (v0 : Int32) (v1 : Int32) (h0 : Heap) (n0 : Nat) (Z0 : n0 ≤ h0.size) (hp0 : Arv Z h0 r0 kb .byte (2 : Int32) [(.int v0), (.int v1)] (.int (0 : Int32))) :
    MetFree l (⟨"java/lang/StringUTF16", "coderFromArrayLen", "([BI)B"⟩ : MethodName) (head1 (Jvm.Cond.code (⟨"java/lang/StringUTF16", "coderFromArrayLen", "([BI)B"⟩ : MethodName) jdk_52_method_15_code 2 (some .byte) :: ws) ({ frames := 0, cells := 0, slots := 0, locals := 0 } : Room)) (fun a U => a = #[(.ref r0), (.int (2 : Int32))] ∧ Z.Warmed39 U.vm ∧ U.heap = h0) (fun _ _ _ _ _ => True) (fun _ U o U' => ∃ v L, o = .returned v ∧ Q_rmCf_2 Z r0 kb v0 v1 h0 n0 v U'.heap L ∧ FrameEnd U o U' L ({ frames := 0, cells := 0, slots := 0, locals := 0 } : Room).cells ({ frames := 0, cells := 0, slots := 0, locals := 0 } : Room).slots) := by
  refine MetFree.of_bodySF (plainFor_of_name pn_rmCf_2) hisR ?_
  intro p e s m args below meth c s₁ Bd hml0 hP hK
  obtain ⟨rfl, hZ, hh⟩ := hP
  have hx := Bd.exec
  have hby := Bd.bytes
  have hml : c.maxLocals = 2 := hml0
  have hown : s.vm.findClass "java/lang/StringUTF16" = some m.cls := findClass_of_methodNamed Bd.named
  have hnm := (name_of_methodNamed Bd.named Bd.method).1
  have hlk : meth.locks = false := BodyLoose.notSynchronized Bd
  have X0 : Stand p l e ({ frames := 0, cells := 0, slots := 0, locals := 0 } : Room) s m #[(.ref r0), (.int (2 : Int32))] below meth c s₁ [] 0 0 := Stand.of_body Bd
  have e0 : s₁.heap = h0 := by rw [← hh, Bd.state]; rfl
  have N0 := Fr.nil n0
  show own_W p e below s (Q_rmCf_2 Z r0 kb v0 v1 h0 n0) 0 0 s₁ (entryFrame m #[(.ref r0), (.int (2 : Int32))] 2)
  skip
  skip
  refine own_go (T' := s₁) (g' := (mkF m 0 #[oa r0, oi 2] [])) (fun _ k => castTop (ef_rmCf_2 m r0 (2 : Int32)) k) ?_
  refine own_g s₁ (mkF m 2 #[oa r0, oi 2] [(.ref r0), (.int (2 : Int32))]) (fun _ k => XS.iloadN X0.here hx rfl (hb hby d47_0) rfl (XS.aloadN X0.here hx rfl (hb hby d47_1) rfl rfl k)) ?_
  obtain ⟨cl1, Ar1, q11, q21, q31, H1, G1⟩ := id hp0
  have st1 := X0.arraylength hx (by rw [e0]; exact Ar1.1) (State.isArrayOf_alike hZ.alike Ar1.2.1) (g := (mkF m 2 #[oa r0, oi 2] [(.ref r0), (.int (2 : Int32))])) rfl rfl (hb hby d47_2)
  rw [len_of q21 q31] at st1
  refine own_g s₁ (mkF m 8 #[oa r0, oi 2] [(.int ((((0 : Int32).toUInt32 >>> ((31 : Int32) &&& 31).toUInt32).toInt32).toInt8.toInt32))]) (fun _ k => st1 _ (XS.isub X0.here hx rfl (hb hby d47_3) rfl (XS.bipush X0.here hx rfl (hb hby d47_4) (XS.iushr X0.here hx rfl (hb hby d47_6) rfl (XT.i2b X0.here hx rfl (hb hby d47_7) rfl k))))) ?_
  exact own_retN X0 hx (t := .byte) Bd.returns hlk (by simp) (hb hby d47_8) e0 ⟨(by unfold own_cfa2; first | rfl | done), N0, rfl⟩ (by decide) (by decide)
theorem own_pd24 : parseMethodDescriptor "([CII)[B" = some ⟨[(.array .char), .int, .int], some (.array .byte)⟩ := by decide +kernel
theorem own_pd25 : parseMethodDescriptor "([BI)B" = some ⟨[(.array .byte), .int], some .byte⟩ := by decide +kernel
theorem d44_27 : decode jdk_42_method_149_code 27 = .ok (.getstatic 38, 3) := by decide +kernel
theorem d44_30 : decode jdk_42_method_149_code 30 = .ok (.ifCond .eq 28, 3) := by decide +kernel
theorem d44_33 : decode jdk_42_method_149_code 33 = .ok (.aload_n 1, 1) := by decide +kernel
theorem d44_34 : decode jdk_42_method_149_code 34 = .ok (.iload_n 2, 1) := by decide +kernel
theorem d44_35 : decode jdk_42_method_149_code 35 = .ok (.iload_n 3, 1) := by decide +kernel
theorem d44_36 : decode jdk_42_method_149_code 36 = .ok (.invokestatic 177, 3) := by decide +kernel
theorem d44_39 : decode jdk_42_method_149_code 39 = .ok (.astore 5, 2) := by decide +kernel
theorem d44_41 : decode jdk_42_method_149_code 41 = .ok (.aload_n 0, 1) := by decide +kernel
theorem d44_42 : decode jdk_42_method_149_code 42 = .ok (.aload 5, 2) := by decide +kernel
theorem d44_44 : decode jdk_42_method_149_code 44 = .ok (.iload_n 3, 1) := by decide +kernel
theorem d44_45 : decode jdk_42_method_149_code 45 = .ok (.invokestatic 47, 3) := by decide +kernel
theorem d44_48 : decode jdk_42_method_149_code 48 = .ok (.putfield 15, 3) := by decide +kernel
theorem d44_51 : decode jdk_42_method_149_code 51 = .ok (.aload_n 0, 1) := by decide +kernel
theorem d44_52 : decode jdk_42_method_149_code 52 = .ok (.aload 5, 2) := by decide +kernel
theorem d44_54 : decode jdk_42_method_149_code 54 = .ok (.putfield 9, 3) := by decide +kernel
theorem d44_57 : decode jdk_42_method_149_code 57 = .ok (.return_, 1) := by decide +kernel
def Q_rmS4_2 (Z : State) (r0 : Addr) (r1 : Addr) (kc : ClassId) (c0_ : Int32) (c1_ : Int32) (cs : Int32) (h0 : Heap) (n0 : Nat) (v : Option Value) (h : Heap) (L : List Loc) : Prop := ∃ (xb : Addr) (xk : ClassId), v = none ∧ Fr n0 L ∧ Keep h0 h [r0] ∧ h0.size ≤ xb ∧ Fld Z h r0 "java/lang/String" "value" "[B" (.ref xb) ∧ Fld Z h r0 "java/lang/String" "coder" "B" (.int (0 : Int32)) ∧ Arv Z h xb xk .byte (2 : Int32) [(.int (nar .byte (c0_.toInt8.toInt32))), (.int (nar .byte (c1_.toInt8.toInt32)))] (.int (0 : Int32))
theorem ef_rmS4_2 (m : MethodId) (x0 : Addr) (x1 : Addr) (x2 : Int32) (x3 : Int32) : entryFrame m #[(.ref x0), (.ref x1), (.int x2), (.int x3), .null] 6 = mkF m 0 #[.val (.ref x0), .val (.ref x1), .val (.int x2), .val (.int x3), .val .null, .unset] [] := by first | (simp [entryFrame, mkF, argsToLocals, Value.category]; done) | rfl
theorem pn_rmS4_2 : plainName "java/lang/String" = true := by first | (simp [plainName, overriddenIn]; done) | decide +kernel
set_option maxRecDepth 65536 in
set_option maxHeartbeats 40000000 in
theorem rmS4_2 (l : Launch) (Z : State) (a0 : Array Value) (hw : ∀ d ∈ tables_1, d.before a0 Z = true) (ws : List Jvm.Cond) (r0 : Addr) (r1 : Addr) (kc : ClassId) (c0_ : Int32) (c1_ : Int32) (cs : Int32) (h0 : Heap) (n0 : Nat) (Z0 : n0 ≤ h0.size) (hp0 : Exa Z h0 r0 "java/lang/String") (hp1 : n0 ≤ r0) (hp2 : Fld Z h0 r0 "java/lang/String" "value" "[B" .null) (hp3 : Fld Z h0 r0 "java/lang/String" "coder" "B" (.int (0 : Int32))) (hp4 : Arv Z h0 r1 kc .char (2 : Int32) [(.int c0_), (.int c1_)] (.int (0 : Int32))) (hp5 : Sta Z h0 "java/lang/String" "COMPACT_STRINGS" "Z" (.int cs)) (hh0 : ¬ cs = (0 : Int32)) (hh1 : ¬ (255 : Int32) < c0_) (hh2 : ¬ (255 : Int32) < c1_) :
    MetFree l (⟨"java/lang/String", "<init>", "([CIILjava/lang/Void;)V"⟩ : MethodName) (head1 (Jvm.Cond.code (⟨"java/lang/String", "<init>", "([CIILjava/lang/Void;)V"⟩ : MethodName) jdk_42_method_149_code 6 none :: ws) ({ frames := 2, cells := 1, slots := 2, locals := 60 } : Room)) (fun a U => a = #[(.ref r0), (.ref r1), (.int (0 : Int32)), (.int (2 : Int32)), .null] ∧ Z.Warmed39 U.vm ∧ U.heap = h0) (fun _ _ _ _ _ => True) (fun _ U o U' => ∃ v L, o = .returned v ∧ Q_rmS4_2 Z r0 r1 kc c0_ c1_ cs h0 n0 v U'.heap L ∧ FrameEnd U o U' L ({ frames := 2, cells := 1, slots := 2, locals := 60 } : Room).cells ({ frames := 2, cells := 1, slots := 2, locals := 60 } : Room).slots) := by
  refine MetFree.of_bodySF (plainFor_of_name pn_rmS4_2) hisR ?_
  intro p e s m args below meth c s₁ Bd hml0 hP hK
  obtain ⟨rfl, hZ, hh⟩ := hP
  have hx := Bd.exec
  have hby := Bd.bytes
  have hml : c.maxLocals = 6 := hml0
  have hown : s.vm.findClass "java/lang/String" = some m.cls := findClass_of_methodNamed Bd.named
  have hnm := (name_of_methodNamed Bd.named Bd.method).1
  have hlk : meth.locks = false := BodyLoose.notSynchronized Bd
  have X0 : Stand p l e ({ frames := 2, cells := 1, slots := 2, locals := 60 } : Room) s m #[(.ref r0), (.ref r1), (.int (0 : Int32)), (.int (2 : Int32)), .null] below meth c s₁ [] 0 0 := Stand.of_body Bd
  have e0 : s₁.heap = h0 := by rw [← hh, Bd.state]; rfl
  have N0 := Fr.nil n0
  show own_W p e below s (Q_rmS4_2 Z r0 r1 kc c0_ c1_ cs h0 n0) 1 2 s₁ (entryFrame m #[(.ref r0), (.ref r1), (.int (0 : Int32)), (.int (2 : Int32)), .null] 6)
  skip
  skip
  refine own_go (T' := s₁) (g' := (mkF m 0 #[oa r0, oa r1, oi 0, oi 2, .val .null, .unset] [])) (fun _ k => castTop (ef_rmS4_2 m r0 r1 (0 : Int32) (2 : Int32)) k) ?_
  refine own_g s₁ (mkF m 1 #[oa r0, oa r1, oi 0, oi 2, .val .null, .unset] [(.ref r0)]) (fun _ k => XS.aloadN X0.here hx rfl (hb hby d44_0) rfl rfl k) ?_
  obtain ⟨T1, X1, e1, st1⟩ := initO X0 hx hZ hown (own_w hw 23 rfl) (own_w hw 24 rfl) (own_w hw 25 rfl) e0 (g := (mkF m 1 #[oa r0, oa r1, oi 0, oi 2, .val .null, .unset] [(.ref r0)])) rfl (by rw [hml]; rfl) rfl (hb hby d44_1) (by decide) (W := 0) (Nat.le_of_eq rfl) (by decide)
  refine own_g T1 (mkF m 27 #[oa r0, oa r1, oi 0, oi 2, .val .null, .unset] []) (fun _ k => st1 _ (XS.iloadN X1.here hx rfl (hb hby d44_4) rfl (XS.ifYes X1.here hx rfl (pc0 := 5) (pc' := 27) rfl (hb hby d44_5) rfl (XT.i0_ne_t (by decide : ¬ ((2 : Int32) = (0 : Int32)))) (by decide) (by decide) k))) ?_
  obtain ⟨T2, X2, e2, st2⟩ := getS2 X1 hx hZ hown (host := "") (Or.inl (own_w hw 8 rfl)) Via.refl e1 hp5 (g := (mkF m 27 #[oa r0, oa r1, oi 0, oi 2, .val .null, .unset] [])) rfl (hb hby d44_27)
  refine own_g T2 (mkF m 36 #[oa r0, oa r1, oi 0, oi 2, .val .null, .unset] [(.int (2 : Int32)), (.int (0 : Int32)), (.ref r1)]) (fun _ k => st2 _ (XS.ifNo X2.here hx rfl (hb hby d44_30) rfl (XT.i0_eq_f hh0) (XS.aloadN X2.here hx rfl (hb hby d44_33) rfl rfl (XS.iloadN X2.here hx rfl (hb hby d44_34) rfl (XS.iloadN X2.here hx rfl (hb hby d44_35) rfl k))))) ?_
  obtain ⟨_, _, ⟨T3, L3, k3, n3⟩, -, X3, ⟨Lc3, hQ3, l3, y3, z3⟩, st3⟩ := Jvm.LawKit.callS X2 hx (y := (⟨"java/lang/StringUTF16", "compress", "([CII)[B"⟩ : MethodName)) hown (mvT hZ (own_w hw 228 rfl)) (mvT hZ (own_w hw 229 rfl)) (mvT hZ (own_w hw 230 rfl)) (mvT hZ (own_w hw 231 rfl)) (by decide) (backOf (W := 0) (rmC3_2 l Z a0 hw [] r1 kc c0_ c1_ h0 n0 Z0 hp4 hh1 hh2) hZ (own_w hw 231 rfl) (own_w hw 230 rfl) (by decide) (by decide)) (g := (mkF m 36 #[oa r0, oa r1, oi 0, oi 2, .val .null, .unset] [(.int (2 : Int32)), (.int (0 : Int32)), (.ref r1)])) rfl (by rw [hml]; rfl) (argsL := [(.ref r1), (.int (0 : Int32)), (.int (2 : Int32))]) (rest := []) (lenOf own_pd24 rfl) rfl (Nat.le_of_eq rfl) (hb hby d44_36) (fun _ _ => ⟨rfl, e2, (by decide : 0 + 1 ≤ _), (by decide : 0 + 2 ≤ _)⟩)
  dsimp only [Pt.U, Pt.locs, Pt.cells, Pt.slots] at X3 l3 y3 z3 st3 hQ3
  subst l3 y3 z3
  obtain ⟨xb_3, xk_3, rfl, N3q, K3, po4, po5⟩ := hQ3
  have f6 := (hp0.keep K3)
  have f7 := (hp2.keep K3 nin0)
  have f8 := (hp3.keep K3 nin0)
  have f9 := (hp4.keep K3 nin0)
  have f10 := (own_sta_keep hp5 K3 ns0)
  have ne11 : r0 ≠ xb_3 := Nat.ne_of_lt (Nat.lt_of_lt_of_le hp0.lt po4)
  have ne12 : r1 ≠ xb_3 := Nat.ne_of_lt (Nat.lt_of_lt_of_le hp4.lt po4)
  have ge13 : n0 ≤ xb_3 := Nat.le_trans Z0 po4
  have sz14 : h0.size ≤ xb_3 := Nat.le_trans (Keep.refl h0 [r0]).1 po4
  have zs3 : n0 ≤ T3.heap.size := Nat.le_trans Z0 K3.1
  have kk3 : Keep h0 T3.heap [r0] := (Keep.refl h0 [r0]).trans K3 all0
  have N3 := Fr.app N0 N3q
  obtain ⟨Lv3, X3, N3⟩ := own_hide X3 (Nat.le_refl 1) (Nat.le_refl 2) N3
  refine own_g T3 (mkF m 45 #[oa r0, oa r1, oi 0, oi 2, .val .null, oa xb_3] [(.int (2 : Int32)), (.ref xb_3), (.ref r0)]) (fun _ k => st3 _ (XS.astore X3.here hx rfl (hb hby d44_39) rfl rfl (l' := #[oa r0, oa r1, oi 0, oi 2, .val .null, oa xb_3]) rfl (XS.aloadN X3.here hx rfl (hb hby d44_41) rfl rfl (XS.aload X3.here hx rfl (hb hby d44_42) rfl rfl (XS.iloadN X3.here hx rfl (hb hby d44_44) rfl k))))) ?_
  obtain ⟨_, _, ⟨T15, L15, k15, n15⟩, -, X15, ⟨Lc15, hQ15, l15, y15, z15⟩, st15⟩ := Jvm.LawKit.callS X3 hx (y := (⟨"java/lang/StringUTF16", "coderFromArrayLen", "([BI)B"⟩ : MethodName)) hown (mvT hZ (own_w hw 235 rfl)) (mvT hZ (own_w hw 236 rfl)) (mvT hZ (own_w hw 230 rfl)) (mvT hZ (own_w hw 237 rfl)) (by decide) (backOf (W := 1) (rmCf_2 l Z a0 hw [] xb_3 xk_3 (nar .byte (c0_.toInt8.toInt32)) (nar .byte (c1_.toInt8.toInt32)) T3.heap n0 zs3 po5) hZ (own_w hw 237 rfl) (own_w hw 230 rfl) (by decide) (by decide)) (g := (mkF m 45 #[oa r0, oa r1, oi 0, oi 2, .val .null, oa xb_3] [(.int (2 : Int32)), (.ref xb_3), (.ref r0)])) rfl (by rw [hml]; rfl) (argsL := [(.ref xb_3), (.int (2 : Int32))]) (rest := [(.ref r0)]) (lenOf own_pd25 rfl) rfl (Nat.le_of_eq rfl) (hb hby d44_45) (fun _ _ => ⟨rfl, rfl, (by decide : 1 + 0 ≤ _), (by decide : 2 + 0 ≤ _)⟩)
  dsimp only [Pt.U, Pt.locs, Pt.cells, Pt.slots] at X15 l15 y15 z15 st15 hQ15
  subst l15 y15 z15
  obtain ⟨rfl, N15q, e15⟩ := hQ15
  have N15 := Fr.app N3 N15q
  obtain ⟨Lv15, X15, N15⟩ := own_hide X15 (Nat.le_refl 1) (Nat.le_refl 2) N15
  refine own_g T15 (mkF m 48 #[oa r0, oa r1, oi 0, oi 2, .val .null, oa xb_3] [(.int (own_cfa2 xb_3 xk_3 (nar .byte (c0_.toInt8.toInt32)) (nar .byte (c1_.toInt8.toInt32)))), (.ref r0)]) (fun _ k => st15 _ k) ?_
  obtain ⟨T16, h16, X16, e16, W16, st16⟩ := putFN X15 hx hZ hown (own_w hw 28 rfl) Via.refl e15 f8 f6 (Or.inr ⟨(own_w hw 29 rfl), rfl, hnm⟩) (own_w hw 14 rfl) (ty := .byte) (v' := (.int (nar .byte (own_cfa2 xb_3 xk_3 (nar .byte (c0_.toInt8.toInt32)) (nar .byte (c1_.toInt8.toInt32)))))) (by decide) rfl (fits_nar_byte _) (g := (mkF m 48 #[oa r0, oa r1, oi 0, oi 2, .val .null, oa xb_3] [(.int (own_cfa2 xb_3 xk_3 (nar .byte (c0_.toInt8.toInt32)) (nar .byte (c1_.toInt8.toInt32)))), (.ref r0)])) rfl rfl (hb hby d44_48)
  have f17 := (f6.wr W16)
  have f18 := (f7.other W16 (Or.inr (slot_ne (Or.inr (own_w hw 27 rfl)) (Or.inr (own_w hw 29 rfl)) (by decide) (t := (.array .byte)) (t' := .byte) (by decide) (by decide))))
  have f19 := (f10.wr W16)
  have f20 := (po5.other W16 (Ne.symm ne11))
  have fw16 : Fld Z h16 r0 "java/lang/String" "coder" "B" (.int (nar .byte (own_cfa2 xb_3 xk_3 (nar .byte (c0_.toInt8.toInt32)) (nar .byte (c1_.toInt8.toInt32))))) := f8.same W16
  have N16 := Fr.snoc X16 N15 hp1
  have zs16 : n0 ≤ h16.size := by rw [W16.size]; exact zs3
  have kk16 : Keep h0 h16 [r0] := kk3.wr W16 (Or.inl (List.mem_of_getElem? (i := 0) rfl))
  refine own_g T16 (mkF m 51 #[oa r0, oa r1, oi 0, oi 2, .val .null, oa xb_3] []) (fun _ k => st16 _ k) ?_
  have fr21 : Fld Z h16 r0 "java/lang/String" "coder" "B" (.int (0 : Int32)) := (show ((nar .byte (own_cfa2 xb_3 xk_3 (nar .byte (c0_.toInt8.toInt32)) (nar .byte (c1_.toInt8.toInt32)))) : Int32) = (0 : Int32) from (by unfold own_cfa2; decide)) ▸ fw16
  refine own_g T16 (mkF m 54 #[oa r0, oa r1, oi 0, oi 2, .val .null, oa xb_3] [(.ref xb_3), (.ref r0)]) (fun _ k => XS.aloadN X16.here hx rfl (hb hby d44_51) rfl rfl (XS.aload X16.here hx rfl (hb hby d44_52) rfl rfl k)) ?_
  obtain ⟨T22, h22, X22, e22, W22, st22⟩ := putF X16 hx hZ hown (host := "") (Or.inl (own_w hw 26 rfl)) Via.refl e16 f18 f17 (Or.inr ⟨(own_w hw 27 rfl), rfl, hnm⟩) (own_w hw 14 rfl) (ty := (.array .byte)) (by decide) rfl rfl (g := (mkF m 54 #[oa r0, oa r1, oi 0, oi 2, .val .null, oa xb_3] [(.ref xb_3), (.ref r0)])) rfl rfl (hb hby d44_54)
  have f23 := (f17.wr W22)
  have f24 := (f19.wr W22)
  have f25 := (f20.other W22 (Ne.symm ne11))
  have f26 := (fr21.other W22 (Or.inr (slot_ne (Or.inr (own_w hw 29 rfl)) (Or.inr (own_w hw 27 rfl)) (by decide) (t := .byte) (t' := (.array .byte)) (by decide) (by decide))))
  have fw22 : Fld Z h22 r0 "java/lang/String" "value" "[B" (.ref xb_3) := f18.same W22
  have N22 := Fr.snoc X22 N16 hp1
  have zs22 : n0 ≤ h22.size := by rw [W22.size]; exact zs16
  have kk22 : Keep h0 h22 [r0] := kk16.wr W22 (Or.inl (List.mem_of_getElem? (i := 0) rfl))
  refine own_g T22 (mkF m 57 #[oa r0, oa r1, oi 0, oi 2, .val .null, oa xb_3] []) (fun _ k => st22 _ k) ?_
  exact own_ret0 X22 hx Bd.returns hlk (hb hby d44_57) e22 ⟨xb_3, xk_3, rfl, N22, kk22, sz14, fw22, f26, f25⟩ (by decide) (by decide)
def Q_rmS1_2 (Z : State) (r0 : Addr) (r1 : Addr) (kc : ClassId) (c0_ : Int32) (c1_ : Int32) (cs : Int32) (h0 : Heap) (n0 : Nat) (v : Option Value) (h : Heap) (L : List Loc) : Prop := ∃ (xb : Addr) (xk : ClassId), v = none ∧ Fr n0 L ∧ Keep h0 h [r0] ∧ h0.size ≤ xb ∧ Fld Z h r0 "java/lang/String" "value" "[B" (.ref xb) ∧ Fld Z h r0 "java/lang/String" "coder" "B" (.int (0 : Int32)) ∧ Arv Z h xb xk .byte (2 : Int32) [(.int (nar .byte (c0_.toInt8.toInt32))), (.int (nar .byte (c1_.toInt8.toInt32)))] (.int (0 : Int32))
theorem ef_rmS1_2 (m : MethodId) (x0 : Addr) (x1 : Addr) : entryFrame m #[(.ref x0), (.ref x1)] 2 = mkF m 0 #[.val (.ref x0), .val (.ref x1)] [] := by first | (simp [entryFrame, mkF, argsToLocals, Value.category]; done) | rfl
theorem pn_rmS1_2 : plainName "java/lang/String" = true := by first | (simp [plainName, overriddenIn]; done) | decide +kernel
set_option maxRecDepth 65536 in
set_option maxHeartbeats 40000000 in
theorem rmS1_2 (l : Launch) (Z : State) (a0 : Array Value) (hw : ∀ d ∈ tables_1, d.before a0 Z = true) (ws : List Jvm.Cond) (r0 : Addr) (r1 : Addr) (kc : ClassId) (c0_ : Int32) (c1_ : Int32) (cs : Int32) (h0 : Heap) (n0 : Nat) (Z0 : n0 ≤ h0.size) (hp0 : Exa Z h0 r0 "java/lang/String") (hp1 : n0 ≤ r0) (hp2 : Fld Z h0 r0 "java/lang/String" "value" "[B" .null) (hp3 : Fld Z h0 r0 "java/lang/String" "coder" "B" (.int (0 : Int32))) (hp4 : Arv Z h0 r1 kc .char (2 : Int32) [(.int c0_), (.int c1_)] (.int (0 : Int32))) (hp5 : Sta Z h0 "java/lang/String" "COMPACT_STRINGS" "Z" (.int cs)) (hh0 : ¬ cs = (0 : Int32)) (hh1 : ¬ (255 : Int32) < c0_) (hh2 : ¬ (255 : Int32) < c1_) :
    MetFree l (⟨"java/lang/String", "<init>", "([C)V"⟩ : MethodName) (head1 (Jvm.Cond.code (⟨"java/lang/String", "<init>", "([C)V"⟩ : MethodName) jdk_42_method_3_code 2 none :: ws) ({ frames := 3, cells := 1, slots := 2, locals := 80 } : Room)) (fun a U => a = #[(.ref r0), (.ref r1)] ∧ Z.Warmed39 U.vm ∧ U.heap = h0) (fun _ _ _ _ _ => True) (fun _ U o U' => ∃ v L, o = .returned v ∧ Q_rmS1_2 Z r0 r1 kc c0_ c1_ cs h0 n0 v U'.heap L ∧ FrameEnd U o U' L ({ frames := 3, cells := 1, slots := 2, locals := 80 } : Room).cells ({ frames := 3, cells := 1, slots := 2, locals := 80 } : Room).slots) := by
  refine MetFree.of_bodySF (plainFor_of_name pn_rmS1_2) hisR ?_
  intro p e s m args below meth c s₁ Bd hml0 hP hK
  obtain ⟨rfl, hZ, hh⟩ := hP
  have hx := Bd.exec
  have hby := Bd.bytes
  have hml : c.maxLocals = 2 := hml0
  have hown : s.vm.findClass "java/lang/String" = some m.cls := findClass_of_methodNamed Bd.named
  have hnm := (name_of_methodNamed Bd.named Bd.method).1
  have hlk : meth.locks = false := BodyLoose.notSynchronized Bd
  have X0 : Stand p l e ({ frames := 3, cells := 1, slots := 2, locals := 80 } : Room) s m #[(.ref r0), (.ref r1)] below meth c s₁ [] 0 0 := Stand.of_body Bd
  have e0 : s₁.heap = h0 := by rw [← hh, Bd.state]; rfl
  have N0 := Fr.nil n0
  show own_W p e below s (Q_rmS1_2 Z r0 r1 kc c0_ c1_ cs h0 n0) 1 2 s₁ (entryFrame m #[(.ref r0), (.ref r1)] 2)
  skip
  skip
  refine own_go (T' := s₁) (g' := (mkF m 0 #[oa r0, oa r1] [])) (fun _ k => castTop (ef_rmS1_2 m r0 r1) k) ?_
  refine own_g s₁ (mkF m 4 #[oa r0, oa r1] [(.ref r1), (.int (0 : Int32)), (.ref r1), (.ref r0)]) (fun _ k => XS.aloadN X0.here hx rfl (hb hby d43_0) rfl rfl (XS.aloadN X0.here hx rfl (hb hby d43_1) rfl rfl (XS.iconst X0.here hx rfl (hb hby d43_2) (XS.aloadN X0.here hx rfl (hb hby d43_3) rfl rfl k)))) ?_
  obtain ⟨cl1, Ar1, q11, q21, q31, H1, G1⟩ := id hp4
  have st1 := X0.arraylength hx (by rw [e0]; exact Ar1.1) (State.isArrayOf_alike hZ.alike Ar1.2.1) (g := (mkF m 4 #[oa r0, oa r1] [(.ref r1), (.int (0 : Int32)), (.ref r1), (.ref r0)])) rfl rfl (hb hby d43_4)
  rw [len_of q21 q31] at st1
  refine own_g s₁ (mkF m 6 #[oa r0, oa r1] [.null, (.int (2 : Int32)), (.int (0 : Int32)), (.ref r1), (.ref r0)]) (fun _ k => st1 _ (XS.aconstNull X0.here hx rfl (hb hby d43_5) k)) ?_
  obtain ⟨_, _, ⟨T2, L2, k2, n2⟩, -, X2, ⟨Lc2, hQ2, l2, y2, z2⟩, st2⟩ := X0.specialBack hx (y := (⟨"java/lang/String", "<init>", "([CIILjava/lang/Void;)V"⟩ : MethodName)) rfl hown (mvT hZ (own_w hw 225 rfl)) (mvT hZ (own_w hw 226 rfl)) (mvT hZ (own_w hw 227 rfl)) (by decide) (backOf (W := 0) (rmS4_2 l Z a0 hw [] r0 r1 kc c0_ c1_ cs h0 n0 Z0 hp0 hp1 hp2 hp3 hp4 hp5 hh0 hh1 hh2) hZ (own_w hw 227 rfl) (own_w hw 6 rfl) (by decide) (by decide)) (g := (mkF m 6 #[oa r0, oa r1] [.null, (.int (2 : Int32)), (.int (0 : Int32)), (.ref r1), (.ref r0)])) rfl (by rw [hml]; rfl) (Steps.refl _) (a := r0) (argsL := [(.ref r1), (.int (0 : Int32)), (.int (2 : Int32)), .null]) (rest := []) (lenOf own_pd19 rfl) rfl (Nat.le_of_eq rfl) (hb hby d43_6) (fun _ _ => ⟨rfl, e0, (by decide : 0 + 1 ≤ _), (by decide : 0 + 2 ≤ _)⟩)
  dsimp only [Pt.U, Pt.locs, Pt.cells, Pt.slots] at X2 l2 y2 z2 st2 hQ2
  subst l2 y2 z2
  obtain ⟨xb_2, xk_2, rfl, N2q, K2, po3, po4, po5, po6⟩ := hQ2
  have f7 := (hp0.keep K2)
  have f8 := (own_sta_keep hp5 K2 (nsS hp0.nostat ns0))
  have ne9 : r0 ≠ xb_2 := Nat.ne_of_lt (Nat.lt_of_lt_of_le hp0.lt po3)
  have ne10 : r1 ≠ xb_2 := Nat.ne_of_lt (Nat.lt_of_lt_of_le hp4.lt po3)
  have ge11 : n0 ≤ xb_2 := Nat.le_trans Z0 po3
  have sz12 : h0.size ≤ xb_2 := Nat.le_trans (Keep.refl h0 [r0]).1 po3
  have zs2 : n0 ≤ T2.heap.size := Nat.le_trans Z0 K2.1
  have kk2 : Keep h0 T2.heap [r0] := (Keep.refl h0 [r0]).trans K2 (allS (Or.inl (List.mem_of_getElem? (i := 0) rfl)) all0)
  have N2 := Fr.app N0 N2q
  obtain ⟨Lv2, X2, N2⟩ := own_hide X2 (Nat.le_refl 1) (Nat.le_refl 2) N2
  refine own_g T2 (mkF m 9 #[oa r0, oa r1] []) (fun _ k => st2.trans k) ?_
  exact own_ret0 X2 hx Bd.returns hlk (hb hby d43_9) rfl ⟨xb_2, xk_2, rfl, N2, kk2, sz12, po4, po5, po6⟩ (by decide) (by decide)
def Q_rmC5_3 (Z : State) (r0 : Addr) (r2 : Addr) (kc : ClassId) (c0_ : Int32) (c1_ : Int32) (c2_ : Int32) (kb : ClassId) (h0 : Heap) (n0 : Nat) (v : Option Value) (h : Heap) (L : List Loc) : Prop := v = some (.int (3 : Int32)) ∧ Fr n0 L ∧ Keep h0 h [r2] ∧ Arv Z h r2 kb .byte (3 : Int32) [(.int (nar .byte (c0_.toInt8.toInt32))), (.int (nar .byte (c1_.toInt8.toInt32))), (.int (nar .byte (c2_.toInt8.toInt32)))] (.int (0 : Int32))
theorem ef_rmC5_3 (m : MethodId) (x0 : Addr) (x1 : Int32) (x2 : Addr) (x3 : Int32) (x4 : Int32) : entryFrame m #[(.ref x0), (.int x1), (.ref x2), (.int x3), (.int x4)] 7 = mkF m 0 #[.val (.ref x0), .val (.int x1), .val (.ref x2), .val (.int x3), .val (.int x4), .unset, .unset] [] := by first | (simp [entryFrame, mkF, argsToLocals, Value.category]; done) | rfl
theorem pn_rmC5_3 : plainName "java/lang/StringUTF16" = true := by first | (simp [plainName, overriddenIn]; done) | decide +kernel
set_option maxRecDepth 65536 in
set_option maxHeartbeats 40000000 in
theorem rmC5_3 (l : Launch) (Z : State) (a0 : Array Value) (hw : ∀ d ∈ tables_1, d.before a0 Z = true) (ws : List Jvm.Cond) (r0 : Addr) (r2 : Addr) (kc : ClassId) (c0_ : Int32) (c1_ : Int32) (c2_ : Int32) (kb : ClassId) (h0 : Heap) (n0 : Nat) (Z0 : n0 ≤ h0.size) (hp0 : Arv Z h0 r0 kc .char (3 : Int32) [(.int c0_), (.int c1_), (.int c2_)] (.int (0 : Int32))) (hp1 : Arv Z h0 r2 kb .byte (3 : Int32) [(.int (0 : Int32)), (.int (0 : Int32)), (.int (0 : Int32))] (.int (0 : Int32))) (hp2 : n0 ≤ r2) (hp3 : r0 ≠ r2) (hh0 : ¬ (255 : Int32) < c0_) (hh1 : ¬ (255 : Int32) < c1_) (hh2 : ¬ (255 : Int32) < c2_) :
    MetFree l (⟨"java/lang/StringUTF16", "compress", "([CI[BII)I"⟩ : MethodName) (head1 (Jvm.Cond.code (⟨"java/lang/StringUTF16", "compress", "([CI[BII)I"⟩ : MethodName) jdk_52_method_21_code 7 (some .int) :: ws) ({ frames := 0, cells := 0, slots := 0, locals := 0 } : Room)) (fun a U => a = #[(.ref r0), (.int (0 : Int32)), (.ref r2), (.int (0 : Int32)), (.int (3 : Int32))] ∧ Z.Warmed39 U.vm ∧ U.heap = h0) (fun _ _ _ _ _ => True) (fun _ U o U' => ∃ v L, o = .returned v ∧ Q_rmC5_3 Z r0 r2 kc c0_ c1_ c2_ kb h0 n0 v U'.heap L ∧ FrameEnd U o U' L ({ frames := 0, cells := 0, slots := 0, locals := 0 } : Room).cells ({ frames := 0, cells := 0, slots := 0, locals := 0 } : Room).slots) := by
  refine MetFree.of_bodySF (plainFor_of_name pn_rmC5_3) hisR ?_
  intro p e s m args below meth c s₁ Bd hml0 hP hK
  obtain ⟨rfl, hZ, hh⟩ := hP
  have hx := Bd.exec
  have hby := Bd.bytes
  have hml : c.maxLocals = 7 := hml0
  have hown : s.vm.findClass "java/lang/StringUTF16" = some m.cls := findClass_of_methodNamed Bd.named
  have hnm := (name_of_methodNamed Bd.named Bd.method).1
  have hlk : meth.locks = false := BodyLoose.notSynchronized Bd
  have X0 : Stand p l e ({ frames := 0, cells := 0, slots := 0, locals := 0 } : Room) s m #[(.ref r0), (.int (0 : Int32)), (.ref r2), (.int (0 : Int32)), (.int (3 : Int32))] below meth c s₁ [] 0 0 := Stand.of_body Bd
  have e0 : s₁.heap = h0 := by rw [← hh, Bd.state]; rfl
  have N0 := Fr.nil n0
  show own_W p e below s (Q_rmC5_3 Z r0 r2 kc c0_ c1_ c2_ kb h0 n0) 0 0 s₁ (entryFrame m #[(.ref r0), (.int (0 : Int32)), (.ref r2), (.int (0 : Int32)), (.int (3 : Int32))] 7)
  skip
  skip
  refine own_go (T' := s₁) (g' := (mkF m 0 #[oa r0, oi 0, oa r2, oi 0, oi 3, .unset, .unset] [])) (fun _ k => castTop (ef_rmC5_3 m r0 (0 : Int32) r2 (0 : Int32) (3 : Int32)) k) ?_
  refine own_g s₁ (mkF m 12 #[oa r0, oi 0, oa r2, oi 0, oi 3, oi 0, .unset] [(.int (0 : Int32)), (.ref r0)]) (fun _ k => XS.iconst X0.here hx rfl (hb hby d46_0) (XS.istore X0.here hx rfl (hb hby d46_1) rfl (l' := #[oa r0, oi 0, oa r2, oi 0, oi 3, oi 0, .unset]) rfl (XS.iload X0.here hx rfl (hb hby d46_3) rfl (XS.iload X0.here hx rfl (hb hby d46_5) rfl (XS.icmpNo X0.here hx rfl (hb hby d46_7) rfl (XT.ii_ge_f (by decide : (0 : Int32) < (3 : Int32))) (XS.aloadN X0.here hx rfl (hb hby d46_10) rfl rfl (XS.iloadN X0.here hx rfl (hb hby d46_11) rfl k))))))) ?_
  obtain ⟨cl1, Ar1, q11, q21, q31, H1, G1⟩ := id hp0
  have hin1 := inb_of q21 (j := (0 : Int32)) (by decide)
  refine own_g s₁ (mkF m 30 #[oa r0, oi 0, oa r2, oi 0, oi 3, oi 0, oi c0_] [(.int c0_), (.int (0 : Int32)), (.ref r2)]) (fun _ k => X0.caload hx (j := (0 : Int32)) (v := (.int c0_)) (by rw [e0]; exact Ar1.1) (State.isArrayOf_alike hZ.alike Ar1.2.1) Ar1.2.2 hin1 (Has.at H1 hin1 rfl) (g := (mkF m 12 #[oa r0, oi 0, oa r2, oi 0, oi 3, oi 0, .unset] [(.int (0 : Int32)), (.ref r0)])) rfl rfl (hb hby d46_12) _ (XS.istore X0.here hx rfl (hb hby d46_13) rfl (l' := #[oa r0, oi 0, oa r2, oi 0, oi 3, oi 0, oi c0_]) rfl (XS.iload X0.here hx rfl (hb hby d46_15) rfl (XS.sipush X0.here hx rfl (hb hby d46_17) (XS.icmpYes X0.here hx rfl (pc0 := 20) (pc' := 26) rfl (hb hby d46_20) rfl (XT.ii_le_t hh0) (by decide) (by decide) (XS.aloadN X0.here hx rfl (hb hby d46_26) rfl rfl (XS.iloadN X0.here hx rfl (hb hby d46_27) rfl (XS.iload X0.here hx rfl (hb hby d46_28) rfl k)))))))) ?_
  refine own_g s₁ (mkF m 31 #[oa r0, oi 0, oa r2, oi 0, oi 3, oi 0, oi c0_] [(.int (c0_.toInt8.toInt32)), (.int (0 : Int32)), (.ref r2)]) (fun _ k => XT.i2b X0.here hx rfl (hb hby d46_30) rfl k) ?_
  obtain ⟨cl2, Ar2, q12, q22, q32, H2, G2⟩ := id hp1
  have hin2 := inb_of q22 (j := (0 : Int32)) (by decide)
  obtain ⟨T2, h2, X2, e2, W2, st2⟩ := stB X0 hx hZ e0 Ar2 (j := (0 : Int32)) hin2 (g := (mkF m 31 #[oa r0, oi 0, oa r2, oi 0, oi 3, oi 0, oi c0_] [(.int (c0_.toInt8.toInt32)), (.int (0 : Int32)), (.ref r2)])) rfl rfl (hb hby d46_31)
  have f3 := (hp0.other W2 hp3)
  have V2 : Arv Z h2 r2 kb .byte (3 : Int32) [(.int (nar .byte (c0_.toInt8.toInt32))), (.int (0 : Int32)), (.int (0 : Int32))] (.int (0 : Int32)) := Arv.set Ar2 q12 q22 q32 H2 G2 (fits_nar_byte _) W2 0 (by decide) (by simp)
  have N2 := Fr.snoc X2 N0 hp2
  have zs2 : n0 ≤ h2.size := by rw [W2.size]; exact Z0
  have kk2 : Keep h0 h2 [r2] := (Keep.refl h0 [r2]).wr W2 (Or.inl (List.mem_of_getElem? (i := 0) rfl))
  refine own_g T2 (mkF m 10 #[oa r0, oi 1, oa r2, oi 1, oi 3, oi 1, oi c0_] []) (fun _ k => st2 _ (XS.iinc X2.here hx rfl (hb hby d46_32) rfl (l' := #[oa r0, oi 1, oa r2, oi 0, oi 3, oi 0, oi c0_]) rfl (XS.iinc X2.here hx rfl (hb hby d46_35) rfl (l' := #[oa r0, oi 1, oa r2, oi 1, oi 3, oi 0, oi c0_]) rfl (XS.iinc X2.here hx rfl (hb hby d46_38) rfl (l' := #[oa r0, oi 1, oa r2, oi 1, oi 3, oi 1, oi c0_]) rfl (XS.goto X2.here hx rfl (pc0 := 41) (pc' := 3) rfl (hb hby d46_41) (by decide) (by decide) (XS.iload X2.here hx rfl (hb hby d46_3) rfl (XS.iload X2.here hx rfl (hb hby d46_5) rfl (XS.icmpNo X2.here hx rfl (hb hby d46_7) rfl (XT.ii_ge_f (by decide : (1 : Int32) < (3 : Int32))) k)))))))) ?_
  refine own_g T2 (mkF m 12 #[oa r0, oi 1, oa r2, oi 1, oi 3, oi 1, oi c0_] [(.int (1 : Int32)), (.ref r0)]) (fun _ k => XS.aloadN X2.here hx rfl (hb hby d46_10) rfl rfl (XS.iloadN X2.here hx rfl (hb hby d46_11) rfl k)) ?_
  obtain ⟨cl4, Ar4, q14, q24, q34, H4, G4⟩ := id f3
  have hin4 := inb_of q24 (j := (1 : Int32)) (by decide)
  refine own_g T2 (mkF m 30 #[oa r0, oi 1, oa r2, oi 1, oi 3, oi 1, oi c1_] [(.int c1_), (.int (1 : Int32)), (.ref r2)]) (fun _ k => X2.caload hx (j := (1 : Int32)) (v := (.int c1_)) (by rw [e2]; exact Ar4.1) (State.isArrayOf_alike hZ.alike Ar4.2.1) Ar4.2.2 hin4 (Has.at H4 hin4 rfl) (g := (mkF m 12 #[oa r0, oi 1, oa r2, oi 1, oi 3, oi 1, oi c0_] [(.int (1 : Int32)), (.ref r0)])) rfl rfl (hb hby d46_12) _ (XS.istore X2.here hx rfl (hb hby d46_13) rfl (l' := #[oa r0, oi 1, oa r2, oi 1, oi 3, oi 1, oi c1_]) rfl (XS.iload X2.here hx rfl (hb hby d46_15) rfl (XS.sipush X2.here hx rfl (hb hby d46_17) (XS.icmpYes X2.here hx rfl (pc0 := 20) (pc' := 26) rfl (hb hby d46_20) rfl (XT.ii_le_t hh1) (by decide) (by decide) (XS.aloadN X2.here hx rfl (hb hby d46_26) rfl rfl (XS.iloadN X2.here hx rfl (hb hby d46_27) rfl (XS.iload X2.here hx rfl (hb hby d46_28) rfl k)))))))) ?_
  refine own_g T2 (mkF m 31 #[oa r0, oi 1, oa r2, oi 1, oi 3, oi 1, oi c1_] [(.int (c1_.toInt8.toInt32)), (.int (1 : Int32)), (.ref r2)]) (fun _ k => XT.i2b X2.here hx rfl (hb hby d46_30) rfl k) ?_
  obtain ⟨cl5, Ar5, q15, q25, q35, H5, G5⟩ := id V2
  have hin5 := inb_of q25 (j := (1 : Int32)) (by decide)
  obtain ⟨T5, h5, X5, e5, W5, st5⟩ := stB X2 hx hZ e2 Ar5 (j := (1 : Int32)) hin5 (g := (mkF m 31 #[oa r0, oi 1, oa r2, oi 1, oi 3, oi 1, oi c1_] [(.int (c1_.toInt8.toInt32)), (.int (1 : Int32)), (.ref r2)])) rfl rfl (hb hby d46_31)
  have f6 := (f3.other W5 hp3)
  have V5 : Arv Z h5 r2 kb .byte (3 : Int32) [(.int (nar .byte (c0_.toInt8.toInt32))), (.int (nar .byte (c1_.toInt8.toInt32))), (.int (0 : Int32))] (.int (0 : Int32)) := Arv.set Ar5 q15 q25 q35 H5 G5 (fits_nar_byte _) W5 1 (by decide) (by simp)
  have N5 := Fr.snoc X5 N2 hp2
  have zs5 : n0 ≤ h5.size := by rw [W5.size]; exact zs2
  have kk5 : Keep h0 h5 [r2] := kk2.wr W5 (Or.inl (List.mem_of_getElem? (i := 0) rfl))
  refine own_g T5 (mkF m 10 #[oa r0, oi 2, oa r2, oi 2, oi 3, oi 2, oi c1_] []) (fun _ k => st5 _ (XS.iinc X5.here hx rfl (hb hby d46_32) rfl (l' := #[oa r0, oi 2, oa r2, oi 1, oi 3, oi 1, oi c1_]) rfl (XS.iinc X5.here hx rfl (hb hby d46_35) rfl (l' := #[oa r0, oi 2, oa r2, oi 2, oi 3, oi 1, oi c1_]) rfl (XS.iinc X5.here hx rfl (hb hby d46_38) rfl (l' := #[oa r0, oi 2, oa r2, oi 2, oi 3, oi 2, oi c1_]) rfl (XS.goto X5.here hx rfl (pc0 := 41) (pc' := 3) rfl (hb hby d46_41) (by decide) (by decide) (XS.iload X5.here hx rfl (hb hby d46_3) rfl (XS.iload X5.here hx rfl (hb hby d46_5) rfl (XS.icmpNo X5.here hx rfl (hb hby d46_7) rfl (XT.ii_ge_f (by decide : (2 : Int32) < (3 : Int32))) k)))))))) ?_
  refine own_g T5 (mkF m 12 #[oa r0, oi 2, oa r2, oi 2, oi 3, oi 2, oi c1_] [(.int (2 : Int32)), (.ref r0)]) (fun _ k => XS.aloadN X5.here hx rfl (hb hby d46_10) rfl rfl (XS.iloadN X5.here hx rfl (hb hby d46_11) rfl k)) ?_
  obtain ⟨cl7, Ar7, q17, q27, q37, H7, G7⟩ := id f6
  have hin7 := inb_of q27 (j := (2 : Int32)) (by decide)
  refine own_g T5 (mkF m 30 #[oa r0, oi 2, oa r2, oi 2, oi 3, oi 2, oi c2_] [(.int c2_), (.int (2 : Int32)), (.ref r2)]) (fun _ k => X5.caload hx (j := (2 : Int32)) (v := (.int c2_)) (by rw [e5]; exact Ar7.1) (State.isArrayOf_alike hZ.alike Ar7.2.1) Ar7.2.2 hin7 (Has.at H7 hin7 rfl) (g := (mkF m 12 #[oa r0, oi 2, oa r2, oi 2, oi 3, oi 2, oi c1_] [(.int (2 : Int32)), (.ref r0)])) rfl rfl (hb hby d46_12) _ (XS.istore X5.here hx rfl (hb hby d46_13) rfl (l' := #[oa r0, oi 2, oa r2, oi 2, oi 3, oi 2, oi c2_]) rfl (XS.iload X5.here hx rfl (hb hby d46_15) rfl (XS.sipush X5.here hx rfl (hb hby d46_17) (XS.icmpYes X5.here hx rfl (pc0 := 20) (pc' := 26) rfl (hb hby d46_20) rfl (XT.ii_le_t hh2) (by decide) (by decide) (XS.aloadN X5.here hx rfl (hb hby d46_26) rfl rfl (XS.iloadN X5.here hx rfl (hb hby d46_27) rfl (XS.iload X5.here hx rfl (hb hby d46_28) rfl k)))))))) ?_
  refine own_g T5 (mkF m 31 #[oa r0, oi 2, oa r2, oi 2, oi 3, oi 2, oi c2_] [(.int (c2_.toInt8.toInt32)), (.int (2 : Int32)), (.ref r2)]) (fun _ k => XT.i2b X5.here hx rfl (hb hby d46_30) rfl k) ?_
  obtain ⟨cl8, Ar8, q18, q28, q38, H8, G8⟩ := id V5
  have hin8 := inb_of q28 (j := (2 : Int32)) (by decide)
  obtain ⟨T8, h8, X8, e8, W8, st8⟩ := stB X5 hx hZ e5 Ar8 (j := (2 : Int32)) hin8 (g := (mkF m 31 #[oa r0, oi 2, oa r2, oi 2, oi 3, oi 2, oi c2_] [(.int (c2_.toInt8.toInt32)), (.int (2 : Int32)), (.ref r2)])) rfl rfl (hb hby d46_31)
  have f9 := (f6.other W8 hp3)
  have V8 : Arv Z h8 r2 kb .byte (3 : Int32) [(.int (nar .byte (c0_.toInt8.toInt32))), (.int (nar .byte (c1_.toInt8.toInt32))), (.int (nar .byte (c2_.toInt8.toInt32)))] (.int (0 : Int32)) := Arv.set Ar8 q18 q28 q38 H8 G8 (fits_nar_byte _) W8 2 (by decide) (by simp)
  have N8 := Fr.snoc X8 N5 hp2
  have zs8 : n0 ≤ h8.size := by rw [W8.size]; exact zs5
  have kk8 : Keep h0 h8 [r2] := kk5.wr W8 (Or.inl (List.mem_of_getElem? (i := 0) rfl))
  refine own_g T8 (mkF m 44 #[oa r0, oi 3, oa r2, oi 3, oi 3, oi 3, oi c2_] []) (fun _ k => st8 _ (XS.iinc X8.here hx rfl (hb hby d46_32) rfl (l' := #[oa r0, oi 3, oa r2, oi 2, oi 3, oi 2, oi c2_]) rfl (XS.iinc X8.here hx rfl (hb hby d46_35) rfl (l' := #[oa r0, oi 3, oa r2, oi 3, oi 3, oi 2, oi c2_]) rfl (XS.iinc X8.here hx rfl (hb hby d46_38) rfl (l' := #[oa r0, oi 3, oa r2, oi 3, oi 3, oi 3, oi c2_]) rfl (XS.goto X8.here hx rfl (pc0 := 41) (pc' := 3) rfl (hb hby d46_41) (by decide) (by decide) (XS.iload X8.here hx rfl (hb hby d46_3) rfl (XS.iload X8.here hx rfl (hb hby d46_5) rfl (XS.icmpYes X8.here hx rfl (pc0 := 7) (pc' := 44) rfl (hb hby d46_7) rfl (XT.ii_ge_t (by decide : ¬ ((3 : Int32) < (3 : Int32)))) (by decide) (by decide) k)))))))) ?_
  refine own_g T8 (mkF m 46 #[oa r0, oi 3, oa r2, oi 3, oi 3, oi 3, oi c2_] [(.int (3 : Int32))]) (fun _ k => XS.iload X8.here hx rfl (hb hby d46_44) rfl k) ?_
  exact own_ret X8 hx Bd.returns hlk rfl (Or.inl ⟨rfl, Or.inl rfl, _, rfl⟩) (hb hby d46_46) e8 ⟨rfl, N8, kk8, V8⟩ (by decide) (by decide)
def Q_rmC3_3 (Z : State) (r0 : Addr) (kc : ClassId) (c0_ : Int32) (c1_ : Int32) (c2_ : Int32) (h0 : Heap) (n0 : Nat) (v : Option Value) (h : Heap) (L : List Loc) : Prop := ∃ (xb : Addr) (xk : ClassId), v = some (.ref xb) ∧ Fr n0 L ∧ Keep h0 h [] ∧ h0.size ≤ xb ∧ Arv Z h xb xk .byte (3 : Int32) [(.int (nar .byte (c0_.toInt8.toInt32))), (.int (nar .byte (c1_.toInt8.toInt32))), (.int (nar .byte (c2_.toInt8.toInt32)))] (.int (0 : Int32))
theorem ef_rmC3_3 (m : MethodId) (x0 : Addr) (x1 : Int32) (x2 : Int32) : entryFrame m #[(.ref x0), (.int x1), (.int x2)] 6 = mkF m 0 #[.val (.ref x0), .val (.int x1), .val (.int x2), .unset, .unset, .unset] [] := by first | (simp [entryFrame, mkF, argsToLocals, Value.category]; done) | rfl
theorem pn_rmC3_3 : plainName "java/lang/StringUTF16" = true := by first | (simp [plainName, overriddenIn]; done) | decide +kernel
set_option maxRecDepth 65536 in
set_option maxHeartbeats 40000000 in
theorem rmC3_3 (l : Launch) (Z : State) (a0 : Array Value) (hw : ∀ d ∈ tables_1, d.before a0 Z = true) (ws : List Jvm.Cond) (r0 : Addr) (kc : ClassId) (c0_ : Int32) (c1_ : Int32) (c2_ : Int32) (h0 : Heap) (n0 : Nat) (Z0 : n0 ≤ h0.size) (hp0 : Arv Z h0 r0 kc .char (3 : Int32) [(.int c0_), (.int c1_), (.int c2_)] (.int (0 : Int32))) (hh0 : ¬ (255 : Int32) < c0_) (hh1 : ¬ (255 : Int32) < c1_) (hh2 : ¬ (255 : Int32) < c2_) :
    MetFree l (⟨"java/lang/StringUTF16", "compress", "([CII)[B"⟩ : MethodName) (head1 (Jvm.Cond.code (⟨"java/lang/StringUTF16", "compress", "([CII)[B"⟩ : MethodName) jdk_52_method_16_code 6 (some (.array .byte)) :: ws) ({ frames := 1, cells := 1, slots := 3, locals := 40 } : Room)) (fun a U => a = #[(.ref r0), (.int (0 : Int32)), (.int (3 : Int32))] ∧ Z.Warmed39 U.vm ∧ U.heap = h0) (fun _ _ _ _ _ => True) (fun _ U o U' => ∃ v L, o = .returned v ∧ Q_rmC3_3 Z r0 kc c0_ c1_ c2_ h0 n0 v U'.heap L ∧ FrameEnd U o U' L ({ frames := 1, cells := 1, slots := 3, locals := 40 } : Room).cells ({ frames := 1, cells := 1, slots := 3, locals := 40 } : Room).slots) := by
  refine MetFree.of_bodySF (plainFor_of_name pn_rmC3_3) hisR ?_
  intro p e s m args below meth c s₁ Bd hml0 hP hK
  obtain ⟨rfl, hZ, hh⟩ := hP
  have hx := Bd.exec
  have hby := Bd.bytes
  have hml : c.maxLocals = 6 := hml0
  have hown : s.vm.findClass "java/lang/StringUTF16" = some m.cls := findClass_of_methodNamed Bd.named
  have hnm := (name_of_methodNamed Bd.named Bd.method).1
  have hlk : meth.locks = false := BodyLoose.notSynchronized Bd
  have X0 : Stand p l e ({ frames := 1, cells := 1, slots := 3, locals := 40 } : Room) s m #[(.ref r0), (.int (0 : Int32)), (.int (3 : Int32))] below meth c s₁ [] 0 0 := Stand.of_body Bd
  have e0 : s₁.heap = h0 := by rw [← hh, Bd.state]; rfl
  have N0 := Fr.nil n0
  show own_W p e below s (Q_rmC3_3 Z r0 kc c0_ c1_ c2_ h0 n0) 1 3 s₁ (entryFrame m #[(.ref r0), (.int (0 : Int32)), (.int (3 : Int32))] 6)
  skip
  skip
  refine own_go (T' := s₁) (g' := (mkF m 0 #[oa r0, oi 0, oi 3, .unset, .unset, .unset] [])) (fun _ k => castTop (ef_rmC3_3 m r0 (0 : Int32) (3 : Int32)) k) ?_
  refine own_g s₁ (mkF m 1 #[oa r0, oi 0, oi 3, .unset, .unset, .unset] [(.int (3 : Int32))]) (fun _ k => XS.iloadN X0.here hx rfl (hb hby d45_0) rfl k) ?_
  obtain ⟨T1, h1, k1, X1, e1, E1, A1, st1⟩ := newP X0 hx hZ (own_w hw 18 rfl) e0 (g := (mkF m 1 #[oa r0, oi 0, oi 3, .unset, .unset, .unset] [(.int (3 : Int32))])) rfl (hb hby d45_1) rfl (by decide) (cap := 3) (by decide) (by decide) (by decide) (by decide)
  obtain ⟨b1, g1⟩ : ∃ z, z = h0.size := ⟨_, rfl⟩
  have ne2 : r0 ≠ b1 := Nat.ne_of_lt (Nat.lt_of_lt_of_le hp0.lt (Nat.le_of_eq g1.symm))
  rw [← g1] at A1 st1
  have f3 := (hp0.ext E1)
  have V1 : Arv Z h1 b1 k1 .byte (3 : Int32) [(.int (0 : Int32)), (.int (0 : Int32)), (.int (0 : Int32))] (.int (0 : Int32)) := (Arv.new A1 (by decide)).pad (pad_rep [] (.int (0 : Int32)) 3)
  have ge1 : n0 ≤ b1 := Nat.le_trans Z0 (Nat.le_of_eq g1.symm)
  have sz1 : h0.size ≤ b1 := Nat.le_trans (Keep.refl h0 []).1 (Nat.le_of_eq g1.symm)
  have kk1 : Keep h0 h1 [] := (Keep.refl h0 []).ext E1
  have zs1 : n0 ≤ h1.size := Nat.le_trans Z0 E1.1
  refine own_g T1 (mkF m 9 #[oa r0, oi 0, oi 3, oa b1, .unset, .unset] [(.int (3 : Int32)), (.int (0 : Int32)), (.ref b1), (.int (0 : Int32)), (.ref r0)]) (fun _ k => st1 _ (XS.astoreN X1.here hx rfl (hb hby d45_3) rfl rfl (l' := #[oa r0, oi 0, oi 3, oa b1, .unset, .unset]) rfl (XS.aloadN X1.here hx rfl (hb hby d45_4) rfl rfl (XS.iloadN X1.here hx rfl (hb hby d45_5) rfl (XS.aloadN X1.here hx rfl (hb hby d45_6) rfl rfl (XS.iconst X1.here hx rfl (hb hby d45_7) (XS.iloadN X1.here hx rfl (hb hby d45_8) rfl k))))))) ?_
  obtain ⟨_, _, ⟨T4, L4, k4, n4⟩, -, X4, ⟨Lc4, hQ4, l4, y4, z4⟩, st4⟩ := Jvm.LawKit.callS X1 hx (y := (⟨"java/lang/StringUTF16", "compress", "([CI[BII)I"⟩ : MethodName)) hown (mvT hZ (own_w hw 232 rfl)) (mvT hZ (own_w hw 233 rfl)) (mvT hZ (own_w hw 230 rfl)) (mvT hZ (own_w hw 234 rfl)) (by decide) (backOf (W := 0) (rmC5_3 l Z a0 hw [] r0 b1 kc c0_ c1_ c2_ k1 h1 n0 zs1 f3 V1 ge1 ne2 hh0 hh1 hh2) hZ (own_w hw 234 rfl) (own_w hw 230 rfl) (by decide) (by decide)) (g := (mkF m 9 #[oa r0, oi 0, oi 3, oa b1, .unset, .unset] [(.int (3 : Int32)), (.int (0 : Int32)), (.ref b1), (.int (0 : Int32)), (.ref r0)])) rfl (by rw [hml]; rfl) (argsL := [(.ref r0), (.int (0 : Int32)), (.ref b1), (.int (0 : Int32)), (.int (3 : Int32))]) (rest := []) (lenOf own_pd23 rfl) rfl (Nat.le_of_eq rfl) (hb hby d45_9) (fun _ _ => ⟨rfl, e1, (by decide : 1 + 0 ≤ _), (by decide : 3 + 0 ≤ _)⟩)
  dsimp only [Pt.U, Pt.locs, Pt.cells, Pt.slots] at X4 l4 y4 z4 st4 hQ4
  subst l4 y4 z4
  obtain ⟨rfl, N4q, K4, po5⟩ := hQ4
  have f6 := (f3.keep K4 (ninS ne2 nin0))
  have zs4 : n0 ≤ T4.heap.size := Nat.le_trans zs1 K4.1
  have kk4 : Keep h0 T4.heap [] := kk1.trans K4 (allS (Or.inr sz1) all0)
  have N4 := Fr.app N0 N4q
  obtain ⟨Lv4, X4, N4⟩ := own_hide X4 (Nat.le_refl 1) (Nat.le_refl 3) N4
  refine own_g T4 (mkF m 58 #[oa r0, oi 0, oi 3, oa b1, oi 3, .unset] [(.ref b1)]) (fun _ k => st4 _ (XS.istore X4.here hx rfl (hb hby d45_12) rfl (l' := #[oa r0, oi 0, oi 3, oa b1, oi 3, .unset]) rfl (XS.iload X4.here hx rfl (hb hby d45_14) rfl (XS.iloadN X4.here hx rfl (hb hby d45_16) rfl (XS.icmpYes X4.here hx rfl (pc0 := 17) (pc' := 57) rfl (hb hby d45_17) rfl (XT.ii_eq_t (rfl : (3 : Int32) = (3 : Int32))) (by decide) (by decide) (XS.aloadN X4.here hx rfl (hb hby d45_57) rfl rfl k)))))) ?_
  exact own_ret X4 hx Bd.returns hlk rfl (Or.inr (Or.inr (Or.inr (Or.inr ⟨rfl, rfl, rfl⟩)))) (hb hby d45_58) rfl ⟨b1, k1, rfl, N4, kk4, sz1, po5⟩ (by decide) (by decide)
def own_cfa3 (r0 : Addr) (kb : ClassId) (v0 : Int32) (v1 : Int32) (v2 : Int32) : Int32 := (nar .byte ((((0 : Int32).toUInt32 >>> ((31 : Int32) &&& 31).toUInt32).toInt32).toInt8.toInt32))
def Q_rmCf_3 (Z : State) (r0 : Addr) (kb : ClassId) (v0 : Int32) (v1 : Int32) (v2 : Int32) (h0 : Heap) (n0 : Nat) (v : Option Value) (h : Heap) (L : List Loc) : Prop := v = some (.int (own_cfa3 r0 kb v0 v1 v2)) ∧ Fr n0 L ∧ h = h0
theorem ef_rmCf_3 (m : MethodId) (x0 : Addr) (x1 : Int32) : entryFrame m #[(.ref x0), (.int x1)] 2 = mkF m 0 #[.val (.ref x0), .val (.int x1)] [] := by first | (simp [entryFrame, mkF, argsToLocals, Value.category]; done) | rfl
theorem pn_rmCf_3 : plainName "java/lang/StringUTF16" = true := by first | (simp [plainName, overriddenIn]; done) | decide +kernel
set_option maxRecDepth 65536 in
set_option maxHeartbeats 40000000 in
theorem rmCf_3 (l : Launch) (Z : State) (a0 : Array Value) (hw : ∀ d ∈ tables_1, d.before a0 Z = true) (ws : List Jvm.Cond) (r0 : Addr) (kb : ClassId) (v0 : Int32) (v1 : Int32) (v2 : Int32) (h0 : Heap) (n0 : Nat) (Z0 : n0 ≤ h0.size) (hp0 : Arv Z h0 r0 kb .byte (3 : Int32) [(.int v0), (.int v1), (.int v2)] (.int (0 : Int32))) :
    MetFree l (⟨"java/lang/StringUTF16", "coderFromArrayLen", "([BI)B"⟩ : MethodName) (head1 (Jvm.Cond.code (⟨"java/lang/StringUTF16", "coderFromArrayLen", "([BI)B"⟩ : MethodName) jdk_52_method_15_code 2 (some .byte) :: ws) ({ frames := 0, cells := 0, slots := 0, locals := 0 } : Room)) (fun a U => a = #[(.ref r0), (.int (3 : Int32))] ∧ Z.Warmed39 U.vm ∧ U.heap = h0) (fun _ _ _ _ _ => True) (fun _ U o U' => ∃ v L, o = .returned v ∧ Q_rmCf_3 Z r0 kb v0 v1 v2 h0 n0 v U'.heap L ∧ FrameEnd U o U' L ({ frames := 0, cells := 0, slots := 0, locals := 0 } : Room).cells ({ frames := 0, cells := 0, slots := 0, locals := 0 } : Room).slots) := by
  refine MetFree.of_bodySF (plainFor_of_name pn_rmCf_3) hisR ?_
  intro p e s m args below meth c s₁ Bd hml0 hP hK
  obtain ⟨rfl, hZ, hh⟩ := hP
  have hx := Bd.exec
  have hby := Bd.bytes
  have hml : c.maxLocals = 2 := hml0
  have hown : s.vm.findClass "java/lang/StringUTF16" = some m.cls := findClass_of_methodNamed Bd.named
  have hnm := (name_of_methodNamed Bd.named Bd.method).1
  have hlk : meth.locks = false := BodyLoose.notSynchronized Bd
  have X0 : Stand p l e ({ frames := 0, cells := 0, slots := 0, locals := 0 } : Room) s m #[(.ref r0), (.int (3 : Int32))] below meth c s₁ [] 0 0 := Stand.of_body Bd
  have e0 : s₁.heap = h0 := by rw [← hh, Bd.state]; rfl
  have N0 := Fr.nil n0
  show own_W p e below s (Q_rmCf_3 Z r0 kb v0 v1 v2 h0 n0) 0 0 s₁ (entryFrame m #[(.ref r0), (.int (3 : Int32))] 2)
  skip
  skip
  refine own_go (T' := s₁) (g' := (mkF m 0 #[oa r0, oi 3] [])) (fun _ k => castTop (ef_rmCf_3 m r0 (3 : Int32)) k) ?_
  refine own_g s₁ (mkF m 2 #[oa r0, oi 3] [(.ref r0), (.int (3 : Int32))]) (fun _ k => XS.iloadN X0.here hx rfl (hb hby d47_0) rfl (XS.aloadN X0.here hx rfl (hb hby d47_1) rfl rfl k)) ?_
  obtain ⟨cl1, Ar1, q11, q21, q31, H1, G1⟩ := id hp0
  have st1 := X0.arraylength hx (by rw [e0]; exact Ar1.1) (State.isArrayOf_alike hZ.alike Ar1.2.1) (g := (mkF m 2 #[oa r0, oi 3] [(.ref r0), (.int (3 : Int32))])) rfl rfl (hb hby d47_2)
  rw [len_of q21 q31] at st1
  refine own_g s₁ (mkF m 8 #[oa r0, oi 3] [(.int ((((0 : Int32).toUInt32 >>> ((31 : Int32) &&& 31).toUInt32).toInt32).toInt8.toInt32))]) (fun _ k => st1 _ (XS.isub X0.here hx rfl (hb hby d47_3) rfl (XS.bipush X0.here hx rfl (hb hby d47_4) (XS.iushr X0.here hx rfl (hb hby d47_6) rfl (XT.i2b X0.here hx rfl (hb hby d47_7) rfl k))))) ?_
  exact own_retN X0 hx (t := .byte) Bd.returns hlk (by simp) (hb hby d47_8) e0 ⟨(by unfold own_cfa3; first | rfl | done), N0, rfl⟩ (by decide) (by decide)
def Q_rmS4_3 (Z : State) (r0 : Addr) (r1 : Addr) (kc : ClassId) (c0_ : Int32) (c1_ : Int32) (c2_ : Int32) (cs : Int32) (h0 : Heap) (n0 : Nat) (v : Option Value) (h : Heap) (L : List Loc) : Prop := ∃ (xb : Addr) (xk : ClassId), v = none ∧ Fr n0 L ∧ Keep h0 h [r0] ∧ h0.size ≤ xb ∧ Fld Z h r0 "java/lang/String" "value" "[B" (.ref xb) ∧ Fld Z h r0 "java/lang/String" "coder" "B" (.int (0 : Int32)) ∧ Arv Z h xb xk .byte (3 : Int32) [(.int (nar .byte (c0_.toInt8.toInt32))), (.int (nar .byte (c1_.toInt8.toInt32))), (.int (nar .byte (c2_.toInt8.toInt32)))] (.int (0 : Int32))
theorem ef_rmS4_3 (m : MethodId) (x0 : Addr) (x1 : Addr) (x2 : Int32) (x3 : Int32) : entryFrame m #[(.ref x0), (.ref x1), (.int x2), (.int x3), .null] 6 = mkF m 0 #[.val (.ref x0), .val (.ref x1), .val (.int x2), .val (.int x3), .val .null, .unset] [] := by first | (simp [entryFrame, mkF, argsToLocals, Value.category]; done) | rfl
theorem pn_rmS4_3 : plainName "java/lang/String" = true := by first | (simp [plainName, overriddenIn]; done) | decide +kernel
set_option maxRecDepth 65536 in
set_option maxHeartbeats 40000000 in
theorem rmS4_3 (l : Launch) (Z : State) (a0 : Array Value) (hw : ∀ d ∈ tables_1, d.before a0 Z = true) (ws : List Jvm.Cond) (r0 : Addr) (r1 : Addr) (kc : ClassId) (c0_ : Int32) (c1_ : Int32) (c2_ : Int32) (cs : Int32) (h0 : Heap) (n0 : Nat) (Z0 : n0 ≤ h0.size) (hp0 : Exa Z h0 r0 "java/lang/String") (hp1 : n0 ≤ r0) (hp2 : Fld Z h0 r0 "java/lang/String" "value" "[B" .null) (hp3 : Fld Z h0 r0 "java/lang/String" "coder" "B" (.int (0 : Int32))) (hp4 : Arv Z h0 r1 kc .char (3 : Int32) [(.int c0_), (.int c1_), (.int c2_)] (.int (0 : Int32))) (hp5 : Sta Z h0 "java/lang/String" "COMPACT_STRINGS" "Z" (.int cs)) (hh0 : ¬ cs = (0 : Int32)) (hh1 : ¬ (255 : Int32) < c0_) (hh2 : ¬ (255 : Int32) < c1_) (hh3 : ¬ (255 : Int32) < c2_) :
    MetFree l (⟨"java/lang/String", "<init>", "([CIILjava/lang/Void;)V"⟩ : MethodName) (head1 (Jvm.Cond.code (⟨"java/lang/String", "<init>", "([CIILjava/lang/Void;)V"⟩ : MethodName) jdk_42_method_149_code 6 none :: ws) ({ frames := 2, cells := 1, slots := 3, locals := 60 } : Room)) (fun a U => a = #[(.ref r0), (.ref r1), (.int (0 : Int32)), (.int (3 : Int32)), .null] ∧ Z.Warmed39 U.vm ∧ U.heap = h0) (fun _ _ _ _ _ => True) (fun _ U o U' => ∃ v L, o = .returned v ∧ Q_rmS4_3 Z r0 r1 kc c0_ c1_ c2_ cs h0 n0 v U'.heap L ∧ FrameEnd U o U' L ({ frames := 2, cells := 1, slots := 3, locals := 60 } : Room).cells ({ frames := 2, cells := 1, slots := 3, locals := 60 } : Room).slots) := by
  refine MetFree.of_bodySF (plainFor_of_name pn_rmS4_3) hisR ?_
  intro p e s m args below meth c s₁ Bd hml0 hP hK
  obtain ⟨rfl, hZ, hh⟩ := hP
  have hx := Bd.exec
  have hby := Bd.bytes
  have hml : c.maxLocals = 6 := hml0
  have hown : s.vm.findClass "java/lang/String" = some m.cls := findClass_of_methodNamed Bd.named
  have hnm := (name_of_methodNamed Bd.named Bd.method).1
  have hlk : meth.locks = false := BodyLoose.notSynchronized Bd
  have X0 : Stand p l e ({ frames := 2, cells := 1, slots := 3, locals := 60 } : Room) s m #[(.ref r0), (.ref r1), (.int (0 : Int32)), (.int (3 : Int32)), .null] below meth c s₁ [] 0 0 := Stand.of_body Bd
  have e0 : s₁.heap = h0 := by rw [← hh, Bd.state]; rfl
  have N0 := Fr.nil n0
  show own_W p e below s (Q_rmS4_3 Z r0 r1 kc c0_ c1_ c2_ cs h0 n0) 1 3 s₁ (entryFrame m #[(.ref r0), (.ref r1), (.int (0 : Int32)), (.int (3 : Int32)), .null] 6)
  skip
  skip
  refine own_go (T' := s₁) (g' := (mkF m 0 #[oa r0, oa r1, oi 0, oi 3, .val .null, .unset] [])) (fun _ k => castTop (ef_rmS4_3 m r0 r1 (0 : Int32) (3 : Int32)) k) ?_
  refine own_g s₁ (mkF m 1 #[oa r0, oa r1, oi 0, oi 3, .val .null, .unset] [(.ref r0)]) (fun _ k => XS.aloadN X0.here hx rfl (hb hby d44_0) rfl rfl k) ?_
  obtain ⟨T1, X1, e1, st1⟩ := initO X0 hx hZ hown (own_w hw 23 rfl) (own_w hw 24 rfl) (own_w hw 25 rfl) e0 (g := (mkF m 1 #[oa r0, oa r1, oi 0, oi 3, .val .null, .unset] [(.ref r0)])) rfl (by rw [hml]; rfl) rfl (hb hby d44_1) (by decide) (W := 0) (Nat.le_of_eq rfl) (by decide)
  refine own_g T1 (mkF m 27 #[oa r0, oa r1, oi 0, oi 3, .val .null, .unset] []) (fun _ k => st1 _ (XS.iloadN X1.here hx rfl (hb hby d44_4) rfl (XS.ifYes X1.here hx rfl (pc0 := 5) (pc' := 27) rfl (hb hby d44_5) rfl (XT.i0_ne_t (by decide : ¬ ((3 : Int32) = (0 : Int32)))) (by decide) (by decide) k))) ?_
  obtain ⟨T2, X2, e2, st2⟩ := getS2 X1 hx hZ hown (host := "") (Or.inl (own_w hw 8 rfl)) Via.refl e1 hp5 (g := (mkF m 27 #[oa r0, oa r1, oi 0, oi 3, .val .null, .unset] [])) rfl (hb hby d44_27)
  refine own_g T2 (mkF m 36 #[oa r0, oa r1, oi 0, oi 3, .val .null, .unset] [(.int (3 : Int32)), (.int (0 : Int32)), (.ref r1)]) (fun _ k => st2 _ (XS.ifNo X2.here hx rfl (hb hby d44_30) rfl (XT.i0_eq_f hh0) (XS.aloadN X2.here hx rfl (hb hby d44_33) rfl rfl (XS.iloadN X2.here hx rfl (hb hby d44_34) rfl (XS.iloadN X2.here hx rfl (hb hby d44_35) rfl k))))) ?_
  obtain ⟨_, _, ⟨T3, L3, k3, n3⟩, -, X3, ⟨Lc3, hQ3, l3, y3, z3⟩, st3⟩ := Jvm.LawKit.callS X2 hx (y := (⟨"java/lang/StringUTF16", "compress", "([CII)[B"⟩ : MethodName)) hown (mvT hZ (own_w hw 228 rfl)) (mvT hZ (own_w hw 229 rfl)) (mvT hZ (own_w hw 230 rfl)) (mvT hZ (own_w hw 231 rfl)) (by decide) (backOf (W := 0) (rmC3_3 l Z a0 hw [] r1 kc c0_ c1_ c2_ h0 n0 Z0 hp4 hh1 hh2 hh3) hZ (own_w hw 231 rfl) (own_w hw 230 rfl) (by decide) (by decide)) (g := (mkF m 36 #[oa r0, oa r1, oi 0, oi 3, .val .null, .unset] [(.int (3 : Int32)), (.int (0 : Int32)), (.ref r1)])) rfl (by rw [hml]; rfl) (argsL := [(.ref r1), (.int (0 : Int32)), (.int (3 : Int32))]) (rest := []) (lenOf own_pd24 rfl) rfl (Nat.le_of_eq rfl) (hb hby d44_36) (fun _ _ => ⟨rfl, e2, (by decide : 0 + 1 ≤ _), (by decide : 0 + 3 ≤ _)⟩)
  dsimp only [Pt.U, Pt.locs, Pt.cells, Pt.slots] at X3 l3 y3 z3 st3 hQ3
  subst l3 y3 z3
  obtain ⟨xb_3, xk_3, rfl, N3q, K3, po4, po5⟩ := hQ3
  have f6 := (hp0.keep K3)
  have f7 := (hp2.keep K3 nin0)
  have f8 := (hp3.keep K3 nin0)
  have f9 := (hp4.keep K3 nin0)
  have f10 := (own_sta_keep hp5 K3 ns0)
  have ne11 : r0 ≠ xb_3 := Nat.ne_of_lt (Nat.lt_of_lt_of_le hp0.lt po4)
  have ne12 : r1 ≠ xb_3 := Nat.ne_of_lt (Nat.lt_of_lt_of_le hp4.lt po4)
  have ge13 : n0 ≤ xb_3 := Nat.le_trans Z0 po4
  have sz14 : h0.size ≤ xb_3 := Nat.le_trans (Keep.refl h0 [r0]).1 po4
  have zs3 : n0 ≤ T3.heap.size := Nat.le_trans Z0 K3.1
  have kk3 : Keep h0 T3.heap [r0] := (Keep.refl h0 [r0]).trans K3 all0
  have N3 := Fr.app N0 N3q
  obtain ⟨Lv3, X3, N3⟩ := own_hide X3 (Nat.le_refl 1) (Nat.le_refl 3) N3
  refine own_g T3 (mkF m 45 #[oa r0, oa r1, oi 0, oi 3, .val .null, oa xb_3] [(.int (3 : Int32)), (.ref xb_3), (.ref r0)]) (fun _ k => st3 _ (XS.astore X3.here hx rfl (hb hby d44_39) rfl rfl (l' := #[oa r0, oa r1, oi 0, oi 3, .val .null, oa xb_3]) rfl (XS.aloadN X3.here hx rfl (hb hby d44_41) rfl rfl (XS.aload X3.here hx rfl (hb hby d44_42) rfl rfl (XS.iloadN X3.here hx rfl (hb hby d44_44) rfl k))))) ?_
  obtain ⟨_, _, ⟨T15, L15, k15, n15⟩, -, X15, ⟨Lc15, hQ15, l15, y15, z15⟩, st15⟩ := Jvm.LawKit.callS X3 hx (y := (⟨"java/lang/StringUTF16", "coderFromArrayLen", "([BI)B"⟩ : MethodName)) hown (mvT hZ (own_w hw 235 rfl)) (mvT hZ (own_w hw 236 rfl)) (mvT hZ (own_w hw 230 rfl)) (mvT hZ (own_w hw 237 rfl)) (by decide) (backOf (W := 1) (rmCf_3 l Z a0 hw [] xb_3 xk_3 (nar .byte (c0_.toInt8.toInt32)) (nar .byte (c1_.toInt8.toInt32)) (nar .byte (c2_.toInt8.toInt32)) T3.heap n0 zs3 po5) hZ (own_w hw 237 rfl) (own_w hw 230 rfl) (by decide) (by decide)) (g := (mkF m 45 #[oa r0, oa r1, oi 0, oi 3, .val .null, oa xb_3] [(.int (3 : Int32)), (.ref xb_3), (.ref r0)])) rfl (by rw [hml]; rfl) (argsL := [(.ref xb_3), (.int (3 : Int32))]) (rest := [(.ref r0)]) (lenOf own_pd25 rfl) rfl (Nat.le_of_eq rfl) (hb hby d44_45) (fun _ _ => ⟨rfl, rfl, (by decide : 1 + 0 ≤ _), (by decide : 3 + 0 ≤ _)⟩)
  dsimp only [Pt.U, Pt.locs, Pt.cells, Pt.slots] at X15 l15 y15 z15 st15 hQ15
  subst l15 y15 z15
  obtain ⟨rfl, N15q, e15⟩ := hQ15
  have N15 := Fr.app N3 N15q
  obtain ⟨Lv15, X15, N15⟩ := own_hide X15 (Nat.le_refl 1) (Nat.le_refl 3) N15
  refine own_g T15 (mkF m 48 #[oa r0, oa r1, oi 0, oi 3, .val .null, oa xb_3] [(.int (own_cfa3 xb_3 xk_3 (nar .byte (c0_.toInt8.toInt32)) (nar .byte (c1_.toInt8.toInt32)) (nar .byte (c2_.toInt8.toInt32)))), (.ref r0)]) (fun _ k => st15 _ k) ?_
  obtain ⟨T16, h16, X16, e16, W16, st16⟩ := putFN X15 hx hZ hown (own_w hw 28 rfl) Via.refl e15 f8 f6 (Or.inr ⟨(own_w hw 29 rfl), rfl, hnm⟩) (own_w hw 14 rfl) (ty := .byte) (v' := (.int (nar .byte (own_cfa3 xb_3 xk_3 (nar .byte (c0_.toInt8.toInt32)) (nar .byte (c1_.toInt8.toInt32)) (nar .byte (c2_.toInt8.toInt32)))))) (by decide) rfl (fits_nar_byte _) (g := (mkF m 48 #[oa r0, oa r1, oi 0, oi 3, .val .null, oa xb_3] [(.int (own_cfa3 xb_3 xk_3 (nar .byte (c0_.toInt8.toInt32)) (nar .byte (c1_.toInt8.toInt32)) (nar .byte (c2_.toInt8.toInt32)))), (.ref r0)])) rfl rfl (hb hby d44_48)
  have f17 := (f6.wr W16)
  have f18 := (f7.other W16 (Or.inr (slot_ne (Or.inr (own_w hw 27 rfl)) (Or.inr (own_w hw 29 rfl)) (by decide) (t := (.array .byte)) (t' := .byte) (by decide) (by decide))))
  have f19 := (f10.wr W16)
  have f20 := (po5.other W16 (Ne.symm ne11))
  have fw16 : Fld Z h16 r0 "java/lang/String" "coder" "B" (.int (nar .byte (own_cfa3 xb_3 xk_3 (nar .byte (c0_.toInt8.toInt32)) (nar .byte (c1_.toInt8.toInt32)) (nar .byte (c2_.toInt8.toInt32))))) := f8.same W16
  have N16 := Fr.snoc X16 N15 hp1
  have zs16 : n0 ≤ h16.size := by rw [W16.size]; exact zs3
  have kk16 : Keep h0 h16 [r0] := kk3.wr W16 (Or.inl (List.mem_of_getElem? (i := 0) rfl))
  refine own_g T16 (mkF m 51 #[oa r0, oa r1, oi 0, oi 3, .val .null, oa xb_3] []) (fun _ k => st16 _ k) ?_
  have fr21 : Fld Z h16 r0 "java/lang/String" "coder" "B" (.int (0 : Int32)) := (show ((nar .byte (own_cfa3 xb_3 xk_3 (nar .byte (c0_.toInt8.toInt32)) (nar .byte (c1_.toInt8.toInt32)) (nar .byte (c2_.toInt8.toInt32)))) : Int32) = (0 : Int32) from (by unfold own_cfa3; decide)) ▸ fw16
  refine own_g T16 (mkF m 54 #[oa r0, oa r1, oi 0, oi 3, .val .null, oa xb_3] [(.ref xb_3), (.ref r0)]) (fun _ k => XS.aloadN X16.here hx rfl (hb hby d44_51) rfl rfl (XS.aload X16.here hx rfl (hb hby d44_52) rfl rfl k)) ?_
  obtain ⟨T22, h22, X22, e22, W22, st22⟩ := putF X16 hx hZ hown (host := "") (Or.inl (own_w hw 26 rfl)) Via.refl e16 f18 f17 (Or.inr ⟨(own_w hw 27 rfl), rfl, hnm⟩) (own_w hw 14 rfl) (ty := (.array .byte)) (by decide) rfl rfl (g := (mkF m 54 #[oa r0, oa r1, oi 0, oi 3, .val .null, oa xb_3] [(.ref xb_3), (.ref r0)])) rfl rfl (hb hby d44_54)
  have f23 := (f17.wr W22)
  have f24 := (f19.wr W22)
  have f25 := (f20.other W22 (Ne.symm ne11))
  have f26 := (fr21.other W22 (Or.inr (slot_ne (Or.inr (own_w hw 29 rfl)) (Or.inr (own_w hw 27 rfl)) (by decide) (t := .byte) (t' := (.array .byte)) (by decide) (by decide))))
  have fw22 : Fld Z h22 r0 "java/lang/String" "value" "[B" (.ref xb_3) := f18.same W22
  have N22 := Fr.snoc X22 N16 hp1
  have zs22 : n0 ≤ h22.size := by rw [W22.size]; exact zs16
  have kk22 : Keep h0 h22 [r0] := kk16.wr W22 (Or.inl (List.mem_of_getElem? (i := 0) rfl))
  refine own_g T22 (mkF m 57 #[oa r0, oa r1, oi 0, oi 3, .val .null, oa xb_3] []) (fun _ k => st22 _ k) ?_
  exact own_ret0 X22 hx Bd.returns hlk (hb hby d44_57) e22 ⟨xb_3, xk_3, rfl, N22, kk22, sz14, fw22, f26, f25⟩ (by decide) (by decide)
def Q_rmS1_3 (Z : State) (r0 : Addr) (r1 : Addr) (kc : ClassId) (c0_ : Int32) (c1_ : Int32) (c2_ : Int32) (cs : Int32) (h0 : Heap) (n0 : Nat) (v : Option Value) (h : Heap) (L : List Loc) : Prop := ∃ (xb : Addr) (xk : ClassId), v = none ∧ Fr n0 L ∧ Keep h0 h [r0] ∧ h0.size ≤ xb ∧ Fld Z h r0 "java/lang/String" "value" "[B" (.ref xb) ∧ Fld Z h r0 "java/lang/String" "coder" "B" (.int (0 : Int32)) ∧ Arv Z h xb xk .byte (3 : Int32) [(.int (nar .byte (c0_.toInt8.toInt32))), (.int (nar .byte (c1_.toInt8.toInt32))), (.int (nar .byte (c2_.toInt8.toInt32)))] (.int (0 : Int32))
theorem ef_rmS1_3 (m : MethodId) (x0 : Addr) (x1 : Addr) : entryFrame m #[(.ref x0), (.ref x1)] 2 = mkF m 0 #[.val (.ref x0), .val (.ref x1)] [] := by first | (simp [entryFrame, mkF, argsToLocals, Value.category]; done) | rfl
theorem pn_rmS1_3 : plainName "java/lang/String" = true := by first | (simp [plainName, overriddenIn]; done) | decide +kernel
set_option maxRecDepth 65536 in
set_option maxHeartbeats 40000000 in
theorem rmS1_3 (l : Launch) (Z : State) (a0 : Array Value) (hw : ∀ d ∈ tables_1, d.before a0 Z = true) (ws : List Jvm.Cond) (r0 : Addr) (r1 : Addr) (kc : ClassId) (c0_ : Int32) (c1_ : Int32) (c2_ : Int32) (cs : Int32) (h0 : Heap) (n0 : Nat) (Z0 : n0 ≤ h0.size) (hp0 : Exa Z h0 r0 "java/lang/String") (hp1 : n0 ≤ r0) (hp2 : Fld Z h0 r0 "java/lang/String" "value" "[B" .null) (hp3 : Fld Z h0 r0 "java/lang/String" "coder" "B" (.int (0 : Int32))) (hp4 : Arv Z h0 r1 kc .char (3 : Int32) [(.int c0_), (.int c1_), (.int c2_)] (.int (0 : Int32))) (hp5 : Sta Z h0 "java/lang/String" "COMPACT_STRINGS" "Z" (.int cs)) (hh0 : ¬ cs = (0 : Int32)) (hh1 : ¬ (255 : Int32) < c0_) (hh2 : ¬ (255 : Int32) < c1_) (hh3 : ¬ (255 : Int32) < c2_) :
    MetFree l (⟨"java/lang/String", "<init>", "([C)V"⟩ : MethodName) (head1 (Jvm.Cond.code (⟨"java/lang/String", "<init>", "([C)V"⟩ : MethodName) jdk_42_method_3_code 2 none :: ws) ({ frames := 3, cells := 1, slots := 3, locals := 80 } : Room)) (fun a U => a = #[(.ref r0), (.ref r1)] ∧ Z.Warmed39 U.vm ∧ U.heap = h0) (fun _ _ _ _ _ => True) (fun _ U o U' => ∃ v L, o = .returned v ∧ Q_rmS1_3 Z r0 r1 kc c0_ c1_ c2_ cs h0 n0 v U'.heap L ∧ FrameEnd U o U' L ({ frames := 3, cells := 1, slots := 3, locals := 80 } : Room).cells ({ frames := 3, cells := 1, slots := 3, locals := 80 } : Room).slots) := by
  refine MetFree.of_bodySF (plainFor_of_name pn_rmS1_3) hisR ?_
  intro p e s m args below meth c s₁ Bd hml0 hP hK
  obtain ⟨rfl, hZ, hh⟩ := hP
  have hx := Bd.exec
  have hby := Bd.bytes
  have hml : c.maxLocals = 2 := hml0
  have hown : s.vm.findClass "java/lang/String" = some m.cls := findClass_of_methodNamed Bd.named
  have hnm := (name_of_methodNamed Bd.named Bd.method).1
  have hlk : meth.locks = false := BodyLoose.notSynchronized Bd
  have X0 : Stand p l e ({ frames := 3, cells := 1, slots := 3, locals := 80 } : Room) s m #[(.ref r0), (.ref r1)] below meth c s₁ [] 0 0 := Stand.of_body Bd
  have e0 : s₁.heap = h0 := by rw [← hh, Bd.state]; rfl
  have N0 := Fr.nil n0
  show own_W p e below s (Q_rmS1_3 Z r0 r1 kc c0_ c1_ c2_ cs h0 n0) 1 3 s₁ (entryFrame m #[(.ref r0), (.ref r1)] 2)
  skip
  skip
  refine own_go (T' := s₁) (g' := (mkF m 0 #[oa r0, oa r1] [])) (fun _ k => castTop (ef_rmS1_3 m r0 r1) k) ?_
  refine own_g s₁ (mkF m 4 #[oa r0, oa r1] [(.ref r1), (.int (0 : Int32)), (.ref r1), (.ref r0)]) (fun _ k => XS.aloadN X0.here hx rfl (hb hby d43_0) rfl rfl (XS.aloadN X0.here hx rfl (hb hby d43_1) rfl rfl (XS.iconst X0.here hx rfl (hb hby d43_2) (XS.aloadN X0.here hx rfl (hb hby d43_3) rfl rfl k)))) ?_
  obtain ⟨cl1, Ar1, q11, q21, q31, H1, G1⟩ := id hp4
  have st1 := X0.arraylength hx (by rw [e0]; exact Ar1.1) (State.isArrayOf_alike hZ.alike Ar1.2.1) (g := (mkF m 4 #[oa r0, oa r1] [(.ref r1), (.int (0 : Int32)), (.ref r1), (.ref r0)])) rfl rfl (hb hby d43_4)
  rw [len_of q21 q31] at st1
  refine own_g s₁ (mkF m 6 #[oa r0, oa r1] [.null, (.int (3 : Int32)), (.int (0 : Int32)), (.ref r1), (.ref r0)]) (fun _ k => st1 _ (XS.aconstNull X0.here hx rfl (hb hby d43_5) k)) ?_
  obtain ⟨_, _, ⟨T2, L2, k2, n2⟩, -, X2, ⟨Lc2, hQ2, l2, y2, z2⟩, st2⟩ := X0.specialBack hx (y := (⟨"java/lang/String", "<init>", "([CIILjava/lang/Void;)V"⟩ : MethodName)) rfl hown (mvT hZ (own_w hw 225 rfl)) (mvT hZ (own_w hw 226 rfl)) (mvT hZ (own_w hw 227 rfl)) (by decide) (backOf (W := 0) (rmS4_3 l Z a0 hw [] r0 r1 kc c0_ c1_ c2_ cs h0 n0 Z0 hp0 hp1 hp2 hp3 hp4 hp5 hh0 hh1 hh2 hh3) hZ (own_w hw 227 rfl) (own_w hw 6 rfl) (by decide) (by decide)) (g := (mkF m 6 #[oa r0, oa r1] [.null, (.int (3 : Int32)), (.int (0 : Int32)), (.ref r1), (.ref r0)])) rfl (by rw [hml]; rfl) (Steps.refl _) (a := r0) (argsL := [(.ref r1), (.int (0 : Int32)), (.int (3 : Int32)), .null]) (rest := []) (lenOf own_pd19 rfl) rfl (Nat.le_of_eq rfl) (hb hby d43_6) (fun _ _ => ⟨rfl, e0, (by decide : 0 + 1 ≤ _), (by decide : 0 + 3 ≤ _)⟩)
  dsimp only [Pt.U, Pt.locs, Pt.cells, Pt.slots] at X2 l2 y2 z2 st2 hQ2
  subst l2 y2 z2
  obtain ⟨xb_2, xk_2, rfl, N2q, K2, po3, po4, po5, po6⟩ := hQ2
  have f7 := (hp0.keep K2)
  have f8 := (own_sta_keep hp5 K2 (nsS hp0.nostat ns0))
  have ne9 : r0 ≠ xb_2 := Nat.ne_of_lt (Nat.lt_of_lt_of_le hp0.lt po3)
  have ne10 : r1 ≠ xb_2 := Nat.ne_of_lt (Nat.lt_of_lt_of_le hp4.lt po3)
  have ge11 : n0 ≤ xb_2 := Nat.le_trans Z0 po3
  have sz12 : h0.size ≤ xb_2 := Nat.le_trans (Keep.refl h0 [r0]).1 po3
  have zs2 : n0 ≤ T2.heap.size := Nat.le_trans Z0 K2.1
  have kk2 : Keep h0 T2.heap [r0] := (Keep.refl h0 [r0]).trans K2 (allS (Or.inl (List.mem_of_getElem? (i := 0) rfl)) all0)
  have N2 := Fr.app N0 N2q
  obtain ⟨Lv2, X2, N2⟩ := own_hide X2 (Nat.le_refl 1) (Nat.le_refl 3) N2
  refine own_g T2 (mkF m 9 #[oa r0, oa r1] []) (fun _ k => st2.trans k) ?_
  exact own_ret0 X2 hx Bd.returns hlk (hb hby d43_9) rfl ⟨xb_2, xk_2, rfl, N2, kk2, sz12, po4, po5, po6⟩ (by decide) (by decide)
def own_C (c : Int32) : Prop := 0 ≤ c.toInt ∧ c.toInt ≤ 255
theorem own_C0 (x : Int32) : own_C ((x &&& (255 : Int32)).toUInt32.toUInt16.toUInt32.toInt32) := by
  rw [i2c_mask]
  have h0 : (x &&& (255 : Int32)).toInt = x.toInt % 256 := c_mask x 255 8 (by decide) (by decide)
  constructor <;> omega
theorem own_Cn {c : Int32} (h : own_C c) : ¬ (255 : Int32) < c := by
  rw [Int32.lt_iff_toInt_lt, show (255 : Int32).toInt = 255 from rfl]; have := h.2; omega
theorem own_nc {c : Int32} (h : own_C c) : nar .char c = c := by
  have h1 := c_i2c c
  have := h.1; have := h.2
  exact Int32.toInt_inj.mp (show (c.toUInt32.toUInt16.toUInt32.toInt32).toInt = c.toInt by omega)
theorem own_Cc {c : Int32} (h : own_C c) : ¬ (255 : Int32) < nar .char c := by rw [own_nc h]; exact own_Cn h
theorem own_caB {a : Int32} (h : own_C a) : own_ca (nar .byte (a.toInt8.toInt32)) = a := by
  have h1 := c_i2b a
  have h2 := c_i2b a.toInt8.toInt32
  have e : nar .byte (a.toInt8.toInt32) = a.toInt8.toInt32.toInt8.toInt32 := rfl
  have h3 : (nar .byte (a.toInt8.toInt32) &&& (255 : Int32)).toInt = (nar .byte (a.toInt8.toInt32)).toInt % 256 := c_mask _ 255 8 (by decide) (by decide)
  have h4 : (nar .byte (a.toInt8.toInt32) &&& (255 : Int32)) = a := by
    have := h.1; have := h.2
    rw [e] at h3
    exact Int32.toInt_inj.mp (by rw [e]; omega)
  unfold own_ca
  rw [h4]
  show nar .char (nar .char (nar .char a)) = a
  rw [own_nc h, own_nc h, own_nc h]
theorem own_caC {a : Int32} (h : own_C a) : own_ca (nar .byte ((nar .char a).toInt8.toInt32)) = a := by rw [own_nc h]; exact own_caB h
theorem own_and3 (x : Int32) : (x &&& (3 : Int32)) = 0 ∨ (x &&& (3 : Int32)) = 1 ∨ (x &&& (3 : Int32)) = 2 ∨ (x &&& (3 : Int32)) = 3 := by
  have h0 : (x &&& (3 : Int32)).toInt = x.toInt % 4 := c_mask x 3 2 (by decide) (by decide)
  simp only [← Int32.toInt_inj, show (0 : Int32).toInt = 0 from rfl, show (1 : Int32).toInt = 1 from rfl, show (2 : Int32).toInt = 2 from rfl, show (3 : Int32).toInt = 3 from rfl]
  omega
theorem own_asym {a b : Int32} (h : a < b) : ¬ b < a := by
  rw [Int32.lt_iff_toInt_lt] at *; omega
theorem own_lt16 {z i : Int32} (h : (16 : Int32) < z) (q : i.toInt ≤ 16) : i < z := by
  rw [Int32.lt_iff_toInt_lt] at *; have : (16 : Int32).toInt = 16 := rfl; omega
def own_Z (z : Int32) (us : List Value) : Prop := (z = 0 ∧ us = []) ∨ (z = 1 ∧ ∃ a, us = [a]) ∨ (z = 2 ∧ ∃ a b, us = [a, b]) ∨ (z = 3 ∧ ∃ a b c, us = [a, b, c])
def own_ok (n a b c z : Int32) (us : List Value) : Prop := (n = 0 ∧ z = 0 ∧ us = []) ∨ (n = 1 ∧ z = 1 ∧ ∃ v0, us = [.int v0] ∧ own_ca v0 = a) ∨ (n = 2 ∧ z = 2 ∧ ∃ v0 v1, us = [.int v0, .int v1] ∧ own_ca v0 = a ∧ own_ca v1 = b) ∨ (n = 3 ∧ z = 3 ∧ ∃ v0 v1 v2, us = [.int v0, .int v1, .int v2] ∧ own_ca v0 = a ∧ own_ca v1 = b ∧ own_ca v2 = c)
theorem own_okZ {n a b c z : Int32} {us : List Value} (h : own_ok n a b c z us) : own_Z z us := by
  rcases h with ⟨-, h1, h2⟩ | ⟨-, h1, v0, h2, -⟩ | ⟨-, h1, v0, v1, h2, -⟩ | ⟨-, h1, v0, v1, v2, h2, -⟩
  · exact Or.inl ⟨h1, h2⟩
  · exact Or.inr (Or.inl ⟨h1, _, h2⟩)
  · exact Or.inr (Or.inr (Or.inl ⟨h1, _, _, h2⟩))
  · exact Or.inr (Or.inr (Or.inr ⟨h1, _, _, _, h2⟩))
def own_zs (n : Nat) : List Value := List.replicate n (.int (0 : Int32))
def own_obj : List Value := [(.int (79 : Int32)), (.int (98 : Int32)), (.int (106 : Int32)), (.int (101 : Int32)), (.int (99 : Int32)), (.int (116 : Int32)), (.int (73 : Int32)), (.int (110 : Int32)), (.int (118 : Int32)), (.int (101 : Int32)), (.int (114 : Int32)), (.int (115 : Int32)), (.int (101 : Int32)), (.int (79 : Int32)), (.int (102 : Int32)), (.int (40 : Int32))]
theorem own_mk3 {n : Int32} (h : n = 0 ∨ n = 1 ∨ n = 2 ∨ n = 3) (h0 : ¬ n = (0 : Int32)) (h1 : ¬ n = (1 : Int32)) (h2 : ¬ n = (2 : Int32)) : n = 3 := by
  rcases h with h | h | h | h
  · exact absurd h h0
  · exact absurd h h1
  · exact absurd h h2
  · exact h
theorem own_pd26 : parseMethodDescriptor "([C)V" = some ⟨[(.array .char)], none⟩ := by decide +kernel
theorem own_pd27 : parseMethodDescriptor "(C)Ljava/lang/String;" = some ⟨[.char], some (.object "java/lang/String")⟩ := by decide +kernel
theorem d1_0 : decode method_3_code 0 = .ok (.iload_n 0, 1) := by decide +kernel
theorem d1_1 : decode method_3_code 1 = .ok (.ifCond .ne 14, 3) := by decide +kernel
theorem d1_4 : decode method_3_code 4 = .ok (.new 30, 3) := by decide +kernel
theorem d1_7 : decode method_3_code 7 = .ok (.dup, 1) := by decide +kernel
theorem d1_8 : decode method_3_code 8 = .ok (.iconst 0, 1) := by decide +kernel
theorem d1_9 : decode method_3_code 9 = .ok (.newarray .char, 2) := by decide +kernel
theorem d1_11 : decode method_3_code 11 = .ok (.invokespecial 32, 3) := by decide +kernel
theorem d1_14 : decode method_3_code 14 = .ok (.areturn, 1) := by decide +kernel
theorem d1_15 : decode method_3_code 15 = .ok (.iload_n 0, 1) := by decide +kernel
theorem d1_16 : decode method_3_code 16 = .ok (.iconst 1, 1) := by decide +kernel
theorem d1_17 : decode method_3_code 17 = .ok (.if_icmp .ne 8, 3) := by decide +kernel
theorem d1_20 : decode method_3_code 20 = .ok (.iload_n 1, 1) := by decide +kernel
theorem d1_21 : decode method_3_code 21 = .ok (.invokestatic 35, 3) := by decide +kernel
theorem d1_24 : decode method_3_code 24 = .ok (.areturn, 1) := by decide +kernel
theorem d1_25 : decode method_3_code 25 = .ok (.iload_n 0, 1) := by decide +kernel
theorem d1_26 : decode method_3_code 26 = .ok (.iconst 2, 1) := by decide +kernel
theorem d1_27 : decode method_3_code 27 = .ok (.if_icmp .ne 22, 3) := by decide +kernel
theorem d1_30 : decode method_3_code 30 = .ok (.new 30, 3) := by decide +kernel
theorem d1_33 : decode method_3_code 33 = .ok (.dup, 1) := by decide +kernel
theorem d1_34 : decode method_3_code 34 = .ok (.iconst 2, 1) := by decide +kernel
theorem d1_35 : decode method_3_code 35 = .ok (.newarray .char, 2) := by decide +kernel
theorem d1_37 : decode method_3_code 37 = .ok (.dup, 1) := by decide +kernel
theorem d1_38 : decode method_3_code 38 = .ok (.iconst 0, 1) := by decide +kernel
theorem d1_39 : decode method_3_code 39 = .ok (.iload_n 1, 1) := by decide +kernel
theorem d1_40 : decode method_3_code 40 = .ok (.castore, 1) := by decide +kernel
theorem d1_41 : decode method_3_code 41 = .ok (.dup, 1) := by decide +kernel
theorem d1_42 : decode method_3_code 42 = .ok (.iconst 1, 1) := by decide +kernel
theorem d1_43 : decode method_3_code 43 = .ok (.iload_n 2, 1) := by decide +kernel
theorem d1_44 : decode method_3_code 44 = .ok (.castore, 1) := by decide +kernel
theorem d1_45 : decode method_3_code 45 = .ok (.invokespecial 32, 3) := by decide +kernel
theorem d1_48 : decode method_3_code 48 = .ok (.areturn, 1) := by decide +kernel
theorem d1_49 : decode method_3_code 49 = .ok (.new 30, 3) := by decide +kernel
theorem d1_52 : decode method_3_code 52 = .ok (.dup, 1) := by decide +kernel
theorem d1_53 : decode method_3_code 53 = .ok (.iconst 3, 1) := by decide +kernel
theorem d1_54 : decode method_3_code 54 = .ok (.newarray .char, 2) := by decide +kernel
theorem d1_56 : decode method_3_code 56 = .ok (.dup, 1) := by decide +kernel
theorem d1_57 : decode method_3_code 57 = .ok (.iconst 0, 1) := by decide +kernel
theorem d1_58 : decode method_3_code 58 = .ok (.iload_n 1, 1) := by decide +kernel
theorem d1_59 : decode method_3_code 59 = .ok (.castore, 1) := by decide +kernel
theorem d1_60 : decode method_3_code 60 = .ok (.dup, 1) := by decide +kernel
theorem d1_61 : decode method_3_code 61 = .ok (.iconst 1, 1) := by decide +kernel
theorem d1_62 : decode method_3_code 62 = .ok (.iload_n 2, 1) := by decide +kernel
theorem d1_63 : decode method_3_code 63 = .ok (.castore, 1) := by decide +kernel
theorem d1_64 : decode method_3_code 64 = .ok (.dup, 1) := by decide +kernel
theorem d1_65 : decode method_3_code 65 = .ok (.iconst 2, 1) := by decide +kernel
theorem d1_66 : decode method_3_code 66 = .ok (.iload_n 3, 1) := by decide +kernel
theorem d1_67 : decode method_3_code 67 = .ok (.castore, 1) := by decide +kernel
theorem d1_68 : decode method_3_code 68 = .ok (.invokespecial 32, 3) := by decide +kernel
theorem d1_71 : decode method_3_code 71 = .ok (.areturn, 1) := by decide +kernel
def Q_rmMk (Z : State) (p0 : Int32) (p1 : Int32) (p2 : Int32) (p3 : Int32) (cs : Int32) (h0 : Heap) (n0 : Nat) (v : Option Value) (h : Heap) (L : List Loc) : Prop := ∃ (xs : Addr) (xb : Addr) (xk : ClassId) (xz : Int32) (xu : List Value), v = some (.ref xs) ∧ Fr n0 L ∧ Keep h0 h [] ∧ h0.size ≤ xs ∧ Exa Z h xs "java/lang/String" ∧ Fld Z h xs "java/lang/String" "value" "[B" (.ref xb) ∧ Fld Z h xs "java/lang/String" "coder" "B" (.int (0 : Int32)) ∧ Arv Z h xb xk .byte xz xu (.int (0 : Int32)) ∧ own_ok p0 p1 p2 p3 xz xu
theorem ef_rmMk (m : MethodId) (x0 : Int32) (x1 : Int32) (x2 : Int32) (x3 : Int32) : entryFrame m #[(.int x0), (.int x1), (.int x2), (.int x3)] 4 = mkF m 0 #[.val (.int x0), .val (.int x1), .val (.int x2), .val (.int x3)] [] := by first | (simp [entryFrame, mkF, argsToLocals, Value.category]; done) | rfl
theorem pn_rmMk : plainName "com/example/cardinal_tableau/cardinaltableau/model/RoleToStringPinLaw" = true := by first | (simp [plainName, overriddenIn]; done) | decide +kernel
set_option maxRecDepth 65536 in
set_option maxHeartbeats 40000000 in
theorem rmMk (l : Launch) (Z : State) (a0 : Array Value) (hw : ∀ d ∈ tables_1, d.before a0 Z = true) (ws : List Jvm.Cond) (p0 : Int32) (p1 : Int32) (p2 : Int32) (p3 : Int32) (cs : Int32) (h0 : Heap) (n0 : Nat) (Z0 : n0 ≤ h0.size) (hp0 : Sta Z h0 "java/lang/String" "COMPACT_STRINGS" "Z" (.int cs)) (hh0 : ¬ cs = (0 : Int32)) (hh1 : p0 = 0 ∨ p0 = 1 ∨ p0 = 2 ∨ p0 = 3) (hh2 : own_C p1) (hh3 : own_C p2) (hh4 : own_C p3) :
    MetFree l (⟨"com/example/cardinal_tableau/cardinaltableau/model/RoleToStringPinLaw", "mk", "(ICCC)Ljava/lang/String;"⟩ : MethodName) (head1 (Jvm.Cond.code (⟨"com/example/cardinal_tableau/cardinaltableau/model/RoleToStringPinLaw", "mk", "(ICCC)Ljava/lang/String;"⟩ : MethodName) method_3_code 4 (some (.object "java/lang/String")) :: ws) ({ frames := 4, cells := 6, slots := 12, locals := 94 } : Room)) (fun a U => a = #[(.int p0), (.int p1), (.int p2), (.int p3)] ∧ Z.Warmed39 U.vm ∧ U.heap = h0 ∧ CHv Z consts_1 U.vm h0) (fun _ _ _ _ _ => True) (fun _ U o U' => ∃ v L, o = .returned v ∧ Q_rmMk Z p0 p1 p2 p3 cs h0 n0 v U'.heap L ∧ CHr Z consts_1 U.vm U.heap U'.vm U'.heap ∧ ReturnedEndW U o U' L ({ frames := 4, cells := 6, slots := 12, locals := 94 } : Room).cells ({ frames := 4, cells := 6, slots := 12, locals := 94 } : Room).slots) := by
  refine MetFree.of_bodySF (plainFor_of_name pn_rmMk) hisR ?_
  intro p e s m args below meth c s₁ Bd hml0 hP hK
  obtain ⟨rfl, hZ, hh, hH0⟩ := hP
  have hx := Bd.exec
  have hby := Bd.bytes
  have hml : c.maxLocals = 4 := hml0
  have hown : s.vm.findClass "com/example/cardinal_tableau/cardinaltableau/model/RoleToStringPinLaw" = some m.cls := findClass_of_methodNamed Bd.named
  have hnm := (name_of_methodNamed Bd.named Bd.method).1
  have hlk : meth.locks = false := BodyLoose.notSynchronized Bd
  have X0 : Stand p l e ({ frames := 4, cells := 6, slots := 12, locals := 94 } : Room) (s.setVm s.vm) m #[(.int p0), (.int p1), (.int p2), (.int p3)] below meth c s₁ [] 0 0 := Stand.of_body Bd
  have e0 : s₁.heap = h0 := by rw [← hh, Bd.state]; rfl
  have N0 := Fr.nil n0
  show own_WH Z consts_1 p e below s (Q_rmMk Z p0 p1 p2 p3 cs h0 n0) 6 12 s₁ (entryFrame m #[(.int p0), (.int p1), (.int p2), (.int p3)] 4)
  have hS0 : s.Since s.vm 0 := (State.WarmedH.refl s).since 0
  have hk0 : 0 ≤ h0.size := Nat.zero_le _
  refine own_goH (T' := s₁) (g' := (mkF m 0 #[oi p0, oi p1, oi p2, oi p3] [])) (fun _ k => castTop (ef_rmMk m p0 p1 p2 p3) k) ?_
  have R0 : CHr Z consts_1 s.vm s.heap s.vm h0 := by rw [hh]; exact CHr.refl hH0
  refine own_h s₁ (mkF m 1 #[oi p0, oi p1, oi p2, oi p3] [(.int p0)]) (fun _ k => XS.iloadN X0.here hx rfl (hb hby d1_0) rfl k) ?_
  by_cases hc1_1 : p0 = (0 : Int32)
  · skip
    refine own_h s₁ (mkF m 4 #[oi p0, oi p1, oi p2, oi p3] []) (fun _ k => XS.ifNo X0.here hx rfl (hb hby d1_1) rfl (XT.i0_ne_f hc1_1) k) ?_
    obtain ⟨T2, h2, X2, e2, E2, A2, D2, -, st2⟩ := newO X0 hx hZ hown (own_w hw 220 rfl) (own_w hw 14 rfl) (own_w hw 6 rfl) e0 (g := (mkF m 4 #[oi p0, oi p1, oi p2, oi p3] [])) rfl (hb hby d1_4) (by decide) (by decide)
    obtain ⟨b2, g2⟩ : ∃ z, z = h0.size := ⟨_, rfl⟩
    rw [← g2] at A2 D2 st2
    have f3 := (hp0.ext E2)
    have fn4 : Fld Z h2 b2 "java/lang/String" "value" "[B" .null := D2 (Or.inr (own_w hw 27 rfl)) (ty := (.array .byte)) (by decide)
    have fn5 : Fld Z h2 b2 "java/lang/String" "coder" "B" (.int (0 : Int32)) := D2 (Or.inr (own_w hw 29 rfl)) (ty := .byte) (by decide)
    have ge2 : n0 ≤ b2 := Nat.le_trans Z0 (Nat.le_of_eq g2.symm)
    have sz2 : h0.size ≤ b2 := Nat.le_trans (Keep.refl h0 []).1 (Nat.le_of_eq g2.symm)
    have kk2 : Keep h0 h2 [] := (Keep.refl h0 []).ext E2
    have zs2 : n0 ≤ h2.size := Nat.le_trans Z0 E2.1
    have hk6 := Nat.le_trans hk0 (E2.1)
    have R2 := R0.trans (CHr.ext E2 R0.1)
    have sf7 := Safe.ext E2 R0.1 (Safe.new (Nat.le_of_eq g2.symm))
    refine own_h T2 (mkF m 9 #[oi p0, oi p1, oi p2, oi p3] [(.int (0 : Int32)), (.ref b2), (.ref b2)]) (fun _ k => st2 _ (XS.dup X2.here hx rfl (hb hby d1_7) rfl rfl (XS.iconst X2.here hx rfl (hb hby d1_8) k))) ?_
    obtain ⟨T8, h8, k8, X8, e8, E8, A8, st8⟩ := newP X2 hx hZ (own_w hw 221 rfl) e2 (g := (mkF m 9 #[oi p0, oi p1, oi p2, oi p3] [(.int (0 : Int32)), (.ref b2), (.ref b2)])) rfl (hb hby d1_9) rfl (by decide) (cap := 0) (by decide) (by decide) (by decide) (by decide)
    obtain ⟨b8, g8⟩ : ∃ z, z = h2.size := ⟨_, rfl⟩
    have ne9 : b2 ≠ b8 := Nat.ne_of_lt (Nat.lt_of_lt_of_le A2.lt (Nat.le_of_eq g8.symm))
    rw [← g8] at A8 st8
    have f10 := (f3.ext E8)
    have f11 := (A2.ext E8)
    have f12 := (fn4.ext E8)
    have f13 := (fn5.ext E8)
    have V8 : Arv Z h8 b8 k8 .char (0 : Int32) [] (.int (0 : Int32)) := (Arv.new A8 (by decide)).pad (pad_rep [] (.int (0 : Int32)) 0)
    have ge8 : n0 ≤ b8 := Nat.le_trans zs2 (Nat.le_of_eq g8.symm)
    have sz8 : h0.size ≤ b8 := Nat.le_trans kk2.1 (Nat.le_of_eq g8.symm)
    have kk8 : Keep h0 h8 [] := kk2.ext E8
    have zs8 : n0 ≤ h8.size := Nat.le_trans zs2 E8.1
    have hk14 := Nat.le_trans hk6 (E8.1)
    have R8 := R2.trans (CHr.ext E8 R2.1)
    have sf15 := Safe.ext E8 R2.1 sf7
    have sf16 := Safe.ext E8 R2.1 (Safe.new (Nat.le_of_eq g8.symm))
    refine own_h T8 (mkF m 11 #[oi p0, oi p1, oi p2, oi p3] [(.ref b8), (.ref b2), (.ref b2)]) (fun _ k => st8 _ k) ?_
    obtain ⟨_, _, ⟨T17, L17, k17, n17⟩, -, XX17, hs217, hg217, ⟨Lc17, hQ17, l17, y17, z17, ch17⟩, st17⟩ := X8.specialBackS hx (y := (⟨"java/lang/String", "<init>", "([C)V"⟩ : MethodName)) rfl hown (mvT hZ (own_w hw 222 rfl)) (mvT hZ (own_w hw 223 rfl)) (mvT hZ (own_w hw 224 rfl)) (by decide) (backOfSH (W := 1) (rmS1_0 l Z a0 hw [] b2 b8 k8 h8 n0 zs8 f11 ge2 f12 f13 V8) hZ (own_w hw 224 rfl) (own_w hw 6 rfl) (by decide) (by decide) (own_EW hw) R8.1) (g := (mkF m 11 #[oi p0, oi p1, oi p2, oi p3] [(.ref b8), (.ref b2), (.ref b2)])) rfl (by rw [hml]; rfl) (Steps.refl _) (a := b2) (argsL := [(.ref b8)]) (rest := [(.ref b2)]) (lenOf own_pd26 rfl) rfl (Nat.le_of_eq rfl) (hb hby d1_11) (fun _ _ => ⟨rfl, e8, (by decide : 2 + 4 ≤ _), (by decide : 4 + 8 ≤ _)⟩)
    dsimp only [Pt.U, Pt.locs, Pt.cells, Pt.slots] at XX17 hs217 hg217 l17 y17 z17 st17 hQ17 ch17
    subst l17 y17 z17
    obtain ⟨X17, hS17, hZ17, hown17⟩ := rebS hS0 (n1 := T8.heap.size) (by rw [e8]; exact hk14) XX17 hs217 hg217 hZ hown
    obtain ⟨xb_17, xk_17, rfl, N17q, K17, po18, po19, po20⟩ := hQ17
    have f21 := (own_sta_keep f10 K17 (nsS f11.nostat ns0))
    have f22 := (f11.keep K17)
    have zs17 : n0 ≤ T17.heap.size := Nat.le_trans zs8 K17.1
    have hk17 : T17.heap.size ≤ T17.heap.size := Nat.le_refl _
    have kk17 : Keep h0 T17.heap [] := kk8.trans K17 (allS (Or.inr sz2) all0)
    have R17 := R8.trans ch17
    have sf23 := ch17.safe f11.lt sf15
    have N17 := Fr.app N0 N17q
    obtain ⟨Lv17, X17, N17⟩ := own_hide X17 (Nat.le_refl 6) (Nat.le_refl 12) N17
    refine own_h T17 (mkF m 14 #[oi p0, oi p1, oi p2, oi p3] [(.ref b2)]) (fun _ k => st17.trans k) ?_
    exact own_retH X17 hS17 hx Bd.returns hlk rfl (Or.inr (Or.inr (Or.inr (Or.inr ⟨rfl, rfl, rfl⟩)))) (hb hby d1_14) hZ17 (own_EW hw) R17 rfl hk17 ⟨b2, xb_17, xk_17, (0 : Int32), [], rfl, N17, kk17, sz2, f22, po18, po19, po20, (Or.inl ⟨(by assumption), rfl, rfl⟩)⟩ (by decide) (by decide)
  · skip
    refine own_h s₁ (mkF m 17 #[oi p0, oi p1, oi p2, oi p3] [(.int (1 : Int32)), (.int p0)]) (fun _ k => XS.ifYes X0.here hx rfl (pc0 := 1) (pc' := 15) rfl (hb hby d1_1) rfl (XT.i0_ne_t hc1_1) (by decide) (by decide) (XS.iloadN X0.here hx rfl (hb hby d1_15) rfl (XS.iconst X0.here hx rfl (hb hby d1_16) k))) ?_
    by_cases hc17_24 : p0 = (1 : Int32)
    · skip
      refine own_h s₁ (mkF m 21 #[oi p0, oi p1, oi p2, oi p3] [(.int p1)]) (fun _ k => XS.icmpNo X0.here hx rfl (hb hby d1_17) rfl (XT.ii_ne_f hc17_24) (XS.iloadN X0.here hx rfl (hb hby d1_20) rfl k)) ?_
      obtain ⟨_, _, ⟨T25, L25, k25, n25⟩, -, X25, ⟨Lc25, hQ25, l25, y25, z25⟩, st25⟩ := Jvm.LawKit.callS X0 hx (y := (⟨"java/lang/String", "valueOf", "(C)Ljava/lang/String;"⟩ : MethodName)) hown (mvT hZ (own_w hw 4 rfl)) (mvT hZ (own_w hw 5 rfl)) (mvT hZ (own_w hw 6 rfl)) (mvT hZ (own_w hw 7 rfl)) (by decide) (backOf (W := 0) (rmVal l Z a0 hw [] p1 cs h0 n0 Z0 hp0 hh0 (own_Cn hh2)) hZ (own_w hw 7 rfl) (own_w hw 6 rfl) (by decide) (by decide)) (g := (mkF m 21 #[oi p0, oi p1, oi p2, oi p3] [(.int p1)])) rfl (by rw [hml]; rfl) (argsL := [(.int p1)]) (rest := []) (lenOf own_pd27 rfl) rfl (Nat.le_of_eq rfl) (hb hby d1_21) (fun _ _ => ⟨rfl, e0, (by decide : 0 + 2 ≤ _), (by decide : 0 + 5 ≤ _)⟩)
      dsimp only [Pt.U, Pt.locs, Pt.cells, Pt.slots] at X25 l25 y25 z25 st25 hQ25
      subst l25 y25 z25
      obtain ⟨xs_25, xb_25, xk_25, rfl, N25q, K25, po26, po27, po28, po29, po30, po31, po32⟩ := hQ25
      have f33 := (own_sta_keep hp0 K25 ns0)
      have ge34 : n0 ≤ xs_25 := Nat.le_trans Z0 po26
      have sz35 : h0.size ≤ xs_25 := Nat.le_trans (Keep.refl h0 []).1 po26
      have ge36 : n0 ≤ xb_25 := Nat.le_trans Z0 po27
      have sz37 : h0.size ≤ xb_25 := Nat.le_trans (Keep.refl h0 []).1 po27
      have zs25 : n0 ≤ T25.heap.size := Nat.le_trans Z0 K25.1
      have hk38 := Nat.le_trans hk0 (K25.1)
      have kk25 : Keep h0 T25.heap [] := (Keep.refl h0 []).trans K25 all0
      have R25 := R0.trans (CHr.keep K25 sf0 R0.1)
      have sf39 := Safe.keep K25 sf0 R0.1 (Safe.new po26)
      have sf40 := Safe.keep K25 sf0 R0.1 (Safe.new po27)
      have N25 := Fr.app N0 N25q
      obtain ⟨Lv25, X25, N25⟩ := own_hide X25 (Nat.le_refl 2) (Nat.le_refl 5) N25
      refine own_h T25 (mkF m 24 #[oi p0, oi p1, oi p2, oi p3] [(.ref xs_25)]) (fun _ k => st25 _ k) ?_
      exact own_retH X25 hS0 hx Bd.returns hlk rfl (Or.inr (Or.inr (Or.inr (Or.inr ⟨rfl, rfl, rfl⟩)))) (hb hby d1_24) hZ (own_EW hw) R25 rfl hk38 ⟨xs_25, xb_25, xk_25, (1 : Int32), [(.int (nar .byte (p1.toInt8.toInt32)))], rfl, N25, kk25, sz35, po29, po30, po31, po32, (Or.inr (Or.inl ⟨(by assumption), rfl, _, rfl, own_caB hh2⟩))⟩ (by decide) (by decide)
    · skip
      refine own_h s₁ (mkF m 27 #[oi p0, oi p1, oi p2, oi p3] [(.int (2 : Int32)), (.int p0)]) (fun _ k => XS.icmpYes X0.here hx rfl (pc0 := 17) (pc' := 25) rfl (hb hby d1_17) rfl (XT.ii_ne_t hc17_24) (by decide) (by decide) (XS.iloadN X0.here hx rfl (hb hby d1_25) rfl (XS.iconst X0.here hx rfl (hb hby d1_26) k))) ?_
      by_cases hc27_41 : p0 = (2 : Int32)
      · skip
        refine own_h s₁ (mkF m 30 #[oi p0, oi p1, oi p2, oi p3] []) (fun _ k => XS.icmpNo X0.here hx rfl (hb hby d1_27) rfl (XT.ii_ne_f hc27_41) k) ?_
        obtain ⟨T42, h42, X42, e42, E42, A42, D42, -, st42⟩ := newO X0 hx hZ hown (own_w hw 220 rfl) (own_w hw 14 rfl) (own_w hw 6 rfl) e0 (g := (mkF m 30 #[oi p0, oi p1, oi p2, oi p3] [])) rfl (hb hby d1_30) (by decide) (by decide)
        obtain ⟨b42, g42⟩ : ∃ z, z = h0.size := ⟨_, rfl⟩
        rw [← g42] at A42 D42 st42
        have f43 := (hp0.ext E42)
        have fn44 : Fld Z h42 b42 "java/lang/String" "value" "[B" .null := D42 (Or.inr (own_w hw 27 rfl)) (ty := (.array .byte)) (by decide)
        have fn45 : Fld Z h42 b42 "java/lang/String" "coder" "B" (.int (0 : Int32)) := D42 (Or.inr (own_w hw 29 rfl)) (ty := .byte) (by decide)
        have ge42 : n0 ≤ b42 := Nat.le_trans Z0 (Nat.le_of_eq g42.symm)
        have sz42 : h0.size ≤ b42 := Nat.le_trans (Keep.refl h0 []).1 (Nat.le_of_eq g42.symm)
        have kk42 : Keep h0 h42 [] := (Keep.refl h0 []).ext E42
        have zs42 : n0 ≤ h42.size := Nat.le_trans Z0 E42.1
        have hk46 := Nat.le_trans hk0 (E42.1)
        have R42 := R0.trans (CHr.ext E42 R0.1)
        have sf47 := Safe.ext E42 R0.1 (Safe.new (Nat.le_of_eq g42.symm))
        refine own_h T42 (mkF m 35 #[oi p0, oi p1, oi p2, oi p3] [(.int (2 : Int32)), (.ref b42), (.ref b42)]) (fun _ k => st42 _ (XS.dup X42.here hx rfl (hb hby d1_33) rfl rfl (XS.iconst X42.here hx rfl (hb hby d1_34) k))) ?_
        obtain ⟨T48, h48, k48, X48, e48, E48, A48, st48⟩ := newP X42 hx hZ (own_w hw 221 rfl) e42 (g := (mkF m 35 #[oi p0, oi p1, oi p2, oi p3] [(.int (2 : Int32)), (.ref b42), (.ref b42)])) rfl (hb hby d1_35) rfl (by decide) (cap := 2) (by decide) (by decide) (by decide) (by decide)
        obtain ⟨b48, g48⟩ : ∃ z, z = h42.size := ⟨_, rfl⟩
        have ne49 : b42 ≠ b48 := Nat.ne_of_lt (Nat.lt_of_lt_of_le A42.lt (Nat.le_of_eq g48.symm))
        rw [← g48] at A48 st48
        have f50 := (f43.ext E48)
        have f51 := (A42.ext E48)
        have f52 := (fn44.ext E48)
        have f53 := (fn45.ext E48)
        have V48 : Arv Z h48 b48 k48 .char (2 : Int32) [(.int (0 : Int32)), (.int (0 : Int32))] (.int (0 : Int32)) := (Arv.new A48 (by decide)).pad (pad_rep [] (.int (0 : Int32)) 2)
        have ge48 : n0 ≤ b48 := Nat.le_trans zs42 (Nat.le_of_eq g48.symm)
        have sz48 : h0.size ≤ b48 := Nat.le_trans kk42.1 (Nat.le_of_eq g48.symm)
        have kk48 : Keep h0 h48 [] := kk42.ext E48
        have zs48 : n0 ≤ h48.size := Nat.le_trans zs42 E48.1
        have hk54 := Nat.le_trans hk46 (E48.1)
        have R48 := R42.trans (CHr.ext E48 R42.1)
        have sf55 := Safe.ext E48 R42.1 sf47
        have sf56 := Safe.ext E48 R42.1 (Safe.new (Nat.le_of_eq g48.symm))
        refine own_h T48 (mkF m 40 #[oi p0, oi p1, oi p2, oi p3] [(.int p1), (.int (0 : Int32)), (.ref b48), (.ref b48), (.ref b42), (.ref b42)]) (fun _ k => st48 _ (XS.dup X48.here hx rfl (hb hby d1_37) rfl rfl (XS.iconst X48.here hx rfl (hb hby d1_38) (XS.iloadN X48.here hx rfl (hb hby d1_39) rfl k)))) ?_
        obtain ⟨cl57, Ar57, q157, q257, q357, H57, G57⟩ := id V48
        have hin57 := inb_of q257 (j := (0 : Int32)) (by decide)
        obtain ⟨T57, h57, X57, e57, W57, st57⟩ := stC X48 hx hZ e48 Ar57 (j := (0 : Int32)) hin57 (g := (mkF m 40 #[oi p0, oi p1, oi p2, oi p3] [(.int p1), (.int (0 : Int32)), (.ref b48), (.ref b48), (.ref b42), (.ref b42)])) rfl rfl (hb hby d1_40)
        have f58 := (f50.wr W57)
        have f59 := (f51.wr W57)
        have f60 := (f52.other W57 (Or.inl ne49))
        have f61 := (f53.other W57 (Or.inl ne49))
        have V57 : Arv Z h57 b48 k48 .char (2 : Int32) [(.int (nar .char p1)), (.int (0 : Int32))] (.int (0 : Int32)) := Arv.set Ar57 q157 q257 q357 H57 G57 (fits_nar_char _) W57 0 (by decide) (by simp)
        have N57 := Fr.snoc X57 N0 ge48
        have zs57 : n0 ≤ h57.size := by rw [W57.size]; exact zs48
        have kk57 : Keep h0 h57 [] := kk48.wr W57 (Or.inr sz48)
        have hk62 := Nat.le_trans hk54 (Nat.le_of_eq W57.size.symm)
        have R57 := R48.trans (CHr.wr W57 sf56 R48.1)
        have sf63 := Safe.wr W57 sf56 R48.1 sf55
        have sf64 := Safe.wr W57 sf56 R48.1 sf56
        refine own_h T57 (mkF m 44 #[oi p0, oi p1, oi p2, oi p3] [(.int p2), (.int (1 : Int32)), (.ref b48), (.ref b48), (.ref b42), (.ref b42)]) (fun _ k => st57 _ (XS.dup X57.here hx rfl (hb hby d1_41) rfl rfl (XS.iconst X57.here hx rfl (hb hby d1_42) (XS.iloadN X57.here hx rfl (hb hby d1_43) rfl k)))) ?_
        obtain ⟨cl65, Ar65, q165, q265, q365, H65, G65⟩ := id V57
        have hin65 := inb_of q265 (j := (1 : Int32)) (by decide)
        obtain ⟨T65, h65, X65, e65, W65, st65⟩ := stC X57 hx hZ e57 Ar65 (j := (1 : Int32)) hin65 (g := (mkF m 44 #[oi p0, oi p1, oi p2, oi p3] [(.int p2), (.int (1 : Int32)), (.ref b48), (.ref b48), (.ref b42), (.ref b42)])) rfl rfl (hb hby d1_44)
        have f66 := (f58.wr W65)
        have f67 := (f59.wr W65)
        have f68 := (f60.other W65 (Or.inl ne49))
        have f69 := (f61.other W65 (Or.inl ne49))
        have V65 : Arv Z h65 b48 k48 .char (2 : Int32) [(.int (nar .char p1)), (.int (nar .char p2))] (.int (0 : Int32)) := Arv.set Ar65 q165 q265 q365 H65 G65 (fits_nar_char _) W65 1 (by decide) (by simp)
        have N65 := Fr.snoc X65 N57 ge48
        have zs65 : n0 ≤ h65.size := by rw [W65.size]; exact zs57
        have kk65 : Keep h0 h65 [] := kk57.wr W65 (Or.inr sz48)
        have hk70 := Nat.le_trans hk62 (Nat.le_of_eq W65.size.symm)
        have R65 := R57.trans (CHr.wr W65 sf64 R57.1)
        have sf71 := Safe.wr W65 sf64 R57.1 sf63
        have sf72 := Safe.wr W65 sf64 R57.1 sf64
        refine own_h T65 (mkF m 45 #[oi p0, oi p1, oi p2, oi p3] [(.ref b48), (.ref b42), (.ref b42)]) (fun _ k => st65 _ k) ?_
        obtain ⟨_, _, ⟨T73, L73, k73, n73⟩, -, X73, ⟨Lc73, hQ73, l73, y73, z73⟩, st73⟩ := X65.specialBack hx (y := (⟨"java/lang/String", "<init>", "([C)V"⟩ : MethodName)) rfl hown (mvT hZ (own_w hw 222 rfl)) (mvT hZ (own_w hw 223 rfl)) (mvT hZ (own_w hw 224 rfl)) (by decide) (backOf (W := 1) (rmS1_2 l Z a0 hw [] b42 b48 k48 (nar .char p1) (nar .char p2) cs h65 n0 zs65 f67 ge42 f68 f69 V65 f66 hh0 (own_Cc hh2) (own_Cc hh3)) hZ (own_w hw 224 rfl) (own_w hw 6 rfl) (by decide) (by decide)) (g := (mkF m 45 #[oi p0, oi p1, oi p2, oi p3] [(.ref b48), (.ref b42), (.ref b42)])) rfl (by rw [hml]; rfl) (Steps.refl _) (a := b42) (argsL := [(.ref b48)]) (rest := [(.ref b42)]) (lenOf own_pd26 rfl) rfl (Nat.le_of_eq rfl) (hb hby d1_45) (fun _ _ => ⟨rfl, e65, (by decide : 2 + 1 ≤ _), (by decide : 6 + 2 ≤ _)⟩)
        dsimp only [Pt.U, Pt.locs, Pt.cells, Pt.slots] at X73 l73 y73 z73 st73 hQ73
        subst l73 y73 z73
        obtain ⟨xb_73, xk_73, rfl, N73q, K73, po74, po75, po76, po77⟩ := hQ73
        have f78 := (own_sta_keep f66 K73 (nsS f67.nostat ns0))
        have f79 := (f67.keep K73)
        have ne80 : b42 ≠ xb_73 := Nat.ne_of_lt (Nat.lt_of_lt_of_le f67.lt po74)
        have ne81 : b48 ≠ xb_73 := Nat.ne_of_lt (Nat.lt_of_lt_of_le V65.lt po74)
        have ge82 : n0 ≤ xb_73 := Nat.le_trans zs65 po74
        have sz83 : h0.size ≤ xb_73 := Nat.le_trans kk65.1 po74
        have zs73 : n0 ≤ T73.heap.size := Nat.le_trans zs65 K73.1
        have hk84 := Nat.le_trans hk70 (K73.1)
        have kk73 : Keep h0 T73.heap [] := kk65.trans K73 (allS (Or.inr sz42) all0)
        have R73 := R65.trans (CHr.keep K73 (sfS sf71 sf0) R65.1)
        have sf85 := Safe.keep K73 (sfS sf71 sf0) R65.1 sf71
        have sf86 := Safe.keep K73 (sfS sf71 sf0) R65.1 (Safe.new po74)
        have N73 := Fr.app N65 N73q
        obtain ⟨Lv73, X73, N73⟩ := own_hide X73 (Nat.le_refl 3) (Nat.le_refl 8) N73
        refine own_h T73 (mkF m 48 #[oi p0, oi p1, oi p2, oi p3] [(.ref b42)]) (fun _ k => st73.trans k) ?_
        exact own_retH X73 hS0 hx Bd.returns hlk rfl (Or.inr (Or.inr (Or.inr (Or.inr ⟨rfl, rfl, rfl⟩)))) (hb hby d1_48) hZ (own_EW hw) R73 rfl hk84 ⟨b42, xb_73, xk_73, (2 : Int32), [(.int (nar .byte ((nar .char p1).toInt8.toInt32))), (.int (nar .byte ((nar .char p2).toInt8.toInt32)))], rfl, N73, kk73, sz42, f79, po75, po76, po77, (Or.inr (Or.inr (Or.inl ⟨(by assumption), rfl, _, _, rfl, own_caC hh2, own_caC hh3⟩)))⟩ (by decide) (by decide)
      · skip
        refine own_h s₁ (mkF m 49 #[oi p0, oi p1, oi p2, oi p3] []) (fun _ k => XS.icmpYes X0.here hx rfl (pc0 := 27) (pc' := 49) rfl (hb hby d1_27) rfl (XT.ii_ne_t hc27_41) (by decide) (by decide) k) ?_
        obtain ⟨T87, h87, X87, e87, E87, A87, D87, -, st87⟩ := newO X0 hx hZ hown (own_w hw 220 rfl) (own_w hw 14 rfl) (own_w hw 6 rfl) e0 (g := (mkF m 49 #[oi p0, oi p1, oi p2, oi p3] [])) rfl (hb hby d1_49) (by decide) (by decide)
        obtain ⟨b87, g87⟩ : ∃ z, z = h0.size := ⟨_, rfl⟩
        rw [← g87] at A87 D87 st87
        have f88 := (hp0.ext E87)
        have fn89 : Fld Z h87 b87 "java/lang/String" "value" "[B" .null := D87 (Or.inr (own_w hw 27 rfl)) (ty := (.array .byte)) (by decide)
        have fn90 : Fld Z h87 b87 "java/lang/String" "coder" "B" (.int (0 : Int32)) := D87 (Or.inr (own_w hw 29 rfl)) (ty := .byte) (by decide)
        have ge87 : n0 ≤ b87 := Nat.le_trans Z0 (Nat.le_of_eq g87.symm)
        have sz87 : h0.size ≤ b87 := Nat.le_trans (Keep.refl h0 []).1 (Nat.le_of_eq g87.symm)
        have kk87 : Keep h0 h87 [] := (Keep.refl h0 []).ext E87
        have zs87 : n0 ≤ h87.size := Nat.le_trans Z0 E87.1
        have hk91 := Nat.le_trans hk0 (E87.1)
        have R87 := R0.trans (CHr.ext E87 R0.1)
        have sf92 := Safe.ext E87 R0.1 (Safe.new (Nat.le_of_eq g87.symm))
        refine own_h T87 (mkF m 54 #[oi p0, oi p1, oi p2, oi p3] [(.int (3 : Int32)), (.ref b87), (.ref b87)]) (fun _ k => st87 _ (XS.dup X87.here hx rfl (hb hby d1_52) rfl rfl (XS.iconst X87.here hx rfl (hb hby d1_53) k))) ?_
        obtain ⟨T93, h93, k93, X93, e93, E93, A93, st93⟩ := newP X87 hx hZ (own_w hw 221 rfl) e87 (g := (mkF m 54 #[oi p0, oi p1, oi p2, oi p3] [(.int (3 : Int32)), (.ref b87), (.ref b87)])) rfl (hb hby d1_54) rfl (by decide) (cap := 3) (by decide) (by decide) (by decide) (by decide)
        obtain ⟨b93, g93⟩ : ∃ z, z = h87.size := ⟨_, rfl⟩
        have ne94 : b87 ≠ b93 := Nat.ne_of_lt (Nat.lt_of_lt_of_le A87.lt (Nat.le_of_eq g93.symm))
        rw [← g93] at A93 st93
        have f95 := (f88.ext E93)
        have f96 := (A87.ext E93)
        have f97 := (fn89.ext E93)
        have f98 := (fn90.ext E93)
        have V93 : Arv Z h93 b93 k93 .char (3 : Int32) [(.int (0 : Int32)), (.int (0 : Int32)), (.int (0 : Int32))] (.int (0 : Int32)) := (Arv.new A93 (by decide)).pad (pad_rep [] (.int (0 : Int32)) 3)
        have ge93 : n0 ≤ b93 := Nat.le_trans zs87 (Nat.le_of_eq g93.symm)
        have sz93 : h0.size ≤ b93 := Nat.le_trans kk87.1 (Nat.le_of_eq g93.symm)
        have kk93 : Keep h0 h93 [] := kk87.ext E93
        have zs93 : n0 ≤ h93.size := Nat.le_trans zs87 E93.1
        have hk99 := Nat.le_trans hk91 (E93.1)
        have R93 := R87.trans (CHr.ext E93 R87.1)
        have sf100 := Safe.ext E93 R87.1 sf92
        have sf101 := Safe.ext E93 R87.1 (Safe.new (Nat.le_of_eq g93.symm))
        refine own_h T93 (mkF m 59 #[oi p0, oi p1, oi p2, oi p3] [(.int p1), (.int (0 : Int32)), (.ref b93), (.ref b93), (.ref b87), (.ref b87)]) (fun _ k => st93 _ (XS.dup X93.here hx rfl (hb hby d1_56) rfl rfl (XS.iconst X93.here hx rfl (hb hby d1_57) (XS.iloadN X93.here hx rfl (hb hby d1_58) rfl k)))) ?_
        obtain ⟨cl102, Ar102, q1102, q2102, q3102, H102, G102⟩ := id V93
        have hin102 := inb_of q2102 (j := (0 : Int32)) (by decide)
        obtain ⟨T102, h102, X102, e102, W102, st102⟩ := stC X93 hx hZ e93 Ar102 (j := (0 : Int32)) hin102 (g := (mkF m 59 #[oi p0, oi p1, oi p2, oi p3] [(.int p1), (.int (0 : Int32)), (.ref b93), (.ref b93), (.ref b87), (.ref b87)])) rfl rfl (hb hby d1_59)
        have f103 := (f95.wr W102)
        have f104 := (f96.wr W102)
        have f105 := (f97.other W102 (Or.inl ne94))
        have f106 := (f98.other W102 (Or.inl ne94))
        have V102 : Arv Z h102 b93 k93 .char (3 : Int32) [(.int (nar .char p1)), (.int (0 : Int32)), (.int (0 : Int32))] (.int (0 : Int32)) := Arv.set Ar102 q1102 q2102 q3102 H102 G102 (fits_nar_char _) W102 0 (by decide) (by simp)
        have N102 := Fr.snoc X102 N0 ge93
        have zs102 : n0 ≤ h102.size := by rw [W102.size]; exact zs93
        have kk102 : Keep h0 h102 [] := kk93.wr W102 (Or.inr sz93)
        have hk107 := Nat.le_trans hk99 (Nat.le_of_eq W102.size.symm)
        have R102 := R93.trans (CHr.wr W102 sf101 R93.1)
        have sf108 := Safe.wr W102 sf101 R93.1 sf100
        have sf109 := Safe.wr W102 sf101 R93.1 sf101
        refine own_h T102 (mkF m 63 #[oi p0, oi p1, oi p2, oi p3] [(.int p2), (.int (1 : Int32)), (.ref b93), (.ref b93), (.ref b87), (.ref b87)]) (fun _ k => st102 _ (XS.dup X102.here hx rfl (hb hby d1_60) rfl rfl (XS.iconst X102.here hx rfl (hb hby d1_61) (XS.iloadN X102.here hx rfl (hb hby d1_62) rfl k)))) ?_
        obtain ⟨cl110, Ar110, q1110, q2110, q3110, H110, G110⟩ := id V102
        have hin110 := inb_of q2110 (j := (1 : Int32)) (by decide)
        obtain ⟨T110, h110, X110, e110, W110, st110⟩ := stC X102 hx hZ e102 Ar110 (j := (1 : Int32)) hin110 (g := (mkF m 63 #[oi p0, oi p1, oi p2, oi p3] [(.int p2), (.int (1 : Int32)), (.ref b93), (.ref b93), (.ref b87), (.ref b87)])) rfl rfl (hb hby d1_63)
        have f111 := (f103.wr W110)
        have f112 := (f104.wr W110)
        have f113 := (f105.other W110 (Or.inl ne94))
        have f114 := (f106.other W110 (Or.inl ne94))
        have V110 : Arv Z h110 b93 k93 .char (3 : Int32) [(.int (nar .char p1)), (.int (nar .char p2)), (.int (0 : Int32))] (.int (0 : Int32)) := Arv.set Ar110 q1110 q2110 q3110 H110 G110 (fits_nar_char _) W110 1 (by decide) (by simp)
        have N110 := Fr.snoc X110 N102 ge93
        have zs110 : n0 ≤ h110.size := by rw [W110.size]; exact zs102
        have kk110 : Keep h0 h110 [] := kk102.wr W110 (Or.inr sz93)
        have hk115 := Nat.le_trans hk107 (Nat.le_of_eq W110.size.symm)
        have R110 := R102.trans (CHr.wr W110 sf109 R102.1)
        have sf116 := Safe.wr W110 sf109 R102.1 sf108
        have sf117 := Safe.wr W110 sf109 R102.1 sf109
        refine own_h T110 (mkF m 67 #[oi p0, oi p1, oi p2, oi p3] [(.int p3), (.int (2 : Int32)), (.ref b93), (.ref b93), (.ref b87), (.ref b87)]) (fun _ k => st110 _ (XS.dup X110.here hx rfl (hb hby d1_64) rfl rfl (XS.iconst X110.here hx rfl (hb hby d1_65) (XS.iloadN X110.here hx rfl (hb hby d1_66) rfl k)))) ?_
        obtain ⟨cl118, Ar118, q1118, q2118, q3118, H118, G118⟩ := id V110
        have hin118 := inb_of q2118 (j := (2 : Int32)) (by decide)
        obtain ⟨T118, h118, X118, e118, W118, st118⟩ := stC X110 hx hZ e110 Ar118 (j := (2 : Int32)) hin118 (g := (mkF m 67 #[oi p0, oi p1, oi p2, oi p3] [(.int p3), (.int (2 : Int32)), (.ref b93), (.ref b93), (.ref b87), (.ref b87)])) rfl rfl (hb hby d1_67)
        have f119 := (f111.wr W118)
        have f120 := (f112.wr W118)
        have f121 := (f113.other W118 (Or.inl ne94))
        have f122 := (f114.other W118 (Or.inl ne94))
        have V118 : Arv Z h118 b93 k93 .char (3 : Int32) [(.int (nar .char p1)), (.int (nar .char p2)), (.int (nar .char p3))] (.int (0 : Int32)) := Arv.set Ar118 q1118 q2118 q3118 H118 G118 (fits_nar_char _) W118 2 (by decide) (by simp)
        have N118 := Fr.snoc X118 N110 ge93
        have zs118 : n0 ≤ h118.size := by rw [W118.size]; exact zs110
        have kk118 : Keep h0 h118 [] := kk110.wr W118 (Or.inr sz93)
        have hk123 := Nat.le_trans hk115 (Nat.le_of_eq W118.size.symm)
        have R118 := R110.trans (CHr.wr W118 sf117 R110.1)
        have sf124 := Safe.wr W118 sf117 R110.1 sf116
        have sf125 := Safe.wr W118 sf117 R110.1 sf117
        refine own_h T118 (mkF m 68 #[oi p0, oi p1, oi p2, oi p3] [(.ref b93), (.ref b87), (.ref b87)]) (fun _ k => st118 _ k) ?_
        obtain ⟨_, _, ⟨T126, L126, k126, n126⟩, -, X126, ⟨Lc126, hQ126, l126, y126, z126⟩, st126⟩ := X118.specialBack hx (y := (⟨"java/lang/String", "<init>", "([C)V"⟩ : MethodName)) rfl hown (mvT hZ (own_w hw 222 rfl)) (mvT hZ (own_w hw 223 rfl)) (mvT hZ (own_w hw 224 rfl)) (by decide) (backOf (W := 1) (rmS1_3 l Z a0 hw [] b87 b93 k93 (nar .char p1) (nar .char p2) (nar .char p3) cs h118 n0 zs118 f120 ge87 f121 f122 V118 f119 hh0 (own_Cc hh2) (own_Cc hh3) (own_Cc hh4)) hZ (own_w hw 224 rfl) (own_w hw 6 rfl) (by decide) (by decide)) (g := (mkF m 68 #[oi p0, oi p1, oi p2, oi p3] [(.ref b93), (.ref b87), (.ref b87)])) rfl (by rw [hml]; rfl) (Steps.refl _) (a := b87) (argsL := [(.ref b93)]) (rest := [(.ref b87)]) (lenOf own_pd26 rfl) rfl (Nat.le_of_eq rfl) (hb hby d1_68) (fun _ _ => ⟨rfl, e118, (by decide : 2 + 1 ≤ _), (by decide : 7 + 3 ≤ _)⟩)
        dsimp only [Pt.U, Pt.locs, Pt.cells, Pt.slots] at X126 l126 y126 z126 st126 hQ126
        subst l126 y126 z126
        obtain ⟨xb_126, xk_126, rfl, N126q, K126, po127, po128, po129, po130⟩ := hQ126
        have f131 := (own_sta_keep f119 K126 (nsS f120.nostat ns0))
        have f132 := (f120.keep K126)
        have ne133 : b87 ≠ xb_126 := Nat.ne_of_lt (Nat.lt_of_lt_of_le f120.lt po127)
        have ne134 : b93 ≠ xb_126 := Nat.ne_of_lt (Nat.lt_of_lt_of_le V118.lt po127)
        have ge135 : n0 ≤ xb_126 := Nat.le_trans zs118 po127
        have sz136 : h0.size ≤ xb_126 := Nat.le_trans kk118.1 po127
        have zs126 : n0 ≤ T126.heap.size := Nat.le_trans zs118 K126.1
        have hk137 := Nat.le_trans hk123 (K126.1)
        have kk126 : Keep h0 T126.heap [] := kk118.trans K126 (allS (Or.inr sz87) all0)
        have R126 := R118.trans (CHr.keep K126 (sfS sf124 sf0) R118.1)
        have sf138 := Safe.keep K126 (sfS sf124 sf0) R118.1 sf124
        have sf139 := Safe.keep K126 (sfS sf124 sf0) R118.1 (Safe.new po127)
        have N126 := Fr.app N118 N126q
        obtain ⟨Lv126, X126, N126⟩ := own_hide X126 (Nat.le_refl 3) (Nat.le_refl 10) N126
        refine own_h T126 (mkF m 71 #[oi p0, oi p1, oi p2, oi p3] [(.ref b87)]) (fun _ k => st126.trans k) ?_
        exact own_retH X126 hS0 hx Bd.returns hlk rfl (Or.inr (Or.inr (Or.inr (Or.inr ⟨rfl, rfl, rfl⟩)))) (hb hby d1_71) hZ (own_EW hw) R126 rfl hk137 ⟨b87, xb_126, xk_126, (3 : Int32), [(.int (nar .byte ((nar .char p1).toInt8.toInt32))), (.int (nar .byte ((nar .char p2).toInt8.toInt32))), (.int (nar .byte ((nar .char p3).toInt8.toInt32)))], rfl, N126, kk126, sz87, f132, po128, po129, po130, (Or.inr (Or.inr (Or.inr ⟨(own_mk3 hh1 (by assumption) (by assumption) (by assumption)), rfl, _, _, _, rfl, own_caC hh2, own_caC hh3, own_caC hh4⟩)))⟩ (by decide) (by decide)
theorem d7_0 : decode prog_21_method_1_code 0 = .ok (.aload_n 0, 1) := by decide +kernel
theorem d7_1 : decode prog_21_method_1_code 1 = .ok (.invokespecial 1, 3) := by decide +kernel
theorem d7_4 : decode prog_21_method_1_code 4 = .ok (.aload_n 0, 1) := by decide +kernel
theorem d7_5 : decode prog_21_method_1_code 5 = .ok (.iload_n 1, 1) := by decide +kernel
theorem d7_6 : decode prog_21_method_1_code 6 = .ok (.putfield 7, 3) := by decide +kernel
theorem d7_9 : decode prog_21_method_1_code 9 = .ok (.aload_n 0, 1) := by decide +kernel
theorem d7_10 : decode prog_21_method_1_code 10 = .ok (.aload_n 2, 1) := by decide +kernel
theorem d7_11 : decode prog_21_method_1_code 11 = .ok (.putfield 13, 3) := by decide +kernel
theorem d7_14 : decode prog_21_method_1_code 14 = .ok (.return_, 1) := by decide +kernel
def Q_rmRole (Z : State) (r0 : Addr) (p1 : Int32) (r2 : Addr) (h0 : Heap) (n0 : Nat) (v : Option Value) (h : Heap) (L : List Loc) : Prop := v = none ∧ Fr n0 L ∧ Keep h0 h [r0] ∧ Fld Z h r0 "com/example/cardinal_tableau/cardinaltableau/model/Role" "inverse" "Lcom/example/cardinal_tableau/cardinaltableau/model/Role;" .null ∧ Fld Z h r0 "com/example/cardinal_tableau/cardinaltableau/model/Role" "id" "I" (.int p1) ∧ Fld Z h r0 "com/example/cardinal_tableau/cardinaltableau/model/Role" "iri" "Ljava/lang/String;" (.ref r2) ∧ Exa Z h r0 "com/example/cardinal_tableau/cardinaltableau/model/Role"
theorem ef_rmRole (m : MethodId) (x0 : Addr) (x1 : Int32) (x2 : Addr) : entryFrame m #[(.ref x0), (.int x1), (.ref x2)] 3 = mkF m 0 #[.val (.ref x0), .val (.int x1), .val (.ref x2)] [] := by first | (simp [entryFrame, mkF, argsToLocals, Value.category]; done) | rfl
theorem pn_rmRole : plainName "com/example/cardinal_tableau/cardinaltableau/model/Role" = true := by first | (simp [plainName, overriddenIn]; done) | decide +kernel
set_option maxRecDepth 65536 in
set_option maxHeartbeats 40000000 in
theorem rmRole (l : Launch) (Z : State) (a0 : Array Value) (hw : ∀ d ∈ tables_1, d.before a0 Z = true) (ws : List Jvm.Cond) (r0 : Addr) (p1 : Int32) (r2 : Addr) (h0 : Heap) (n0 : Nat) (Z0 : n0 ≤ h0.size) (hp0 : Exa Z h0 r0 "com/example/cardinal_tableau/cardinaltableau/model/Role") (hp1 : n0 ≤ r0) (hp2 : Fld Z h0 r0 "com/example/cardinal_tableau/cardinaltableau/model/Role" "id" "I" (.int (0 : Int32))) (hp3 : Fld Z h0 r0 "com/example/cardinal_tableau/cardinaltableau/model/Role" "iri" "Ljava/lang/String;" .null) (hp4 : Fld Z h0 r0 "com/example/cardinal_tableau/cardinaltableau/model/Role" "inverse" "Lcom/example/cardinal_tableau/cardinaltableau/model/Role;" .null) :
    MetFree l (⟨"com/example/cardinal_tableau/cardinaltableau/model/Role", "<init>", "(ILjava/lang/String;)V"⟩ : MethodName) (head1 (Jvm.Cond.code (⟨"com/example/cardinal_tableau/cardinaltableau/model/Role", "<init>", "(ILjava/lang/String;)V"⟩ : MethodName) prog_21_method_1_code 3 none :: ws) ({ frames := 1, cells := 0, slots := 0, locals := 12 } : Room)) (fun a U => a = #[(.ref r0), (.int p1), (.ref r2)] ∧ Z.Warmed39 U.vm ∧ U.heap = h0) (fun _ _ _ _ _ => True) (fun _ U o U' => ∃ v L, o = .returned v ∧ Q_rmRole Z r0 p1 r2 h0 n0 v U'.heap L ∧ FrameEnd U o U' L ({ frames := 1, cells := 0, slots := 0, locals := 12 } : Room).cells ({ frames := 1, cells := 0, slots := 0, locals := 12 } : Room).slots) := by
  refine MetFree.of_bodySF (plainFor_of_name pn_rmRole) hisR ?_
  intro p e s m args below meth c s₁ Bd hml0 hP hK
  obtain ⟨rfl, hZ, hh⟩ := hP
  have hx := Bd.exec
  have hby := Bd.bytes
  have hml : c.maxLocals = 3 := hml0
  have hown : s.vm.findClass "com/example/cardinal_tableau/cardinaltableau/model/Role" = some m.cls := findClass_of_methodNamed Bd.named
  have hnm := (name_of_methodNamed Bd.named Bd.method).1
  have hlk : meth.locks = false := BodyLoose.notSynchronized Bd
  have X0 : Stand p l e ({ frames := 1, cells := 0, slots := 0, locals := 12 } : Room) s m #[(.ref r0), (.int p1), (.ref r2)] below meth c s₁ [] 0 0 := Stand.of_body Bd
  have e0 : s₁.heap = h0 := by rw [← hh, Bd.state]; rfl
  have N0 := Fr.nil n0
  show own_W p e below s (Q_rmRole Z r0 p1 r2 h0 n0) 0 0 s₁ (entryFrame m #[(.ref r0), (.int p1), (.ref r2)] 3)
  skip
  skip
  refine own_go (T' := s₁) (g' := (mkF m 0 #[oa r0, oi p1, oa r2] [])) (fun _ k => castTop (ef_rmRole m r0 p1 r2) k) ?_
  refine own_g s₁ (mkF m 1 #[oa r0, oi p1, oa r2] [(.ref r0)]) (fun _ k => XS.aloadN X0.here hx rfl (hb hby d7_0) rfl rfl k) ?_
  obtain ⟨T1, X1, e1, st1⟩ := initO X0 hx hZ hown (own_w hw 36 rfl) (own_w hw 24 rfl) (own_w hw 25 rfl) e0 (g := (mkF m 1 #[oa r0, oi p1, oa r2] [(.ref r0)])) rfl (by rw [hml]; rfl) rfl (hb hby d7_1) (by decide) (W := 0) (Nat.le_of_eq rfl) (by decide)
  refine own_g T1 (mkF m 6 #[oa r0, oi p1, oa r2] [(.int p1), (.ref r0)]) (fun _ k => st1 _ (XS.aloadN X1.here hx rfl (hb hby d7_4) rfl rfl (XS.iloadN X1.here hx rfl (hb hby d7_5) rfl k))) ?_
  obtain ⟨T2, h2, X2, e2, W2, st2⟩ := putF X1 hx hZ hown (host := "") (Or.inl (own_w hw 37 rfl)) Via.refl e1 hp2 hp0 (Or.inr ⟨(own_w hw 38 rfl), rfl, hnm⟩) (own_w hw 31 rfl) (ty := .int) (by decide) rfl rfl (g := (mkF m 6 #[oa r0, oi p1, oa r2] [(.int p1), (.ref r0)])) rfl rfl (hb hby d7_6)
  have f3 := (hp0.wr W2)
  have f4 := (hp3.other W2 (Or.inr (slot_ne (Or.inr (own_w hw 40 rfl)) (Or.inr (own_w hw 38 rfl)) (by decide) (t := (.object "java/lang/String")) (t' := .int) (by decide) (by decide))))
  have f5 := (hp4.other W2 (Or.inr (slot_ne (Or.inl (own_w hw 47 rfl)) (Or.inr (own_w hw 38 rfl)) (by decide) (t := (.object "com/example/cardinal_tableau/cardinaltableau/model/Role")) (t' := .int) (by decide) (by decide))))
  have fw2 : Fld Z h2 r0 "com/example/cardinal_tableau/cardinaltableau/model/Role" "id" "I" (.int p1) := hp2.same W2
  have N2 := Fr.snoc X2 N0 hp1
  have zs2 : n0 ≤ h2.size := by rw [W2.size]; exact Z0
  have kk2 : Keep h0 h2 [r0] := (Keep.refl h0 [r0]).wr W2 (Or.inl (List.mem_of_getElem? (i := 0) rfl))
  refine own_g T2 (mkF m 11 #[oa r0, oi p1, oa r2] [(.ref r2), (.ref r0)]) (fun _ k => st2 _ (XS.aloadN X2.here hx rfl (hb hby d7_9) rfl rfl (XS.aloadN X2.here hx rfl (hb hby d7_10) rfl rfl k))) ?_
  obtain ⟨T6, h6, X6, e6, W6, st6⟩ := putF X2 hx hZ hown (host := "") (Or.inl (own_w hw 39 rfl)) Via.refl e2 f4 f3 (Or.inr ⟨(own_w hw 40 rfl), rfl, hnm⟩) (own_w hw 31 rfl) (ty := (.object "java/lang/String")) (by decide) rfl rfl (g := (mkF m 11 #[oa r0, oi p1, oa r2] [(.ref r2), (.ref r0)])) rfl rfl (hb hby d7_11)
  have f7 := (f3.wr W6)
  have f8 := (f5.other W6 (Or.inr (slot_ne (Or.inl (own_w hw 47 rfl)) (Or.inr (own_w hw 40 rfl)) (by decide) (t := (.object "com/example/cardinal_tableau/cardinaltableau/model/Role")) (t' := (.object "java/lang/String")) (by decide) (by decide))))
  have f9 := (fw2.other W6 (Or.inr (slot_ne (Or.inr (own_w hw 38 rfl)) (Or.inr (own_w hw 40 rfl)) (by decide) (t := .int) (t' := (.object "java/lang/String")) (by decide) (by decide))))
  have fw6 : Fld Z h6 r0 "com/example/cardinal_tableau/cardinaltableau/model/Role" "iri" "Ljava/lang/String;" (.ref r2) := f4.same W6
  have N6 := Fr.snoc X6 N2 hp1
  have zs6 : n0 ≤ h6.size := by rw [W6.size]; exact zs2
  have kk6 : Keep h0 h6 [r0] := kk2.wr W6 (Or.inl (List.mem_of_getElem? (i := 0) rfl))
  refine own_g T6 (mkF m 14 #[oa r0, oi p1, oa r2] []) (fun _ k => st6 _ k) ?_
  exact own_ret0 X6 hx Bd.returns hlk (hb hby d7_14) e6 ⟨rfl, N6, kk6, f8, f9, fw6, f7⟩ (by decide) (by decide)
theorem d8_0 : decode prog_21_method_5_code 0 = .ok (.aload_n 0, 1) := by decide +kernel
theorem d8_1 : decode prog_21_method_5_code 1 = .ok (.aload_n 1, 1) := by decide +kernel
theorem d8_2 : decode prog_21_method_5_code 2 = .ok (.putfield 17, 3) := by decide +kernel
theorem d8_5 : decode prog_21_method_5_code 5 = .ok (.return_, 1) := by decide +kernel
def Q_rmSet (Z : State) (r0 : Addr) (r1 : Addr) (uold : Value) (idv : Int32) (iri : Addr) (h0 : Heap) (n0 : Nat) (v : Option Value) (h : Heap) (L : List Loc) : Prop := v = none ∧ Fr n0 L ∧ Keep h0 h [r0] ∧ Fld Z h r0 "com/example/cardinal_tableau/cardinaltableau/model/Role" "inverse" "Lcom/example/cardinal_tableau/cardinaltableau/model/Role;" (.ref r1) ∧ Fld Z h r0 "com/example/cardinal_tableau/cardinaltableau/model/Role" "id" "I" (.int idv) ∧ Fld Z h r0 "com/example/cardinal_tableau/cardinaltableau/model/Role" "iri" "Ljava/lang/String;" (.ref iri)
theorem ef_rmSet (m : MethodId) (x0 : Addr) (x1 : Addr) : entryFrame m #[(.ref x0), (.ref x1)] 2 = mkF m 0 #[.val (.ref x0), .val (.ref x1)] [] := by first | (simp [entryFrame, mkF, argsToLocals, Value.category]; done) | rfl
theorem pn_rmSet : plainName "com/example/cardinal_tableau/cardinaltableau/model/Role" = true := by first | (simp [plainName, overriddenIn]; done) | decide +kernel
set_option maxRecDepth 65536 in
set_option maxHeartbeats 40000000 in
theorem rmSet (l : Launch) (Z : State) (a0 : Array Value) (hw : ∀ d ∈ tables_1, d.before a0 Z = true) (ws : List Jvm.Cond) (r0 : Addr) (r1 : Addr) (uold : Value) (idv : Int32) (iri : Addr) (h0 : Heap) (n0 : Nat) (Z0 : n0 ≤ h0.size) (hp0 : Exa Z h0 r0 "com/example/cardinal_tableau/cardinaltableau/model/Role") (hp1 : n0 ≤ r0) (hp2 : Fld Z h0 r0 "com/example/cardinal_tableau/cardinaltableau/model/Role" "inverse" "Lcom/example/cardinal_tableau/cardinaltableau/model/Role;" uold) (hp3 : Fld Z h0 r0 "com/example/cardinal_tableau/cardinaltableau/model/Role" "id" "I" (.int idv)) (hp4 : Fld Z h0 r0 "com/example/cardinal_tableau/cardinaltableau/model/Role" "iri" "Ljava/lang/String;" (.ref iri)) :
    MetFree l (⟨"com/example/cardinal_tableau/cardinaltableau/model/Role", "setInverse", "(Lcom/example/cardinal_tableau/cardinaltableau/model/Role;)V"⟩ : MethodName) (head1 (Jvm.Cond.code (⟨"com/example/cardinal_tableau/cardinaltableau/model/Role", "setInverse", "(Lcom/example/cardinal_tableau/cardinaltableau/model/Role;)V"⟩ : MethodName) prog_21_method_5_code 2 none :: ws) ({ frames := 0, cells := 0, slots := 0, locals := 0 } : Room)) (fun a U => a = #[(.ref r0), (.ref r1)] ∧ Z.Warmed39 U.vm ∧ U.heap = h0) (fun _ _ _ _ _ => True) (fun _ U o U' => ∃ v L, o = .returned v ∧ Q_rmSet Z r0 r1 uold idv iri h0 n0 v U'.heap L ∧ FrameEnd U o U' L ({ frames := 0, cells := 0, slots := 0, locals := 0 } : Room).cells ({ frames := 0, cells := 0, slots := 0, locals := 0 } : Room).slots) := by
  refine MetFree.of_bodySF (plainFor_of_name pn_rmSet) hisR ?_
  intro p e s m args below meth c s₁ Bd hml0 hP hK
  obtain ⟨rfl, hZ, hh⟩ := hP
  have hx := Bd.exec
  have hby := Bd.bytes
  have hml : c.maxLocals = 2 := hml0
  have hown : s.vm.findClass "com/example/cardinal_tableau/cardinaltableau/model/Role" = some m.cls := findClass_of_methodNamed Bd.named
  have hnm := (name_of_methodNamed Bd.named Bd.method).1
  have hlk : meth.locks = false := BodyLoose.notSynchronized Bd
  have X0 : Stand p l e ({ frames := 0, cells := 0, slots := 0, locals := 0 } : Room) s m #[(.ref r0), (.ref r1)] below meth c s₁ [] 0 0 := Stand.of_body Bd
  have e0 : s₁.heap = h0 := by rw [← hh, Bd.state]; rfl
  have N0 := Fr.nil n0
  show own_W p e below s (Q_rmSet Z r0 r1 uold idv iri h0 n0) 0 0 s₁ (entryFrame m #[(.ref r0), (.ref r1)] 2)
  skip
  skip
  refine own_go (T' := s₁) (g' := (mkF m 0 #[oa r0, oa r1] [])) (fun _ k => castTop (ef_rmSet m r0 r1) k) ?_
  refine own_g s₁ (mkF m 2 #[oa r0, oa r1] [(.ref r1), (.ref r0)]) (fun _ k => XS.aloadN X0.here hx rfl (hb hby d8_0) rfl rfl (XS.aloadN X0.here hx rfl (hb hby d8_1) rfl rfl k)) ?_
  obtain ⟨T1, h1, X1, e1, W1, st1⟩ := putF X0 hx hZ hown (host := "") (Or.inl (own_w hw 46 rfl)) Via.refl e0 hp2 hp0 (Or.inl (own_w hw 47 rfl)) (own_w hw 31 rfl) (ty := (.object "com/example/cardinal_tableau/cardinaltableau/model/Role")) (by decide) rfl rfl (g := (mkF m 2 #[oa r0, oa r1] [(.ref r1), (.ref r0)])) rfl rfl (hb hby d8_2)
  have f2 := (hp0.wr W1)
  have f3 := (hp3.other W1 (Or.inr (slot_ne (Or.inr (own_w hw 38 rfl)) (Or.inl (own_w hw 47 rfl)) (by decide) (t := .int) (t' := (.object "com/example/cardinal_tableau/cardinaltableau/model/Role")) (by decide) (by decide))))
  have f4 := (hp4.other W1 (Or.inr (slot_ne (Or.inr (own_w hw 40 rfl)) (Or.inl (own_w hw 47 rfl)) (by decide) (t := (.object "java/lang/String")) (t' := (.object "com/example/cardinal_tableau/cardinaltableau/model/Role")) (by decide) (by decide))))
  have fw1 : Fld Z h1 r0 "com/example/cardinal_tableau/cardinaltableau/model/Role" "inverse" "Lcom/example/cardinal_tableau/cardinaltableau/model/Role;" (.ref r1) := hp2.same W1
  have N1 := Fr.snoc X1 N0 hp1
  have zs1 : n0 ≤ h1.size := by rw [W1.size]; exact Z0
  have kk1 : Keep h0 h1 [r0] := (Keep.refl h0 [r0]).wr W1 (Or.inl (List.mem_of_getElem? (i := 0) rfl))
  refine own_g T1 (mkF m 5 #[oa r0, oa r1] []) (fun _ k => st1 _ k) ?_
  exact own_ret0 X1 hx Bd.returns hlk (hb hby d8_5) e1 ⟨rfl, N1, kk1, fw1, f3, f4⟩ (by decide) (by decide)
def own_isInv (r0 : Addr) (inv : Addr) (idv : Int32) (idw : Int32) : Int32 := (if inv = r0 then (0 : Int32) else (if idw < idv then (1 : Int32) else (0 : Int32)))
theorem d31_0 : decode prog_21_method_7_code 0 = .ok (.aload_n 0, 1) := by decide +kernel
theorem d31_1 : decode prog_21_method_7_code 1 = .ok (.getfield 17, 3) := by decide +kernel
theorem d31_4 : decode prog_21_method_7_code 4 = .ok (.aload_n 0, 1) := by decide +kernel
theorem d31_5 : decode prog_21_method_7_code 5 = .ok (.if_acmp .eq 21, 3) := by decide +kernel
theorem d31_8 : decode prog_21_method_7_code 8 = .ok (.aload_n 0, 1) := by decide +kernel
theorem d31_9 : decode prog_21_method_7_code 9 = .ok (.getfield 17, 3) := by decide +kernel
theorem d31_12 : decode prog_21_method_7_code 12 = .ok (.getfield 7, 3) := by decide +kernel
theorem d31_15 : decode prog_21_method_7_code 15 = .ok (.aload_n 0, 1) := by decide +kernel
theorem d31_16 : decode prog_21_method_7_code 16 = .ok (.getfield 7, 3) := by decide +kernel
theorem d31_19 : decode prog_21_method_7_code 19 = .ok (.if_icmp .ge 7, 3) := by decide +kernel
theorem d31_22 : decode prog_21_method_7_code 22 = .ok (.iconst 1, 1) := by decide +kernel
theorem d31_23 : decode prog_21_method_7_code 23 = .ok (.goto 4, 3) := by decide +kernel
theorem d31_26 : decode prog_21_method_7_code 26 = .ok (.iconst 0, 1) := by decide +kernel
theorem d31_27 : decode prog_21_method_7_code 27 = .ok (.ireturn, 1) := by decide +kernel
def Q_rmIs (Z : State) (r0 : Addr) (inv : Addr) (idv : Int32) (idw : Int32) (h0 : Heap) (n0 : Nat) (v : Option Value) (h : Heap) (L : List Loc) : Prop := v = some (.int (own_isInv r0 inv idv idw)) ∧ Fr n0 L ∧ h = h0
theorem ef_rmIs (m : MethodId) (x0 : Addr) : entryFrame m #[(.ref x0)] 1 = mkF m 0 #[.val (.ref x0)] [] := by first | (simp [entryFrame, mkF, argsToLocals, Value.category]; done) | rfl
theorem pn_rmIs : plainName "com/example/cardinal_tableau/cardinaltableau/model/Role" = true := by first | (simp [plainName, overriddenIn]; done) | decide +kernel
set_option maxRecDepth 65536 in
set_option maxHeartbeats 40000000 in
theorem rmIs (l : Launch) (Z : State) (a0 : Array Value) (hw : ∀ d ∈ tables_1, d.before a0 Z = true) (ws : List Jvm.Cond) (r0 : Addr) (inv : Addr) (idv : Int32) (idw : Int32) (h0 : Heap) (n0 : Nat) (Z0 : n0 ≤ h0.size) (hp0 : Fld Z h0 r0 "com/example/cardinal_tableau/cardinaltableau/model/Role" "inverse" "Lcom/example/cardinal_tableau/cardinaltableau/model/Role;" (.ref inv)) (hp1 : Fld Z h0 r0 "com/example/cardinal_tableau/cardinaltableau/model/Role" "id" "I" (.int idv)) (hp2 : Fld Z h0 inv "com/example/cardinal_tableau/cardinaltableau/model/Role" "id" "I" (.int idw)) :
    MetFree l (⟨"com/example/cardinal_tableau/cardinaltableau/model/Role", "isInverse", "()Z"⟩ : MethodName) (head1 (Jvm.Cond.code (⟨"com/example/cardinal_tableau/cardinaltableau/model/Role", "isInverse", "()Z"⟩ : MethodName) prog_21_method_7_code 1 (some .boolean) :: ws) ({ frames := 0, cells := 0, slots := 0, locals := 0 } : Room)) (fun a U => a = #[(.ref r0)] ∧ Z.Warmed39 U.vm ∧ U.heap = h0) (fun _ _ _ _ _ => True) (fun _ U o U' => ∃ v L, o = .returned v ∧ Q_rmIs Z r0 inv idv idw h0 n0 v U'.heap L ∧ FrameEnd U o U' L ({ frames := 0, cells := 0, slots := 0, locals := 0 } : Room).cells ({ frames := 0, cells := 0, slots := 0, locals := 0 } : Room).slots) := by
  refine MetFree.of_bodySF (plainFor_of_name pn_rmIs) hisR ?_
  intro p e s m args below meth c s₁ Bd hml0 hP hK
  obtain ⟨rfl, hZ, hh⟩ := hP
  have hx := Bd.exec
  have hby := Bd.bytes
  have hml : c.maxLocals = 1 := hml0
  have hown : s.vm.findClass "com/example/cardinal_tableau/cardinaltableau/model/Role" = some m.cls := findClass_of_methodNamed Bd.named
  have hnm := (name_of_methodNamed Bd.named Bd.method).1
  have hlk : meth.locks = false := BodyLoose.notSynchronized Bd
  have X0 : Stand p l e ({ frames := 0, cells := 0, slots := 0, locals := 0 } : Room) s m #[(.ref r0)] below meth c s₁ [] 0 0 := Stand.of_body Bd
  have e0 : s₁.heap = h0 := by rw [← hh, Bd.state]; rfl
  have N0 := Fr.nil n0
  show own_W p e below s (Q_rmIs Z r0 inv idv idw h0 n0) 0 0 s₁ (entryFrame m #[(.ref r0)] 1)
  skip
  skip
  refine own_go (T' := s₁) (g' := (mkF m 0 #[oa r0] [])) (fun _ k => castTop (ef_rmIs m r0) k) ?_
  refine own_g s₁ (mkF m 1 #[oa r0] [(.ref r0)]) (fun _ k => XS.aloadN X0.here hx rfl (hb hby d31_0) rfl rfl k) ?_
  obtain ⟨T1, X1, e1, st1⟩ := getF X0 hx hZ hown (host := "") (Or.inl (own_w hw 46 rfl)) Via.refl e0 hp0 (g := (mkF m 1 #[oa r0] [(.ref r0)])) rfl rfl (hb hby d31_1)
  refine own_g T1 (mkF m 5 #[oa r0] [(.ref r0), (.ref inv)]) (fun _ k => st1 _ (XS.aloadN X1.here hx rfl (hb hby d31_4) rfl rfl k)) ?_
  by_cases hc5_2 : inv = r0
  · skip
    refine own_g T1 (mkF m 27 #[oa r0] [(.int (0 : Int32))]) (fun _ k => XT.acmpYes X1.here hx rfl (pc0 := 5) (pc' := 26) rfl (hb hby d31_5) rfl rfl rfl (XT.aa_eq_t (congrArg Value.ref hc5_2)) (by decide) (by decide) (XS.iconst X1.here hx rfl (hb hby d31_26) k)) ?_
    exact own_retN X1 hx (t := .boolean) Bd.returns hlk (by simp) (hb hby d31_27) e1 ⟨(by unfold own_isInv; first | (rw [if_pos hc5_2]; done) | (rw [if_pos hc5_2]; rfl)), N0, rfl⟩ (by decide) (by decide)
  · skip
    refine own_g T1 (mkF m 9 #[oa r0] [(.ref r0)]) (fun _ k => XT.acmpNo X1.here hx rfl (hb hby d31_5) rfl rfl rfl (XT.aa_eq_f (fun q => hc5_2 (Value.ref.inj q))) (XS.aloadN X1.here hx rfl (hb hby d31_8) rfl rfl k)) ?_
    obtain ⟨T3, X3, e3, st3⟩ := getF X1 hx hZ hown (host := "") (Or.inl (own_w hw 46 rfl)) Via.refl e1 hp0 (g := (mkF m 9 #[oa r0] [(.ref r0)])) rfl rfl (hb hby d31_9)
    refine own_g T3 (mkF m 12 #[oa r0] [(.ref inv)]) (fun _ k => st3 _ k) ?_
    obtain ⟨T4, X4, e4, st4⟩ := getF X3 hx hZ hown (host := "") (Or.inl (own_w hw 37 rfl)) Via.refl e3 hp2 (g := (mkF m 12 #[oa r0] [(.ref inv)])) rfl rfl (hb hby d31_12)
    refine own_g T4 (mkF m 16 #[oa r0] [(.ref r0), (.int idw)]) (fun _ k => st4 _ (XS.aloadN X4.here hx rfl (hb hby d31_15) rfl rfl k)) ?_
    obtain ⟨T5, X5, e5, st5⟩ := getF X4 hx hZ hown (host := "") (Or.inl (own_w hw 37 rfl)) Via.refl e4 hp1 (g := (mkF m 16 #[oa r0] [(.ref r0), (.int idw)])) rfl rfl (hb hby d31_16)
    refine own_g T5 (mkF m 19 #[oa r0] [(.int idv), (.int idw)]) (fun _ k => st5 _ k) ?_
    by_cases hc19_6 : idw < idv
    · skip
      refine own_g T5 (mkF m 27 #[oa r0] [(.int (1 : Int32))]) (fun _ k => XS.icmpNo X5.here hx rfl (hb hby d31_19) rfl (XT.ii_ge_f hc19_6) (XS.iconst X5.here hx rfl (hb hby d31_22) (XS.goto X5.here hx rfl (pc0 := 23) (pc' := 27) rfl (hb hby d31_23) (by decide) (by decide) k))) ?_
      exact own_retN X5 hx (t := .boolean) Bd.returns hlk (by simp) (hb hby d31_27) e5 ⟨(by unfold own_isInv; first | (rw [if_neg hc5_2, if_pos hc19_6]; done) | (rw [if_neg hc5_2, if_pos hc19_6]; rfl)), N0, rfl⟩ (by decide) (by decide)
    · skip
      refine own_g T5 (mkF m 27 #[oa r0] [(.int (0 : Int32))]) (fun _ k => XS.icmpYes X5.here hx rfl (pc0 := 19) (pc' := 26) rfl (hb hby d31_19) rfl (XT.ii_ge_t hc19_6) (by decide) (by decide) (XS.iconst X5.here hx rfl (hb hby d31_26) k)) ?_
      exact own_retN X5 hx (t := .boolean) Bd.returns hlk (by simp) (hb hby d31_27) e5 ⟨(by unfold own_isInv; first | (rw [if_neg hc5_2, if_neg hc19_6]; done) | (rw [if_neg hc5_2, if_neg hc19_6]; rfl)), N0, rfl⟩ (by decide) (by decide)
theorem own_pd28 : parseMethodDescriptor "()V" = some ⟨[], none⟩ := by decide +kernel
theorem own_pd29 : parseMethodDescriptor "(Ljava/lang/String;)Ljava/lang/StringBuilder;" = some ⟨[(.object "java/lang/String")], some (.object "java/lang/StringBuilder")⟩ := by decide +kernel
theorem own_pd30 : parseMethodDescriptor "()Ljava/lang/String;" = some ⟨[], some (.object "java/lang/String")⟩ := by decide +kernel
theorem d9_0 : decode prog_21_method_8_code 0 = .ok (.new 46, 3) := by decide +kernel
theorem d9_3 : decode prog_21_method_8_code 3 = .ok (.dup, 1) := by decide +kernel
theorem d9_4 : decode prog_21_method_8_code 4 = .ok (.invokespecial 48, 3) := by decide +kernel
theorem d9_7 : decode prog_21_method_8_code 7 = .ok (.ldc 49, 2) := by decide +kernel
theorem d9_9 : decode prog_21_method_8_code 9 = .ok (.invokevirtual 51, 3) := by decide +kernel
theorem d9_12 : decode prog_21_method_8_code 12 = .ok (.aload_n 0, 1) := by decide +kernel
theorem d9_13 : decode prog_21_method_8_code 13 = .ok (.getfield 13, 3) := by decide +kernel
theorem d9_16 : decode prog_21_method_8_code 16 = .ok (.invokevirtual 51, 3) := by decide +kernel
theorem d9_19 : decode prog_21_method_8_code 19 = .ok (.ldc 55, 2) := by decide +kernel
theorem d9_21 : decode prog_21_method_8_code 21 = .ok (.invokevirtual 51, 3) := by decide +kernel
theorem d9_24 : decode prog_21_method_8_code 24 = .ok (.invokevirtual 57, 3) := by decide +kernel
theorem d9_27 : decode prog_21_method_8_code 27 = .ok (.astore_n 1, 1) := by decide +kernel
theorem d9_28 : decode prog_21_method_8_code 28 = .ok (.aload_n 0, 1) := by decide +kernel
theorem d9_29 : decode prog_21_method_8_code 29 = .ok (.invokevirtual 61, 3) := by decide +kernel
theorem d9_32 : decode prog_21_method_8_code 32 = .ok (.ifCond .eq 30, 3) := by decide +kernel
theorem d9_62 : decode prog_21_method_8_code 62 = .ok (.aload_n 1, 1) := by decide +kernel
theorem d9_63 : decode prog_21_method_8_code 63 = .ok (.areturn, 1) := by decide +kernel
def Q_rmToN (Z : State) (r0 : Addr) (iri : Addr) (inv : Addr) (idv : Int32) (idw : Int32) (d1 : Addr) (kd : ClassId) (z1 : Int32) (us : List Value) (cs : Int32) (h0 : Heap) (n0 : Nat) (v : Option Value) (h : Heap) (L : List Loc) : Prop := ∃ (xs : Addr) (xb : Addr) (xk : ClassId), v = some (.ref xs) ∧ Fr n0 L ∧ Keep h0 h [] ∧ h0.size ≤ xs ∧ h0.size ≤ xb ∧ Exa Z h xs "java/lang/String" ∧ Fld Z h xs "java/lang/String" "value" "[B" (.ref xb) ∧ Fld Z h xs "java/lang/String" "coder" "B" (.int (0 : Int32)) ∧ Arv Z h xb xk .byte (z1 + (2 : Int32)) ((.int (60 : Int32)) :: (us ++ [(.int (62 : Int32))]) : List Value) (.int (0 : Int32))
theorem ef_rmToN (m : MethodId) (x0 : Addr) : entryFrame m #[(.ref x0)] 2 = mkF m 0 #[.val (.ref x0), .unset] [] := by first | (simp [entryFrame, mkF, argsToLocals, Value.category]; done) | rfl
theorem pn_rmToN : plainName "com/example/cardinal_tableau/cardinaltableau/model/Role" = true := by first | (simp [plainName, overriddenIn]; done) | decide +kernel
set_option maxRecDepth 65536 in
set_option maxHeartbeats 40000000 in
theorem rmToN (l : Launch) (Z : State) (a0 : Array Value) (hw : ∀ d ∈ tables_1, d.before a0 Z = true) (ws : List Jvm.Cond) (r0 : Addr) (iri : Addr) (inv : Addr) (idv : Int32) (idw : Int32) (d1 : Addr) (kd : ClassId) (z1 : Int32) (us : List Value) (cs : Int32) (h0 : Heap) (n0 : Nat) (Z0 : n0 ≤ h0.size) (hp0 : Exa Z h0 r0 "com/example/cardinal_tableau/cardinaltableau/model/Role") (hp1 : Fld Z h0 r0 "com/example/cardinal_tableau/cardinaltableau/model/Role" "iri" "Ljava/lang/String;" (.ref iri)) (hp2 : Fld Z h0 r0 "com/example/cardinal_tableau/cardinaltableau/model/Role" "inverse" "Lcom/example/cardinal_tableau/cardinaltableau/model/Role;" (.ref inv)) (hp3 : Fld Z h0 r0 "com/example/cardinal_tableau/cardinaltableau/model/Role" "id" "I" (.int idv)) (hp4 : Exa Z h0 inv "com/example/cardinal_tableau/cardinaltableau/model/Role") (hp5 : Fld Z h0 inv "com/example/cardinal_tableau/cardinaltableau/model/Role" "id" "I" (.int idw)) (hp6 : Exa Z h0 iri "java/lang/String") (hp7 : Fld Z h0 iri "java/lang/String" "coder" "B" (.int (0 : Int32))) (hp8 : Fld Z h0 iri "java/lang/String" "value" "[B" (.ref d1)) (hp9 : Arv Z h0 d1 kd .byte z1 us (.int (0 : Int32))) (hp10 : Sta Z h0 "java/lang/String" "COMPACT_STRINGS" "Z" (.int cs)) (hh0 : ¬ cs = (0 : Int32)) (hh1 : own_isInv r0 inv idv idw = (0 : Int32)) (hh2 : own_Z z1 us) :
    MetFree l (⟨"com/example/cardinal_tableau/cardinaltableau/model/Role", "toString", "()Ljava/lang/String;"⟩ : MethodName) (head1 (Jvm.Cond.code (⟨"com/example/cardinal_tableau/cardinaltableau/model/Role", "toString", "()Ljava/lang/String;"⟩ : MethodName) prog_21_method_8_code 2 (some (.object "java/lang/String")) :: ws) ({ frames := 6, cells := 8, slots := 80, locals := 91 } : Room)) (fun a U => a = #[(.ref r0)] ∧ Z.Warmed39 U.vm ∧ U.heap = h0 ∧ CHv Z consts_1 U.vm h0) (fun _ _ _ _ _ => True) (fun _ U o U' => ∃ v L, o = .returned v ∧ Q_rmToN Z r0 iri inv idv idw d1 kd z1 us cs h0 n0 v U'.heap L ∧ CHr Z consts_1 U.vm U.heap U'.vm U'.heap ∧ ReturnedEndW U o U' L ({ frames := 6, cells := 8, slots := 80, locals := 91 } : Room).cells ({ frames := 6, cells := 8, slots := 80, locals := 91 } : Room).slots) := by
  refine MetFree.of_bodySF (plainFor_of_name pn_rmToN) hisR ?_
  intro p e s m args below meth c s₁ Bd hml0 hP hK
  obtain ⟨rfl, hZ, hh, hH0⟩ := hP
  have hx := Bd.exec
  have hby := Bd.bytes
  have hml : c.maxLocals = 2 := hml0
  have hown : s.vm.findClass "com/example/cardinal_tableau/cardinaltableau/model/Role" = some m.cls := findClass_of_methodNamed Bd.named
  have hnm := (name_of_methodNamed Bd.named Bd.method).1
  have hlk : meth.locks = false := BodyLoose.notSynchronized Bd
  have X0 : Stand p l e ({ frames := 6, cells := 8, slots := 80, locals := 91 } : Room) (s.setVm s.vm) m #[(.ref r0)] below meth c s₁ [] 0 0 := Stand.of_body Bd
  have e0 : s₁.heap = h0 := by rw [← hh, Bd.state]; rfl
  have N0 := Fr.nil n0
  show own_WH Z consts_1 p e below s (Q_rmToN Z r0 iri inv idv idw d1 kd z1 us cs h0 n0) 8 80 s₁ (entryFrame m #[(.ref r0)] 2)
  have hS0 : s.Since s.vm 0 := (State.WarmedH.refl s).since 0
  have hk0 : 0 ≤ h0.size := Nat.zero_le _
  refine own_goH (T' := s₁) (g' := (mkF m 0 #[oa r0, .unset] [])) (fun _ k => castTop (ef_rmToN m r0) k) ?_
  have R0 : CHr Z consts_1 s.vm s.heap s.vm h0 := by rw [hh]; exact CHr.refl hH0
  obtain ⟨T1, h1, X1, e1, E1, A1, D1, -, st1⟩ := newO X0 hx hZ hown (own_w hw 53 rfl) (own_w hw 54 rfl) (own_w hw 55 rfl) e0 (g := (mkF m 0 #[oa r0, .unset] [])) rfl (hb hby d9_0) (by decide) (by decide)
  obtain ⟨b1, g1⟩ : ∃ z, z = h0.size := ⟨_, rfl⟩
  have ne2 : r0 ≠ b1 := Nat.ne_of_lt (Nat.lt_of_lt_of_le hp0.lt (Nat.le_of_eq g1.symm))
  have ne3 : inv ≠ b1 := Nat.ne_of_lt (Nat.lt_of_lt_of_le hp4.lt (Nat.le_of_eq g1.symm))
  have ne4 : iri ≠ b1 := Nat.ne_of_lt (Nat.lt_of_lt_of_le hp6.lt (Nat.le_of_eq g1.symm))
  have ne5 : d1 ≠ b1 := Nat.ne_of_lt (Nat.lt_of_lt_of_le hp9.lt (Nat.le_of_eq g1.symm))
  rw [← g1] at A1 D1 st1
  have f6 := (hp0.ext E1)
  have f7 := (hp1.ext E1)
  have f8 := (hp2.ext E1)
  have f9 := (hp3.ext E1)
  have f10 := (hp4.ext E1)
  have f11 := (hp5.ext E1)
  have f12 := (hp6.ext E1)
  have f13 := (hp7.ext E1)
  have f14 := (hp8.ext E1)
  have f15 := (hp9.ext E1)
  have f16 := (hp10.ext E1)
  have fn17 : Fld Z h1 b1 "java/lang/AbstractStringBuilder" "value" "[B" .null := D1 (Or.inl (own_w hw 68 rfl)) (ty := (.array .byte)) (by decide)
  have fn18 : Fld Z h1 b1 "java/lang/AbstractStringBuilder" "coder" "B" (.int (0 : Int32)) := D1 (Or.inl (own_w hw 70 rfl)) (ty := .byte) (by decide)
  have fn19 : Fld Z h1 b1 "java/lang/AbstractStringBuilder" "count" "I" (.int (0 : Int32)) := D1 (Or.inl (own_w hw 95 rfl)) (ty := .int) (by decide)
  have ge1 : n0 ≤ b1 := Nat.le_trans Z0 (Nat.le_of_eq g1.symm)
  have sz1 : h0.size ≤ b1 := Nat.le_trans (Keep.refl h0 []).1 (Nat.le_of_eq g1.symm)
  have kk1 : Keep h0 h1 [] := (Keep.refl h0 []).ext E1
  have zs1 : n0 ≤ h1.size := Nat.le_trans Z0 E1.1
  have hk20 := Nat.le_trans hk0 (E1.1)
  have R1 := R0.trans (CHr.ext E1 R0.1)
  have sf21 := Safe.ext E1 R0.1 (Safe.new (Nat.le_of_eq g1.symm))
  refine own_h T1 (mkF m 4 #[oa r0, .unset] [(.ref b1), (.ref b1)]) (fun _ k => st1 _ (XS.dup X1.here hx rfl (hb hby d9_3) rfl rfl k)) ?_
  obtain ⟨_, _, ⟨T22, L22, k22, n22⟩, -, X22, ⟨Lc22, hQ22, l22, y22, z22⟩, st22⟩ := X1.specialBack hx (y := (⟨"java/lang/StringBuilder", "<init>", "()V"⟩ : MethodName)) rfl hown (mvT hZ (own_w hw 56 rfl)) (mvT hZ (own_w hw 57 rfl)) (mvT hZ (own_w hw 58 rfl)) (by decide) (backOf (W := 1) (rmSI l Z a0 hw [] b1 cs h1 n0 zs1 A1 ge1 fn17 fn18 fn19 f16 hh0) hZ (own_w hw 58 rfl) (own_w hw 55 rfl) (by decide) (by decide)) (g := (mkF m 4 #[oa r0, .unset] [(.ref b1), (.ref b1)])) rfl (by rw [hml]; rfl) (Steps.refl _) (a := b1) (argsL := []) (rest := [(.ref b1)]) (lenOf own_pd28 rfl) rfl (Nat.le_of_eq rfl) (hb hby d9_4) (fun _ _ => ⟨rfl, e1, (by decide : 1 + 1 ≤ _), (by decide : 4 + 16 ≤ _)⟩)
  dsimp only [Pt.U, Pt.locs, Pt.cells, Pt.slots] at X22 l22 y22 z22 st22 hQ22
  subst l22 y22 z22
  obtain ⟨xb_22, xk_22, rfl, N22q, K22, po23, po24, po25, po26, po27⟩ := hQ22
  have f28 := (f6.keep K22)
  have f29 := (f7.keep K22 (ninS ne2 nin0))
  have f30 := (f8.keep K22 (ninS ne2 nin0))
  have f31 := (f9.keep K22 (ninS ne2 nin0))
  have f32 := (f10.keep K22)
  have f33 := (f11.keep K22 (ninS ne3 nin0))
  have f34 := (f12.keep K22)
  have f35 := (f13.keep K22 (ninS ne4 nin0))
  have f36 := (f14.keep K22 (ninS ne4 nin0))
  have f37 := (f15.keep K22 (ninS ne5 nin0))
  have f38 := (own_sta_keep f16 K22 (nsS A1.nostat ns0))
  have f39 := (A1.keep K22)
  have ne40 : r0 ≠ xb_22 := Nat.ne_of_lt (Nat.lt_of_lt_of_le f6.lt po23)
  have ne41 : inv ≠ xb_22 := Nat.ne_of_lt (Nat.lt_of_lt_of_le f10.lt po23)
  have ne42 : iri ≠ xb_22 := Nat.ne_of_lt (Nat.lt_of_lt_of_le f12.lt po23)
  have ne43 : d1 ≠ xb_22 := Nat.ne_of_lt (Nat.lt_of_lt_of_le f15.lt po23)
  have ne44 : b1 ≠ xb_22 := Nat.ne_of_lt (Nat.lt_of_lt_of_le A1.lt po23)
  have ge45 : n0 ≤ xb_22 := Nat.le_trans zs1 po23
  have sz46 : h0.size ≤ xb_22 := Nat.le_trans kk1.1 po23
  have zs22 : n0 ≤ T22.heap.size := Nat.le_trans zs1 K22.1
  have hk47 := Nat.le_trans hk20 (K22.1)
  have kk22 : Keep h0 T22.heap [] := kk1.trans K22 (allS (Or.inr sz1) all0)
  have R22 := R1.trans (CHr.keep K22 (sfS (Safe.exa (EL := consts_1) (hZ).alike A1 (by decide) (by decide)) sf0) R1.1)
  have sf48 := Safe.keep K22 (sfS (Safe.exa (EL := consts_1) (hZ).alike A1 (by decide) (by decide)) sf0) R1.1 sf21
  have sf49 := Safe.keep K22 (sfS (Safe.exa (EL := consts_1) (hZ).alike A1 (by decide) (by decide)) sf0) R1.1 (Safe.new po23)
  have N22 := Fr.app N0 N22q
  obtain ⟨Lv22, X22, N22⟩ := own_hide X22 (Nat.le_refl 2) (Nat.le_refl 20) N22
  refine own_h T22 (mkF m 7 #[oa r0, .unset] [(.ref b1)]) (fun _ k => st22.trans k) ?_
  obtain ⟨lt50, T50, h50, k50, lb50, lk50, X50, e50, E50, hS50, hk50, hZ50, hown50, Le50, Lc50, Lv50, La50, -, -, ch50, -, hne50, st50⟩ := ldcCH X22 hx hZ hown (own_w hw 71 rfl) (own_wS hw) rfl hS0 hk47 (own_EW hw) (by simp [consts_1]) R22.1 (vs := [(.int (60 : Int32))]) (z := (1 : Int32)) ⟨by decide +kernel, by decide +kernel⟩ (by decide) (by decide) (g := (mkF m 7 #[oa r0, .unset] [(.ref b1)])) rfl (hb hby d9_7) (n := 4) (by decide +kernel) (by decide) (by decide) (by decide)
  have f51 := (f28.ext E50)
  have f52 := (f29.ext E50)
  have f53 := (f30.ext E50)
  have f54 := (f31.ext E50)
  have f55 := (f32.ext E50)
  have f56 := (f33.ext E50)
  have f57 := (f34.ext E50)
  have f58 := (f35.ext E50)
  have f59 := (f36.ext E50)
  have f60 := (f37.ext E50)
  have f61 := (f38.ext E50)
  have f62 := (f39.ext E50)
  have f63 := (po24.ext E50)
  have f64 := (po25.ext E50)
  have f65 := (po26.ext E50)
  have f66 := (po27.ext E50)
  have kk50 : Keep h0 h50 [] := kk22.ext E50
  have zs50 : n0 ≤ h50.size := Nat.le_trans zs22 E50.1
  have R50 := R22.trans ch50
  have sf67 := ch50.safe f39.lt sf48
  have sf68 := ch50.safe po27.lt sf49
  have ln69 := hne50 _ (Safe.exa (EL := consts_1) (hZ50).alike f62 (by decide) (by decide))
  have ln70 := hne50 _ sf68
  refine own_h T50 (mkF m 9 #[oa r0, .unset] [(.ref lt50), (.ref b1)]) (fun _ k => st50 _ k) ?_
  obtain ⟨cq71, kq71, q71a, q71b, q71c⟩ := isOf hZ50 e50 f62
  obtain ⟨_, _, ⟨T71, L71, k71, n71⟩, -, X71, ⟨Lc71, hQ71, l71, y71, z71⟩, st71⟩ := X50.virtualBack hx (y := (⟨"java/lang/StringBuilder", "append", "(Ljava/lang/String;)Ljava/lang/StringBuilder;"⟩ : MethodName)) (z := (⟨"java/lang/StringBuilder", "append", "(Ljava/lang/String;)Ljava/lang/StringBuilder;"⟩ : MethodName)) hown50 (mvT hZ50 (own_w hw 74 rfl)) (mvT hZ50 (own_w hw 75 rfl)) (notFace_of_selects (args := #[]) (mvT hZ50 (own_w hw 77 rfl))) (mvT hZ50 (own_w hw 77 rfl)) (mvT hZ50 (own_w hw 76 rfl)) (by decide) (backOf (W := 0) (rmSbN l Z a0 hw [] b1 lt50 xb_22 (0 : Int32) xk_22 (16 : Int32) ([(.int (0 : Int32)), (.int (0 : Int32)), (.int (0 : Int32)), (.int (0 : Int32)), (.int (0 : Int32)), (.int (0 : Int32)), (.int (0 : Int32)), (.int (0 : Int32)), (.int (0 : Int32)), (.int (0 : Int32)), (.int (0 : Int32)), (.int (0 : Int32)), (.int (0 : Int32)), (.int (0 : Int32)), (.int (0 : Int32)), (.int (0 : Int32))] : List Value) lb50 lk50 (1 : Int32) ([(.int (60 : Int32))] : List Value) cs 0 1 h50 n0 zs50 f62 ge1 f63 f64 f65 f66 ge45 ne44 Le50 Lc50 Lv50 La50 f61 hh0 (by rcases hh2 with ⟨rfl, rfl⟩ | ⟨rfl, _, rfl⟩ | ⟨rfl, _, _, rfl⟩ | ⟨rfl, _, _, _, rfl⟩ <;> first | rfl | decide | exact Nat.le_of_ble_eq_true rfl | (simp only [List.length_cons, List.length_nil]; first | decide | (unfold own_min; decide)) | (unfold own_min; decide) | (unfold own_max; decide)) (by rcases hh2 with ⟨rfl, rfl⟩ | ⟨rfl, _, rfl⟩ | ⟨rfl, _, _, rfl⟩ | ⟨rfl, _, _, _, rfl⟩ <;> first | rfl | decide | exact Nat.le_of_ble_eq_true rfl | (simp only [List.length_cons, List.length_nil]; first | decide | (unfold own_min; decide)) | (unfold own_min; decide) | (unfold own_max; decide)) (by rcases hh2 with ⟨rfl, rfl⟩ | ⟨rfl, _, rfl⟩ | ⟨rfl, _, _, rfl⟩ | ⟨rfl, _, _, _, rfl⟩ <;> first | rfl | decide | exact Nat.le_of_ble_eq_true rfl | (simp only [List.length_cons, List.length_nil]; first | decide | (unfold own_min; decide)) | (unfold own_min; decide) | (unfold own_max; decide)) (by rcases hh2 with ⟨rfl, rfl⟩ | ⟨rfl, _, rfl⟩ | ⟨rfl, _, _, rfl⟩ | ⟨rfl, _, _, _, rfl⟩ <;> first | rfl | decide | exact Nat.le_of_ble_eq_true rfl | (simp only [List.length_cons, List.length_nil]; first | decide | (unfold own_min; decide)) | (unfold own_min; decide) | (unfold own_max; decide)) (by rcases hh2 with ⟨rfl, rfl⟩ | ⟨rfl, _, rfl⟩ | ⟨rfl, _, _, rfl⟩ | ⟨rfl, _, _, _, rfl⟩ <;> first | rfl | decide | exact Nat.le_of_ble_eq_true rfl | (simp only [List.length_cons, List.length_nil]; first | decide | (unfold own_min; decide)) | (unfold own_min; decide) | (unfold own_max; decide)) (by rcases hh2 with ⟨rfl, rfl⟩ | ⟨rfl, _, rfl⟩ | ⟨rfl, _, _, rfl⟩ | ⟨rfl, _, _, _, rfl⟩ <;> first | rfl | decide | exact Nat.le_of_ble_eq_true rfl | (simp only [List.length_cons, List.length_nil]; first | decide | (unfold own_min; decide)) | (unfold own_min; decide) | (unfold own_max; decide)) (by rcases hh2 with ⟨rfl, rfl⟩ | ⟨rfl, _, rfl⟩ | ⟨rfl, _, _, rfl⟩ | ⟨rfl, _, _, _, rfl⟩ <;> first | rfl | decide | exact Nat.le_of_ble_eq_true rfl | (simp only [List.length_cons, List.length_nil]; first | decide | (unfold own_min; decide)) | (unfold own_min; decide) | (unfold own_max; decide)) (by rcases hh2 with ⟨rfl, rfl⟩ | ⟨rfl, _, rfl⟩ | ⟨rfl, _, _, rfl⟩ | ⟨rfl, _, _, _, rfl⟩ <;> first | rfl | decide | exact Nat.le_of_ble_eq_true rfl | (simp only [List.length_cons, List.length_nil]; first | decide | (unfold own_min; decide)) | (unfold own_min; decide) | (unfold own_max; decide))) hZ50 (own_w hw 78 rfl) (own_w hw 55 rfl) (by decide) (by decide)) q71a q71c (g := (mkF m 9 #[oa r0, .unset] [(.ref lt50), (.ref b1)])) rfl (by rw [hml]; rfl) (Steps.refl _) (argsL := [(.ref lt50)]) (rest := []) (lenOf own_pd29 rfl) rfl (Nat.le_of_eq rfl) (hb hby d9_9) (fun _ _ => ⟨rfl, e50, (by decide : 4 + 0 ≤ _), (by decide : 28 + 0 ≤ _)⟩)
  dsimp only [Pt.U, Pt.locs, Pt.cells, Pt.slots] at X71 l71 y71 z71 st71 hQ71
  subst l71 y71 z71
  obtain ⟨rfl, N71q, K71, po72, po73, po74, po75⟩ := hQ71
  have f76 := (f51.keep K71)
  have f77 := (f52.keep K71 (ninS ne2 (ninS ne40 nin0)))
  have f78 := (f53.keep K71 (ninS ne2 (ninS ne40 nin0)))
  have f79 := (f54.keep K71 (ninS ne2 (ninS ne40 nin0)))
  have f80 := (f55.keep K71)
  have f81 := (f56.keep K71 (ninS ne3 (ninS ne41 nin0)))
  have f82 := (f57.keep K71)
  have f83 := (f58.keep K71 (ninS ne4 (ninS ne42 nin0)))
  have f84 := (f59.keep K71 (ninS ne4 (ninS ne42 nin0)))
  have f85 := (f60.keep K71 (ninS ne5 (ninS ne43 nin0)))
  have f86 := (own_sta_keep f61 K71 (nsS f62.nostat (nsS (own_arv_ns f66) ns0)))
  have f87 := (f62.keep K71)
  have zs71 : n0 ≤ T71.heap.size := Nat.le_trans zs50 K71.1
  have hk88 := Nat.le_trans hk50 (K71.1)
  have kk71 : Keep h0 T71.heap [] := kk50.trans K71 (allS (Or.inr sz1) (allS (Or.inr sz46) all0))
  have R71 := R50.trans (CHr.keep K71 (sfS (Safe.exa (EL := consts_1) (hZ50).alike f62 (by decide) (by decide)) (sfS sf68 sf0)) R50.1)
  have sf89 := Safe.keep K71 (sfS (Safe.exa (EL := consts_1) (hZ50).alike f62 (by decide) (by decide)) (sfS sf68 sf0)) R50.1 sf67
  have sf90 := Safe.keep K71 (sfS (Safe.exa (EL := consts_1) (hZ50).alike f62 (by decide) (by decide)) (sfS sf68 sf0)) R50.1 sf68
  have N71 := Fr.app N22 N71q
  obtain ⟨Lv71, X71, N71⟩ := own_hide X71 (Nat.le_refl 4) (Nat.le_refl 28) N71
  refine own_h T71 (mkF m 12 #[oa r0, .unset] [(.ref b1)]) (fun _ k => st71.trans k) ?_
  have fr91 : Fld Z T71.heap b1 "java/lang/AbstractStringBuilder" "count" "I" (.int (1 : Int32)) := (show (((0 : Int32) + ((1 : Int32) >>> ((0 : Int32) &&& 31))) : Int32) = (1 : Int32) from (by rcases hh2 with ⟨rfl, rfl⟩ | ⟨rfl, _, rfl⟩ | ⟨rfl, _, _, rfl⟩ | ⟨rfl, _, _, _, rfl⟩ <;> first | rfl | decide | exact Nat.le_of_ble_eq_true rfl | (simp only [List.length_cons, List.length_nil]; first | decide | (unfold own_min; decide)) | (unfold own_min; decide) | (unfold own_max; decide))) ▸ po74
  have nv92 : Arv Z T71.heap xb_22 xk_22 .byte (16 : Int32) [(.int (60 : Int32)), (.int (0 : Int32)), (.int (0 : Int32)), (.int (0 : Int32)), (.int (0 : Int32)), (.int (0 : Int32)), (.int (0 : Int32)), (.int (0 : Int32)), (.int (0 : Int32)), (.int (0 : Int32)), (.int (0 : Int32)), (.int (0 : Int32)), (.int (0 : Int32)), (.int (0 : Int32)), (.int (0 : Int32)), (.int (0 : Int32))] (.int (0 : Int32)) := by have q := po75; rcases hh2 with ⟨rfl, rfl⟩ | ⟨rfl, _, rfl⟩ | ⟨rfl, _, _, rfl⟩ | ⟨rfl, _, _, _, rfl⟩ <;> exact q
  refine own_h T71 (mkF m 13 #[oa r0, .unset] [(.ref r0), (.ref b1)]) (fun _ k => XS.aloadN X71.here hx rfl (hb hby d9_12) rfl rfl k) ?_
  obtain ⟨T93, X93, e93, st93⟩ := getF X71 hx hZ50 hown50 (host := "") (Or.inl (own_w hw 39 rfl)) Via.refl rfl f77 (g := (mkF m 13 #[oa r0, .unset] [(.ref r0), (.ref b1)])) rfl rfl (hb hby d9_13)
  refine own_h T93 (mkF m 16 #[oa r0, .unset] [(.ref iri), (.ref b1)]) (fun _ k => st93 _ k) ?_
  obtain ⟨cq94, kq94, q94a, q94b, q94c⟩ := isOf hZ50 e93 f87
  obtain ⟨_, _, ⟨T94, L94, k94, n94⟩, -, X94, ⟨Lc94, hQ94, l94, y94, z94⟩, st94⟩ := X93.virtualBack hx (y := (⟨"java/lang/StringBuilder", "append", "(Ljava/lang/String;)Ljava/lang/StringBuilder;"⟩ : MethodName)) (z := (⟨"java/lang/StringBuilder", "append", "(Ljava/lang/String;)Ljava/lang/StringBuilder;"⟩ : MethodName)) hown50 (mvT hZ50 (own_w hw 74 rfl)) (mvT hZ50 (own_w hw 75 rfl)) (notFace_of_selects (args := #[]) (mvT hZ50 (own_w hw 77 rfl))) (mvT hZ50 (own_w hw 77 rfl)) (mvT hZ50 (own_w hw 76 rfl)) (by decide) (backOf (W := 0) (rmSbN l Z a0 hw [] b1 iri xb_22 (1 : Int32) xk_22 (16 : Int32) ([(.int (60 : Int32)), (.int (0 : Int32)), (.int (0 : Int32)), (.int (0 : Int32)), (.int (0 : Int32)), (.int (0 : Int32)), (.int (0 : Int32)), (.int (0 : Int32)), (.int (0 : Int32)), (.int (0 : Int32)), (.int (0 : Int32)), (.int (0 : Int32)), (.int (0 : Int32)), (.int (0 : Int32)), (.int (0 : Int32)), (.int (0 : Int32))] : List Value) d1 kd z1 us cs 1 us.length T71.heap n0 zs71 f87 ge1 po72 po73 fr91 nv92 ge45 ne44 f82 f83 f84 f85 f86 hh0 (by rcases hh2 with ⟨rfl, rfl⟩ | ⟨rfl, _, rfl⟩ | ⟨rfl, _, _, rfl⟩ | ⟨rfl, _, _, _, rfl⟩ <;> first | rfl | decide | exact Nat.le_of_ble_eq_true rfl | (simp only [List.length_cons, List.length_nil]; first | decide | (unfold own_min; decide)) | (unfold own_min; decide) | (unfold own_max; decide)) (by rcases hh2 with ⟨rfl, rfl⟩ | ⟨rfl, _, rfl⟩ | ⟨rfl, _, _, rfl⟩ | ⟨rfl, _, _, _, rfl⟩ <;> first | rfl | decide | exact Nat.le_of_ble_eq_true rfl | (simp only [List.length_cons, List.length_nil]; first | decide | (unfold own_min; decide)) | (unfold own_min; decide) | (unfold own_max; decide)) (by rcases hh2 with ⟨rfl, rfl⟩ | ⟨rfl, _, rfl⟩ | ⟨rfl, _, _, rfl⟩ | ⟨rfl, _, _, _, rfl⟩ <;> first | rfl | decide | exact Nat.le_of_ble_eq_true rfl | (simp only [List.length_cons, List.length_nil]; first | decide | (unfold own_min; decide)) | (unfold own_min; decide) | (unfold own_max; decide)) (by rcases hh2 with ⟨rfl, rfl⟩ | ⟨rfl, _, rfl⟩ | ⟨rfl, _, _, rfl⟩ | ⟨rfl, _, _, _, rfl⟩ <;> first | rfl | decide | exact Nat.le_of_ble_eq_true rfl | (simp only [List.length_cons, List.length_nil]; first | decide | (unfold own_min; decide)) | (unfold own_min; decide) | (unfold own_max; decide)) (by rcases hh2 with ⟨rfl, rfl⟩ | ⟨rfl, _, rfl⟩ | ⟨rfl, _, _, rfl⟩ | ⟨rfl, _, _, _, rfl⟩ <;> first | rfl | decide | exact Nat.le_of_ble_eq_true rfl | (simp only [List.length_cons, List.length_nil]; first | decide | (unfold own_min; decide)) | (unfold own_min; decide) | (unfold own_max; decide)) (by rcases hh2 with ⟨rfl, rfl⟩ | ⟨rfl, _, rfl⟩ | ⟨rfl, _, _, rfl⟩ | ⟨rfl, _, _, _, rfl⟩ <;> first | rfl | decide | exact Nat.le_of_ble_eq_true rfl | (simp only [List.length_cons, List.length_nil]; first | decide | (unfold own_min; decide)) | (unfold own_min; decide) | (unfold own_max; decide)) (by rcases hh2 with ⟨rfl, rfl⟩ | ⟨rfl, _, rfl⟩ | ⟨rfl, _, _, rfl⟩ | ⟨rfl, _, _, _, rfl⟩ <;> first | rfl | decide | exact Nat.le_of_ble_eq_true rfl | (simp only [List.length_cons, List.length_nil]; first | decide | (unfold own_min; decide)) | (unfold own_min; decide) | (unfold own_max; decide)) (by rcases hh2 with ⟨rfl, rfl⟩ | ⟨rfl, _, rfl⟩ | ⟨rfl, _, _, rfl⟩ | ⟨rfl, _, _, _, rfl⟩ <;> first | rfl | decide | exact Nat.le_of_ble_eq_true rfl | (simp only [List.length_cons, List.length_nil]; first | decide | (unfold own_min; decide)) | (unfold own_min; decide) | (unfold own_max; decide))) hZ50 (own_w hw 78 rfl) (own_w hw 55 rfl) (by decide) (by decide)) q94a q94c (g := (mkF m 16 #[oa r0, .unset] [(.ref iri), (.ref b1)])) rfl (by rw [hml]; rfl) (Steps.refl _) (argsL := [(.ref iri)]) (rest := []) (lenOf own_pd29 rfl) rfl (Nat.le_of_eq rfl) (hb hby d9_16) (fun _ _ => ⟨rfl, e93, (by decide : 4 + 0 ≤ _), (by decide : 28 + 0 ≤ _)⟩)
  dsimp only [Pt.U, Pt.locs, Pt.cells, Pt.slots] at X94 l94 y94 z94 st94 hQ94
  subst l94 y94 z94
  obtain ⟨rfl, N94q, K94, po95, po96, po97, po98⟩ := hQ94
  have f99 := (f76.keep K94)
  have f100 := (f77.keep K94 (ninS ne2 (ninS ne40 nin0)))
  have f101 := (f78.keep K94 (ninS ne2 (ninS ne40 nin0)))
  have f102 := (f79.keep K94 (ninS ne2 (ninS ne40 nin0)))
  have f103 := (f80.keep K94)
  have f104 := (f81.keep K94 (ninS ne3 (ninS ne41 nin0)))
  have f105 := (f82.keep K94)
  have f106 := (f83.keep K94 (ninS ne4 (ninS ne42 nin0)))
  have f107 := (f84.keep K94 (ninS ne4 (ninS ne42 nin0)))
  have f108 := (f85.keep K94 (ninS ne5 (ninS ne43 nin0)))
  have f109 := (own_sta_keep f86 K94 (nsS f87.nostat (nsS (own_arv_ns nv92) ns0)))
  have f110 := (f87.keep K94)
  have zs94 : n0 ≤ T94.heap.size := Nat.le_trans zs71 K94.1
  have hk111 := Nat.le_trans hk88 (K94.1)
  have kk94 : Keep h0 T94.heap [] := kk71.trans K94 (allS (Or.inr sz1) (allS (Or.inr sz46) all0))
  have R94 := R71.trans (CHr.keep K94 (sfS (Safe.exa (EL := consts_1) (hZ50).alike f87 (by decide) (by decide)) (sfS sf90 sf0)) R71.1)
  have sf112 := Safe.keep K94 (sfS (Safe.exa (EL := consts_1) (hZ50).alike f87 (by decide) (by decide)) (sfS sf90 sf0)) R71.1 sf89
  have sf113 := Safe.keep K94 (sfS (Safe.exa (EL := consts_1) (hZ50).alike f87 (by decide) (by decide)) (sfS sf90 sf0)) R71.1 sf90
  have N94 := Fr.app N71 N94q
  obtain ⟨Lv94, X94, N94⟩ := own_hide X94 (Nat.le_refl 4) (Nat.le_refl 28) N94
  refine own_h T94 (mkF m 19 #[oa r0, .unset] [(.ref b1)]) (fun _ k => st94.trans k) ?_
  have fr114 : Fld Z T94.heap b1 "java/lang/AbstractStringBuilder" "count" "I" (.int (z1 + (1 : Int32))) := (show (((1 : Int32) + (z1 >>> ((0 : Int32) &&& 31))) : Int32) = (z1 + (1 : Int32)) from (by rcases hh2 with ⟨rfl, rfl⟩ | ⟨rfl, _, rfl⟩ | ⟨rfl, _, _, rfl⟩ | ⟨rfl, _, _, _, rfl⟩ <;> first | rfl | decide | exact Nat.le_of_ble_eq_true rfl | (simp only [List.length_cons, List.length_nil]; first | decide | (unfold own_min; decide)) | (unfold own_min; decide) | (unfold own_max; decide))) ▸ po97
  have nv115 : Arv Z T94.heap xb_22 xk_22 .byte (16 : Int32) ((.int (60 : Int32)) :: (us ++ own_zs (15 - us.length)) : List Value) (.int (0 : Int32)) := by have q := po98; rcases hh2 with ⟨rfl, rfl⟩ | ⟨rfl, _, rfl⟩ | ⟨rfl, _, _, rfl⟩ | ⟨rfl, _, _, _, rfl⟩ <;> exact q
  obtain ⟨lt116, T116, h116, k116, lb116, lk116, X116, e116, E116, hS116, hk116, hZ116, hown116, Le116, Lc116, Lv116, La116, -, -, ch116, -, hne116, st116⟩ := ldcCH X94 hx hZ50 hown50 (own_w hw 121 rfl) (own_wS hw) rfl hS50 hk111 (own_EW hw) (by simp [consts_1]) R94.1 (vs := [(.int (62 : Int32))]) (z := (1 : Int32)) ⟨by decide +kernel, by decide +kernel⟩ (by decide) (by decide) (g := (mkF m 19 #[oa r0, .unset] [(.ref b1)])) rfl (hb hby d9_19) (n := 4) (by decide +kernel) (by decide) (by decide) (by decide)
  have f117 := (f99.ext E116)
  have f118 := (f100.ext E116)
  have f119 := (f101.ext E116)
  have f120 := (f102.ext E116)
  have f121 := (f103.ext E116)
  have f122 := (f104.ext E116)
  have f123 := (f105.ext E116)
  have f124 := (f106.ext E116)
  have f125 := (f107.ext E116)
  have f126 := (f108.ext E116)
  have f127 := (f109.ext E116)
  have f128 := (f110.ext E116)
  have f129 := (po95.ext E116)
  have f130 := (po96.ext E116)
  have f131 := (fr114.ext E116)
  have f132 := (nv115.ext E116)
  have kk116 : Keep h0 h116 [] := kk94.ext E116
  have zs116 : n0 ≤ h116.size := Nat.le_trans zs94 E116.1
  have R116 := R94.trans ch116
  have sf133 := ch116.safe f110.lt sf112
  have sf134 := ch116.safe nv115.lt sf113
  have ln135 := hne116 _ (Safe.exa (EL := consts_1) (hZ116).alike f128 (by decide) (by decide))
  have ln136 := hne116 _ sf134
  refine own_h T116 (mkF m 21 #[oa r0, .unset] [(.ref lt116), (.ref b1)]) (fun _ k => st116 _ k) ?_
  obtain ⟨cq137, kq137, q137a, q137b, q137c⟩ := isOf hZ116 e116 f128
  obtain ⟨_, _, ⟨T137, L137, k137, n137⟩, -, X137, ⟨Lc137, hQ137, l137, y137, z137⟩, st137⟩ := X116.virtualBack hx (y := (⟨"java/lang/StringBuilder", "append", "(Ljava/lang/String;)Ljava/lang/StringBuilder;"⟩ : MethodName)) (z := (⟨"java/lang/StringBuilder", "append", "(Ljava/lang/String;)Ljava/lang/StringBuilder;"⟩ : MethodName)) hown116 (mvT hZ116 (own_w hw 74 rfl)) (mvT hZ116 (own_w hw 75 rfl)) (notFace_of_selects (args := #[]) (mvT hZ116 (own_w hw 77 rfl))) (mvT hZ116 (own_w hw 77 rfl)) (mvT hZ116 (own_w hw 76 rfl)) (by decide) (backOf (W := 0) (rmSbN l Z a0 hw [] b1 lt116 xb_22 (z1 + (1 : Int32)) xk_22 (16 : Int32) ((.int (60 : Int32)) :: (us ++ own_zs (15 - us.length)) : List Value) lb116 lk116 (1 : Int32) ([(.int (62 : Int32))] : List Value) cs (us.length + 1) 1 h116 n0 zs116 f128 ge1 f129 f130 f131 f132 ge45 ne44 Le116 Lc116 Lv116 La116 f127 hh0 (by rcases hh2 with ⟨rfl, rfl⟩ | ⟨rfl, _, rfl⟩ | ⟨rfl, _, _, rfl⟩ | ⟨rfl, _, _, _, rfl⟩ <;> first | rfl | decide | exact Nat.le_of_ble_eq_true rfl | (simp only [List.length_cons, List.length_nil]; first | decide | (unfold own_min; decide)) | (unfold own_min; decide) | (unfold own_max; decide)) (by rcases hh2 with ⟨rfl, rfl⟩ | ⟨rfl, _, rfl⟩ | ⟨rfl, _, _, rfl⟩ | ⟨rfl, _, _, _, rfl⟩ <;> first | rfl | decide | exact Nat.le_of_ble_eq_true rfl | (simp only [List.length_cons, List.length_nil]; first | decide | (unfold own_min; decide)) | (unfold own_min; decide) | (unfold own_max; decide)) (by rcases hh2 with ⟨rfl, rfl⟩ | ⟨rfl, _, rfl⟩ | ⟨rfl, _, _, rfl⟩ | ⟨rfl, _, _, _, rfl⟩ <;> first | rfl | decide | exact Nat.le_of_ble_eq_true rfl | (simp only [List.length_cons, List.length_nil]; first | decide | (unfold own_min; decide)) | (unfold own_min; decide) | (unfold own_max; decide)) (by rcases hh2 with ⟨rfl, rfl⟩ | ⟨rfl, _, rfl⟩ | ⟨rfl, _, _, rfl⟩ | ⟨rfl, _, _, _, rfl⟩ <;> first | rfl | decide | exact Nat.le_of_ble_eq_true rfl | (simp only [List.length_cons, List.length_nil]; first | decide | (unfold own_min; decide)) | (unfold own_min; decide) | (unfold own_max; decide)) (by rcases hh2 with ⟨rfl, rfl⟩ | ⟨rfl, _, rfl⟩ | ⟨rfl, _, _, rfl⟩ | ⟨rfl, _, _, _, rfl⟩ <;> first | rfl | decide | exact Nat.le_of_ble_eq_true rfl | (simp only [List.length_cons, List.length_nil]; first | decide | (unfold own_min; decide)) | (unfold own_min; decide) | (unfold own_max; decide)) (by rcases hh2 with ⟨rfl, rfl⟩ | ⟨rfl, _, rfl⟩ | ⟨rfl, _, _, rfl⟩ | ⟨rfl, _, _, _, rfl⟩ <;> first | rfl | decide | exact Nat.le_of_ble_eq_true rfl | (simp only [List.length_cons, List.length_nil]; first | decide | (unfold own_min; decide)) | (unfold own_min; decide) | (unfold own_max; decide)) (by rcases hh2 with ⟨rfl, rfl⟩ | ⟨rfl, _, rfl⟩ | ⟨rfl, _, _, rfl⟩ | ⟨rfl, _, _, _, rfl⟩ <;> first | rfl | decide | exact Nat.le_of_ble_eq_true rfl | (simp only [List.length_cons, List.length_nil]; first | decide | (unfold own_min; decide)) | (unfold own_min; decide) | (unfold own_max; decide)) (by rcases hh2 with ⟨rfl, rfl⟩ | ⟨rfl, _, rfl⟩ | ⟨rfl, _, _, rfl⟩ | ⟨rfl, _, _, _, rfl⟩ <;> first | rfl | decide | exact Nat.le_of_ble_eq_true rfl | (simp only [List.length_cons, List.length_nil]; first | decide | (unfold own_min; decide)) | (unfold own_min; decide) | (unfold own_max; decide))) hZ116 (own_w hw 78 rfl) (own_w hw 55 rfl) (by decide) (by decide)) q137a q137c (g := (mkF m 21 #[oa r0, .unset] [(.ref lt116), (.ref b1)])) rfl (by rw [hml]; rfl) (Steps.refl _) (argsL := [(.ref lt116)]) (rest := []) (lenOf own_pd29 rfl) rfl (Nat.le_of_eq rfl) (hb hby d9_21) (fun _ _ => ⟨rfl, e116, (by decide : 6 + 0 ≤ _), (by decide : 36 + 0 ≤ _)⟩)
  dsimp only [Pt.U, Pt.locs, Pt.cells, Pt.slots] at X137 l137 y137 z137 st137 hQ137
  subst l137 y137 z137
  obtain ⟨rfl, N137q, K137, po138, po139, po140, po141⟩ := hQ137
  have f142 := (f117.keep K137)
  have f143 := (f118.keep K137 (ninS ne2 (ninS ne40 nin0)))
  have f144 := (f119.keep K137 (ninS ne2 (ninS ne40 nin0)))
  have f145 := (f120.keep K137 (ninS ne2 (ninS ne40 nin0)))
  have f146 := (f121.keep K137)
  have f147 := (f122.keep K137 (ninS ne3 (ninS ne41 nin0)))
  have f148 := (f123.keep K137)
  have f149 := (f124.keep K137 (ninS ne4 (ninS ne42 nin0)))
  have f150 := (f125.keep K137 (ninS ne4 (ninS ne42 nin0)))
  have f151 := (f126.keep K137 (ninS ne5 (ninS ne43 nin0)))
  have f152 := (own_sta_keep f127 K137 (nsS f128.nostat (nsS (own_arv_ns f132) ns0)))
  have f153 := (f128.keep K137)
  have zs137 : n0 ≤ T137.heap.size := Nat.le_trans zs116 K137.1
  have hk154 := Nat.le_trans hk116 (K137.1)
  have kk137 : Keep h0 T137.heap [] := kk116.trans K137 (allS (Or.inr sz1) (allS (Or.inr sz46) all0))
  have R137 := R116.trans (CHr.keep K137 (sfS (Safe.exa (EL := consts_1) (hZ116).alike f128 (by decide) (by decide)) (sfS sf134 sf0)) R116.1)
  have sf155 := Safe.keep K137 (sfS (Safe.exa (EL := consts_1) (hZ116).alike f128 (by decide) (by decide)) (sfS sf134 sf0)) R116.1 sf133
  have sf156 := Safe.keep K137 (sfS (Safe.exa (EL := consts_1) (hZ116).alike f128 (by decide) (by decide)) (sfS sf134 sf0)) R116.1 sf134
  have N137 := Fr.app N94 N137q
  obtain ⟨Lv137, X137, N137⟩ := own_hide X137 (Nat.le_refl 6) (Nat.le_refl 36) N137
  refine own_h T137 (mkF m 24 #[oa r0, .unset] [(.ref b1)]) (fun _ k => st137.trans k) ?_
  have fr157 : Fld Z T137.heap b1 "java/lang/AbstractStringBuilder" "count" "I" (.int (z1 + (2 : Int32))) := (show (((z1 + (1 : Int32)) + ((1 : Int32) >>> ((0 : Int32) &&& 31))) : Int32) = (z1 + (2 : Int32)) from (by rcases hh2 with ⟨rfl, rfl⟩ | ⟨rfl, _, rfl⟩ | ⟨rfl, _, _, rfl⟩ | ⟨rfl, _, _, _, rfl⟩ <;> first | rfl | decide | exact Nat.le_of_ble_eq_true rfl | (simp only [List.length_cons, List.length_nil]; first | decide | (unfold own_min; decide)) | (unfold own_min; decide) | (unfold own_max; decide))) ▸ po140
  have nv158 : Arv Z T137.heap xb_22 xk_22 .byte (16 : Int32) ((.int (60 : Int32)) :: (us ++ [(.int (62 : Int32))] ++ own_zs (14 - us.length)) : List Value) (.int (0 : Int32)) := by have q := po141; rcases hh2 with ⟨rfl, rfl⟩ | ⟨rfl, _, rfl⟩ | ⟨rfl, _, _, rfl⟩ | ⟨rfl, _, _, _, rfl⟩ <;> exact q
  obtain ⟨cq159, kq159, q159a, q159b, q159c⟩ := isOf hZ116 rfl f153
  obtain ⟨_, _, ⟨T159, L159, k159, n159⟩, -, X159, ⟨Lc159, hQ159, l159, y159, z159⟩, st159⟩ := X137.virtualBack hx (y := (⟨"java/lang/StringBuilder", "toString", "()Ljava/lang/String;"⟩ : MethodName)) (z := (⟨"java/lang/StringBuilder", "toString", "()Ljava/lang/String;"⟩ : MethodName)) hown116 (mvT hZ116 (own_w hw 122 rfl)) (mvT hZ116 (own_w hw 123 rfl)) (notFace_of_selects (args := #[]) (mvT hZ116 (own_w hw 125 rfl))) (mvT hZ116 (own_w hw 125 rfl)) (mvT hZ116 (own_w hw 124 rfl)) (by decide) (backOf (W := 0) (rmSTS l Z a0 hw [] b1 xb_22 (z1 + (2 : Int32)) xk_22 (16 : Int32) ((.int (60 : Int32)) :: (us ++ [(.int (62 : Int32))] ++ own_zs (14 - us.length)) : List Value) (us.length + 2) cs T137.heap n0 zs137 f153 po138 po139 fr157 nv158 f152 (by rcases hh2 with ⟨rfl, rfl⟩ | ⟨rfl, _, rfl⟩ | ⟨rfl, _, _, rfl⟩ | ⟨rfl, _, _, _, rfl⟩ <;> first | rfl | decide | exact Nat.le_of_ble_eq_true rfl | (simp only [List.length_cons, List.length_nil]; first | decide | (unfold own_min; decide)) | (unfold own_min; decide) | (unfold own_max; decide)) (by rcases hh2 with ⟨rfl, rfl⟩ | ⟨rfl, _, rfl⟩ | ⟨rfl, _, _, rfl⟩ | ⟨rfl, _, _, _, rfl⟩ <;> first | rfl | decide | exact Nat.le_of_ble_eq_true rfl | (simp only [List.length_cons, List.length_nil]; first | decide | (unfold own_min; decide)) | (unfold own_min; decide) | (unfold own_max; decide)) (by rcases hh2 with ⟨rfl, rfl⟩ | ⟨rfl, _, rfl⟩ | ⟨rfl, _, _, rfl⟩ | ⟨rfl, _, _, _, rfl⟩ <;> first | rfl | decide | exact Nat.le_of_ble_eq_true rfl | (simp only [List.length_cons, List.length_nil]; first | decide | (unfold own_min; decide)) | (unfold own_min; decide) | (unfold own_max; decide)) (by rcases hh2 with ⟨rfl, rfl⟩ | ⟨rfl, _, rfl⟩ | ⟨rfl, _, _, rfl⟩ | ⟨rfl, _, _, _, rfl⟩ <;> first | rfl | decide | exact Nat.le_of_ble_eq_true rfl | (simp only [List.length_cons, List.length_nil]; first | decide | (unfold own_min; decide)) | (unfold own_min; decide) | (unfold own_max; decide)) (by rcases hh2 with ⟨rfl, rfl⟩ | ⟨rfl, _, rfl⟩ | ⟨rfl, _, _, rfl⟩ | ⟨rfl, _, _, _, rfl⟩ <;> first | rfl | decide | exact Nat.le_of_ble_eq_true rfl | (simp only [List.length_cons, List.length_nil]; first | decide | (unfold own_min; decide)) | (unfold own_min; decide) | (unfold own_max; decide)) (by rcases hh2 with ⟨rfl, rfl⟩ | ⟨rfl, _, rfl⟩ | ⟨rfl, _, _, rfl⟩ | ⟨rfl, _, _, _, rfl⟩ <;> first | rfl | decide | exact Nat.le_of_ble_eq_true rfl | (simp only [List.length_cons, List.length_nil]; first | decide | (unfold own_min; decide)) | (unfold own_min; decide) | (unfold own_max; decide)) (by rcases hh2 with ⟨rfl, rfl⟩ | ⟨rfl, _, rfl⟩ | ⟨rfl, _, _, rfl⟩ | ⟨rfl, _, _, _, rfl⟩ <;> first | rfl | decide | exact Nat.le_of_ble_eq_true rfl | (simp only [List.length_cons, List.length_nil]; first | decide | (unfold own_min; decide)) | (unfold own_min; decide) | (unfold own_max; decide)) (by rcases hh2 with ⟨rfl, rfl⟩ | ⟨rfl, _, rfl⟩ | ⟨rfl, _, _, rfl⟩ | ⟨rfl, _, _, _, rfl⟩ <;> first | rfl | decide | exact Nat.le_of_ble_eq_true rfl | (simp only [List.length_cons, List.length_nil]; first | decide | (unfold own_min; decide)) | (unfold own_min; decide) | (unfold own_max; decide)) (by rcases hh2 with ⟨rfl, rfl⟩ | ⟨rfl, _, rfl⟩ | ⟨rfl, _, _, rfl⟩ | ⟨rfl, _, _, _, rfl⟩ <;> first | rfl | decide | exact Nat.le_of_ble_eq_true rfl | (simp only [List.length_cons, List.length_nil]; first | decide | (unfold own_min; decide)) | (unfold own_min; decide) | (unfold own_max; decide)) hh0) hZ116 (own_w hw 126 rfl) (own_w hw 55 rfl) (by decide) (by decide)) q159a q159c (g := (mkF m 24 #[oa r0, .unset] [(.ref b1)])) rfl (by rw [hml]; rfl) (Steps.refl _) (argsL := []) (rest := []) (lenOf own_pd30 rfl) rfl (Nat.le_of_eq rfl) (hb hby d9_24) (fun _ _ => ⟨rfl, rfl, (by decide : 6 + 2 ≤ _), (by decide : 36 + 44 ≤ _)⟩)
  dsimp only [Pt.U, Pt.locs, Pt.cells, Pt.slots] at X159 l159 y159 z159 st159 hQ159
  subst l159 y159 z159
  obtain ⟨xs_159, xb_159, xk_159, rfl, N159q, K159, po160, po161, po162, po163, po164, po165, po166⟩ := hQ159
  have f167 := (f142.keep K159)
  have f168 := (f143.keep K159 nin0)
  have f169 := (f144.keep K159 nin0)
  have f170 := (f145.keep K159 nin0)
  have f171 := (f146.keep K159)
  have f172 := (f147.keep K159 nin0)
  have f173 := (f148.keep K159)
  have f174 := (f149.keep K159 nin0)
  have f175 := (f150.keep K159 nin0)
  have f176 := (f151.keep K159 nin0)
  have f177 := (own_sta_keep f152 K159 ns0)
  have ne178 : r0 ≠ xs_159 := Nat.ne_of_lt (Nat.lt_of_lt_of_le f142.lt po160)
  have ne179 : inv ≠ xs_159 := Nat.ne_of_lt (Nat.lt_of_lt_of_le f146.lt po160)
  have ne180 : iri ≠ xs_159 := Nat.ne_of_lt (Nat.lt_of_lt_of_le f148.lt po160)
  have ne181 : d1 ≠ xs_159 := Nat.ne_of_lt (Nat.lt_of_lt_of_le f151.lt po160)
  have ne182 : b1 ≠ xs_159 := Nat.ne_of_lt (Nat.lt_of_lt_of_le f153.lt po160)
  have ne183 : xb_22 ≠ xs_159 := Nat.ne_of_lt (Nat.lt_of_lt_of_le nv158.lt po160)
  have ge184 : n0 ≤ xs_159 := Nat.le_trans zs137 po160
  have sz185 : h0.size ≤ xs_159 := Nat.le_trans kk137.1 po160
  have ne186 : r0 ≠ xb_159 := Nat.ne_of_lt (Nat.lt_of_lt_of_le f142.lt po161)
  have ne187 : inv ≠ xb_159 := Nat.ne_of_lt (Nat.lt_of_lt_of_le f146.lt po161)
  have ne188 : iri ≠ xb_159 := Nat.ne_of_lt (Nat.lt_of_lt_of_le f148.lt po161)
  have ne189 : d1 ≠ xb_159 := Nat.ne_of_lt (Nat.lt_of_lt_of_le f151.lt po161)
  have ne190 : b1 ≠ xb_159 := Nat.ne_of_lt (Nat.lt_of_lt_of_le f153.lt po161)
  have ne191 : xb_22 ≠ xb_159 := Nat.ne_of_lt (Nat.lt_of_lt_of_le nv158.lt po161)
  have ge192 : n0 ≤ xb_159 := Nat.le_trans zs137 po161
  have sz193 : h0.size ≤ xb_159 := Nat.le_trans kk137.1 po161
  have zs159 : n0 ≤ T159.heap.size := Nat.le_trans zs137 K159.1
  have hk194 := Nat.le_trans hk154 (K159.1)
  have kk159 : Keep h0 T159.heap [] := kk137.trans K159 all0
  have R159 := R137.trans (CHr.keep K159 sf0 R137.1)
  have sf195 := Safe.keep K159 sf0 R137.1 (Safe.new po160)
  have sf196 := Safe.keep K159 sf0 R137.1 (Safe.new po161)
  have N159 := Fr.app N137 N159q
  obtain ⟨Lv159, X159, N159⟩ := own_hide X159 (Nat.le_refl 8) (Nat.le_refl 80) N159
  refine own_h T159 (mkF m 27 #[oa r0, .unset] [(.ref xs_159)]) (fun _ k => st159.trans k) ?_
  have nv197 : Arv Z T159.heap xb_159 xk_159 .byte (z1 + (2 : Int32)) ((.int (60 : Int32)) :: (us ++ [(.int (62 : Int32))]) : List Value) (.int (0 : Int32)) := by have q := po166; rcases hh2 with ⟨rfl, rfl⟩ | ⟨rfl, _, rfl⟩ | ⟨rfl, _, _, rfl⟩ | ⟨rfl, _, _, _, rfl⟩ <;> exact q
  refine own_h T159 (mkF m 29 #[oa r0, oa xs_159] [(.ref r0)]) (fun _ k => XS.astoreN X159.here hx rfl (hb hby d9_27) rfl rfl (l' := #[oa r0, oa xs_159]) rfl (XS.aloadN X159.here hx rfl (hb hby d9_28) rfl rfl k)) ?_
  obtain ⟨cq198, kq198, q198a, q198b, q198c⟩ := isOf hZ116 rfl f167
  obtain ⟨_, _, ⟨T198, L198, k198, n198⟩, -, X198, ⟨Lc198, hQ198, l198, y198, z198⟩, st198⟩ := X159.virtualBack hx (y := (⟨"com/example/cardinal_tableau/cardinaltableau/model/Role", "isInverse", "()Z"⟩ : MethodName)) (z := (⟨"com/example/cardinal_tableau/cardinaltableau/model/Role", "isInverse", "()Z"⟩ : MethodName)) hown116 (mvT hZ116 (own_w hw 167 rfl)) (mvT hZ116 (own_w hw 168 rfl)) (notFace_of_selects (args := #[]) (mvT hZ116 (own_w hw 170 rfl))) (mvT hZ116 (own_w hw 170 rfl)) (mvT hZ116 (own_w hw 169 rfl)) (by decide) (backOf (W := 0) (rmIs l Z a0 hw [] r0 inv idv idw T159.heap n0 zs159 f169 f170 f172) hZ116 (own_w hw 171 rfl) (own_w hw 32 rfl) (by decide) (by decide)) q198a q198c (g := (mkF m 29 #[oa r0, oa xs_159] [(.ref r0)])) rfl (by rw [hml]; rfl) (Steps.refl _) (argsL := []) (rest := []) (lenOf own_pd3 rfl) rfl (Nat.le_of_eq rfl) (hb hby d9_29) (fun _ _ => ⟨rfl, rfl, (by decide : 8 + 0 ≤ _), (by decide : 80 + 0 ≤ _)⟩)
  dsimp only [Pt.U, Pt.locs, Pt.cells, Pt.slots] at X198 l198 y198 z198 st198 hQ198
  subst l198 y198 z198
  obtain ⟨rfl, N198q, e198⟩ := hQ198
  have N198 := Fr.app N159 N198q
  obtain ⟨Lv198, X198, N198⟩ := own_hide X198 (Nat.le_refl 8) (Nat.le_refl 80) N198
  refine own_h T198 (mkF m 63 #[oa r0, oa xs_159] [(.ref xs_159)]) (fun _ k => st198.trans (XS.ifYes X198.here hx rfl (pc0 := 32) (pc' := 62) rfl (hb hby d9_32) rfl (XT.i0_eq_t hh1) (by decide) (by decide) (XS.aloadN X198.here hx rfl (hb hby d9_62) rfl rfl k))) ?_
  exact own_retH X198 hS116 hx Bd.returns hlk rfl (Or.inr (Or.inr (Or.inr (Or.inr ⟨rfl, rfl, rfl⟩)))) (hb hby d9_63) hZ116 (own_EW hw) R159 e198 hk194 ⟨xs_159, xb_159, xk_159, rfl, N198, kk159, sz185, sz193, po163, po164, po165, nv197⟩ (by decide) (by decide)
theorem d9_35 : decode prog_21_method_8_code 35 = .ok (.new 46, 3) := by decide +kernel
theorem d9_38 : decode prog_21_method_8_code 38 = .ok (.dup, 1) := by decide +kernel
theorem d9_39 : decode prog_21_method_8_code 39 = .ok (.invokespecial 48, 3) := by decide +kernel
theorem d9_42 : decode prog_21_method_8_code 42 = .ok (.ldc 64, 2) := by decide +kernel
theorem d9_44 : decode prog_21_method_8_code 44 = .ok (.invokevirtual 51, 3) := by decide +kernel
theorem d9_47 : decode prog_21_method_8_code 47 = .ok (.aload_n 1, 1) := by decide +kernel
theorem d9_48 : decode prog_21_method_8_code 48 = .ok (.invokevirtual 51, 3) := by decide +kernel
theorem d9_51 : decode prog_21_method_8_code 51 = .ok (.ldc 66, 2) := by decide +kernel
theorem d9_53 : decode prog_21_method_8_code 53 = .ok (.invokevirtual 51, 3) := by decide +kernel
theorem d9_56 : decode prog_21_method_8_code 56 = .ok (.invokevirtual 57, 3) := by decide +kernel
theorem d9_59 : decode prog_21_method_8_code 59 = .ok (.goto 4, 3) := by decide +kernel
def Q_rmToI (Z : State) (r0 : Addr) (iri : Addr) (inv : Addr) (idv : Int32) (idw : Int32) (d1 : Addr) (kd : ClassId) (z1 : Int32) (us : List Value) (cs : Int32) (h0 : Heap) (n0 : Nat) (v : Option Value) (h : Heap) (L : List Loc) : Prop := ∃ (xs : Addr) (xb : Addr) (xk : ClassId), v = some (.ref xs) ∧ Fr n0 L ∧ Keep h0 h [] ∧ h0.size ≤ xs ∧ h0.size ≤ xb ∧ Exa Z h xs "java/lang/String" ∧ Fld Z h xs "java/lang/String" "value" "[B" (.ref xb) ∧ Fld Z h xs "java/lang/String" "coder" "B" (.int (0 : Int32)) ∧ Arv Z h xb xk .byte (z1 + (19 : Int32)) (own_obj ++ ((.int (60 : Int32)) :: (us ++ [(.int (62 : Int32)), (.int (41 : Int32))])) : List Value) (.int (0 : Int32))
theorem ef_rmToI (m : MethodId) (x0 : Addr) : entryFrame m #[(.ref x0)] 2 = mkF m 0 #[.val (.ref x0), .unset] [] := by first | (simp [entryFrame, mkF, argsToLocals, Value.category]; done) | rfl
theorem pn_rmToI : plainName "com/example/cardinal_tableau/cardinaltableau/model/Role" = true := by first | (simp [plainName, overriddenIn]; done) | decide +kernel
set_option maxRecDepth 65536 in
set_option maxHeartbeats 40000000 in
theorem rmToI (l : Launch) (Z : State) (a0 : Array Value) (hw : ∀ d ∈ tables_1, d.before a0 Z = true) (ws : List Jvm.Cond) (r0 : Addr) (iri : Addr) (inv : Addr) (idv : Int32) (idw : Int32) (d1 : Addr) (kd : ClassId) (z1 : Int32) (us : List Value) (cs : Int32) (h0 : Heap) (n0 : Nat) (Z0 : n0 ≤ h0.size) (hp0 : Exa Z h0 r0 "com/example/cardinal_tableau/cardinaltableau/model/Role") (hp1 : Fld Z h0 r0 "com/example/cardinal_tableau/cardinaltableau/model/Role" "iri" "Ljava/lang/String;" (.ref iri)) (hp2 : Fld Z h0 r0 "com/example/cardinal_tableau/cardinaltableau/model/Role" "inverse" "Lcom/example/cardinal_tableau/cardinaltableau/model/Role;" (.ref inv)) (hp3 : Fld Z h0 r0 "com/example/cardinal_tableau/cardinaltableau/model/Role" "id" "I" (.int idv)) (hp4 : Exa Z h0 inv "com/example/cardinal_tableau/cardinaltableau/model/Role") (hp5 : Fld Z h0 inv "com/example/cardinal_tableau/cardinaltableau/model/Role" "id" "I" (.int idw)) (hp6 : Exa Z h0 iri "java/lang/String") (hp7 : Fld Z h0 iri "java/lang/String" "coder" "B" (.int (0 : Int32))) (hp8 : Fld Z h0 iri "java/lang/String" "value" "[B" (.ref d1)) (hp9 : Arv Z h0 d1 kd .byte z1 us (.int (0 : Int32))) (hp10 : Sta Z h0 "java/lang/String" "COMPACT_STRINGS" "Z" (.int cs)) (hh0 : ¬ cs = (0 : Int32)) (hh1 : ¬ own_isInv r0 inv idv idw = (0 : Int32)) (hh2 : own_Z z1 us) :
    MetFree l (⟨"com/example/cardinal_tableau/cardinaltableau/model/Role", "toString", "()Ljava/lang/String;"⟩ : MethodName) (head1 (Jvm.Cond.code (⟨"com/example/cardinal_tableau/cardinaltableau/model/Role", "toString", "()Ljava/lang/String;"⟩ : MethodName) prog_21_method_8_code 2 (some (.object "java/lang/String")) :: ws) ({ frames := 6, cells := 17, slots := 254, locals := 91 } : Room)) (fun a U => a = #[(.ref r0)] ∧ Z.Warmed39 U.vm ∧ U.heap = h0 ∧ CHv Z consts_1 U.vm h0) (fun _ _ _ _ _ => True) (fun _ U o U' => ∃ v L, o = .returned v ∧ Q_rmToI Z r0 iri inv idv idw d1 kd z1 us cs h0 n0 v U'.heap L ∧ CHr Z consts_1 U.vm U.heap U'.vm U'.heap ∧ ReturnedEndW U o U' L ({ frames := 6, cells := 17, slots := 254, locals := 91 } : Room).cells ({ frames := 6, cells := 17, slots := 254, locals := 91 } : Room).slots) := by
  refine MetFree.of_bodySF (plainFor_of_name pn_rmToI) hisR ?_
  intro p e s m args below meth c s₁ Bd hml0 hP hK
  obtain ⟨rfl, hZ, hh, hH0⟩ := hP
  have hx := Bd.exec
  have hby := Bd.bytes
  have hml : c.maxLocals = 2 := hml0
  have hown : s.vm.findClass "com/example/cardinal_tableau/cardinaltableau/model/Role" = some m.cls := findClass_of_methodNamed Bd.named
  have hnm := (name_of_methodNamed Bd.named Bd.method).1
  have hlk : meth.locks = false := BodyLoose.notSynchronized Bd
  have X0 : Stand p l e ({ frames := 6, cells := 17, slots := 254, locals := 91 } : Room) (s.setVm s.vm) m #[(.ref r0)] below meth c s₁ [] 0 0 := Stand.of_body Bd
  have e0 : s₁.heap = h0 := by rw [← hh, Bd.state]; rfl
  have N0 := Fr.nil n0
  show own_WH Z consts_1 p e below s (Q_rmToI Z r0 iri inv idv idw d1 kd z1 us cs h0 n0) 17 254 s₁ (entryFrame m #[(.ref r0)] 2)
  have hS0 : s.Since s.vm 0 := (State.WarmedH.refl s).since 0
  have hk0 : 0 ≤ h0.size := Nat.zero_le _
  refine own_goH (T' := s₁) (g' := (mkF m 0 #[oa r0, .unset] [])) (fun _ k => castTop (ef_rmToI m r0) k) ?_
  have R0 : CHr Z consts_1 s.vm s.heap s.vm h0 := by rw [hh]; exact CHr.refl hH0
  obtain ⟨T1, h1, X1, e1, E1, A1, D1, -, st1⟩ := newO X0 hx hZ hown (own_w hw 53 rfl) (own_w hw 54 rfl) (own_w hw 55 rfl) e0 (g := (mkF m 0 #[oa r0, .unset] [])) rfl (hb hby d9_0) (by decide) (by decide)
  obtain ⟨b1, g1⟩ : ∃ z, z = h0.size := ⟨_, rfl⟩
  have ne2 : r0 ≠ b1 := Nat.ne_of_lt (Nat.lt_of_lt_of_le hp0.lt (Nat.le_of_eq g1.symm))
  have ne3 : inv ≠ b1 := Nat.ne_of_lt (Nat.lt_of_lt_of_le hp4.lt (Nat.le_of_eq g1.symm))
  have ne4 : iri ≠ b1 := Nat.ne_of_lt (Nat.lt_of_lt_of_le hp6.lt (Nat.le_of_eq g1.symm))
  have ne5 : d1 ≠ b1 := Nat.ne_of_lt (Nat.lt_of_lt_of_le hp9.lt (Nat.le_of_eq g1.symm))
  rw [← g1] at A1 D1 st1
  have f6 := (hp0.ext E1)
  have f7 := (hp1.ext E1)
  have f8 := (hp2.ext E1)
  have f9 := (hp3.ext E1)
  have f10 := (hp4.ext E1)
  have f11 := (hp5.ext E1)
  have f12 := (hp6.ext E1)
  have f13 := (hp7.ext E1)
  have f14 := (hp8.ext E1)
  have f15 := (hp9.ext E1)
  have f16 := (hp10.ext E1)
  have fn17 : Fld Z h1 b1 "java/lang/AbstractStringBuilder" "value" "[B" .null := D1 (Or.inl (own_w hw 68 rfl)) (ty := (.array .byte)) (by decide)
  have fn18 : Fld Z h1 b1 "java/lang/AbstractStringBuilder" "coder" "B" (.int (0 : Int32)) := D1 (Or.inl (own_w hw 70 rfl)) (ty := .byte) (by decide)
  have fn19 : Fld Z h1 b1 "java/lang/AbstractStringBuilder" "count" "I" (.int (0 : Int32)) := D1 (Or.inl (own_w hw 95 rfl)) (ty := .int) (by decide)
  have ge1 : n0 ≤ b1 := Nat.le_trans Z0 (Nat.le_of_eq g1.symm)
  have sz1 : h0.size ≤ b1 := Nat.le_trans (Keep.refl h0 []).1 (Nat.le_of_eq g1.symm)
  have kk1 : Keep h0 h1 [] := (Keep.refl h0 []).ext E1
  have zs1 : n0 ≤ h1.size := Nat.le_trans Z0 E1.1
  have hk20 := Nat.le_trans hk0 (E1.1)
  have R1 := R0.trans (CHr.ext E1 R0.1)
  have sf21 := Safe.ext E1 R0.1 (Safe.new (Nat.le_of_eq g1.symm))
  refine own_h T1 (mkF m 4 #[oa r0, .unset] [(.ref b1), (.ref b1)]) (fun _ k => st1 _ (XS.dup X1.here hx rfl (hb hby d9_3) rfl rfl k)) ?_
  obtain ⟨_, _, ⟨T22, L22, k22, n22⟩, -, X22, ⟨Lc22, hQ22, l22, y22, z22⟩, st22⟩ := X1.specialBack hx (y := (⟨"java/lang/StringBuilder", "<init>", "()V"⟩ : MethodName)) rfl hown (mvT hZ (own_w hw 56 rfl)) (mvT hZ (own_w hw 57 rfl)) (mvT hZ (own_w hw 58 rfl)) (by decide) (backOf (W := 1) (rmSI l Z a0 hw [] b1 cs h1 n0 zs1 A1 ge1 fn17 fn18 fn19 f16 hh0) hZ (own_w hw 58 rfl) (own_w hw 55 rfl) (by decide) (by decide)) (g := (mkF m 4 #[oa r0, .unset] [(.ref b1), (.ref b1)])) rfl (by rw [hml]; rfl) (Steps.refl _) (a := b1) (argsL := []) (rest := [(.ref b1)]) (lenOf own_pd28 rfl) rfl (Nat.le_of_eq rfl) (hb hby d9_4) (fun _ _ => ⟨rfl, e1, (by decide : 1 + 1 ≤ _), (by decide : 4 + 16 ≤ _)⟩)
  dsimp only [Pt.U, Pt.locs, Pt.cells, Pt.slots] at X22 l22 y22 z22 st22 hQ22
  subst l22 y22 z22
  obtain ⟨xb_22, xk_22, rfl, N22q, K22, po23, po24, po25, po26, po27⟩ := hQ22
  have f28 := (f6.keep K22)
  have f29 := (f7.keep K22 (ninS ne2 nin0))
  have f30 := (f8.keep K22 (ninS ne2 nin0))
  have f31 := (f9.keep K22 (ninS ne2 nin0))
  have f32 := (f10.keep K22)
  have f33 := (f11.keep K22 (ninS ne3 nin0))
  have f34 := (f12.keep K22)
  have f35 := (f13.keep K22 (ninS ne4 nin0))
  have f36 := (f14.keep K22 (ninS ne4 nin0))
  have f37 := (f15.keep K22 (ninS ne5 nin0))
  have f38 := (own_sta_keep f16 K22 (nsS A1.nostat ns0))
  have f39 := (A1.keep K22)
  have ne40 : r0 ≠ xb_22 := Nat.ne_of_lt (Nat.lt_of_lt_of_le f6.lt po23)
  have ne41 : inv ≠ xb_22 := Nat.ne_of_lt (Nat.lt_of_lt_of_le f10.lt po23)
  have ne42 : iri ≠ xb_22 := Nat.ne_of_lt (Nat.lt_of_lt_of_le f12.lt po23)
  have ne43 : d1 ≠ xb_22 := Nat.ne_of_lt (Nat.lt_of_lt_of_le f15.lt po23)
  have ne44 : b1 ≠ xb_22 := Nat.ne_of_lt (Nat.lt_of_lt_of_le A1.lt po23)
  have ge45 : n0 ≤ xb_22 := Nat.le_trans zs1 po23
  have sz46 : h0.size ≤ xb_22 := Nat.le_trans kk1.1 po23
  have zs22 : n0 ≤ T22.heap.size := Nat.le_trans zs1 K22.1
  have hk47 := Nat.le_trans hk20 (K22.1)
  have kk22 : Keep h0 T22.heap [] := kk1.trans K22 (allS (Or.inr sz1) all0)
  have R22 := R1.trans (CHr.keep K22 (sfS (Safe.exa (EL := consts_1) (hZ).alike A1 (by decide) (by decide)) sf0) R1.1)
  have sf48 := Safe.keep K22 (sfS (Safe.exa (EL := consts_1) (hZ).alike A1 (by decide) (by decide)) sf0) R1.1 sf21
  have sf49 := Safe.keep K22 (sfS (Safe.exa (EL := consts_1) (hZ).alike A1 (by decide) (by decide)) sf0) R1.1 (Safe.new po23)
  have N22 := Fr.app N0 N22q
  obtain ⟨Lv22, X22, N22⟩ := own_hide X22 (Nat.le_refl 2) (Nat.le_refl 20) N22
  refine own_h T22 (mkF m 7 #[oa r0, .unset] [(.ref b1)]) (fun _ k => st22.trans k) ?_
  obtain ⟨lt50, T50, h50, k50, lb50, lk50, X50, e50, E50, hS50, hk50, hZ50, hown50, Le50, Lc50, Lv50, La50, -, -, ch50, -, hne50, st50⟩ := ldcCH X22 hx hZ hown (own_w hw 71 rfl) (own_wS hw) rfl hS0 hk47 (own_EW hw) (by simp [consts_1]) R22.1 (vs := [(.int (60 : Int32))]) (z := (1 : Int32)) ⟨by decide +kernel, by decide +kernel⟩ (by decide) (by decide) (g := (mkF m 7 #[oa r0, .unset] [(.ref b1)])) rfl (hb hby d9_7) (n := 4) (by decide +kernel) (by decide) (by decide) (by decide)
  have f51 := (f28.ext E50)
  have f52 := (f29.ext E50)
  have f53 := (f30.ext E50)
  have f54 := (f31.ext E50)
  have f55 := (f32.ext E50)
  have f56 := (f33.ext E50)
  have f57 := (f34.ext E50)
  have f58 := (f35.ext E50)
  have f59 := (f36.ext E50)
  have f60 := (f37.ext E50)
  have f61 := (f38.ext E50)
  have f62 := (f39.ext E50)
  have f63 := (po24.ext E50)
  have f64 := (po25.ext E50)
  have f65 := (po26.ext E50)
  have f66 := (po27.ext E50)
  have kk50 : Keep h0 h50 [] := kk22.ext E50
  have zs50 : n0 ≤ h50.size := Nat.le_trans zs22 E50.1
  have R50 := R22.trans ch50
  have sf67 := ch50.safe f39.lt sf48
  have sf68 := ch50.safe po27.lt sf49
  have ln69 := hne50 _ (Safe.exa (EL := consts_1) (hZ50).alike f62 (by decide) (by decide))
  have ln70 := hne50 _ sf68
  refine own_h T50 (mkF m 9 #[oa r0, .unset] [(.ref lt50), (.ref b1)]) (fun _ k => st50 _ k) ?_
  obtain ⟨cq71, kq71, q71a, q71b, q71c⟩ := isOf hZ50 e50 f62
  obtain ⟨_, _, ⟨T71, L71, k71, n71⟩, -, X71, ⟨Lc71, hQ71, l71, y71, z71⟩, st71⟩ := X50.virtualBack hx (y := (⟨"java/lang/StringBuilder", "append", "(Ljava/lang/String;)Ljava/lang/StringBuilder;"⟩ : MethodName)) (z := (⟨"java/lang/StringBuilder", "append", "(Ljava/lang/String;)Ljava/lang/StringBuilder;"⟩ : MethodName)) hown50 (mvT hZ50 (own_w hw 74 rfl)) (mvT hZ50 (own_w hw 75 rfl)) (notFace_of_selects (args := #[]) (mvT hZ50 (own_w hw 77 rfl))) (mvT hZ50 (own_w hw 77 rfl)) (mvT hZ50 (own_w hw 76 rfl)) (by decide) (backOf (W := 0) (rmSbN l Z a0 hw [] b1 lt50 xb_22 (0 : Int32) xk_22 (16 : Int32) ([(.int (0 : Int32)), (.int (0 : Int32)), (.int (0 : Int32)), (.int (0 : Int32)), (.int (0 : Int32)), (.int (0 : Int32)), (.int (0 : Int32)), (.int (0 : Int32)), (.int (0 : Int32)), (.int (0 : Int32)), (.int (0 : Int32)), (.int (0 : Int32)), (.int (0 : Int32)), (.int (0 : Int32)), (.int (0 : Int32)), (.int (0 : Int32))] : List Value) lb50 lk50 (1 : Int32) ([(.int (60 : Int32))] : List Value) cs 0 1 h50 n0 zs50 f62 ge1 f63 f64 f65 f66 ge45 ne44 Le50 Lc50 Lv50 La50 f61 hh0 (by rcases hh2 with ⟨rfl, rfl⟩ | ⟨rfl, _, rfl⟩ | ⟨rfl, _, _, rfl⟩ | ⟨rfl, _, _, _, rfl⟩ <;> first | rfl | decide | exact Nat.le_of_ble_eq_true rfl | (simp only [List.length_cons, List.length_nil]; first | decide | (unfold own_min; decide)) | (unfold own_min; decide) | (unfold own_max; decide)) (by rcases hh2 with ⟨rfl, rfl⟩ | ⟨rfl, _, rfl⟩ | ⟨rfl, _, _, rfl⟩ | ⟨rfl, _, _, _, rfl⟩ <;> first | rfl | decide | exact Nat.le_of_ble_eq_true rfl | (simp only [List.length_cons, List.length_nil]; first | decide | (unfold own_min; decide)) | (unfold own_min; decide) | (unfold own_max; decide)) (by rcases hh2 with ⟨rfl, rfl⟩ | ⟨rfl, _, rfl⟩ | ⟨rfl, _, _, rfl⟩ | ⟨rfl, _, _, _, rfl⟩ <;> first | rfl | decide | exact Nat.le_of_ble_eq_true rfl | (simp only [List.length_cons, List.length_nil]; first | decide | (unfold own_min; decide)) | (unfold own_min; decide) | (unfold own_max; decide)) (by rcases hh2 with ⟨rfl, rfl⟩ | ⟨rfl, _, rfl⟩ | ⟨rfl, _, _, rfl⟩ | ⟨rfl, _, _, _, rfl⟩ <;> first | rfl | decide | exact Nat.le_of_ble_eq_true rfl | (simp only [List.length_cons, List.length_nil]; first | decide | (unfold own_min; decide)) | (unfold own_min; decide) | (unfold own_max; decide)) (by rcases hh2 with ⟨rfl, rfl⟩ | ⟨rfl, _, rfl⟩ | ⟨rfl, _, _, rfl⟩ | ⟨rfl, _, _, _, rfl⟩ <;> first | rfl | decide | exact Nat.le_of_ble_eq_true rfl | (simp only [List.length_cons, List.length_nil]; first | decide | (unfold own_min; decide)) | (unfold own_min; decide) | (unfold own_max; decide)) (by rcases hh2 with ⟨rfl, rfl⟩ | ⟨rfl, _, rfl⟩ | ⟨rfl, _, _, rfl⟩ | ⟨rfl, _, _, _, rfl⟩ <;> first | rfl | decide | exact Nat.le_of_ble_eq_true rfl | (simp only [List.length_cons, List.length_nil]; first | decide | (unfold own_min; decide)) | (unfold own_min; decide) | (unfold own_max; decide)) (by rcases hh2 with ⟨rfl, rfl⟩ | ⟨rfl, _, rfl⟩ | ⟨rfl, _, _, rfl⟩ | ⟨rfl, _, _, _, rfl⟩ <;> first | rfl | decide | exact Nat.le_of_ble_eq_true rfl | (simp only [List.length_cons, List.length_nil]; first | decide | (unfold own_min; decide)) | (unfold own_min; decide) | (unfold own_max; decide)) (by rcases hh2 with ⟨rfl, rfl⟩ | ⟨rfl, _, rfl⟩ | ⟨rfl, _, _, rfl⟩ | ⟨rfl, _, _, _, rfl⟩ <;> first | rfl | decide | exact Nat.le_of_ble_eq_true rfl | (simp only [List.length_cons, List.length_nil]; first | decide | (unfold own_min; decide)) | (unfold own_min; decide) | (unfold own_max; decide))) hZ50 (own_w hw 78 rfl) (own_w hw 55 rfl) (by decide) (by decide)) q71a q71c (g := (mkF m 9 #[oa r0, .unset] [(.ref lt50), (.ref b1)])) rfl (by rw [hml]; rfl) (Steps.refl _) (argsL := [(.ref lt50)]) (rest := []) (lenOf own_pd29 rfl) rfl (Nat.le_of_eq rfl) (hb hby d9_9) (fun _ _ => ⟨rfl, e50, (by decide : 4 + 0 ≤ _), (by decide : 28 + 0 ≤ _)⟩)
  dsimp only [Pt.U, Pt.locs, Pt.cells, Pt.slots] at X71 l71 y71 z71 st71 hQ71
  subst l71 y71 z71
  obtain ⟨rfl, N71q, K71, po72, po73, po74, po75⟩ := hQ71
  have f76 := (f51.keep K71)
  have f77 := (f52.keep K71 (ninS ne2 (ninS ne40 nin0)))
  have f78 := (f53.keep K71 (ninS ne2 (ninS ne40 nin0)))
  have f79 := (f54.keep K71 (ninS ne2 (ninS ne40 nin0)))
  have f80 := (f55.keep K71)
  have f81 := (f56.keep K71 (ninS ne3 (ninS ne41 nin0)))
  have f82 := (f57.keep K71)
  have f83 := (f58.keep K71 (ninS ne4 (ninS ne42 nin0)))
  have f84 := (f59.keep K71 (ninS ne4 (ninS ne42 nin0)))
  have f85 := (f60.keep K71 (ninS ne5 (ninS ne43 nin0)))
  have f86 := (own_sta_keep f61 K71 (nsS f62.nostat (nsS (own_arv_ns f66) ns0)))
  have f87 := (f62.keep K71)
  have zs71 : n0 ≤ T71.heap.size := Nat.le_trans zs50 K71.1
  have hk88 := Nat.le_trans hk50 (K71.1)
  have kk71 : Keep h0 T71.heap [] := kk50.trans K71 (allS (Or.inr sz1) (allS (Or.inr sz46) all0))
  have R71 := R50.trans (CHr.keep K71 (sfS (Safe.exa (EL := consts_1) (hZ50).alike f62 (by decide) (by decide)) (sfS sf68 sf0)) R50.1)
  have sf89 := Safe.keep K71 (sfS (Safe.exa (EL := consts_1) (hZ50).alike f62 (by decide) (by decide)) (sfS sf68 sf0)) R50.1 sf67
  have sf90 := Safe.keep K71 (sfS (Safe.exa (EL := consts_1) (hZ50).alike f62 (by decide) (by decide)) (sfS sf68 sf0)) R50.1 sf68
  have N71 := Fr.app N22 N71q
  obtain ⟨Lv71, X71, N71⟩ := own_hide X71 (Nat.le_refl 4) (Nat.le_refl 28) N71
  refine own_h T71 (mkF m 12 #[oa r0, .unset] [(.ref b1)]) (fun _ k => st71.trans k) ?_
  have fr91 : Fld Z T71.heap b1 "java/lang/AbstractStringBuilder" "count" "I" (.int (1 : Int32)) := (show (((0 : Int32) + ((1 : Int32) >>> ((0 : Int32) &&& 31))) : Int32) = (1 : Int32) from (by rcases hh2 with ⟨rfl, rfl⟩ | ⟨rfl, _, rfl⟩ | ⟨rfl, _, _, rfl⟩ | ⟨rfl, _, _, _, rfl⟩ <;> first | rfl | decide | exact Nat.le_of_ble_eq_true rfl | (simp only [List.length_cons, List.length_nil]; first | decide | (unfold own_min; decide)) | (unfold own_min; decide) | (unfold own_max; decide))) ▸ po74
  have nv92 : Arv Z T71.heap xb_22 xk_22 .byte (16 : Int32) [(.int (60 : Int32)), (.int (0 : Int32)), (.int (0 : Int32)), (.int (0 : Int32)), (.int (0 : Int32)), (.int (0 : Int32)), (.int (0 : Int32)), (.int (0 : Int32)), (.int (0 : Int32)), (.int (0 : Int32)), (.int (0 : Int32)), (.int (0 : Int32)), (.int (0 : Int32)), (.int (0 : Int32)), (.int (0 : Int32)), (.int (0 : Int32))] (.int (0 : Int32)) := by have q := po75; rcases hh2 with ⟨rfl, rfl⟩ | ⟨rfl, _, rfl⟩ | ⟨rfl, _, _, rfl⟩ | ⟨rfl, _, _, _, rfl⟩ <;> exact q
  refine own_h T71 (mkF m 13 #[oa r0, .unset] [(.ref r0), (.ref b1)]) (fun _ k => XS.aloadN X71.here hx rfl (hb hby d9_12) rfl rfl k) ?_
  obtain ⟨T93, X93, e93, st93⟩ := getF X71 hx hZ50 hown50 (host := "") (Or.inl (own_w hw 39 rfl)) Via.refl rfl f77 (g := (mkF m 13 #[oa r0, .unset] [(.ref r0), (.ref b1)])) rfl rfl (hb hby d9_13)
  refine own_h T93 (mkF m 16 #[oa r0, .unset] [(.ref iri), (.ref b1)]) (fun _ k => st93 _ k) ?_
  obtain ⟨cq94, kq94, q94a, q94b, q94c⟩ := isOf hZ50 e93 f87
  obtain ⟨_, _, ⟨T94, L94, k94, n94⟩, -, X94, ⟨Lc94, hQ94, l94, y94, z94⟩, st94⟩ := X93.virtualBack hx (y := (⟨"java/lang/StringBuilder", "append", "(Ljava/lang/String;)Ljava/lang/StringBuilder;"⟩ : MethodName)) (z := (⟨"java/lang/StringBuilder", "append", "(Ljava/lang/String;)Ljava/lang/StringBuilder;"⟩ : MethodName)) hown50 (mvT hZ50 (own_w hw 74 rfl)) (mvT hZ50 (own_w hw 75 rfl)) (notFace_of_selects (args := #[]) (mvT hZ50 (own_w hw 77 rfl))) (mvT hZ50 (own_w hw 77 rfl)) (mvT hZ50 (own_w hw 76 rfl)) (by decide) (backOf (W := 0) (rmSbN l Z a0 hw [] b1 iri xb_22 (1 : Int32) xk_22 (16 : Int32) ([(.int (60 : Int32)), (.int (0 : Int32)), (.int (0 : Int32)), (.int (0 : Int32)), (.int (0 : Int32)), (.int (0 : Int32)), (.int (0 : Int32)), (.int (0 : Int32)), (.int (0 : Int32)), (.int (0 : Int32)), (.int (0 : Int32)), (.int (0 : Int32)), (.int (0 : Int32)), (.int (0 : Int32)), (.int (0 : Int32)), (.int (0 : Int32))] : List Value) d1 kd z1 us cs 1 us.length T71.heap n0 zs71 f87 ge1 po72 po73 fr91 nv92 ge45 ne44 f82 f83 f84 f85 f86 hh0 (by rcases hh2 with ⟨rfl, rfl⟩ | ⟨rfl, _, rfl⟩ | ⟨rfl, _, _, rfl⟩ | ⟨rfl, _, _, _, rfl⟩ <;> first | rfl | decide | exact Nat.le_of_ble_eq_true rfl | (simp only [List.length_cons, List.length_nil]; first | decide | (unfold own_min; decide)) | (unfold own_min; decide) | (unfold own_max; decide)) (by rcases hh2 with ⟨rfl, rfl⟩ | ⟨rfl, _, rfl⟩ | ⟨rfl, _, _, rfl⟩ | ⟨rfl, _, _, _, rfl⟩ <;> first | rfl | decide | exact Nat.le_of_ble_eq_true rfl | (simp only [List.length_cons, List.length_nil]; first | decide | (unfold own_min; decide)) | (unfold own_min; decide) | (unfold own_max; decide)) (by rcases hh2 with ⟨rfl, rfl⟩ | ⟨rfl, _, rfl⟩ | ⟨rfl, _, _, rfl⟩ | ⟨rfl, _, _, _, rfl⟩ <;> first | rfl | decide | exact Nat.le_of_ble_eq_true rfl | (simp only [List.length_cons, List.length_nil]; first | decide | (unfold own_min; decide)) | (unfold own_min; decide) | (unfold own_max; decide)) (by rcases hh2 with ⟨rfl, rfl⟩ | ⟨rfl, _, rfl⟩ | ⟨rfl, _, _, rfl⟩ | ⟨rfl, _, _, _, rfl⟩ <;> first | rfl | decide | exact Nat.le_of_ble_eq_true rfl | (simp only [List.length_cons, List.length_nil]; first | decide | (unfold own_min; decide)) | (unfold own_min; decide) | (unfold own_max; decide)) (by rcases hh2 with ⟨rfl, rfl⟩ | ⟨rfl, _, rfl⟩ | ⟨rfl, _, _, rfl⟩ | ⟨rfl, _, _, _, rfl⟩ <;> first | rfl | decide | exact Nat.le_of_ble_eq_true rfl | (simp only [List.length_cons, List.length_nil]; first | decide | (unfold own_min; decide)) | (unfold own_min; decide) | (unfold own_max; decide)) (by rcases hh2 with ⟨rfl, rfl⟩ | ⟨rfl, _, rfl⟩ | ⟨rfl, _, _, rfl⟩ | ⟨rfl, _, _, _, rfl⟩ <;> first | rfl | decide | exact Nat.le_of_ble_eq_true rfl | (simp only [List.length_cons, List.length_nil]; first | decide | (unfold own_min; decide)) | (unfold own_min; decide) | (unfold own_max; decide)) (by rcases hh2 with ⟨rfl, rfl⟩ | ⟨rfl, _, rfl⟩ | ⟨rfl, _, _, rfl⟩ | ⟨rfl, _, _, _, rfl⟩ <;> first | rfl | decide | exact Nat.le_of_ble_eq_true rfl | (simp only [List.length_cons, List.length_nil]; first | decide | (unfold own_min; decide)) | (unfold own_min; decide) | (unfold own_max; decide)) (by rcases hh2 with ⟨rfl, rfl⟩ | ⟨rfl, _, rfl⟩ | ⟨rfl, _, _, rfl⟩ | ⟨rfl, _, _, _, rfl⟩ <;> first | rfl | decide | exact Nat.le_of_ble_eq_true rfl | (simp only [List.length_cons, List.length_nil]; first | decide | (unfold own_min; decide)) | (unfold own_min; decide) | (unfold own_max; decide))) hZ50 (own_w hw 78 rfl) (own_w hw 55 rfl) (by decide) (by decide)) q94a q94c (g := (mkF m 16 #[oa r0, .unset] [(.ref iri), (.ref b1)])) rfl (by rw [hml]; rfl) (Steps.refl _) (argsL := [(.ref iri)]) (rest := []) (lenOf own_pd29 rfl) rfl (Nat.le_of_eq rfl) (hb hby d9_16) (fun _ _ => ⟨rfl, e93, (by decide : 4 + 0 ≤ _), (by decide : 28 + 0 ≤ _)⟩)
  dsimp only [Pt.U, Pt.locs, Pt.cells, Pt.slots] at X94 l94 y94 z94 st94 hQ94
  subst l94 y94 z94
  obtain ⟨rfl, N94q, K94, po95, po96, po97, po98⟩ := hQ94
  have f99 := (f76.keep K94)
  have f100 := (f77.keep K94 (ninS ne2 (ninS ne40 nin0)))
  have f101 := (f78.keep K94 (ninS ne2 (ninS ne40 nin0)))
  have f102 := (f79.keep K94 (ninS ne2 (ninS ne40 nin0)))
  have f103 := (f80.keep K94)
  have f104 := (f81.keep K94 (ninS ne3 (ninS ne41 nin0)))
  have f105 := (f82.keep K94)
  have f106 := (f83.keep K94 (ninS ne4 (ninS ne42 nin0)))
  have f107 := (f84.keep K94 (ninS ne4 (ninS ne42 nin0)))
  have f108 := (f85.keep K94 (ninS ne5 (ninS ne43 nin0)))
  have f109 := (own_sta_keep f86 K94 (nsS f87.nostat (nsS (own_arv_ns nv92) ns0)))
  have f110 := (f87.keep K94)
  have zs94 : n0 ≤ T94.heap.size := Nat.le_trans zs71 K94.1
  have hk111 := Nat.le_trans hk88 (K94.1)
  have kk94 : Keep h0 T94.heap [] := kk71.trans K94 (allS (Or.inr sz1) (allS (Or.inr sz46) all0))
  have R94 := R71.trans (CHr.keep K94 (sfS (Safe.exa (EL := consts_1) (hZ50).alike f87 (by decide) (by decide)) (sfS sf90 sf0)) R71.1)
  have sf112 := Safe.keep K94 (sfS (Safe.exa (EL := consts_1) (hZ50).alike f87 (by decide) (by decide)) (sfS sf90 sf0)) R71.1 sf89
  have sf113 := Safe.keep K94 (sfS (Safe.exa (EL := consts_1) (hZ50).alike f87 (by decide) (by decide)) (sfS sf90 sf0)) R71.1 sf90
  have N94 := Fr.app N71 N94q
  obtain ⟨Lv94, X94, N94⟩ := own_hide X94 (Nat.le_refl 4) (Nat.le_refl 28) N94
  refine own_h T94 (mkF m 19 #[oa r0, .unset] [(.ref b1)]) (fun _ k => st94.trans k) ?_
  have fr114 : Fld Z T94.heap b1 "java/lang/AbstractStringBuilder" "count" "I" (.int (z1 + (1 : Int32))) := (show (((1 : Int32) + (z1 >>> ((0 : Int32) &&& 31))) : Int32) = (z1 + (1 : Int32)) from (by rcases hh2 with ⟨rfl, rfl⟩ | ⟨rfl, _, rfl⟩ | ⟨rfl, _, _, rfl⟩ | ⟨rfl, _, _, _, rfl⟩ <;> first | rfl | decide | exact Nat.le_of_ble_eq_true rfl | (simp only [List.length_cons, List.length_nil]; first | decide | (unfold own_min; decide)) | (unfold own_min; decide) | (unfold own_max; decide))) ▸ po97
  have nv115 : Arv Z T94.heap xb_22 xk_22 .byte (16 : Int32) ((.int (60 : Int32)) :: (us ++ own_zs (15 - us.length)) : List Value) (.int (0 : Int32)) := by have q := po98; rcases hh2 with ⟨rfl, rfl⟩ | ⟨rfl, _, rfl⟩ | ⟨rfl, _, _, rfl⟩ | ⟨rfl, _, _, _, rfl⟩ <;> exact q
  obtain ⟨lt116, T116, h116, k116, lb116, lk116, X116, e116, E116, hS116, hk116, hZ116, hown116, Le116, Lc116, Lv116, La116, -, -, ch116, -, hne116, st116⟩ := ldcCH X94 hx hZ50 hown50 (own_w hw 121 rfl) (own_wS hw) rfl hS50 hk111 (own_EW hw) (by simp [consts_1]) R94.1 (vs := [(.int (62 : Int32))]) (z := (1 : Int32)) ⟨by decide +kernel, by decide +kernel⟩ (by decide) (by decide) (g := (mkF m 19 #[oa r0, .unset] [(.ref b1)])) rfl (hb hby d9_19) (n := 4) (by decide +kernel) (by decide) (by decide) (by decide)
  have f117 := (f99.ext E116)
  have f118 := (f100.ext E116)
  have f119 := (f101.ext E116)
  have f120 := (f102.ext E116)
  have f121 := (f103.ext E116)
  have f122 := (f104.ext E116)
  have f123 := (f105.ext E116)
  have f124 := (f106.ext E116)
  have f125 := (f107.ext E116)
  have f126 := (f108.ext E116)
  have f127 := (f109.ext E116)
  have f128 := (f110.ext E116)
  have f129 := (po95.ext E116)
  have f130 := (po96.ext E116)
  have f131 := (fr114.ext E116)
  have f132 := (nv115.ext E116)
  have kk116 : Keep h0 h116 [] := kk94.ext E116
  have zs116 : n0 ≤ h116.size := Nat.le_trans zs94 E116.1
  have R116 := R94.trans ch116
  have sf133 := ch116.safe f110.lt sf112
  have sf134 := ch116.safe nv115.lt sf113
  have ln135 := hne116 _ (Safe.exa (EL := consts_1) (hZ116).alike f128 (by decide) (by decide))
  have ln136 := hne116 _ sf134
  refine own_h T116 (mkF m 21 #[oa r0, .unset] [(.ref lt116), (.ref b1)]) (fun _ k => st116 _ k) ?_
  obtain ⟨cq137, kq137, q137a, q137b, q137c⟩ := isOf hZ116 e116 f128
  obtain ⟨_, _, ⟨T137, L137, k137, n137⟩, -, X137, ⟨Lc137, hQ137, l137, y137, z137⟩, st137⟩ := X116.virtualBack hx (y := (⟨"java/lang/StringBuilder", "append", "(Ljava/lang/String;)Ljava/lang/StringBuilder;"⟩ : MethodName)) (z := (⟨"java/lang/StringBuilder", "append", "(Ljava/lang/String;)Ljava/lang/StringBuilder;"⟩ : MethodName)) hown116 (mvT hZ116 (own_w hw 74 rfl)) (mvT hZ116 (own_w hw 75 rfl)) (notFace_of_selects (args := #[]) (mvT hZ116 (own_w hw 77 rfl))) (mvT hZ116 (own_w hw 77 rfl)) (mvT hZ116 (own_w hw 76 rfl)) (by decide) (backOf (W := 0) (rmSbN l Z a0 hw [] b1 lt116 xb_22 (z1 + (1 : Int32)) xk_22 (16 : Int32) ((.int (60 : Int32)) :: (us ++ own_zs (15 - us.length)) : List Value) lb116 lk116 (1 : Int32) ([(.int (62 : Int32))] : List Value) cs (us.length + 1) 1 h116 n0 zs116 f128 ge1 f129 f130 f131 f132 ge45 ne44 Le116 Lc116 Lv116 La116 f127 hh0 (by rcases hh2 with ⟨rfl, rfl⟩ | ⟨rfl, _, rfl⟩ | ⟨rfl, _, _, rfl⟩ | ⟨rfl, _, _, _, rfl⟩ <;> first | rfl | decide | exact Nat.le_of_ble_eq_true rfl | (simp only [List.length_cons, List.length_nil]; first | decide | (unfold own_min; decide)) | (unfold own_min; decide) | (unfold own_max; decide)) (by rcases hh2 with ⟨rfl, rfl⟩ | ⟨rfl, _, rfl⟩ | ⟨rfl, _, _, rfl⟩ | ⟨rfl, _, _, _, rfl⟩ <;> first | rfl | decide | exact Nat.le_of_ble_eq_true rfl | (simp only [List.length_cons, List.length_nil]; first | decide | (unfold own_min; decide)) | (unfold own_min; decide) | (unfold own_max; decide)) (by rcases hh2 with ⟨rfl, rfl⟩ | ⟨rfl, _, rfl⟩ | ⟨rfl, _, _, rfl⟩ | ⟨rfl, _, _, _, rfl⟩ <;> first | rfl | decide | exact Nat.le_of_ble_eq_true rfl | (simp only [List.length_cons, List.length_nil]; first | decide | (unfold own_min; decide)) | (unfold own_min; decide) | (unfold own_max; decide)) (by rcases hh2 with ⟨rfl, rfl⟩ | ⟨rfl, _, rfl⟩ | ⟨rfl, _, _, rfl⟩ | ⟨rfl, _, _, _, rfl⟩ <;> first | rfl | decide | exact Nat.le_of_ble_eq_true rfl | (simp only [List.length_cons, List.length_nil]; first | decide | (unfold own_min; decide)) | (unfold own_min; decide) | (unfold own_max; decide)) (by rcases hh2 with ⟨rfl, rfl⟩ | ⟨rfl, _, rfl⟩ | ⟨rfl, _, _, rfl⟩ | ⟨rfl, _, _, _, rfl⟩ <;> first | rfl | decide | exact Nat.le_of_ble_eq_true rfl | (simp only [List.length_cons, List.length_nil]; first | decide | (unfold own_min; decide)) | (unfold own_min; decide) | (unfold own_max; decide)) (by rcases hh2 with ⟨rfl, rfl⟩ | ⟨rfl, _, rfl⟩ | ⟨rfl, _, _, rfl⟩ | ⟨rfl, _, _, _, rfl⟩ <;> first | rfl | decide | exact Nat.le_of_ble_eq_true rfl | (simp only [List.length_cons, List.length_nil]; first | decide | (unfold own_min; decide)) | (unfold own_min; decide) | (unfold own_max; decide)) (by rcases hh2 with ⟨rfl, rfl⟩ | ⟨rfl, _, rfl⟩ | ⟨rfl, _, _, rfl⟩ | ⟨rfl, _, _, _, rfl⟩ <;> first | rfl | decide | exact Nat.le_of_ble_eq_true rfl | (simp only [List.length_cons, List.length_nil]; first | decide | (unfold own_min; decide)) | (unfold own_min; decide) | (unfold own_max; decide)) (by rcases hh2 with ⟨rfl, rfl⟩ | ⟨rfl, _, rfl⟩ | ⟨rfl, _, _, rfl⟩ | ⟨rfl, _, _, _, rfl⟩ <;> first | rfl | decide | exact Nat.le_of_ble_eq_true rfl | (simp only [List.length_cons, List.length_nil]; first | decide | (unfold own_min; decide)) | (unfold own_min; decide) | (unfold own_max; decide))) hZ116 (own_w hw 78 rfl) (own_w hw 55 rfl) (by decide) (by decide)) q137a q137c (g := (mkF m 21 #[oa r0, .unset] [(.ref lt116), (.ref b1)])) rfl (by rw [hml]; rfl) (Steps.refl _) (argsL := [(.ref lt116)]) (rest := []) (lenOf own_pd29 rfl) rfl (Nat.le_of_eq rfl) (hb hby d9_21) (fun _ _ => ⟨rfl, e116, (by decide : 6 + 0 ≤ _), (by decide : 36 + 0 ≤ _)⟩)
  dsimp only [Pt.U, Pt.locs, Pt.cells, Pt.slots] at X137 l137 y137 z137 st137 hQ137
  subst l137 y137 z137
  obtain ⟨rfl, N137q, K137, po138, po139, po140, po141⟩ := hQ137
  have f142 := (f117.keep K137)
  have f143 := (f118.keep K137 (ninS ne2 (ninS ne40 nin0)))
  have f144 := (f119.keep K137 (ninS ne2 (ninS ne40 nin0)))
  have f145 := (f120.keep K137 (ninS ne2 (ninS ne40 nin0)))
  have f146 := (f121.keep K137)
  have f147 := (f122.keep K137 (ninS ne3 (ninS ne41 nin0)))
  have f148 := (f123.keep K137)
  have f149 := (f124.keep K137 (ninS ne4 (ninS ne42 nin0)))
  have f150 := (f125.keep K137 (ninS ne4 (ninS ne42 nin0)))
  have f151 := (f126.keep K137 (ninS ne5 (ninS ne43 nin0)))
  have f152 := (own_sta_keep f127 K137 (nsS f128.nostat (nsS (own_arv_ns f132) ns0)))
  have f153 := (f128.keep K137)
  have zs137 : n0 ≤ T137.heap.size := Nat.le_trans zs116 K137.1
  have hk154 := Nat.le_trans hk116 (K137.1)
  have kk137 : Keep h0 T137.heap [] := kk116.trans K137 (allS (Or.inr sz1) (allS (Or.inr sz46) all0))
  have R137 := R116.trans (CHr.keep K137 (sfS (Safe.exa (EL := consts_1) (hZ116).alike f128 (by decide) (by decide)) (sfS sf134 sf0)) R116.1)
  have sf155 := Safe.keep K137 (sfS (Safe.exa (EL := consts_1) (hZ116).alike f128 (by decide) (by decide)) (sfS sf134 sf0)) R116.1 sf133
  have sf156 := Safe.keep K137 (sfS (Safe.exa (EL := consts_1) (hZ116).alike f128 (by decide) (by decide)) (sfS sf134 sf0)) R116.1 sf134
  have N137 := Fr.app N94 N137q
  obtain ⟨Lv137, X137, N137⟩ := own_hide X137 (Nat.le_refl 6) (Nat.le_refl 36) N137
  refine own_h T137 (mkF m 24 #[oa r0, .unset] [(.ref b1)]) (fun _ k => st137.trans k) ?_
  have fr157 : Fld Z T137.heap b1 "java/lang/AbstractStringBuilder" "count" "I" (.int (z1 + (2 : Int32))) := (show (((z1 + (1 : Int32)) + ((1 : Int32) >>> ((0 : Int32) &&& 31))) : Int32) = (z1 + (2 : Int32)) from (by rcases hh2 with ⟨rfl, rfl⟩ | ⟨rfl, _, rfl⟩ | ⟨rfl, _, _, rfl⟩ | ⟨rfl, _, _, _, rfl⟩ <;> first | rfl | decide | exact Nat.le_of_ble_eq_true rfl | (simp only [List.length_cons, List.length_nil]; first | decide | (unfold own_min; decide)) | (unfold own_min; decide) | (unfold own_max; decide))) ▸ po140
  have nv158 : Arv Z T137.heap xb_22 xk_22 .byte (16 : Int32) ((.int (60 : Int32)) :: (us ++ [(.int (62 : Int32))] ++ own_zs (14 - us.length)) : List Value) (.int (0 : Int32)) := by have q := po141; rcases hh2 with ⟨rfl, rfl⟩ | ⟨rfl, _, rfl⟩ | ⟨rfl, _, _, rfl⟩ | ⟨rfl, _, _, _, rfl⟩ <;> exact q
  obtain ⟨cq159, kq159, q159a, q159b, q159c⟩ := isOf hZ116 rfl f153
  obtain ⟨_, _, ⟨T159, L159, k159, n159⟩, -, X159, ⟨Lc159, hQ159, l159, y159, z159⟩, st159⟩ := X137.virtualBack hx (y := (⟨"java/lang/StringBuilder", "toString", "()Ljava/lang/String;"⟩ : MethodName)) (z := (⟨"java/lang/StringBuilder", "toString", "()Ljava/lang/String;"⟩ : MethodName)) hown116 (mvT hZ116 (own_w hw 122 rfl)) (mvT hZ116 (own_w hw 123 rfl)) (notFace_of_selects (args := #[]) (mvT hZ116 (own_w hw 125 rfl))) (mvT hZ116 (own_w hw 125 rfl)) (mvT hZ116 (own_w hw 124 rfl)) (by decide) (backOf (W := 0) (rmSTS l Z a0 hw [] b1 xb_22 (z1 + (2 : Int32)) xk_22 (16 : Int32) ((.int (60 : Int32)) :: (us ++ [(.int (62 : Int32))] ++ own_zs (14 - us.length)) : List Value) (us.length + 2) cs T137.heap n0 zs137 f153 po138 po139 fr157 nv158 f152 (by rcases hh2 with ⟨rfl, rfl⟩ | ⟨rfl, _, rfl⟩ | ⟨rfl, _, _, rfl⟩ | ⟨rfl, _, _, _, rfl⟩ <;> first | rfl | decide | exact Nat.le_of_ble_eq_true rfl | (simp only [List.length_cons, List.length_nil]; first | decide | (unfold own_min; decide)) | (unfold own_min; decide) | (unfold own_max; decide)) (by rcases hh2 with ⟨rfl, rfl⟩ | ⟨rfl, _, rfl⟩ | ⟨rfl, _, _, rfl⟩ | ⟨rfl, _, _, _, rfl⟩ <;> first | rfl | decide | exact Nat.le_of_ble_eq_true rfl | (simp only [List.length_cons, List.length_nil]; first | decide | (unfold own_min; decide)) | (unfold own_min; decide) | (unfold own_max; decide)) (by rcases hh2 with ⟨rfl, rfl⟩ | ⟨rfl, _, rfl⟩ | ⟨rfl, _, _, rfl⟩ | ⟨rfl, _, _, _, rfl⟩ <;> first | rfl | decide | exact Nat.le_of_ble_eq_true rfl | (simp only [List.length_cons, List.length_nil]; first | decide | (unfold own_min; decide)) | (unfold own_min; decide) | (unfold own_max; decide)) (by rcases hh2 with ⟨rfl, rfl⟩ | ⟨rfl, _, rfl⟩ | ⟨rfl, _, _, rfl⟩ | ⟨rfl, _, _, _, rfl⟩ <;> first | rfl | decide | exact Nat.le_of_ble_eq_true rfl | (simp only [List.length_cons, List.length_nil]; first | decide | (unfold own_min; decide)) | (unfold own_min; decide) | (unfold own_max; decide)) (by rcases hh2 with ⟨rfl, rfl⟩ | ⟨rfl, _, rfl⟩ | ⟨rfl, _, _, rfl⟩ | ⟨rfl, _, _, _, rfl⟩ <;> first | rfl | decide | exact Nat.le_of_ble_eq_true rfl | (simp only [List.length_cons, List.length_nil]; first | decide | (unfold own_min; decide)) | (unfold own_min; decide) | (unfold own_max; decide)) (by rcases hh2 with ⟨rfl, rfl⟩ | ⟨rfl, _, rfl⟩ | ⟨rfl, _, _, rfl⟩ | ⟨rfl, _, _, _, rfl⟩ <;> first | rfl | decide | exact Nat.le_of_ble_eq_true rfl | (simp only [List.length_cons, List.length_nil]; first | decide | (unfold own_min; decide)) | (unfold own_min; decide) | (unfold own_max; decide)) (by rcases hh2 with ⟨rfl, rfl⟩ | ⟨rfl, _, rfl⟩ | ⟨rfl, _, _, rfl⟩ | ⟨rfl, _, _, _, rfl⟩ <;> first | rfl | decide | exact Nat.le_of_ble_eq_true rfl | (simp only [List.length_cons, List.length_nil]; first | decide | (unfold own_min; decide)) | (unfold own_min; decide) | (unfold own_max; decide)) (by rcases hh2 with ⟨rfl, rfl⟩ | ⟨rfl, _, rfl⟩ | ⟨rfl, _, _, rfl⟩ | ⟨rfl, _, _, _, rfl⟩ <;> first | rfl | decide | exact Nat.le_of_ble_eq_true rfl | (simp only [List.length_cons, List.length_nil]; first | decide | (unfold own_min; decide)) | (unfold own_min; decide) | (unfold own_max; decide)) (by rcases hh2 with ⟨rfl, rfl⟩ | ⟨rfl, _, rfl⟩ | ⟨rfl, _, _, rfl⟩ | ⟨rfl, _, _, _, rfl⟩ <;> first | rfl | decide | exact Nat.le_of_ble_eq_true rfl | (simp only [List.length_cons, List.length_nil]; first | decide | (unfold own_min; decide)) | (unfold own_min; decide) | (unfold own_max; decide)) hh0) hZ116 (own_w hw 126 rfl) (own_w hw 55 rfl) (by decide) (by decide)) q159a q159c (g := (mkF m 24 #[oa r0, .unset] [(.ref b1)])) rfl (by rw [hml]; rfl) (Steps.refl _) (argsL := []) (rest := []) (lenOf own_pd30 rfl) rfl (Nat.le_of_eq rfl) (hb hby d9_24) (fun _ _ => ⟨rfl, rfl, (by decide : 6 + 2 ≤ _), (by decide : 36 + 44 ≤ _)⟩)
  dsimp only [Pt.U, Pt.locs, Pt.cells, Pt.slots] at X159 l159 y159 z159 st159 hQ159
  subst l159 y159 z159
  obtain ⟨xs_159, xb_159, xk_159, rfl, N159q, K159, po160, po161, po162, po163, po164, po165, po166⟩ := hQ159
  have f167 := (f142.keep K159)
  have f168 := (f143.keep K159 nin0)
  have f169 := (f144.keep K159 nin0)
  have f170 := (f145.keep K159 nin0)
  have f171 := (f146.keep K159)
  have f172 := (f147.keep K159 nin0)
  have f173 := (f148.keep K159)
  have f174 := (f149.keep K159 nin0)
  have f175 := (f150.keep K159 nin0)
  have f176 := (f151.keep K159 nin0)
  have f177 := (own_sta_keep f152 K159 ns0)
  have ne178 : r0 ≠ xs_159 := Nat.ne_of_lt (Nat.lt_of_lt_of_le f142.lt po160)
  have ne179 : inv ≠ xs_159 := Nat.ne_of_lt (Nat.lt_of_lt_of_le f146.lt po160)
  have ne180 : iri ≠ xs_159 := Nat.ne_of_lt (Nat.lt_of_lt_of_le f148.lt po160)
  have ne181 : d1 ≠ xs_159 := Nat.ne_of_lt (Nat.lt_of_lt_of_le f151.lt po160)
  have ne182 : b1 ≠ xs_159 := Nat.ne_of_lt (Nat.lt_of_lt_of_le f153.lt po160)
  have ne183 : xb_22 ≠ xs_159 := Nat.ne_of_lt (Nat.lt_of_lt_of_le nv158.lt po160)
  have ge184 : n0 ≤ xs_159 := Nat.le_trans zs137 po160
  have sz185 : h0.size ≤ xs_159 := Nat.le_trans kk137.1 po160
  have ne186 : r0 ≠ xb_159 := Nat.ne_of_lt (Nat.lt_of_lt_of_le f142.lt po161)
  have ne187 : inv ≠ xb_159 := Nat.ne_of_lt (Nat.lt_of_lt_of_le f146.lt po161)
  have ne188 : iri ≠ xb_159 := Nat.ne_of_lt (Nat.lt_of_lt_of_le f148.lt po161)
  have ne189 : d1 ≠ xb_159 := Nat.ne_of_lt (Nat.lt_of_lt_of_le f151.lt po161)
  have ne190 : b1 ≠ xb_159 := Nat.ne_of_lt (Nat.lt_of_lt_of_le f153.lt po161)
  have ne191 : xb_22 ≠ xb_159 := Nat.ne_of_lt (Nat.lt_of_lt_of_le nv158.lt po161)
  have ge192 : n0 ≤ xb_159 := Nat.le_trans zs137 po161
  have sz193 : h0.size ≤ xb_159 := Nat.le_trans kk137.1 po161
  have zs159 : n0 ≤ T159.heap.size := Nat.le_trans zs137 K159.1
  have hk194 := Nat.le_trans hk154 (K159.1)
  have kk159 : Keep h0 T159.heap [] := kk137.trans K159 all0
  have R159 := R137.trans (CHr.keep K159 sf0 R137.1)
  have sf195 := Safe.keep K159 sf0 R137.1 (Safe.new po160)
  have sf196 := Safe.keep K159 sf0 R137.1 (Safe.new po161)
  have N159 := Fr.app N137 N159q
  obtain ⟨Lv159, X159, N159⟩ := own_hide X159 (Nat.le_refl 8) (Nat.le_refl 80) N159
  refine own_h T159 (mkF m 27 #[oa r0, .unset] [(.ref xs_159)]) (fun _ k => st159.trans k) ?_
  have nv197 : Arv Z T159.heap xb_159 xk_159 .byte (z1 + (2 : Int32)) ((.int (60 : Int32)) :: (us ++ [(.int (62 : Int32))]) : List Value) (.int (0 : Int32)) := by have q := po166; rcases hh2 with ⟨rfl, rfl⟩ | ⟨rfl, _, rfl⟩ | ⟨rfl, _, _, rfl⟩ | ⟨rfl, _, _, _, rfl⟩ <;> exact q
  refine own_h T159 (mkF m 29 #[oa r0, oa xs_159] [(.ref r0)]) (fun _ k => XS.astoreN X159.here hx rfl (hb hby d9_27) rfl rfl (l' := #[oa r0, oa xs_159]) rfl (XS.aloadN X159.here hx rfl (hb hby d9_28) rfl rfl k)) ?_
  obtain ⟨cq198, kq198, q198a, q198b, q198c⟩ := isOf hZ116 rfl f167
  obtain ⟨_, _, ⟨T198, L198, k198, n198⟩, -, X198, ⟨Lc198, hQ198, l198, y198, z198⟩, st198⟩ := X159.virtualBack hx (y := (⟨"com/example/cardinal_tableau/cardinaltableau/model/Role", "isInverse", "()Z"⟩ : MethodName)) (z := (⟨"com/example/cardinal_tableau/cardinaltableau/model/Role", "isInverse", "()Z"⟩ : MethodName)) hown116 (mvT hZ116 (own_w hw 167 rfl)) (mvT hZ116 (own_w hw 168 rfl)) (notFace_of_selects (args := #[]) (mvT hZ116 (own_w hw 170 rfl))) (mvT hZ116 (own_w hw 170 rfl)) (mvT hZ116 (own_w hw 169 rfl)) (by decide) (backOf (W := 0) (rmIs l Z a0 hw [] r0 inv idv idw T159.heap n0 zs159 f169 f170 f172) hZ116 (own_w hw 171 rfl) (own_w hw 32 rfl) (by decide) (by decide)) q198a q198c (g := (mkF m 29 #[oa r0, oa xs_159] [(.ref r0)])) rfl (by rw [hml]; rfl) (Steps.refl _) (argsL := []) (rest := []) (lenOf own_pd3 rfl) rfl (Nat.le_of_eq rfl) (hb hby d9_29) (fun _ _ => ⟨rfl, rfl, (by decide : 8 + 0 ≤ _), (by decide : 80 + 0 ≤ _)⟩)
  dsimp only [Pt.U, Pt.locs, Pt.cells, Pt.slots] at X198 l198 y198 z198 st198 hQ198
  subst l198 y198 z198
  obtain ⟨rfl, N198q, e198⟩ := hQ198
  have N198 := Fr.app N159 N198q
  obtain ⟨Lv198, X198, N198⟩ := own_hide X198 (Nat.le_refl 8) (Nat.le_refl 80) N198
  refine own_h T198 (mkF m 35 #[oa r0, oa xs_159] []) (fun _ k => st198.trans (XS.ifNo X198.here hx rfl (hb hby d9_32) rfl (XT.i0_eq_f hh1) k)) ?_
  obtain ⟨T199, h199, X199, e199, E199, A199, D199, -, st199⟩ := newO X198 hx hZ116 hown116 (own_w hw 53 rfl) (own_w hw 54 rfl) (own_w hw 55 rfl) e198 (g := (mkF m 35 #[oa r0, oa xs_159] [])) rfl (hb hby d9_35) (by decide) (by decide)
  obtain ⟨b199, g199⟩ : ∃ z, z = T159.heap.size := ⟨_, rfl⟩
  have ne200 : r0 ≠ b199 := Nat.ne_of_lt (Nat.lt_of_lt_of_le f167.lt (Nat.le_of_eq g199.symm))
  have ne201 : inv ≠ b199 := Nat.ne_of_lt (Nat.lt_of_lt_of_le f171.lt (Nat.le_of_eq g199.symm))
  have ne202 : iri ≠ b199 := Nat.ne_of_lt (Nat.lt_of_lt_of_le f173.lt (Nat.le_of_eq g199.symm))
  have ne203 : d1 ≠ b199 := Nat.ne_of_lt (Nat.lt_of_lt_of_le f176.lt (Nat.le_of_eq g199.symm))
  have ne204 : xs_159 ≠ b199 := Nat.ne_of_lt (Nat.lt_of_lt_of_le po163.lt (Nat.le_of_eq g199.symm))
  have ne205 : xb_159 ≠ b199 := Nat.ne_of_lt (Nat.lt_of_lt_of_le nv197.lt (Nat.le_of_eq g199.symm))
  rw [← g199] at A199 D199 st199
  have f206 := (f167.ext E199)
  have f207 := (f168.ext E199)
  have f208 := (f169.ext E199)
  have f209 := (f170.ext E199)
  have f210 := (f171.ext E199)
  have f211 := (f172.ext E199)
  have f212 := (f173.ext E199)
  have f213 := (f174.ext E199)
  have f214 := (f175.ext E199)
  have f215 := (f176.ext E199)
  have f216 := (f177.ext E199)
  have f217 := (po163.ext E199)
  have f218 := (po164.ext E199)
  have f219 := (po165.ext E199)
  have f220 := (nv197.ext E199)
  have fn221 : Fld Z h199 b199 "java/lang/AbstractStringBuilder" "value" "[B" .null := D199 (Or.inl (own_w hw 68 rfl)) (ty := (.array .byte)) (by decide)
  have fn222 : Fld Z h199 b199 "java/lang/AbstractStringBuilder" "coder" "B" (.int (0 : Int32)) := D199 (Or.inl (own_w hw 70 rfl)) (ty := .byte) (by decide)
  have fn223 : Fld Z h199 b199 "java/lang/AbstractStringBuilder" "count" "I" (.int (0 : Int32)) := D199 (Or.inl (own_w hw 95 rfl)) (ty := .int) (by decide)
  have ge199 : n0 ≤ b199 := Nat.le_trans zs159 (Nat.le_of_eq g199.symm)
  have sz199 : h0.size ≤ b199 := Nat.le_trans kk159.1 (Nat.le_of_eq g199.symm)
  have kk199 : Keep h0 h199 [] := kk159.ext E199
  have zs199 : n0 ≤ h199.size := Nat.le_trans zs159 E199.1
  have hk224 := Nat.le_trans hk194 (E199.1)
  have R199 := R159.trans (CHr.ext E199 R159.1)
  have sf225 := Safe.ext E199 R159.1 sf195
  have sf226 := Safe.ext E199 R159.1 sf196
  have sf227 := Safe.ext E199 R159.1 (Safe.new (Nat.le_of_eq g199.symm))
  refine own_h T199 (mkF m 39 #[oa r0, oa xs_159] [(.ref b199), (.ref b199)]) (fun _ k => st199 _ (XS.dup X199.here hx rfl (hb hby d9_38) rfl rfl k)) ?_
  obtain ⟨_, _, ⟨T228, L228, k228, n228⟩, -, X228, ⟨Lc228, hQ228, l228, y228, z228⟩, st228⟩ := X199.specialBack hx (y := (⟨"java/lang/StringBuilder", "<init>", "()V"⟩ : MethodName)) rfl hown116 (mvT hZ116 (own_w hw 56 rfl)) (mvT hZ116 (own_w hw 57 rfl)) (mvT hZ116 (own_w hw 58 rfl)) (by decide) (backOf (W := 1) (rmSI l Z a0 hw [] b199 cs h199 n0 zs199 A199 ge199 fn221 fn222 fn223 f216 hh0) hZ116 (own_w hw 58 rfl) (own_w hw 55 rfl) (by decide) (by decide)) (g := (mkF m 39 #[oa r0, oa xs_159] [(.ref b199), (.ref b199)])) rfl (by rw [hml]; rfl) (Steps.refl _) (a := b199) (argsL := []) (rest := [(.ref b199)]) (lenOf own_pd28 rfl) rfl (Nat.le_of_eq rfl) (hb hby d9_39) (fun _ _ => ⟨rfl, e199, (by decide : 9 + 1 ≤ _), (by decide : 84 + 16 ≤ _)⟩)
  dsimp only [Pt.U, Pt.locs, Pt.cells, Pt.slots] at X228 l228 y228 z228 st228 hQ228
  subst l228 y228 z228
  obtain ⟨xb_228, xk_228, rfl, N228q, K228, po229, po230, po231, po232, po233⟩ := hQ228
  have f234 := (f206.keep K228)
  have f235 := (f207.keep K228 (ninS ne200 nin0))
  have f236 := (f208.keep K228 (ninS ne200 nin0))
  have f237 := (f209.keep K228 (ninS ne200 nin0))
  have f238 := (f210.keep K228)
  have f239 := (f211.keep K228 (ninS ne201 nin0))
  have f240 := (f212.keep K228)
  have f241 := (f213.keep K228 (ninS ne202 nin0))
  have f242 := (f214.keep K228 (ninS ne202 nin0))
  have f243 := (f215.keep K228 (ninS ne203 nin0))
  have f244 := (own_sta_keep f216 K228 (nsS A199.nostat ns0))
  have f245 := (f217.keep K228)
  have f246 := (f218.keep K228 (ninS ne204 nin0))
  have f247 := (f219.keep K228 (ninS ne204 nin0))
  have f248 := (f220.keep K228 (ninS ne205 nin0))
  have f249 := (A199.keep K228)
  have ne250 : r0 ≠ xb_228 := Nat.ne_of_lt (Nat.lt_of_lt_of_le f206.lt po229)
  have ne251 : inv ≠ xb_228 := Nat.ne_of_lt (Nat.lt_of_lt_of_le f210.lt po229)
  have ne252 : iri ≠ xb_228 := Nat.ne_of_lt (Nat.lt_of_lt_of_le f212.lt po229)
  have ne253 : d1 ≠ xb_228 := Nat.ne_of_lt (Nat.lt_of_lt_of_le f215.lt po229)
  have ne254 : xs_159 ≠ xb_228 := Nat.ne_of_lt (Nat.lt_of_lt_of_le f217.lt po229)
  have ne255 : xb_159 ≠ xb_228 := Nat.ne_of_lt (Nat.lt_of_lt_of_le f220.lt po229)
  have ne256 : b199 ≠ xb_228 := Nat.ne_of_lt (Nat.lt_of_lt_of_le A199.lt po229)
  have ge257 : n0 ≤ xb_228 := Nat.le_trans zs199 po229
  have sz258 : h0.size ≤ xb_228 := Nat.le_trans kk199.1 po229
  have zs228 : n0 ≤ T228.heap.size := Nat.le_trans zs199 K228.1
  have hk259 := Nat.le_trans hk224 (K228.1)
  have kk228 : Keep h0 T228.heap [] := kk199.trans K228 (allS (Or.inr sz199) all0)
  have R228 := R199.trans (CHr.keep K228 (sfS (Safe.exa (EL := consts_1) (hZ116).alike A199 (by decide) (by decide)) sf0) R199.1)
  have sf260 := Safe.keep K228 (sfS (Safe.exa (EL := consts_1) (hZ116).alike A199 (by decide) (by decide)) sf0) R199.1 sf225
  have sf261 := Safe.keep K228 (sfS (Safe.exa (EL := consts_1) (hZ116).alike A199 (by decide) (by decide)) sf0) R199.1 sf226
  have sf262 := Safe.keep K228 (sfS (Safe.exa (EL := consts_1) (hZ116).alike A199 (by decide) (by decide)) sf0) R199.1 sf227
  have sf263 := Safe.keep K228 (sfS (Safe.exa (EL := consts_1) (hZ116).alike A199 (by decide) (by decide)) sf0) R199.1 (Safe.new po229)
  have N228 := Fr.app N198 N228q
  obtain ⟨Lv228, X228, N228⟩ := own_hide X228 (Nat.le_refl 10) (Nat.le_refl 100) N228
  refine own_h T228 (mkF m 42 #[oa r0, oa xs_159] [(.ref b199)]) (fun _ k => st228.trans k) ?_
  obtain ⟨lt264, T264, h264, k264, lb264, lk264, X264, e264, E264, hS264, hk264, hZ264, hown264, Le264, Lc264, Lv264, La264, -, -, ch264, -, hne264, st264⟩ := ldcCH X228 hx hZ116 hown116 (own_w hw 172 rfl) (own_wS hw) rfl hS116 hk259 (own_EW hw) (by simp [consts_1]) R228.1 (vs := [(.int (79 : Int32)), (.int (98 : Int32)), (.int (106 : Int32)), (.int (101 : Int32)), (.int (99 : Int32)), (.int (116 : Int32)), (.int (73 : Int32)), (.int (110 : Int32)), (.int (118 : Int32)), (.int (101 : Int32)), (.int (114 : Int32)), (.int (115 : Int32)), (.int (101 : Int32)), (.int (79 : Int32)), (.int (102 : Int32)), (.int (40 : Int32))]) (z := (16 : Int32)) ⟨by decide +kernel, by decide +kernel⟩ (by decide) (by decide) (g := (mkF m 42 #[oa r0, oa xs_159] [(.ref b199)])) rfl (hb hby d9_42) (n := 64) (by decide +kernel) (by decide) (by decide) (by decide)
  have f265 := (f234.ext E264)
  have f266 := (f235.ext E264)
  have f267 := (f236.ext E264)
  have f268 := (f237.ext E264)
  have f269 := (f238.ext E264)
  have f270 := (f239.ext E264)
  have f271 := (f240.ext E264)
  have f272 := (f241.ext E264)
  have f273 := (f242.ext E264)
  have f274 := (f243.ext E264)
  have f275 := (f244.ext E264)
  have f276 := (f245.ext E264)
  have f277 := (f246.ext E264)
  have f278 := (f247.ext E264)
  have f279 := (f248.ext E264)
  have f280 := (f249.ext E264)
  have f281 := (po230.ext E264)
  have f282 := (po231.ext E264)
  have f283 := (po232.ext E264)
  have f284 := (po233.ext E264)
  have kk264 : Keep h0 h264 [] := kk228.ext E264
  have zs264 : n0 ≤ h264.size := Nat.le_trans zs228 E264.1
  have R264 := R228.trans ch264
  have sf285 := ch264.safe f245.lt sf260
  have sf286 := ch264.safe f248.lt sf261
  have sf287 := ch264.safe f249.lt sf262
  have sf288 := ch264.safe po233.lt sf263
  have ln289 := hne264 _ (Safe.exa (EL := consts_1) (hZ264).alike f280 (by decide) (by decide))
  have ln290 := hne264 _ sf286
  have ln291 := hne264 _ sf288
  have ln292 := hne264 _ sf285
  refine own_h T264 (mkF m 44 #[oa r0, oa xs_159] [(.ref lt264), (.ref b199)]) (fun _ k => st264 _ k) ?_
  obtain ⟨cq293, kq293, q293a, q293b, q293c⟩ := isOf hZ264 e264 f280
  obtain ⟨_, _, ⟨T293, L293, k293, n293⟩, -, X293, ⟨Lc293, hQ293, l293, y293, z293⟩, st293⟩ := X264.virtualBack hx (y := (⟨"java/lang/StringBuilder", "append", "(Ljava/lang/String;)Ljava/lang/StringBuilder;"⟩ : MethodName)) (z := (⟨"java/lang/StringBuilder", "append", "(Ljava/lang/String;)Ljava/lang/StringBuilder;"⟩ : MethodName)) hown264 (mvT hZ264 (own_w hw 74 rfl)) (mvT hZ264 (own_w hw 75 rfl)) (notFace_of_selects (args := #[]) (mvT hZ264 (own_w hw 77 rfl))) (mvT hZ264 (own_w hw 77 rfl)) (mvT hZ264 (own_w hw 76 rfl)) (by decide) (backOf (W := 0) (rmSbN l Z a0 hw [] b199 lt264 xb_228 (0 : Int32) xk_228 (16 : Int32) ([(.int (0 : Int32)), (.int (0 : Int32)), (.int (0 : Int32)), (.int (0 : Int32)), (.int (0 : Int32)), (.int (0 : Int32)), (.int (0 : Int32)), (.int (0 : Int32)), (.int (0 : Int32)), (.int (0 : Int32)), (.int (0 : Int32)), (.int (0 : Int32)), (.int (0 : Int32)), (.int (0 : Int32)), (.int (0 : Int32)), (.int (0 : Int32))] : List Value) lb264 lk264 (16 : Int32) ([(.int (79 : Int32)), (.int (98 : Int32)), (.int (106 : Int32)), (.int (101 : Int32)), (.int (99 : Int32)), (.int (116 : Int32)), (.int (73 : Int32)), (.int (110 : Int32)), (.int (118 : Int32)), (.int (101 : Int32)), (.int (114 : Int32)), (.int (115 : Int32)), (.int (101 : Int32)), (.int (79 : Int32)), (.int (102 : Int32)), (.int (40 : Int32))] : List Value) cs 0 16 h264 n0 zs264 f280 ge199 f281 f282 f283 f284 ge257 ne256 Le264 Lc264 Lv264 La264 f275 hh0 (by rcases hh2 with ⟨rfl, rfl⟩ | ⟨rfl, _, rfl⟩ | ⟨rfl, _, _, rfl⟩ | ⟨rfl, _, _, _, rfl⟩ <;> first | rfl | decide | exact Nat.le_of_ble_eq_true rfl | (simp only [List.length_cons, List.length_nil]; first | decide | (unfold own_min; decide)) | (unfold own_min; decide) | (unfold own_max; decide)) (by rcases hh2 with ⟨rfl, rfl⟩ | ⟨rfl, _, rfl⟩ | ⟨rfl, _, _, rfl⟩ | ⟨rfl, _, _, _, rfl⟩ <;> first | rfl | decide | exact Nat.le_of_ble_eq_true rfl | (simp only [List.length_cons, List.length_nil]; first | decide | (unfold own_min; decide)) | (unfold own_min; decide) | (unfold own_max; decide)) (by rcases hh2 with ⟨rfl, rfl⟩ | ⟨rfl, _, rfl⟩ | ⟨rfl, _, _, rfl⟩ | ⟨rfl, _, _, _, rfl⟩ <;> first | rfl | decide | exact Nat.le_of_ble_eq_true rfl | (simp only [List.length_cons, List.length_nil]; first | decide | (unfold own_min; decide)) | (unfold own_min; decide) | (unfold own_max; decide)) (by rcases hh2 with ⟨rfl, rfl⟩ | ⟨rfl, _, rfl⟩ | ⟨rfl, _, _, rfl⟩ | ⟨rfl, _, _, _, rfl⟩ <;> first | rfl | decide | exact Nat.le_of_ble_eq_true rfl | (simp only [List.length_cons, List.length_nil]; first | decide | (unfold own_min; decide)) | (unfold own_min; decide) | (unfold own_max; decide)) (by rcases hh2 with ⟨rfl, rfl⟩ | ⟨rfl, _, rfl⟩ | ⟨rfl, _, _, rfl⟩ | ⟨rfl, _, _, _, rfl⟩ <;> first | rfl | decide | exact Nat.le_of_ble_eq_true rfl | (simp only [List.length_cons, List.length_nil]; first | decide | (unfold own_min; decide)) | (unfold own_min; decide) | (unfold own_max; decide)) (by rcases hh2 with ⟨rfl, rfl⟩ | ⟨rfl, _, rfl⟩ | ⟨rfl, _, _, rfl⟩ | ⟨rfl, _, _, _, rfl⟩ <;> first | rfl | decide | exact Nat.le_of_ble_eq_true rfl | (simp only [List.length_cons, List.length_nil]; first | decide | (unfold own_min; decide)) | (unfold own_min; decide) | (unfold own_max; decide)) (by rcases hh2 with ⟨rfl, rfl⟩ | ⟨rfl, _, rfl⟩ | ⟨rfl, _, _, rfl⟩ | ⟨rfl, _, _, _, rfl⟩ <;> first | rfl | decide | exact Nat.le_of_ble_eq_true rfl | (simp only [List.length_cons, List.length_nil]; first | decide | (unfold own_min; decide)) | (unfold own_min; decide) | (unfold own_max; decide)) (by rcases hh2 with ⟨rfl, rfl⟩ | ⟨rfl, _, rfl⟩ | ⟨rfl, _, _, rfl⟩ | ⟨rfl, _, _, _, rfl⟩ <;> first | rfl | decide | exact Nat.le_of_ble_eq_true rfl | (simp only [List.length_cons, List.length_nil]; first | decide | (unfold own_min; decide)) | (unfold own_min; decide) | (unfold own_max; decide))) hZ264 (own_w hw 78 rfl) (own_w hw 55 rfl) (by decide) (by decide)) q293a q293c (g := (mkF m 44 #[oa r0, oa xs_159] [(.ref lt264), (.ref b199)])) rfl (by rw [hml]; rfl) (Steps.refl _) (argsL := [(.ref lt264)]) (rest := []) (lenOf own_pd29 rfl) rfl (Nat.le_of_eq rfl) (hb hby d9_44) (fun _ _ => ⟨rfl, e264, (by decide : 12 + 0 ≤ _), (by decide : 168 + 0 ≤ _)⟩)
  dsimp only [Pt.U, Pt.locs, Pt.cells, Pt.slots] at X293 l293 y293 z293 st293 hQ293
  subst l293 y293 z293
  obtain ⟨rfl, N293q, K293, po294, po295, po296, po297⟩ := hQ293
  have f298 := (f265.keep K293)
  have f299 := (f266.keep K293 (ninS ne200 (ninS ne250 nin0)))
  have f300 := (f267.keep K293 (ninS ne200 (ninS ne250 nin0)))
  have f301 := (f268.keep K293 (ninS ne200 (ninS ne250 nin0)))
  have f302 := (f269.keep K293)
  have f303 := (f270.keep K293 (ninS ne201 (ninS ne251 nin0)))
  have f304 := (f271.keep K293)
  have f305 := (f272.keep K293 (ninS ne202 (ninS ne252 nin0)))
  have f306 := (f273.keep K293 (ninS ne202 (ninS ne252 nin0)))
  have f307 := (f274.keep K293 (ninS ne203 (ninS ne253 nin0)))
  have f308 := (own_sta_keep f275 K293 (nsS f280.nostat (nsS (own_arv_ns f284) ns0)))
  have f309 := (f276.keep K293)
  have f310 := (f277.keep K293 (ninS ne204 (ninS ne254 nin0)))
  have f311 := (f278.keep K293 (ninS ne204 (ninS ne254 nin0)))
  have f312 := (f279.keep K293 (ninS ne205 (ninS ne255 nin0)))
  have f313 := (f280.keep K293)
  have zs293 : n0 ≤ T293.heap.size := Nat.le_trans zs264 K293.1
  have hk314 := Nat.le_trans hk264 (K293.1)
  have kk293 : Keep h0 T293.heap [] := kk264.trans K293 (allS (Or.inr sz199) (allS (Or.inr sz258) all0))
  have R293 := R264.trans (CHr.keep K293 (sfS (Safe.exa (EL := consts_1) (hZ264).alike f280 (by decide) (by decide)) (sfS sf288 sf0)) R264.1)
  have sf315 := Safe.keep K293 (sfS (Safe.exa (EL := consts_1) (hZ264).alike f280 (by decide) (by decide)) (sfS sf288 sf0)) R264.1 sf285
  have sf316 := Safe.keep K293 (sfS (Safe.exa (EL := consts_1) (hZ264).alike f280 (by decide) (by decide)) (sfS sf288 sf0)) R264.1 sf286
  have sf317 := Safe.keep K293 (sfS (Safe.exa (EL := consts_1) (hZ264).alike f280 (by decide) (by decide)) (sfS sf288 sf0)) R264.1 sf287
  have sf318 := Safe.keep K293 (sfS (Safe.exa (EL := consts_1) (hZ264).alike f280 (by decide) (by decide)) (sfS sf288 sf0)) R264.1 sf288
  have N293 := Fr.app N228 N293q
  obtain ⟨Lv293, X293, N293⟩ := own_hide X293 (Nat.le_refl 12) (Nat.le_refl 168) N293
  refine own_h T293 (mkF m 47 #[oa r0, oa xs_159] [(.ref b199)]) (fun _ k => st293.trans k) ?_
  have fr319 : Fld Z T293.heap b199 "java/lang/AbstractStringBuilder" "count" "I" (.int (16 : Int32)) := (show (((0 : Int32) + ((16 : Int32) >>> ((0 : Int32) &&& 31))) : Int32) = (16 : Int32) from (by rcases hh2 with ⟨rfl, rfl⟩ | ⟨rfl, _, rfl⟩ | ⟨rfl, _, _, rfl⟩ | ⟨rfl, _, _, _, rfl⟩ <;> first | rfl | decide | exact Nat.le_of_ble_eq_true rfl | (simp only [List.length_cons, List.length_nil]; first | decide | (unfold own_min; decide)) | (unfold own_min; decide) | (unfold own_max; decide))) ▸ po296
  have nv320 : Arv Z T293.heap xb_228 xk_228 .byte (16 : Int32) [(.int (79 : Int32)), (.int (98 : Int32)), (.int (106 : Int32)), (.int (101 : Int32)), (.int (99 : Int32)), (.int (116 : Int32)), (.int (73 : Int32)), (.int (110 : Int32)), (.int (118 : Int32)), (.int (101 : Int32)), (.int (114 : Int32)), (.int (115 : Int32)), (.int (101 : Int32)), (.int (79 : Int32)), (.int (102 : Int32)), (.int (40 : Int32))] (.int (0 : Int32)) := by have q := po297; rcases hh2 with ⟨rfl, rfl⟩ | ⟨rfl, _, rfl⟩ | ⟨rfl, _, _, rfl⟩ | ⟨rfl, _, _, _, rfl⟩ <;> exact q
  refine own_h T293 (mkF m 48 #[oa r0, oa xs_159] [(.ref xs_159), (.ref b199)]) (fun _ k => XS.aloadN X293.here hx rfl (hb hby d9_47) rfl rfl k) ?_
  obtain ⟨cq321, kq321, q321a, q321b, q321c⟩ := isOf hZ264 rfl f313
  obtain ⟨_, _, ⟨T321, L321, k321, n321⟩, -, X321, ⟨Lc321, hQ321, l321, y321, z321⟩, st321⟩ := X293.virtualBack hx (y := (⟨"java/lang/StringBuilder", "append", "(Ljava/lang/String;)Ljava/lang/StringBuilder;"⟩ : MethodName)) (z := (⟨"java/lang/StringBuilder", "append", "(Ljava/lang/String;)Ljava/lang/StringBuilder;"⟩ : MethodName)) hown264 (mvT hZ264 (own_w hw 74 rfl)) (mvT hZ264 (own_w hw 75 rfl)) (notFace_of_selects (args := #[]) (mvT hZ264 (own_w hw 77 rfl))) (mvT hZ264 (own_w hw 77 rfl)) (mvT hZ264 (own_w hw 76 rfl)) (by decide) (backOf (W := 0) (rmSbG l Z a0 hw [] b199 xs_159 xb_228 (16 : Int32) xk_228 ([(.int (79 : Int32)), (.int (98 : Int32)), (.int (106 : Int32)), (.int (101 : Int32)), (.int (99 : Int32)), (.int (116 : Int32)), (.int (73 : Int32)), (.int (110 : Int32)), (.int (118 : Int32)), (.int (101 : Int32)), (.int (114 : Int32)), (.int (115 : Int32)), (.int (101 : Int32)), (.int (79 : Int32)), (.int (102 : Int32)), (.int (40 : Int32))] : List Value) xb_159 xk_159 (z1 + (2 : Int32)) ((.int (60 : Int32)) :: (us ++ [(.int (62 : Int32))]) : List Value) cs 16 (us.length + 2) T293.heap n0 zs293 f313 ge199 po294 po295 fr319 nv320 ne204 ne205 f309 f311 f310 f312 f308 hh0 (by rcases hh2 with ⟨rfl, rfl⟩ | ⟨rfl, _, rfl⟩ | ⟨rfl, _, _, rfl⟩ | ⟨rfl, _, _, _, rfl⟩ <;> first | rfl | decide | exact Nat.le_of_ble_eq_true rfl | (simp only [List.length_cons, List.length_nil]; first | decide | (unfold own_min; decide)) | (unfold own_min; decide) | (unfold own_max; decide)) (by rcases hh2 with ⟨rfl, rfl⟩ | ⟨rfl, _, rfl⟩ | ⟨rfl, _, _, rfl⟩ | ⟨rfl, _, _, _, rfl⟩ <;> first | rfl | decide | exact Nat.le_of_ble_eq_true rfl | (simp only [List.length_cons, List.length_nil]; first | decide | (unfold own_min; decide)) | (unfold own_min; decide) | (unfold own_max; decide)) (by rcases hh2 with ⟨rfl, rfl⟩ | ⟨rfl, _, rfl⟩ | ⟨rfl, _, _, rfl⟩ | ⟨rfl, _, _, _, rfl⟩ <;> first | rfl | decide | exact Nat.le_of_ble_eq_true rfl | (simp only [List.length_cons, List.length_nil]; first | decide | (unfold own_min; decide)) | (unfold own_min; decide) | (unfold own_max; decide)) (by rcases hh2 with ⟨rfl, rfl⟩ | ⟨rfl, _, rfl⟩ | ⟨rfl, _, _, rfl⟩ | ⟨rfl, _, _, _, rfl⟩ <;> first | rfl | decide | exact Nat.le_of_ble_eq_true rfl | (simp only [List.length_cons, List.length_nil]; first | decide | (unfold own_min; decide)) | (unfold own_min; decide) | (unfold own_max; decide)) (by rcases hh2 with ⟨rfl, rfl⟩ | ⟨rfl, _, rfl⟩ | ⟨rfl, _, _, rfl⟩ | ⟨rfl, _, _, _, rfl⟩ <;> first | rfl | decide | exact Nat.le_of_ble_eq_true rfl | (simp only [List.length_cons, List.length_nil]; first | decide | (unfold own_min; decide)) | (unfold own_min; decide) | (unfold own_max; decide)) (by rcases hh2 with ⟨rfl, rfl⟩ | ⟨rfl, _, rfl⟩ | ⟨rfl, _, _, rfl⟩ | ⟨rfl, _, _, _, rfl⟩ <;> first | rfl | decide | exact Nat.le_of_ble_eq_true rfl | (simp only [List.length_cons, List.length_nil]; first | decide | (unfold own_min; decide)) | (unfold own_min; decide) | (unfold own_max; decide)) (by rcases hh2 with ⟨rfl, rfl⟩ | ⟨rfl, _, rfl⟩ | ⟨rfl, _, _, rfl⟩ | ⟨rfl, _, _, _, rfl⟩ <;> first | rfl | decide | exact Nat.le_of_ble_eq_true rfl | (simp only [List.length_cons, List.length_nil]; first | decide | (unfold own_min; decide)) | (unfold own_min; decide) | (unfold own_max; decide)) (by rcases hh2 with ⟨rfl, rfl⟩ | ⟨rfl, _, rfl⟩ | ⟨rfl, _, _, rfl⟩ | ⟨rfl, _, _, _, rfl⟩ <;> first | rfl | decide | exact Nat.le_of_ble_eq_true rfl | (simp only [List.length_cons, List.length_nil]; first | decide | (unfold own_min; decide)) | (unfold own_min; decide) | (unfold own_max; decide)) (by rcases hh2 with ⟨rfl, rfl⟩ | ⟨rfl, _, rfl⟩ | ⟨rfl, _, _, rfl⟩ | ⟨rfl, _, _, _, rfl⟩ <;> first | rfl | decide | exact Nat.le_of_ble_eq_true rfl | (simp only [List.length_cons, List.length_nil]; first | decide | (unfold own_min; decide)) | (unfold own_min; decide) | (unfold own_max; decide)) (by rcases hh2 with ⟨rfl, rfl⟩ | ⟨rfl, _, rfl⟩ | ⟨rfl, _, _, rfl⟩ | ⟨rfl, _, _, _, rfl⟩ <;> first | rfl | decide | exact Nat.le_of_ble_eq_true rfl | (simp only [List.length_cons, List.length_nil]; first | decide | (unfold own_min; decide)) | (unfold own_min; decide) | (unfold own_max; decide))) hZ264 (own_w hw 78 rfl) (own_w hw 55 rfl) (by decide) (by decide)) q321a q321c (g := (mkF m 48 #[oa r0, oa xs_159] [(.ref xs_159), (.ref b199)])) rfl (by rw [hml]; rfl) (Steps.refl _) (argsL := [(.ref xs_159)]) (rest := []) (lenOf own_pd29 rfl) rfl (Nat.le_of_eq rfl) (hb hby d9_48) (fun _ _ => ⟨rfl, rfl, (by decide : 12 + 1 ≤ _), (by decide : 168 + 34 ≤ _)⟩)
  dsimp only [Pt.U, Pt.locs, Pt.cells, Pt.slots] at X321 l321 y321 z321 st321 hQ321
  subst l321 y321 z321
  obtain ⟨xb_321, xk_321, rfl, N321q, K321, po322, po323, po324, po325, po326⟩ := hQ321
  have f327 := (f298.keep K321)
  have f328 := (f299.keep K321 (ninS ne200 nin0))
  have f329 := (f300.keep K321 (ninS ne200 nin0))
  have f330 := (f301.keep K321 (ninS ne200 nin0))
  have f331 := (f302.keep K321)
  have f332 := (f303.keep K321 (ninS ne201 nin0))
  have f333 := (f304.keep K321)
  have f334 := (f305.keep K321 (ninS ne202 nin0))
  have f335 := (f306.keep K321 (ninS ne202 nin0))
  have f336 := (f307.keep K321 (ninS ne203 nin0))
  have f337 := (own_sta_keep f308 K321 (nsS f313.nostat ns0))
  have f338 := (f309.keep K321)
  have f339 := (f310.keep K321 (ninS ne204 nin0))
  have f340 := (f311.keep K321 (ninS ne204 nin0))
  have f341 := (f312.keep K321 (ninS ne205 nin0))
  have f342 := (f313.keep K321)
  have f343 := (nv320.keep K321 (ninS (Ne.symm ne256) nin0))
  have ne344 : r0 ≠ xb_321 := Nat.ne_of_lt (Nat.lt_of_lt_of_le f298.lt po322)
  have ne345 : inv ≠ xb_321 := Nat.ne_of_lt (Nat.lt_of_lt_of_le f302.lt po322)
  have ne346 : iri ≠ xb_321 := Nat.ne_of_lt (Nat.lt_of_lt_of_le f304.lt po322)
  have ne347 : d1 ≠ xb_321 := Nat.ne_of_lt (Nat.lt_of_lt_of_le f307.lt po322)
  have ne348 : xs_159 ≠ xb_321 := Nat.ne_of_lt (Nat.lt_of_lt_of_le f309.lt po322)
  have ne349 : xb_159 ≠ xb_321 := Nat.ne_of_lt (Nat.lt_of_lt_of_le f312.lt po322)
  have ne350 : b199 ≠ xb_321 := Nat.ne_of_lt (Nat.lt_of_lt_of_le f313.lt po322)
  have ne351 : xb_228 ≠ xb_321 := Nat.ne_of_lt (Nat.lt_of_lt_of_le nv320.lt po322)
  have ge352 : n0 ≤ xb_321 := Nat.le_trans zs293 po322
  have sz353 : h0.size ≤ xb_321 := Nat.le_trans kk293.1 po322
  have zs321 : n0 ≤ T321.heap.size := Nat.le_trans zs293 K321.1
  have hk354 := Nat.le_trans hk314 (K321.1)
  have kk321 : Keep h0 T321.heap [] := kk293.trans K321 (allS (Or.inr sz199) all0)
  have R321 := R293.trans (CHr.keep K321 (sfS (Safe.exa (EL := consts_1) (hZ264).alike f313 (by decide) (by decide)) sf0) R293.1)
  have sf355 := Safe.keep K321 (sfS (Safe.exa (EL := consts_1) (hZ264).alike f313 (by decide) (by decide)) sf0) R293.1 sf315
  have sf356 := Safe.keep K321 (sfS (Safe.exa (EL := consts_1) (hZ264).alike f313 (by decide) (by decide)) sf0) R293.1 sf316
  have sf357 := Safe.keep K321 (sfS (Safe.exa (EL := consts_1) (hZ264).alike f313 (by decide) (by decide)) sf0) R293.1 sf317
  have sf358 := Safe.keep K321 (sfS (Safe.exa (EL := consts_1) (hZ264).alike f313 (by decide) (by decide)) sf0) R293.1 sf318
  have sf359 := Safe.keep K321 (sfS (Safe.exa (EL := consts_1) (hZ264).alike f313 (by decide) (by decide)) sf0) R293.1 (Safe.new po322)
  have N321 := Fr.app N293 N321q
  obtain ⟨Lv321, X321, N321⟩ := own_hide X321 (Nat.le_refl 13) (Nat.le_refl 202) N321
  refine own_h T321 (mkF m 51 #[oa r0, oa xs_159] [(.ref b199)]) (fun _ k => st321.trans k) ?_
  have fr360 : Fld Z T321.heap b199 "java/lang/AbstractStringBuilder" "count" "I" (.int (z1 + (18 : Int32))) := (show (((16 : Int32) + ((z1 + (2 : Int32)) >>> ((0 : Int32) &&& 31))) : Int32) = (z1 + (18 : Int32)) from (by rcases hh2 with ⟨rfl, rfl⟩ | ⟨rfl, _, rfl⟩ | ⟨rfl, _, _, rfl⟩ | ⟨rfl, _, _, _, rfl⟩ <;> first | rfl | decide | exact Nat.le_of_ble_eq_true rfl | (simp only [List.length_cons, List.length_nil]; first | decide | (unfold own_min; decide)) | (unfold own_min; decide) | (unfold own_max; decide))) ▸ po325
  have nv361 : Arv Z T321.heap xb_321 xk_321 .byte (34 : Int32) (own_obj ++ ((.int (60 : Int32)) :: (us ++ [(.int (62 : Int32))])) ++ own_zs (16 - us.length) : List Value) (.int (0 : Int32)) := by have q := po326; rcases hh2 with ⟨rfl, rfl⟩ | ⟨rfl, _, rfl⟩ | ⟨rfl, _, _, rfl⟩ | ⟨rfl, _, _, _, rfl⟩ <;> exact q
  obtain ⟨lt362, T362, h362, k362, lb362, lk362, X362, e362, E362, hS362, hk362, hZ362, hown362, Le362, Lc362, Lv362, La362, -, -, ch362, -, hne362, st362⟩ := ldcCH X321 hx hZ264 hown264 (own_w hw 190 rfl) (own_wS hw) rfl hS264 hk354 (own_EW hw) (by simp [consts_1]) R321.1 (vs := [(.int (41 : Int32))]) (z := (1 : Int32)) ⟨by decide +kernel, by decide +kernel⟩ (by decide) (by decide) (g := (mkF m 51 #[oa r0, oa xs_159] [(.ref b199)])) rfl (hb hby d9_51) (n := 4) (by decide +kernel) (by decide) (by decide) (by decide)
  have f363 := (f327.ext E362)
  have f364 := (f328.ext E362)
  have f365 := (f329.ext E362)
  have f366 := (f330.ext E362)
  have f367 := (f331.ext E362)
  have f368 := (f332.ext E362)
  have f369 := (f333.ext E362)
  have f370 := (f334.ext E362)
  have f371 := (f335.ext E362)
  have f372 := (f336.ext E362)
  have f373 := (f337.ext E362)
  have f374 := (f338.ext E362)
  have f375 := (f339.ext E362)
  have f376 := (f340.ext E362)
  have f377 := (f341.ext E362)
  have f378 := (f342.ext E362)
  have f379 := (po323.ext E362)
  have f380 := (po324.ext E362)
  have f381 := (fr360.ext E362)
  have f382 := (nv361.ext E362)
  have kk362 : Keep h0 h362 [] := kk321.ext E362
  have zs362 : n0 ≤ h362.size := Nat.le_trans zs321 E362.1
  have R362 := R321.trans ch362
  have sf383 := ch362.safe f338.lt sf355
  have sf384 := ch362.safe f341.lt sf356
  have sf385 := ch362.safe f342.lt sf357
  have sf386 := ch362.safe nv361.lt sf359
  have ln387 := hne362 _ (Safe.exa (EL := consts_1) (hZ362).alike f378 (by decide) (by decide))
  have ln388 := hne362 _ sf384
  have ln389 := hne362 _ sf386
  have ln390 := hne362 _ sf383
  refine own_h T362 (mkF m 53 #[oa r0, oa xs_159] [(.ref lt362), (.ref b199)]) (fun _ k => st362 _ k) ?_
  obtain ⟨cq391, kq391, q391a, q391b, q391c⟩ := isOf hZ362 e362 f378
  obtain ⟨_, _, ⟨T391, L391, k391, n391⟩, -, X391, ⟨Lc391, hQ391, l391, y391, z391⟩, st391⟩ := X362.virtualBack hx (y := (⟨"java/lang/StringBuilder", "append", "(Ljava/lang/String;)Ljava/lang/StringBuilder;"⟩ : MethodName)) (z := (⟨"java/lang/StringBuilder", "append", "(Ljava/lang/String;)Ljava/lang/StringBuilder;"⟩ : MethodName)) hown362 (mvT hZ362 (own_w hw 74 rfl)) (mvT hZ362 (own_w hw 75 rfl)) (notFace_of_selects (args := #[]) (mvT hZ362 (own_w hw 77 rfl))) (mvT hZ362 (own_w hw 77 rfl)) (mvT hZ362 (own_w hw 76 rfl)) (by decide) (backOf (W := 0) (rmSbN l Z a0 hw [] b199 lt362 xb_321 (z1 + (18 : Int32)) xk_321 (34 : Int32) (own_obj ++ ((.int (60 : Int32)) :: (us ++ [(.int (62 : Int32))])) ++ own_zs (16 - us.length) : List Value) lb362 lk362 (1 : Int32) ([(.int (41 : Int32))] : List Value) cs (us.length + 18) 1 h362 n0 zs362 f378 ge199 f379 f380 f381 f382 ge352 ne350 Le362 Lc362 Lv362 La362 f373 hh0 (by rcases hh2 with ⟨rfl, rfl⟩ | ⟨rfl, _, rfl⟩ | ⟨rfl, _, _, rfl⟩ | ⟨rfl, _, _, _, rfl⟩ <;> first | rfl | decide | exact Nat.le_of_ble_eq_true rfl | (simp only [List.length_cons, List.length_nil]; first | decide | (unfold own_min; decide)) | (unfold own_min; decide) | (unfold own_max; decide)) (by rcases hh2 with ⟨rfl, rfl⟩ | ⟨rfl, _, rfl⟩ | ⟨rfl, _, _, rfl⟩ | ⟨rfl, _, _, _, rfl⟩ <;> first | rfl | decide | exact Nat.le_of_ble_eq_true rfl | (simp only [List.length_cons, List.length_nil]; first | decide | (unfold own_min; decide)) | (unfold own_min; decide) | (unfold own_max; decide)) (by rcases hh2 with ⟨rfl, rfl⟩ | ⟨rfl, _, rfl⟩ | ⟨rfl, _, _, rfl⟩ | ⟨rfl, _, _, _, rfl⟩ <;> first | rfl | decide | exact Nat.le_of_ble_eq_true rfl | (simp only [List.length_cons, List.length_nil]; first | decide | (unfold own_min; decide)) | (unfold own_min; decide) | (unfold own_max; decide)) (by rcases hh2 with ⟨rfl, rfl⟩ | ⟨rfl, _, rfl⟩ | ⟨rfl, _, _, rfl⟩ | ⟨rfl, _, _, _, rfl⟩ <;> first | rfl | decide | exact Nat.le_of_ble_eq_true rfl | (simp only [List.length_cons, List.length_nil]; first | decide | (unfold own_min; decide)) | (unfold own_min; decide) | (unfold own_max; decide)) (by rcases hh2 with ⟨rfl, rfl⟩ | ⟨rfl, _, rfl⟩ | ⟨rfl, _, _, rfl⟩ | ⟨rfl, _, _, _, rfl⟩ <;> first | rfl | decide | exact Nat.le_of_ble_eq_true rfl | (simp only [List.length_cons, List.length_nil]; first | decide | (unfold own_min; decide)) | (unfold own_min; decide) | (unfold own_max; decide)) (by rcases hh2 with ⟨rfl, rfl⟩ | ⟨rfl, _, rfl⟩ | ⟨rfl, _, _, rfl⟩ | ⟨rfl, _, _, _, rfl⟩ <;> first | rfl | decide | exact Nat.le_of_ble_eq_true rfl | (simp only [List.length_cons, List.length_nil]; first | decide | (unfold own_min; decide)) | (unfold own_min; decide) | (unfold own_max; decide)) (by rcases hh2 with ⟨rfl, rfl⟩ | ⟨rfl, _, rfl⟩ | ⟨rfl, _, _, rfl⟩ | ⟨rfl, _, _, _, rfl⟩ <;> first | rfl | decide | exact Nat.le_of_ble_eq_true rfl | (simp only [List.length_cons, List.length_nil]; first | decide | (unfold own_min; decide)) | (unfold own_min; decide) | (unfold own_max; decide)) (by rcases hh2 with ⟨rfl, rfl⟩ | ⟨rfl, _, rfl⟩ | ⟨rfl, _, _, rfl⟩ | ⟨rfl, _, _, _, rfl⟩ <;> first | rfl | decide | exact Nat.le_of_ble_eq_true rfl | (simp only [List.length_cons, List.length_nil]; first | decide | (unfold own_min; decide)) | (unfold own_min; decide) | (unfold own_max; decide))) hZ362 (own_w hw 78 rfl) (own_w hw 55 rfl) (by decide) (by decide)) q391a q391c (g := (mkF m 53 #[oa r0, oa xs_159] [(.ref lt362), (.ref b199)])) rfl (by rw [hml]; rfl) (Steps.refl _) (argsL := [(.ref lt362)]) (rest := []) (lenOf own_pd29 rfl) rfl (Nat.le_of_eq rfl) (hb hby d9_53) (fun _ _ => ⟨rfl, e362, (by decide : 15 + 0 ≤ _), (by decide : 210 + 0 ≤ _)⟩)
  dsimp only [Pt.U, Pt.locs, Pt.cells, Pt.slots] at X391 l391 y391 z391 st391 hQ391
  subst l391 y391 z391
  obtain ⟨rfl, N391q, K391, po392, po393, po394, po395⟩ := hQ391
  have f396 := (f363.keep K391)
  have f397 := (f364.keep K391 (ninS ne200 (ninS ne344 nin0)))
  have f398 := (f365.keep K391 (ninS ne200 (ninS ne344 nin0)))
  have f399 := (f366.keep K391 (ninS ne200 (ninS ne344 nin0)))
  have f400 := (f367.keep K391)
  have f401 := (f368.keep K391 (ninS ne201 (ninS ne345 nin0)))
  have f402 := (f369.keep K391)
  have f403 := (f370.keep K391 (ninS ne202 (ninS ne346 nin0)))
  have f404 := (f371.keep K391 (ninS ne202 (ninS ne346 nin0)))
  have f405 := (f372.keep K391 (ninS ne203 (ninS ne347 nin0)))
  have f406 := (own_sta_keep f373 K391 (nsS f378.nostat (nsS (own_arv_ns f382) ns0)))
  have f407 := (f374.keep K391)
  have f408 := (f375.keep K391 (ninS ne204 (ninS ne348 nin0)))
  have f409 := (f376.keep K391 (ninS ne204 (ninS ne348 nin0)))
  have f410 := (f377.keep K391 (ninS ne205 (ninS ne349 nin0)))
  have f411 := (f378.keep K391)
  have zs391 : n0 ≤ T391.heap.size := Nat.le_trans zs362 K391.1
  have hk412 := Nat.le_trans hk362 (K391.1)
  have kk391 : Keep h0 T391.heap [] := kk362.trans K391 (allS (Or.inr sz199) (allS (Or.inr sz353) all0))
  have R391 := R362.trans (CHr.keep K391 (sfS (Safe.exa (EL := consts_1) (hZ362).alike f378 (by decide) (by decide)) (sfS sf386 sf0)) R362.1)
  have sf413 := Safe.keep K391 (sfS (Safe.exa (EL := consts_1) (hZ362).alike f378 (by decide) (by decide)) (sfS sf386 sf0)) R362.1 sf383
  have sf414 := Safe.keep K391 (sfS (Safe.exa (EL := consts_1) (hZ362).alike f378 (by decide) (by decide)) (sfS sf386 sf0)) R362.1 sf384
  have sf415 := Safe.keep K391 (sfS (Safe.exa (EL := consts_1) (hZ362).alike f378 (by decide) (by decide)) (sfS sf386 sf0)) R362.1 sf385
  have sf416 := Safe.keep K391 (sfS (Safe.exa (EL := consts_1) (hZ362).alike f378 (by decide) (by decide)) (sfS sf386 sf0)) R362.1 sf386
  have N391 := Fr.app N321 N391q
  obtain ⟨Lv391, X391, N391⟩ := own_hide X391 (Nat.le_refl 15) (Nat.le_refl 210) N391
  refine own_h T391 (mkF m 56 #[oa r0, oa xs_159] [(.ref b199)]) (fun _ k => st391.trans k) ?_
  have fr417 : Fld Z T391.heap b199 "java/lang/AbstractStringBuilder" "count" "I" (.int (z1 + (19 : Int32))) := (show (((z1 + (18 : Int32)) + ((1 : Int32) >>> ((0 : Int32) &&& 31))) : Int32) = (z1 + (19 : Int32)) from (by rcases hh2 with ⟨rfl, rfl⟩ | ⟨rfl, _, rfl⟩ | ⟨rfl, _, _, rfl⟩ | ⟨rfl, _, _, _, rfl⟩ <;> first | rfl | decide | exact Nat.le_of_ble_eq_true rfl | (simp only [List.length_cons, List.length_nil]; first | decide | (unfold own_min; decide)) | (unfold own_min; decide) | (unfold own_max; decide))) ▸ po394
  have nv418 : Arv Z T391.heap xb_321 xk_321 .byte (34 : Int32) (own_obj ++ ((.int (60 : Int32)) :: (us ++ [(.int (62 : Int32)), (.int (41 : Int32))])) ++ own_zs (15 - us.length) : List Value) (.int (0 : Int32)) := by have q := po395; rcases hh2 with ⟨rfl, rfl⟩ | ⟨rfl, _, rfl⟩ | ⟨rfl, _, _, rfl⟩ | ⟨rfl, _, _, _, rfl⟩ <;> exact q
  obtain ⟨cq419, kq419, q419a, q419b, q419c⟩ := isOf hZ362 rfl f411
  obtain ⟨_, _, ⟨T419, L419, k419, n419⟩, -, X419, ⟨Lc419, hQ419, l419, y419, z419⟩, st419⟩ := X391.virtualBack hx (y := (⟨"java/lang/StringBuilder", "toString", "()Ljava/lang/String;"⟩ : MethodName)) (z := (⟨"java/lang/StringBuilder", "toString", "()Ljava/lang/String;"⟩ : MethodName)) hown362 (mvT hZ362 (own_w hw 122 rfl)) (mvT hZ362 (own_w hw 123 rfl)) (notFace_of_selects (args := #[]) (mvT hZ362 (own_w hw 125 rfl))) (mvT hZ362 (own_w hw 125 rfl)) (mvT hZ362 (own_w hw 124 rfl)) (by decide) (backOf (W := 0) (rmSTS l Z a0 hw [] b199 xb_321 (z1 + (19 : Int32)) xk_321 (34 : Int32) (own_obj ++ ((.int (60 : Int32)) :: (us ++ [(.int (62 : Int32)), (.int (41 : Int32))])) ++ own_zs (15 - us.length) : List Value) (us.length + 19) cs T391.heap n0 zs391 f411 po392 po393 fr417 nv418 f406 (by rcases hh2 with ⟨rfl, rfl⟩ | ⟨rfl, _, rfl⟩ | ⟨rfl, _, _, rfl⟩ | ⟨rfl, _, _, _, rfl⟩ <;> first | rfl | decide | exact Nat.le_of_ble_eq_true rfl | (simp only [List.length_cons, List.length_nil]; first | decide | (unfold own_min; decide)) | (unfold own_min; decide) | (unfold own_max; decide)) (by rcases hh2 with ⟨rfl, rfl⟩ | ⟨rfl, _, rfl⟩ | ⟨rfl, _, _, rfl⟩ | ⟨rfl, _, _, _, rfl⟩ <;> first | rfl | decide | exact Nat.le_of_ble_eq_true rfl | (simp only [List.length_cons, List.length_nil]; first | decide | (unfold own_min; decide)) | (unfold own_min; decide) | (unfold own_max; decide)) (by rcases hh2 with ⟨rfl, rfl⟩ | ⟨rfl, _, rfl⟩ | ⟨rfl, _, _, rfl⟩ | ⟨rfl, _, _, _, rfl⟩ <;> first | rfl | decide | exact Nat.le_of_ble_eq_true rfl | (simp only [List.length_cons, List.length_nil]; first | decide | (unfold own_min; decide)) | (unfold own_min; decide) | (unfold own_max; decide)) (by rcases hh2 with ⟨rfl, rfl⟩ | ⟨rfl, _, rfl⟩ | ⟨rfl, _, _, rfl⟩ | ⟨rfl, _, _, _, rfl⟩ <;> first | rfl | decide | exact Nat.le_of_ble_eq_true rfl | (simp only [List.length_cons, List.length_nil]; first | decide | (unfold own_min; decide)) | (unfold own_min; decide) | (unfold own_max; decide)) (by rcases hh2 with ⟨rfl, rfl⟩ | ⟨rfl, _, rfl⟩ | ⟨rfl, _, _, rfl⟩ | ⟨rfl, _, _, _, rfl⟩ <;> first | rfl | decide | exact Nat.le_of_ble_eq_true rfl | (simp only [List.length_cons, List.length_nil]; first | decide | (unfold own_min; decide)) | (unfold own_min; decide) | (unfold own_max; decide)) (by rcases hh2 with ⟨rfl, rfl⟩ | ⟨rfl, _, rfl⟩ | ⟨rfl, _, _, rfl⟩ | ⟨rfl, _, _, _, rfl⟩ <;> first | rfl | decide | exact Nat.le_of_ble_eq_true rfl | (simp only [List.length_cons, List.length_nil]; first | decide | (unfold own_min; decide)) | (unfold own_min; decide) | (unfold own_max; decide)) (by rcases hh2 with ⟨rfl, rfl⟩ | ⟨rfl, _, rfl⟩ | ⟨rfl, _, _, rfl⟩ | ⟨rfl, _, _, _, rfl⟩ <;> first | rfl | decide | exact Nat.le_of_ble_eq_true rfl | (simp only [List.length_cons, List.length_nil]; first | decide | (unfold own_min; decide)) | (unfold own_min; decide) | (unfold own_max; decide)) (by rcases hh2 with ⟨rfl, rfl⟩ | ⟨rfl, _, rfl⟩ | ⟨rfl, _, _, rfl⟩ | ⟨rfl, _, _, _, rfl⟩ <;> first | rfl | decide | exact Nat.le_of_ble_eq_true rfl | (simp only [List.length_cons, List.length_nil]; first | decide | (unfold own_min; decide)) | (unfold own_min; decide) | (unfold own_max; decide)) (by rcases hh2 with ⟨rfl, rfl⟩ | ⟨rfl, _, rfl⟩ | ⟨rfl, _, _, rfl⟩ | ⟨rfl, _, _, _, rfl⟩ <;> first | rfl | decide | exact Nat.le_of_ble_eq_true rfl | (simp only [List.length_cons, List.length_nil]; first | decide | (unfold own_min; decide)) | (unfold own_min; decide) | (unfold own_max; decide)) hh0) hZ362 (own_w hw 126 rfl) (own_w hw 55 rfl) (by decide) (by decide)) q419a q419c (g := (mkF m 56 #[oa r0, oa xs_159] [(.ref b199)])) rfl (by rw [hml]; rfl) (Steps.refl _) (argsL := []) (rest := []) (lenOf own_pd30 rfl) rfl (Nat.le_of_eq rfl) (hb hby d9_56) (fun _ _ => ⟨rfl, rfl, (by decide : 15 + 2 ≤ _), (by decide : 210 + 44 ≤ _)⟩)
  dsimp only [Pt.U, Pt.locs, Pt.cells, Pt.slots] at X419 l419 y419 z419 st419 hQ419
  subst l419 y419 z419
  obtain ⟨xs_419, xb_419, xk_419, rfl, N419q, K419, po420, po421, po422, po423, po424, po425, po426⟩ := hQ419
  have f427 := (f396.keep K419)
  have f428 := (f397.keep K419 nin0)
  have f429 := (f398.keep K419 nin0)
  have f430 := (f399.keep K419 nin0)
  have f431 := (f400.keep K419)
  have f432 := (f401.keep K419 nin0)
  have f433 := (f402.keep K419)
  have f434 := (f403.keep K419 nin0)
  have f435 := (f404.keep K419 nin0)
  have f436 := (f405.keep K419 nin0)
  have f437 := (own_sta_keep f406 K419 ns0)
  have f438 := (f407.keep K419)
  have f439 := (f408.keep K419 nin0)
  have f440 := (f409.keep K419 nin0)
  have f441 := (f410.keep K419 nin0)
  have ne442 : r0 ≠ xs_419 := Nat.ne_of_lt (Nat.lt_of_lt_of_le f396.lt po420)
  have ne443 : inv ≠ xs_419 := Nat.ne_of_lt (Nat.lt_of_lt_of_le f400.lt po420)
  have ne444 : iri ≠ xs_419 := Nat.ne_of_lt (Nat.lt_of_lt_of_le f402.lt po420)
  have ne445 : d1 ≠ xs_419 := Nat.ne_of_lt (Nat.lt_of_lt_of_le f405.lt po420)
  have ne446 : xs_159 ≠ xs_419 := Nat.ne_of_lt (Nat.lt_of_lt_of_le f407.lt po420)
  have ne447 : xb_159 ≠ xs_419 := Nat.ne_of_lt (Nat.lt_of_lt_of_le f410.lt po420)
  have ne448 : b199 ≠ xs_419 := Nat.ne_of_lt (Nat.lt_of_lt_of_le f411.lt po420)
  have ne449 : xb_321 ≠ xs_419 := Nat.ne_of_lt (Nat.lt_of_lt_of_le nv418.lt po420)
  have ge450 : n0 ≤ xs_419 := Nat.le_trans zs391 po420
  have sz451 : h0.size ≤ xs_419 := Nat.le_trans kk391.1 po420
  have ne452 : r0 ≠ xb_419 := Nat.ne_of_lt (Nat.lt_of_lt_of_le f396.lt po421)
  have ne453 : inv ≠ xb_419 := Nat.ne_of_lt (Nat.lt_of_lt_of_le f400.lt po421)
  have ne454 : iri ≠ xb_419 := Nat.ne_of_lt (Nat.lt_of_lt_of_le f402.lt po421)
  have ne455 : d1 ≠ xb_419 := Nat.ne_of_lt (Nat.lt_of_lt_of_le f405.lt po421)
  have ne456 : xs_159 ≠ xb_419 := Nat.ne_of_lt (Nat.lt_of_lt_of_le f407.lt po421)
  have ne457 : xb_159 ≠ xb_419 := Nat.ne_of_lt (Nat.lt_of_lt_of_le f410.lt po421)
  have ne458 : b199 ≠ xb_419 := Nat.ne_of_lt (Nat.lt_of_lt_of_le f411.lt po421)
  have ne459 : xb_321 ≠ xb_419 := Nat.ne_of_lt (Nat.lt_of_lt_of_le nv418.lt po421)
  have ge460 : n0 ≤ xb_419 := Nat.le_trans zs391 po421
  have sz461 : h0.size ≤ xb_419 := Nat.le_trans kk391.1 po421
  have zs419 : n0 ≤ T419.heap.size := Nat.le_trans zs391 K419.1
  have hk462 := Nat.le_trans hk412 (K419.1)
  have kk419 : Keep h0 T419.heap [] := kk391.trans K419 all0
  have R419 := R391.trans (CHr.keep K419 sf0 R391.1)
  have sf463 := Safe.keep K419 sf0 R391.1 sf413
  have sf464 := Safe.keep K419 sf0 R391.1 sf414
  have sf465 := Safe.keep K419 sf0 R391.1 (Safe.new po420)
  have sf466 := Safe.keep K419 sf0 R391.1 (Safe.new po421)
  have N419 := Fr.app N391 N419q
  obtain ⟨Lv419, X419, N419⟩ := own_hide X419 (Nat.le_refl 17) (Nat.le_refl 254) N419
  refine own_h T419 (mkF m 59 #[oa r0, oa xs_159] [(.ref xs_419)]) (fun _ k => st419.trans k) ?_
  have nv467 : Arv Z T419.heap xb_419 xk_419 .byte (z1 + (19 : Int32)) (own_obj ++ ((.int (60 : Int32)) :: (us ++ [(.int (62 : Int32)), (.int (41 : Int32))])) : List Value) (.int (0 : Int32)) := by have q := po426; rcases hh2 with ⟨rfl, rfl⟩ | ⟨rfl, _, rfl⟩ | ⟨rfl, _, _, rfl⟩ | ⟨rfl, _, _, _, rfl⟩ <;> exact q
  refine own_h T419 (mkF m 63 #[oa r0, oa xs_159] [(.ref xs_419)]) (fun _ k => XS.goto X419.here hx rfl (pc0 := 59) (pc' := 63) rfl (hb hby d9_59) (by decide) (by decide) k) ?_
  exact own_retH X419 hS362 hx Bd.returns hlk rfl (Or.inr (Or.inr (Or.inr (Or.inr ⟨rfl, rfl, rfl⟩)))) (hb hby d9_63) hZ362 (own_EW hw) R419 rfl hk462 ⟨xs_419, xb_419, xk_419, rfl, N419, kk419, sz451, sz461, po423, po424, po425, nv467⟩ (by decide) (by decide)
theorem own_pd31 : parseMethodDescriptor "(I)C" = some ⟨[.int], some .char⟩ := by decide +kernel
theorem d42_0 : decode method_5_code 0 = .ok (.ldc 51, 2) := by decide +kernel
theorem d42_2 : decode method_5_code 2 = .ok (.astore_n 1, 1) := by decide +kernel
theorem d42_3 : decode method_5_code 3 = .ok (.aload_n 0, 1) := by decide +kernel
theorem d42_4 : decode method_5_code 4 = .ok (.iconst 0, 1) := by decide +kernel
theorem d42_5 : decode method_5_code 5 = .ok (.invokevirtual 47, 3) := by decide +kernel
theorem d42_8 : decode method_5_code 8 = .ok (.aload_n 1, 1) := by decide +kernel
theorem d42_9 : decode method_5_code 9 = .ok (.iconst 0, 1) := by decide +kernel
theorem d42_10 : decode method_5_code 10 = .ok (.invokevirtual 47, 3) := by decide +kernel
theorem d42_13 : decode method_5_code 13 = .ok (.if_icmp .ne 237, 3) := by decide +kernel
theorem d42_16 : decode method_5_code 16 = .ok (.aload_n 0, 1) := by decide +kernel
theorem d42_17 : decode method_5_code 17 = .ok (.iconst 1, 1) := by decide +kernel
theorem d42_18 : decode method_5_code 18 = .ok (.invokevirtual 47, 3) := by decide +kernel
theorem d42_21 : decode method_5_code 21 = .ok (.aload_n 1, 1) := by decide +kernel
theorem d42_22 : decode method_5_code 22 = .ok (.iconst 1, 1) := by decide +kernel
theorem d42_23 : decode method_5_code 23 = .ok (.invokevirtual 47, 3) := by decide +kernel
theorem d42_26 : decode method_5_code 26 = .ok (.if_icmp .ne 224, 3) := by decide +kernel
theorem d42_29 : decode method_5_code 29 = .ok (.aload_n 0, 1) := by decide +kernel
theorem d42_30 : decode method_5_code 30 = .ok (.iconst 2, 1) := by decide +kernel
theorem d42_31 : decode method_5_code 31 = .ok (.invokevirtual 47, 3) := by decide +kernel
theorem d42_34 : decode method_5_code 34 = .ok (.aload_n 1, 1) := by decide +kernel
theorem d42_35 : decode method_5_code 35 = .ok (.iconst 2, 1) := by decide +kernel
theorem d42_36 : decode method_5_code 36 = .ok (.invokevirtual 47, 3) := by decide +kernel
theorem d42_39 : decode method_5_code 39 = .ok (.if_icmp .ne 211, 3) := by decide +kernel
theorem d42_42 : decode method_5_code 42 = .ok (.aload_n 0, 1) := by decide +kernel
theorem d42_43 : decode method_5_code 43 = .ok (.iconst 3, 1) := by decide +kernel
theorem d42_44 : decode method_5_code 44 = .ok (.invokevirtual 47, 3) := by decide +kernel
theorem d42_47 : decode method_5_code 47 = .ok (.aload_n 1, 1) := by decide +kernel
theorem d42_48 : decode method_5_code 48 = .ok (.iconst 3, 1) := by decide +kernel
theorem d42_49 : decode method_5_code 49 = .ok (.invokevirtual 47, 3) := by decide +kernel
theorem d42_52 : decode method_5_code 52 = .ok (.if_icmp .ne 198, 3) := by decide +kernel
theorem d42_55 : decode method_5_code 55 = .ok (.aload_n 0, 1) := by decide +kernel
theorem d42_56 : decode method_5_code 56 = .ok (.iconst 4, 1) := by decide +kernel
theorem d42_57 : decode method_5_code 57 = .ok (.invokevirtual 47, 3) := by decide +kernel
theorem d42_60 : decode method_5_code 60 = .ok (.aload_n 1, 1) := by decide +kernel
theorem d42_61 : decode method_5_code 61 = .ok (.iconst 4, 1) := by decide +kernel
theorem d42_62 : decode method_5_code 62 = .ok (.invokevirtual 47, 3) := by decide +kernel
theorem d42_65 : decode method_5_code 65 = .ok (.if_icmp .ne 185, 3) := by decide +kernel
theorem d42_68 : decode method_5_code 68 = .ok (.aload_n 0, 1) := by decide +kernel
theorem d42_69 : decode method_5_code 69 = .ok (.iconst 5, 1) := by decide +kernel
theorem d42_70 : decode method_5_code 70 = .ok (.invokevirtual 47, 3) := by decide +kernel
theorem d42_73 : decode method_5_code 73 = .ok (.aload_n 1, 1) := by decide +kernel
theorem d42_74 : decode method_5_code 74 = .ok (.iconst 5, 1) := by decide +kernel
theorem d42_75 : decode method_5_code 75 = .ok (.invokevirtual 47, 3) := by decide +kernel
theorem d42_78 : decode method_5_code 78 = .ok (.if_icmp .ne 172, 3) := by decide +kernel
theorem d42_81 : decode method_5_code 81 = .ok (.aload_n 0, 1) := by decide +kernel
theorem d42_82 : decode method_5_code 82 = .ok (.bipush 6, 2) := by decide +kernel
theorem d42_84 : decode method_5_code 84 = .ok (.invokevirtual 47, 3) := by decide +kernel
theorem d42_87 : decode method_5_code 87 = .ok (.aload_n 1, 1) := by decide +kernel
theorem d42_88 : decode method_5_code 88 = .ok (.bipush 6, 2) := by decide +kernel
theorem d42_90 : decode method_5_code 90 = .ok (.invokevirtual 47, 3) := by decide +kernel
theorem d42_93 : decode method_5_code 93 = .ok (.if_icmp .ne 157, 3) := by decide +kernel
theorem d42_96 : decode method_5_code 96 = .ok (.aload_n 0, 1) := by decide +kernel
theorem d42_97 : decode method_5_code 97 = .ok (.bipush 7, 2) := by decide +kernel
theorem d42_99 : decode method_5_code 99 = .ok (.invokevirtual 47, 3) := by decide +kernel
theorem d42_102 : decode method_5_code 102 = .ok (.aload_n 1, 1) := by decide +kernel
theorem d42_103 : decode method_5_code 103 = .ok (.bipush 7, 2) := by decide +kernel
theorem d42_105 : decode method_5_code 105 = .ok (.invokevirtual 47, 3) := by decide +kernel
theorem d42_108 : decode method_5_code 108 = .ok (.if_icmp .ne 142, 3) := by decide +kernel
theorem d42_111 : decode method_5_code 111 = .ok (.aload_n 0, 1) := by decide +kernel
theorem d42_112 : decode method_5_code 112 = .ok (.bipush 8, 2) := by decide +kernel
theorem d42_114 : decode method_5_code 114 = .ok (.invokevirtual 47, 3) := by decide +kernel
theorem d42_117 : decode method_5_code 117 = .ok (.aload_n 1, 1) := by decide +kernel
theorem d42_118 : decode method_5_code 118 = .ok (.bipush 8, 2) := by decide +kernel
theorem d42_120 : decode method_5_code 120 = .ok (.invokevirtual 47, 3) := by decide +kernel
theorem d42_123 : decode method_5_code 123 = .ok (.if_icmp .ne 127, 3) := by decide +kernel
theorem d42_126 : decode method_5_code 126 = .ok (.aload_n 0, 1) := by decide +kernel
theorem d42_127 : decode method_5_code 127 = .ok (.bipush 9, 2) := by decide +kernel
theorem d42_129 : decode method_5_code 129 = .ok (.invokevirtual 47, 3) := by decide +kernel
theorem d42_132 : decode method_5_code 132 = .ok (.aload_n 1, 1) := by decide +kernel
theorem d42_133 : decode method_5_code 133 = .ok (.bipush 9, 2) := by decide +kernel
theorem d42_135 : decode method_5_code 135 = .ok (.invokevirtual 47, 3) := by decide +kernel
theorem d42_138 : decode method_5_code 138 = .ok (.if_icmp .ne 112, 3) := by decide +kernel
theorem d42_141 : decode method_5_code 141 = .ok (.aload_n 0, 1) := by decide +kernel
theorem d42_142 : decode method_5_code 142 = .ok (.bipush 10, 2) := by decide +kernel
theorem d42_144 : decode method_5_code 144 = .ok (.invokevirtual 47, 3) := by decide +kernel
theorem d42_147 : decode method_5_code 147 = .ok (.aload_n 1, 1) := by decide +kernel
theorem d42_148 : decode method_5_code 148 = .ok (.bipush 10, 2) := by decide +kernel
theorem d42_150 : decode method_5_code 150 = .ok (.invokevirtual 47, 3) := by decide +kernel
theorem d42_153 : decode method_5_code 153 = .ok (.if_icmp .ne 97, 3) := by decide +kernel
theorem d42_156 : decode method_5_code 156 = .ok (.aload_n 0, 1) := by decide +kernel
theorem d42_157 : decode method_5_code 157 = .ok (.bipush 11, 2) := by decide +kernel
theorem d42_159 : decode method_5_code 159 = .ok (.invokevirtual 47, 3) := by decide +kernel
theorem d42_162 : decode method_5_code 162 = .ok (.aload_n 1, 1) := by decide +kernel
theorem d42_163 : decode method_5_code 163 = .ok (.bipush 11, 2) := by decide +kernel
theorem d42_165 : decode method_5_code 165 = .ok (.invokevirtual 47, 3) := by decide +kernel
theorem d42_168 : decode method_5_code 168 = .ok (.if_icmp .ne 82, 3) := by decide +kernel
theorem d42_171 : decode method_5_code 171 = .ok (.aload_n 0, 1) := by decide +kernel
theorem d42_172 : decode method_5_code 172 = .ok (.bipush 12, 2) := by decide +kernel
theorem d42_174 : decode method_5_code 174 = .ok (.invokevirtual 47, 3) := by decide +kernel
theorem d42_177 : decode method_5_code 177 = .ok (.aload_n 1, 1) := by decide +kernel
theorem d42_178 : decode method_5_code 178 = .ok (.bipush 12, 2) := by decide +kernel
theorem d42_180 : decode method_5_code 180 = .ok (.invokevirtual 47, 3) := by decide +kernel
theorem d42_183 : decode method_5_code 183 = .ok (.if_icmp .ne 67, 3) := by decide +kernel
theorem d42_186 : decode method_5_code 186 = .ok (.aload_n 0, 1) := by decide +kernel
theorem d42_187 : decode method_5_code 187 = .ok (.bipush 13, 2) := by decide +kernel
theorem d42_189 : decode method_5_code 189 = .ok (.invokevirtual 47, 3) := by decide +kernel
theorem d42_192 : decode method_5_code 192 = .ok (.aload_n 1, 1) := by decide +kernel
theorem d42_193 : decode method_5_code 193 = .ok (.bipush 13, 2) := by decide +kernel
theorem d42_195 : decode method_5_code 195 = .ok (.invokevirtual 47, 3) := by decide +kernel
theorem d42_198 : decode method_5_code 198 = .ok (.if_icmp .ne 52, 3) := by decide +kernel
theorem d42_201 : decode method_5_code 201 = .ok (.aload_n 0, 1) := by decide +kernel
theorem d42_202 : decode method_5_code 202 = .ok (.bipush 14, 2) := by decide +kernel
theorem d42_204 : decode method_5_code 204 = .ok (.invokevirtual 47, 3) := by decide +kernel
theorem d42_207 : decode method_5_code 207 = .ok (.aload_n 1, 1) := by decide +kernel
theorem d42_208 : decode method_5_code 208 = .ok (.bipush 14, 2) := by decide +kernel
theorem d42_210 : decode method_5_code 210 = .ok (.invokevirtual 47, 3) := by decide +kernel
theorem d42_213 : decode method_5_code 213 = .ok (.if_icmp .ne 37, 3) := by decide +kernel
theorem d42_216 : decode method_5_code 216 = .ok (.aload_n 0, 1) := by decide +kernel
theorem d42_217 : decode method_5_code 217 = .ok (.bipush 15, 2) := by decide +kernel
theorem d42_219 : decode method_5_code 219 = .ok (.invokevirtual 47, 3) := by decide +kernel
theorem d42_222 : decode method_5_code 222 = .ok (.aload_n 1, 1) := by decide +kernel
theorem d42_223 : decode method_5_code 223 = .ok (.bipush 15, 2) := by decide +kernel
theorem d42_225 : decode method_5_code 225 = .ok (.invokevirtual 47, 3) := by decide +kernel
theorem d42_228 : decode method_5_code 228 = .ok (.if_icmp .ne 22, 3) := by decide +kernel
theorem d42_231 : decode method_5_code 231 = .ok (.aload_n 0, 1) := by decide +kernel
theorem d42_232 : decode method_5_code 232 = .ok (.bipush 16, 2) := by decide +kernel
theorem d42_234 : decode method_5_code 234 = .ok (.invokevirtual 47, 3) := by decide +kernel
theorem d42_237 : decode method_5_code 237 = .ok (.aload_n 1, 1) := by decide +kernel
theorem d42_238 : decode method_5_code 238 = .ok (.bipush 16, 2) := by decide +kernel
theorem d42_240 : decode method_5_code 240 = .ok (.invokevirtual 47, 3) := by decide +kernel
theorem d42_243 : decode method_5_code 243 = .ok (.if_icmp .ne 7, 3) := by decide +kernel
theorem d42_246 : decode method_5_code 246 = .ok (.iconst 1, 1) := by decide +kernel
theorem d42_247 : decode method_5_code 247 = .ok (.goto 4, 3) := by decide +kernel
theorem d42_251 : decode method_5_code 251 = .ok (.ireturn, 1) := by decide +kernel
def Q_rmPre (Z : State) (r0 : Addr) (d1 : Addr) (kd : ClassId) (z1 : Int32) (wt : List Value) (cs : Int32) (fm : Value) (h0 : Heap) (n0 : Nat) (v : Option Value) (h : Heap) (L : List Loc) : Prop := v = some (.int (1 : Int32)) ∧ Fr n0 L ∧ Keep h0 h []
theorem ef_rmPre (m : MethodId) (x0 : Addr) : entryFrame m #[(.ref x0)] 2 = mkF m 0 #[.val (.ref x0), .unset] [] := by first | (simp [entryFrame, mkF, argsToLocals, Value.category]; done) | rfl
theorem pn_rmPre : plainName "com/example/cardinal_tableau/cardinaltableau/model/RoleToStringPinLaw" = true := by first | (simp [plainName, overriddenIn]; done) | decide +kernel
set_option maxRecDepth 65536 in
set_option maxHeartbeats 40000000 in
theorem rmPre (l : Launch) (Z : State) (a0 : Array Value) (hw : ∀ d ∈ tables_1, d.before a0 Z = true) (ws : List Jvm.Cond) (r0 : Addr) (d1 : Addr) (kd : ClassId) (z1 : Int32) (wt : List Value) (cs : Int32) (fm : Value) (h0 : Heap) (n0 : Nat) (Z0 : n0 ≤ h0.size) (hp0 : Exa Z h0 r0 "java/lang/String") (hp1 : Fld Z h0 r0 "java/lang/String" "coder" "B" (.int (0 : Int32))) (hp2 : Fld Z h0 r0 "java/lang/String" "value" "[B" (.ref d1)) (hp3 : Arv Z h0 d1 kd .byte z1 ((.int (79 : Int32)) :: (.int (98 : Int32)) :: (.int (106 : Int32)) :: (.int (101 : Int32)) :: (.int (99 : Int32)) :: (.int (116 : Int32)) :: (.int (73 : Int32)) :: (.int (110 : Int32)) :: (.int (118 : Int32)) :: (.int (101 : Int32)) :: (.int (114 : Int32)) :: (.int (115 : Int32)) :: (.int (101 : Int32)) :: (.int (79 : Int32)) :: (.int (102 : Int32)) :: (.int (40 : Int32)) :: (.int (60 : Int32)) :: wt : List Value) (.int (0 : Int32))) (hp4 : Sta Z h0 "java/lang/String" "COMPACT_STRINGS" "Z" (.int cs)) (hp5 : Sta Z h0 "jdk/internal/util/Preconditions" "SIOOBE_FORMATTER" "Ljava/util/function/BiFunction;" fm) (hh0 : ¬ cs = (0 : Int32)) (hh1 : fm.isRef = true) (hh2 : (16 : Int32) < z1) :
    MetFree l (⟨"com/example/cardinal_tableau/cardinaltableau/model/RoleToStringPinLaw", "prefix", "(Ljava/lang/String;)Z"⟩ : MethodName) (head1 (Jvm.Cond.code (⟨"com/example/cardinal_tableau/cardinaltableau/model/RoleToStringPinLaw", "prefix", "(Ljava/lang/String;)Z"⟩ : MethodName) method_5_code 2 (some .boolean) :: ws) ({ frames := 4, cells := 2, slots := 72, locals := 54 } : Room)) (fun a U => a = #[(.ref r0)] ∧ Z.Warmed39 U.vm ∧ U.heap = h0 ∧ CHv Z consts_1 U.vm h0) (fun _ _ _ _ _ => True) (fun _ U o U' => ∃ v L, o = .returned v ∧ Q_rmPre Z r0 d1 kd z1 wt cs fm h0 n0 v U'.heap L ∧ CHr Z consts_1 U.vm U.heap U'.vm U'.heap ∧ ReturnedEndW U o U' L ({ frames := 4, cells := 2, slots := 72, locals := 54 } : Room).cells ({ frames := 4, cells := 2, slots := 72, locals := 54 } : Room).slots) := by
  refine MetFree.of_bodySF (plainFor_of_name pn_rmPre) hisR ?_
  intro p e s m args below meth c s₁ Bd hml0 hP hK
  obtain ⟨rfl, hZ, hh, hH0⟩ := hP
  have hx := Bd.exec
  have hby := Bd.bytes
  have hml : c.maxLocals = 2 := hml0
  have hown : s.vm.findClass "com/example/cardinal_tableau/cardinaltableau/model/RoleToStringPinLaw" = some m.cls := findClass_of_methodNamed Bd.named
  have hnm := (name_of_methodNamed Bd.named Bd.method).1
  have hlk : meth.locks = false := BodyLoose.notSynchronized Bd
  have X0 : Stand p l e ({ frames := 4, cells := 2, slots := 72, locals := 54 } : Room) (s.setVm s.vm) m #[(.ref r0)] below meth c s₁ [] 0 0 := Stand.of_body Bd
  have e0 : s₁.heap = h0 := by rw [← hh, Bd.state]; rfl
  have N0 := Fr.nil n0
  show own_WH Z consts_1 p e below s (Q_rmPre Z r0 d1 kd z1 wt cs fm h0 n0) 2 72 s₁ (entryFrame m #[(.ref r0)] 2)
  have hS0 : s.Since s.vm 0 := (State.WarmedH.refl s).since 0
  have hk0 : 0 ≤ h0.size := Nat.zero_le _
  refine own_goH (T' := s₁) (g' := (mkF m 0 #[oa r0, .unset] [])) (fun _ k => castTop (ef_rmPre m r0) k) ?_
  have R0 : CHr Z consts_1 s.vm s.heap s.vm h0 := by rw [hh]; exact CHr.refl hH0
  obtain ⟨lt1, T1, h1, k1, lb1, lk1, X1, e1, E1, hS1, hk1, hZ1, hown1, Le1, Lc1, Lv1, La1, -, -, ch1, -, hne1, st1⟩ := ldcCH X0 hx hZ hown (own_w hw 219 rfl) (own_wS hw) e0 hS0 hk0 (own_EW hw) (by simp [consts_1]) R0.1 (vs := [(.int (79 : Int32)), (.int (98 : Int32)), (.int (106 : Int32)), (.int (101 : Int32)), (.int (99 : Int32)), (.int (116 : Int32)), (.int (73 : Int32)), (.int (110 : Int32)), (.int (118 : Int32)), (.int (101 : Int32)), (.int (114 : Int32)), (.int (115 : Int32)), (.int (101 : Int32)), (.int (79 : Int32)), (.int (102 : Int32)), (.int (40 : Int32)), (.int (60 : Int32))]) (z := (17 : Int32)) ⟨by decide +kernel, by decide +kernel⟩ (by decide) (by decide) (g := (mkF m 0 #[oa r0, .unset] [])) rfl (hb hby d42_0) (n := 68) (by decide +kernel) (by decide) (by decide) (by decide)
  have f2 := (hp0.ext E1)
  have f3 := (hp1.ext E1)
  have f4 := (hp2.ext E1)
  have f5 := (hp3.ext E1)
  have f6 := (hp4.ext E1)
  have f7 := (hp5.ext E1)
  have kk1 : Keep h0 h1 [] := (Keep.refl h0 []).ext E1
  have zs1 : n0 ≤ h1.size := Nat.le_trans Z0 E1.1
  have R1 := R0.trans ch1
  refine own_h T1 (mkF m 2 #[oa r0, .unset] [(.ref lt1)]) (fun _ k => st1 _ k) ?_
  obtain ⟨LB, hLB⟩ : ∃ l : List Value, l = [(.int (79 : Int32)), (.int (98 : Int32)), (.int (106 : Int32)), (.int (101 : Int32)), (.int (99 : Int32)), (.int (116 : Int32)), (.int (73 : Int32)), (.int (110 : Int32)), (.int (118 : Int32)), (.int (101 : Int32)), (.int (114 : Int32)), (.int (115 : Int32)), (.int (101 : Int32)), (.int (79 : Int32)), (.int (102 : Int32)), (.int (40 : Int32)), (.int (60 : Int32))] := ⟨_, rfl⟩
  have lv : Arv Z h1 lb1 lk1 .byte (17 : Int32) LB (.int (0 : Int32)) := by rw [hLB]; exact La1
  obtain ⟨LA, hLA⟩ : ∃ l : List Value, l = ((.int (79 : Int32)) :: (.int (98 : Int32)) :: (.int (106 : Int32)) :: (.int (101 : Int32)) :: (.int (99 : Int32)) :: (.int (116 : Int32)) :: (.int (73 : Int32)) :: (.int (110 : Int32)) :: (.int (118 : Int32)) :: (.int (101 : Int32)) :: (.int (114 : Int32)) :: (.int (115 : Int32)) :: (.int (101 : Int32)) :: (.int (79 : Int32)) :: (.int (102 : Int32)) :: (.int (40 : Int32)) :: (.int (60 : Int32)) :: wt : List Value) := ⟨_, rfl⟩
  have la : Arv Z h1 d1 kd .byte z1 LA (.int (0 : Int32)) := by rw [hLA]; exact f5
  refine own_h T1 (mkF m 5 #[oa r0, oa lt1] [(.int (0 : Int32)), (.ref r0)]) (fun _ k => XS.astoreN X1.here hx rfl (hb hby d42_2) rfl rfl (l' := #[oa r0, oa lt1]) rfl (XS.aloadN X1.here hx rfl (hb hby d42_3) rfl rfl (XS.iconst X1.here hx rfl (hb hby d42_4) k))) ?_
  obtain ⟨cq8, kq8, q8a, q8b, q8c⟩ := isOf hZ1 e1 f2
  obtain ⟨_, _, ⟨T8, L8, k8, n8⟩, -, X8, ⟨Lc8, hQ8, l8, y8, z8⟩, st8⟩ := X1.virtualBack hx (y := (⟨"java/lang/String", "charAt", "(I)C"⟩ : MethodName)) (z := (⟨"java/lang/String", "charAt", "(I)C"⟩ : MethodName)) hown1 (mvT hZ1 (own_w hw 195 rfl)) (mvT hZ1 (own_w hw 196 rfl)) (notFace_of_selects (args := #[]) (mvT hZ1 (own_w hw 198 rfl))) (mvT hZ1 (own_w hw 198 rfl)) (mvT hZ1 (own_w hw 197 rfl)) (by decide) (backOf (W := 0) (rmCha l Z a0 hw [] r0 (0 : Int32) d1 kd z1 LA (79 : Int32) cs fm h1 n0 zs1 f2 f3 f4 la f6 f7 hh1 (by decide) (own_lt16 hh2 (by decide)) (by rw [hLA]; rfl) hh0) hZ1 (own_w hw 199 rfl) (own_w hw 6 rfl) (by decide) (by decide)) q8a q8c (g := (mkF m 5 #[oa r0, oa lt1] [(.int (0 : Int32)), (.ref r0)])) rfl (by rw [hml]; rfl) (Steps.refl _) (argsL := [(.int (0 : Int32))]) (rest := []) (lenOf own_pd31 rfl) rfl (Nat.le_of_eq rfl) (hb hby d42_5) (fun _ _ => ⟨rfl, e1, (by decide : 2 + 0 ≤ _), (by decide : 72 + 0 ≤ _)⟩)
  dsimp only [Pt.U, Pt.locs, Pt.cells, Pt.slots] at X8 l8 y8 z8 st8 hQ8
  subst l8 y8 z8
  obtain ⟨rfl, N8q, e8⟩ := hQ8
  have N8 := Fr.app N0 N8q
  obtain ⟨Lv8, X8, N8⟩ := own_hide X8 (Nat.le_refl 2) (Nat.le_refl 72) N8
  refine own_h T8 (mkF m 10 #[oa r0, oa lt1] [(.int (0 : Int32)), (.ref lt1), (.int (own_ca (79 : Int32)))]) (fun _ k => st8.trans (XS.aloadN X8.here hx rfl (hb hby d42_8) rfl rfl (XS.iconst X8.here hx rfl (hb hby d42_9) k))) ?_
  obtain ⟨cq9, kq9, q9a, q9b, q9c⟩ := isOf hZ1 e8 Le1
  obtain ⟨_, _, ⟨T9, L9, k9, n9⟩, -, X9, ⟨Lc9, hQ9, l9, y9, z9⟩, st9⟩ := X8.virtualBack hx (y := (⟨"java/lang/String", "charAt", "(I)C"⟩ : MethodName)) (z := (⟨"java/lang/String", "charAt", "(I)C"⟩ : MethodName)) hown1 (mvT hZ1 (own_w hw 195 rfl)) (mvT hZ1 (own_w hw 196 rfl)) (notFace_of_selects (args := #[]) (mvT hZ1 (own_w hw 198 rfl))) (mvT hZ1 (own_w hw 198 rfl)) (mvT hZ1 (own_w hw 197 rfl)) (by decide) (backOf (W := 1) (rmCha l Z a0 hw [] lt1 (0 : Int32) lb1 lk1 (17 : Int32) LB (79 : Int32) cs fm h1 n0 zs1 Le1 Lc1 Lv1 lv f6 f7 hh1 (by decide) (by decide) (by rw [hLB]; rfl) hh0) hZ1 (own_w hw 199 rfl) (own_w hw 6 rfl) (by decide) (by decide)) q9a q9c (g := (mkF m 10 #[oa r0, oa lt1] [(.int (0 : Int32)), (.ref lt1), (.int (own_ca (79 : Int32)))])) rfl (by rw [hml]; rfl) (Steps.refl _) (argsL := [(.int (0 : Int32))]) (rest := [(.int (own_ca (79 : Int32)))]) (lenOf own_pd31 rfl) rfl (Nat.le_of_eq rfl) (hb hby d42_10) (fun _ _ => ⟨rfl, e8, (by decide : 2 + 0 ≤ _), (by decide : 72 + 0 ≤ _)⟩)
  dsimp only [Pt.U, Pt.locs, Pt.cells, Pt.slots] at X9 l9 y9 z9 st9 hQ9
  subst l9 y9 z9
  obtain ⟨rfl, N9q, e9⟩ := hQ9
  have N9 := Fr.app N8 N9q
  obtain ⟨Lv9, X9, N9⟩ := own_hide X9 (Nat.le_refl 2) (Nat.le_refl 72) N9
  refine own_h T9 (mkF m 18 #[oa r0, oa lt1] [(.int (1 : Int32)), (.ref r0)]) (fun _ k => st9.trans (XS.icmpNo X9.here hx rfl (hb hby d42_13) rfl (XT.ii_ne_f (rfl : (own_ca (79 : Int32)) = (own_ca (79 : Int32)))) (XS.aloadN X9.here hx rfl (hb hby d42_16) rfl rfl (XS.iconst X9.here hx rfl (hb hby d42_17) k)))) ?_
  obtain ⟨cq10, kq10, q10a, q10b, q10c⟩ := isOf hZ1 e9 f2
  obtain ⟨_, _, ⟨T10, L10, k10, n10⟩, -, X10, ⟨Lc10, hQ10, l10, y10, z10⟩, st10⟩ := X9.virtualBack hx (y := (⟨"java/lang/String", "charAt", "(I)C"⟩ : MethodName)) (z := (⟨"java/lang/String", "charAt", "(I)C"⟩ : MethodName)) hown1 (mvT hZ1 (own_w hw 195 rfl)) (mvT hZ1 (own_w hw 196 rfl)) (notFace_of_selects (args := #[]) (mvT hZ1 (own_w hw 198 rfl))) (mvT hZ1 (own_w hw 198 rfl)) (mvT hZ1 (own_w hw 197 rfl)) (by decide) (backOf (W := 0) (rmCha l Z a0 hw [] r0 (1 : Int32) d1 kd z1 LA (98 : Int32) cs fm h1 n0 zs1 f2 f3 f4 la f6 f7 hh1 (by decide) (own_lt16 hh2 (by decide)) (by rw [hLA]; rfl) hh0) hZ1 (own_w hw 199 rfl) (own_w hw 6 rfl) (by decide) (by decide)) q10a q10c (g := (mkF m 18 #[oa r0, oa lt1] [(.int (1 : Int32)), (.ref r0)])) rfl (by rw [hml]; rfl) (Steps.refl _) (argsL := [(.int (1 : Int32))]) (rest := []) (lenOf own_pd31 rfl) rfl (Nat.le_of_eq rfl) (hb hby d42_18) (fun _ _ => ⟨rfl, e9, (by decide : 2 + 0 ≤ _), (by decide : 72 + 0 ≤ _)⟩)
  dsimp only [Pt.U, Pt.locs, Pt.cells, Pt.slots] at X10 l10 y10 z10 st10 hQ10
  subst l10 y10 z10
  obtain ⟨rfl, N10q, e10⟩ := hQ10
  have N10 := Fr.app N9 N10q
  obtain ⟨Lv10, X10, N10⟩ := own_hide X10 (Nat.le_refl 2) (Nat.le_refl 72) N10
  refine own_h T10 (mkF m 23 #[oa r0, oa lt1] [(.int (1 : Int32)), (.ref lt1), (.int (own_ca (98 : Int32)))]) (fun _ k => st10.trans (XS.aloadN X10.here hx rfl (hb hby d42_21) rfl rfl (XS.iconst X10.here hx rfl (hb hby d42_22) k))) ?_
  obtain ⟨cq11, kq11, q11a, q11b, q11c⟩ := isOf hZ1 e10 Le1
  obtain ⟨_, _, ⟨T11, L11, k11, n11⟩, -, X11, ⟨Lc11, hQ11, l11, y11, z11⟩, st11⟩ := X10.virtualBack hx (y := (⟨"java/lang/String", "charAt", "(I)C"⟩ : MethodName)) (z := (⟨"java/lang/String", "charAt", "(I)C"⟩ : MethodName)) hown1 (mvT hZ1 (own_w hw 195 rfl)) (mvT hZ1 (own_w hw 196 rfl)) (notFace_of_selects (args := #[]) (mvT hZ1 (own_w hw 198 rfl))) (mvT hZ1 (own_w hw 198 rfl)) (mvT hZ1 (own_w hw 197 rfl)) (by decide) (backOf (W := 1) (rmCha l Z a0 hw [] lt1 (1 : Int32) lb1 lk1 (17 : Int32) LB (98 : Int32) cs fm h1 n0 zs1 Le1 Lc1 Lv1 lv f6 f7 hh1 (by decide) (by decide) (by rw [hLB]; rfl) hh0) hZ1 (own_w hw 199 rfl) (own_w hw 6 rfl) (by decide) (by decide)) q11a q11c (g := (mkF m 23 #[oa r0, oa lt1] [(.int (1 : Int32)), (.ref lt1), (.int (own_ca (98 : Int32)))])) rfl (by rw [hml]; rfl) (Steps.refl _) (argsL := [(.int (1 : Int32))]) (rest := [(.int (own_ca (98 : Int32)))]) (lenOf own_pd31 rfl) rfl (Nat.le_of_eq rfl) (hb hby d42_23) (fun _ _ => ⟨rfl, e10, (by decide : 2 + 0 ≤ _), (by decide : 72 + 0 ≤ _)⟩)
  dsimp only [Pt.U, Pt.locs, Pt.cells, Pt.slots] at X11 l11 y11 z11 st11 hQ11
  subst l11 y11 z11
  obtain ⟨rfl, N11q, e11⟩ := hQ11
  have N11 := Fr.app N10 N11q
  obtain ⟨Lv11, X11, N11⟩ := own_hide X11 (Nat.le_refl 2) (Nat.le_refl 72) N11
  refine own_h T11 (mkF m 31 #[oa r0, oa lt1] [(.int (2 : Int32)), (.ref r0)]) (fun _ k => st11.trans (XS.icmpNo X11.here hx rfl (hb hby d42_26) rfl (XT.ii_ne_f (rfl : (own_ca (98 : Int32)) = (own_ca (98 : Int32)))) (XS.aloadN X11.here hx rfl (hb hby d42_29) rfl rfl (XS.iconst X11.here hx rfl (hb hby d42_30) k)))) ?_
  obtain ⟨cq12, kq12, q12a, q12b, q12c⟩ := isOf hZ1 e11 f2
  obtain ⟨_, _, ⟨T12, L12, k12, n12⟩, -, X12, ⟨Lc12, hQ12, l12, y12, z12⟩, st12⟩ := X11.virtualBack hx (y := (⟨"java/lang/String", "charAt", "(I)C"⟩ : MethodName)) (z := (⟨"java/lang/String", "charAt", "(I)C"⟩ : MethodName)) hown1 (mvT hZ1 (own_w hw 195 rfl)) (mvT hZ1 (own_w hw 196 rfl)) (notFace_of_selects (args := #[]) (mvT hZ1 (own_w hw 198 rfl))) (mvT hZ1 (own_w hw 198 rfl)) (mvT hZ1 (own_w hw 197 rfl)) (by decide) (backOf (W := 0) (rmCha l Z a0 hw [] r0 (2 : Int32) d1 kd z1 LA (106 : Int32) cs fm h1 n0 zs1 f2 f3 f4 la f6 f7 hh1 (by decide) (own_lt16 hh2 (by decide)) (by rw [hLA]; rfl) hh0) hZ1 (own_w hw 199 rfl) (own_w hw 6 rfl) (by decide) (by decide)) q12a q12c (g := (mkF m 31 #[oa r0, oa lt1] [(.int (2 : Int32)), (.ref r0)])) rfl (by rw [hml]; rfl) (Steps.refl _) (argsL := [(.int (2 : Int32))]) (rest := []) (lenOf own_pd31 rfl) rfl (Nat.le_of_eq rfl) (hb hby d42_31) (fun _ _ => ⟨rfl, e11, (by decide : 2 + 0 ≤ _), (by decide : 72 + 0 ≤ _)⟩)
  dsimp only [Pt.U, Pt.locs, Pt.cells, Pt.slots] at X12 l12 y12 z12 st12 hQ12
  subst l12 y12 z12
  obtain ⟨rfl, N12q, e12⟩ := hQ12
  have N12 := Fr.app N11 N12q
  obtain ⟨Lv12, X12, N12⟩ := own_hide X12 (Nat.le_refl 2) (Nat.le_refl 72) N12
  refine own_h T12 (mkF m 36 #[oa r0, oa lt1] [(.int (2 : Int32)), (.ref lt1), (.int (own_ca (106 : Int32)))]) (fun _ k => st12.trans (XS.aloadN X12.here hx rfl (hb hby d42_34) rfl rfl (XS.iconst X12.here hx rfl (hb hby d42_35) k))) ?_
  obtain ⟨cq13, kq13, q13a, q13b, q13c⟩ := isOf hZ1 e12 Le1
  obtain ⟨_, _, ⟨T13, L13, k13, n13⟩, -, X13, ⟨Lc13, hQ13, l13, y13, z13⟩, st13⟩ := X12.virtualBack hx (y := (⟨"java/lang/String", "charAt", "(I)C"⟩ : MethodName)) (z := (⟨"java/lang/String", "charAt", "(I)C"⟩ : MethodName)) hown1 (mvT hZ1 (own_w hw 195 rfl)) (mvT hZ1 (own_w hw 196 rfl)) (notFace_of_selects (args := #[]) (mvT hZ1 (own_w hw 198 rfl))) (mvT hZ1 (own_w hw 198 rfl)) (mvT hZ1 (own_w hw 197 rfl)) (by decide) (backOf (W := 1) (rmCha l Z a0 hw [] lt1 (2 : Int32) lb1 lk1 (17 : Int32) LB (106 : Int32) cs fm h1 n0 zs1 Le1 Lc1 Lv1 lv f6 f7 hh1 (by decide) (by decide) (by rw [hLB]; rfl) hh0) hZ1 (own_w hw 199 rfl) (own_w hw 6 rfl) (by decide) (by decide)) q13a q13c (g := (mkF m 36 #[oa r0, oa lt1] [(.int (2 : Int32)), (.ref lt1), (.int (own_ca (106 : Int32)))])) rfl (by rw [hml]; rfl) (Steps.refl _) (argsL := [(.int (2 : Int32))]) (rest := [(.int (own_ca (106 : Int32)))]) (lenOf own_pd31 rfl) rfl (Nat.le_of_eq rfl) (hb hby d42_36) (fun _ _ => ⟨rfl, e12, (by decide : 2 + 0 ≤ _), (by decide : 72 + 0 ≤ _)⟩)
  dsimp only [Pt.U, Pt.locs, Pt.cells, Pt.slots] at X13 l13 y13 z13 st13 hQ13
  subst l13 y13 z13
  obtain ⟨rfl, N13q, e13⟩ := hQ13
  have N13 := Fr.app N12 N13q
  obtain ⟨Lv13, X13, N13⟩ := own_hide X13 (Nat.le_refl 2) (Nat.le_refl 72) N13
  refine own_h T13 (mkF m 44 #[oa r0, oa lt1] [(.int (3 : Int32)), (.ref r0)]) (fun _ k => st13.trans (XS.icmpNo X13.here hx rfl (hb hby d42_39) rfl (XT.ii_ne_f (rfl : (own_ca (106 : Int32)) = (own_ca (106 : Int32)))) (XS.aloadN X13.here hx rfl (hb hby d42_42) rfl rfl (XS.iconst X13.here hx rfl (hb hby d42_43) k)))) ?_
  obtain ⟨cq14, kq14, q14a, q14b, q14c⟩ := isOf hZ1 e13 f2
  obtain ⟨_, _, ⟨T14, L14, k14, n14⟩, -, X14, ⟨Lc14, hQ14, l14, y14, z14⟩, st14⟩ := X13.virtualBack hx (y := (⟨"java/lang/String", "charAt", "(I)C"⟩ : MethodName)) (z := (⟨"java/lang/String", "charAt", "(I)C"⟩ : MethodName)) hown1 (mvT hZ1 (own_w hw 195 rfl)) (mvT hZ1 (own_w hw 196 rfl)) (notFace_of_selects (args := #[]) (mvT hZ1 (own_w hw 198 rfl))) (mvT hZ1 (own_w hw 198 rfl)) (mvT hZ1 (own_w hw 197 rfl)) (by decide) (backOf (W := 0) (rmCha l Z a0 hw [] r0 (3 : Int32) d1 kd z1 LA (101 : Int32) cs fm h1 n0 zs1 f2 f3 f4 la f6 f7 hh1 (by decide) (own_lt16 hh2 (by decide)) (by rw [hLA]; rfl) hh0) hZ1 (own_w hw 199 rfl) (own_w hw 6 rfl) (by decide) (by decide)) q14a q14c (g := (mkF m 44 #[oa r0, oa lt1] [(.int (3 : Int32)), (.ref r0)])) rfl (by rw [hml]; rfl) (Steps.refl _) (argsL := [(.int (3 : Int32))]) (rest := []) (lenOf own_pd31 rfl) rfl (Nat.le_of_eq rfl) (hb hby d42_44) (fun _ _ => ⟨rfl, e13, (by decide : 2 + 0 ≤ _), (by decide : 72 + 0 ≤ _)⟩)
  dsimp only [Pt.U, Pt.locs, Pt.cells, Pt.slots] at X14 l14 y14 z14 st14 hQ14
  subst l14 y14 z14
  obtain ⟨rfl, N14q, e14⟩ := hQ14
  have N14 := Fr.app N13 N14q
  obtain ⟨Lv14, X14, N14⟩ := own_hide X14 (Nat.le_refl 2) (Nat.le_refl 72) N14
  refine own_h T14 (mkF m 49 #[oa r0, oa lt1] [(.int (3 : Int32)), (.ref lt1), (.int (own_ca (101 : Int32)))]) (fun _ k => st14.trans (XS.aloadN X14.here hx rfl (hb hby d42_47) rfl rfl (XS.iconst X14.here hx rfl (hb hby d42_48) k))) ?_
  obtain ⟨cq15, kq15, q15a, q15b, q15c⟩ := isOf hZ1 e14 Le1
  obtain ⟨_, _, ⟨T15, L15, k15, n15⟩, -, X15, ⟨Lc15, hQ15, l15, y15, z15⟩, st15⟩ := X14.virtualBack hx (y := (⟨"java/lang/String", "charAt", "(I)C"⟩ : MethodName)) (z := (⟨"java/lang/String", "charAt", "(I)C"⟩ : MethodName)) hown1 (mvT hZ1 (own_w hw 195 rfl)) (mvT hZ1 (own_w hw 196 rfl)) (notFace_of_selects (args := #[]) (mvT hZ1 (own_w hw 198 rfl))) (mvT hZ1 (own_w hw 198 rfl)) (mvT hZ1 (own_w hw 197 rfl)) (by decide) (backOf (W := 1) (rmCha l Z a0 hw [] lt1 (3 : Int32) lb1 lk1 (17 : Int32) LB (101 : Int32) cs fm h1 n0 zs1 Le1 Lc1 Lv1 lv f6 f7 hh1 (by decide) (by decide) (by rw [hLB]; rfl) hh0) hZ1 (own_w hw 199 rfl) (own_w hw 6 rfl) (by decide) (by decide)) q15a q15c (g := (mkF m 49 #[oa r0, oa lt1] [(.int (3 : Int32)), (.ref lt1), (.int (own_ca (101 : Int32)))])) rfl (by rw [hml]; rfl) (Steps.refl _) (argsL := [(.int (3 : Int32))]) (rest := [(.int (own_ca (101 : Int32)))]) (lenOf own_pd31 rfl) rfl (Nat.le_of_eq rfl) (hb hby d42_49) (fun _ _ => ⟨rfl, e14, (by decide : 2 + 0 ≤ _), (by decide : 72 + 0 ≤ _)⟩)
  dsimp only [Pt.U, Pt.locs, Pt.cells, Pt.slots] at X15 l15 y15 z15 st15 hQ15
  subst l15 y15 z15
  obtain ⟨rfl, N15q, e15⟩ := hQ15
  have N15 := Fr.app N14 N15q
  obtain ⟨Lv15, X15, N15⟩ := own_hide X15 (Nat.le_refl 2) (Nat.le_refl 72) N15
  refine own_h T15 (mkF m 57 #[oa r0, oa lt1] [(.int (4 : Int32)), (.ref r0)]) (fun _ k => st15.trans (XS.icmpNo X15.here hx rfl (hb hby d42_52) rfl (XT.ii_ne_f (rfl : (own_ca (101 : Int32)) = (own_ca (101 : Int32)))) (XS.aloadN X15.here hx rfl (hb hby d42_55) rfl rfl (XS.iconst X15.here hx rfl (hb hby d42_56) k)))) ?_
  obtain ⟨cq16, kq16, q16a, q16b, q16c⟩ := isOf hZ1 e15 f2
  obtain ⟨_, _, ⟨T16, L16, k16, n16⟩, -, X16, ⟨Lc16, hQ16, l16, y16, z16⟩, st16⟩ := X15.virtualBack hx (y := (⟨"java/lang/String", "charAt", "(I)C"⟩ : MethodName)) (z := (⟨"java/lang/String", "charAt", "(I)C"⟩ : MethodName)) hown1 (mvT hZ1 (own_w hw 195 rfl)) (mvT hZ1 (own_w hw 196 rfl)) (notFace_of_selects (args := #[]) (mvT hZ1 (own_w hw 198 rfl))) (mvT hZ1 (own_w hw 198 rfl)) (mvT hZ1 (own_w hw 197 rfl)) (by decide) (backOf (W := 0) (rmCha l Z a0 hw [] r0 (4 : Int32) d1 kd z1 LA (99 : Int32) cs fm h1 n0 zs1 f2 f3 f4 la f6 f7 hh1 (by decide) (own_lt16 hh2 (by decide)) (by rw [hLA]; rfl) hh0) hZ1 (own_w hw 199 rfl) (own_w hw 6 rfl) (by decide) (by decide)) q16a q16c (g := (mkF m 57 #[oa r0, oa lt1] [(.int (4 : Int32)), (.ref r0)])) rfl (by rw [hml]; rfl) (Steps.refl _) (argsL := [(.int (4 : Int32))]) (rest := []) (lenOf own_pd31 rfl) rfl (Nat.le_of_eq rfl) (hb hby d42_57) (fun _ _ => ⟨rfl, e15, (by decide : 2 + 0 ≤ _), (by decide : 72 + 0 ≤ _)⟩)
  dsimp only [Pt.U, Pt.locs, Pt.cells, Pt.slots] at X16 l16 y16 z16 st16 hQ16
  subst l16 y16 z16
  obtain ⟨rfl, N16q, e16⟩ := hQ16
  have N16 := Fr.app N15 N16q
  obtain ⟨Lv16, X16, N16⟩ := own_hide X16 (Nat.le_refl 2) (Nat.le_refl 72) N16
  refine own_h T16 (mkF m 62 #[oa r0, oa lt1] [(.int (4 : Int32)), (.ref lt1), (.int (own_ca (99 : Int32)))]) (fun _ k => st16.trans (XS.aloadN X16.here hx rfl (hb hby d42_60) rfl rfl (XS.iconst X16.here hx rfl (hb hby d42_61) k))) ?_
  obtain ⟨cq17, kq17, q17a, q17b, q17c⟩ := isOf hZ1 e16 Le1
  obtain ⟨_, _, ⟨T17, L17, k17, n17⟩, -, X17, ⟨Lc17, hQ17, l17, y17, z17⟩, st17⟩ := X16.virtualBack hx (y := (⟨"java/lang/String", "charAt", "(I)C"⟩ : MethodName)) (z := (⟨"java/lang/String", "charAt", "(I)C"⟩ : MethodName)) hown1 (mvT hZ1 (own_w hw 195 rfl)) (mvT hZ1 (own_w hw 196 rfl)) (notFace_of_selects (args := #[]) (mvT hZ1 (own_w hw 198 rfl))) (mvT hZ1 (own_w hw 198 rfl)) (mvT hZ1 (own_w hw 197 rfl)) (by decide) (backOf (W := 1) (rmCha l Z a0 hw [] lt1 (4 : Int32) lb1 lk1 (17 : Int32) LB (99 : Int32) cs fm h1 n0 zs1 Le1 Lc1 Lv1 lv f6 f7 hh1 (by decide) (by decide) (by rw [hLB]; rfl) hh0) hZ1 (own_w hw 199 rfl) (own_w hw 6 rfl) (by decide) (by decide)) q17a q17c (g := (mkF m 62 #[oa r0, oa lt1] [(.int (4 : Int32)), (.ref lt1), (.int (own_ca (99 : Int32)))])) rfl (by rw [hml]; rfl) (Steps.refl _) (argsL := [(.int (4 : Int32))]) (rest := [(.int (own_ca (99 : Int32)))]) (lenOf own_pd31 rfl) rfl (Nat.le_of_eq rfl) (hb hby d42_62) (fun _ _ => ⟨rfl, e16, (by decide : 2 + 0 ≤ _), (by decide : 72 + 0 ≤ _)⟩)
  dsimp only [Pt.U, Pt.locs, Pt.cells, Pt.slots] at X17 l17 y17 z17 st17 hQ17
  subst l17 y17 z17
  obtain ⟨rfl, N17q, e17⟩ := hQ17
  have N17 := Fr.app N16 N17q
  obtain ⟨Lv17, X17, N17⟩ := own_hide X17 (Nat.le_refl 2) (Nat.le_refl 72) N17
  refine own_h T17 (mkF m 70 #[oa r0, oa lt1] [(.int (5 : Int32)), (.ref r0)]) (fun _ k => st17.trans (XS.icmpNo X17.here hx rfl (hb hby d42_65) rfl (XT.ii_ne_f (rfl : (own_ca (99 : Int32)) = (own_ca (99 : Int32)))) (XS.aloadN X17.here hx rfl (hb hby d42_68) rfl rfl (XS.iconst X17.here hx rfl (hb hby d42_69) k)))) ?_
  obtain ⟨cq18, kq18, q18a, q18b, q18c⟩ := isOf hZ1 e17 f2
  obtain ⟨_, _, ⟨T18, L18, k18, n18⟩, -, X18, ⟨Lc18, hQ18, l18, y18, z18⟩, st18⟩ := X17.virtualBack hx (y := (⟨"java/lang/String", "charAt", "(I)C"⟩ : MethodName)) (z := (⟨"java/lang/String", "charAt", "(I)C"⟩ : MethodName)) hown1 (mvT hZ1 (own_w hw 195 rfl)) (mvT hZ1 (own_w hw 196 rfl)) (notFace_of_selects (args := #[]) (mvT hZ1 (own_w hw 198 rfl))) (mvT hZ1 (own_w hw 198 rfl)) (mvT hZ1 (own_w hw 197 rfl)) (by decide) (backOf (W := 0) (rmCha l Z a0 hw [] r0 (5 : Int32) d1 kd z1 LA (116 : Int32) cs fm h1 n0 zs1 f2 f3 f4 la f6 f7 hh1 (by decide) (own_lt16 hh2 (by decide)) (by rw [hLA]; rfl) hh0) hZ1 (own_w hw 199 rfl) (own_w hw 6 rfl) (by decide) (by decide)) q18a q18c (g := (mkF m 70 #[oa r0, oa lt1] [(.int (5 : Int32)), (.ref r0)])) rfl (by rw [hml]; rfl) (Steps.refl _) (argsL := [(.int (5 : Int32))]) (rest := []) (lenOf own_pd31 rfl) rfl (Nat.le_of_eq rfl) (hb hby d42_70) (fun _ _ => ⟨rfl, e17, (by decide : 2 + 0 ≤ _), (by decide : 72 + 0 ≤ _)⟩)
  dsimp only [Pt.U, Pt.locs, Pt.cells, Pt.slots] at X18 l18 y18 z18 st18 hQ18
  subst l18 y18 z18
  obtain ⟨rfl, N18q, e18⟩ := hQ18
  have N18 := Fr.app N17 N18q
  obtain ⟨Lv18, X18, N18⟩ := own_hide X18 (Nat.le_refl 2) (Nat.le_refl 72) N18
  refine own_h T18 (mkF m 75 #[oa r0, oa lt1] [(.int (5 : Int32)), (.ref lt1), (.int (own_ca (116 : Int32)))]) (fun _ k => st18.trans (XS.aloadN X18.here hx rfl (hb hby d42_73) rfl rfl (XS.iconst X18.here hx rfl (hb hby d42_74) k))) ?_
  obtain ⟨cq19, kq19, q19a, q19b, q19c⟩ := isOf hZ1 e18 Le1
  obtain ⟨_, _, ⟨T19, L19, k19, n19⟩, -, X19, ⟨Lc19, hQ19, l19, y19, z19⟩, st19⟩ := X18.virtualBack hx (y := (⟨"java/lang/String", "charAt", "(I)C"⟩ : MethodName)) (z := (⟨"java/lang/String", "charAt", "(I)C"⟩ : MethodName)) hown1 (mvT hZ1 (own_w hw 195 rfl)) (mvT hZ1 (own_w hw 196 rfl)) (notFace_of_selects (args := #[]) (mvT hZ1 (own_w hw 198 rfl))) (mvT hZ1 (own_w hw 198 rfl)) (mvT hZ1 (own_w hw 197 rfl)) (by decide) (backOf (W := 1) (rmCha l Z a0 hw [] lt1 (5 : Int32) lb1 lk1 (17 : Int32) LB (116 : Int32) cs fm h1 n0 zs1 Le1 Lc1 Lv1 lv f6 f7 hh1 (by decide) (by decide) (by rw [hLB]; rfl) hh0) hZ1 (own_w hw 199 rfl) (own_w hw 6 rfl) (by decide) (by decide)) q19a q19c (g := (mkF m 75 #[oa r0, oa lt1] [(.int (5 : Int32)), (.ref lt1), (.int (own_ca (116 : Int32)))])) rfl (by rw [hml]; rfl) (Steps.refl _) (argsL := [(.int (5 : Int32))]) (rest := [(.int (own_ca (116 : Int32)))]) (lenOf own_pd31 rfl) rfl (Nat.le_of_eq rfl) (hb hby d42_75) (fun _ _ => ⟨rfl, e18, (by decide : 2 + 0 ≤ _), (by decide : 72 + 0 ≤ _)⟩)
  dsimp only [Pt.U, Pt.locs, Pt.cells, Pt.slots] at X19 l19 y19 z19 st19 hQ19
  subst l19 y19 z19
  obtain ⟨rfl, N19q, e19⟩ := hQ19
  have N19 := Fr.app N18 N19q
  obtain ⟨Lv19, X19, N19⟩ := own_hide X19 (Nat.le_refl 2) (Nat.le_refl 72) N19
  refine own_h T19 (mkF m 84 #[oa r0, oa lt1] [(.int (6 : Int32)), (.ref r0)]) (fun _ k => st19.trans (XS.icmpNo X19.here hx rfl (hb hby d42_78) rfl (XT.ii_ne_f (rfl : (own_ca (116 : Int32)) = (own_ca (116 : Int32)))) (XS.aloadN X19.here hx rfl (hb hby d42_81) rfl rfl (XS.bipush X19.here hx rfl (hb hby d42_82) k)))) ?_
  obtain ⟨cq20, kq20, q20a, q20b, q20c⟩ := isOf hZ1 e19 f2
  obtain ⟨_, _, ⟨T20, L20, k20, n20⟩, -, X20, ⟨Lc20, hQ20, l20, y20, z20⟩, st20⟩ := X19.virtualBack hx (y := (⟨"java/lang/String", "charAt", "(I)C"⟩ : MethodName)) (z := (⟨"java/lang/String", "charAt", "(I)C"⟩ : MethodName)) hown1 (mvT hZ1 (own_w hw 195 rfl)) (mvT hZ1 (own_w hw 196 rfl)) (notFace_of_selects (args := #[]) (mvT hZ1 (own_w hw 198 rfl))) (mvT hZ1 (own_w hw 198 rfl)) (mvT hZ1 (own_w hw 197 rfl)) (by decide) (backOf (W := 0) (rmCha l Z a0 hw [] r0 (6 : Int32) d1 kd z1 LA (73 : Int32) cs fm h1 n0 zs1 f2 f3 f4 la f6 f7 hh1 (by decide) (own_lt16 hh2 (by decide)) (by rw [hLA]; rfl) hh0) hZ1 (own_w hw 199 rfl) (own_w hw 6 rfl) (by decide) (by decide)) q20a q20c (g := (mkF m 84 #[oa r0, oa lt1] [(.int (6 : Int32)), (.ref r0)])) rfl (by rw [hml]; rfl) (Steps.refl _) (argsL := [(.int (6 : Int32))]) (rest := []) (lenOf own_pd31 rfl) rfl (Nat.le_of_eq rfl) (hb hby d42_84) (fun _ _ => ⟨rfl, e19, (by decide : 2 + 0 ≤ _), (by decide : 72 + 0 ≤ _)⟩)
  dsimp only [Pt.U, Pt.locs, Pt.cells, Pt.slots] at X20 l20 y20 z20 st20 hQ20
  subst l20 y20 z20
  obtain ⟨rfl, N20q, e20⟩ := hQ20
  have N20 := Fr.app N19 N20q
  obtain ⟨Lv20, X20, N20⟩ := own_hide X20 (Nat.le_refl 2) (Nat.le_refl 72) N20
  refine own_h T20 (mkF m 90 #[oa r0, oa lt1] [(.int (6 : Int32)), (.ref lt1), (.int (own_ca (73 : Int32)))]) (fun _ k => st20.trans (XS.aloadN X20.here hx rfl (hb hby d42_87) rfl rfl (XS.bipush X20.here hx rfl (hb hby d42_88) k))) ?_
  obtain ⟨cq21, kq21, q21a, q21b, q21c⟩ := isOf hZ1 e20 Le1
  obtain ⟨_, _, ⟨T21, L21, k21, n21⟩, -, X21, ⟨Lc21, hQ21, l21, y21, z21⟩, st21⟩ := X20.virtualBack hx (y := (⟨"java/lang/String", "charAt", "(I)C"⟩ : MethodName)) (z := (⟨"java/lang/String", "charAt", "(I)C"⟩ : MethodName)) hown1 (mvT hZ1 (own_w hw 195 rfl)) (mvT hZ1 (own_w hw 196 rfl)) (notFace_of_selects (args := #[]) (mvT hZ1 (own_w hw 198 rfl))) (mvT hZ1 (own_w hw 198 rfl)) (mvT hZ1 (own_w hw 197 rfl)) (by decide) (backOf (W := 1) (rmCha l Z a0 hw [] lt1 (6 : Int32) lb1 lk1 (17 : Int32) LB (73 : Int32) cs fm h1 n0 zs1 Le1 Lc1 Lv1 lv f6 f7 hh1 (by decide) (by decide) (by rw [hLB]; rfl) hh0) hZ1 (own_w hw 199 rfl) (own_w hw 6 rfl) (by decide) (by decide)) q21a q21c (g := (mkF m 90 #[oa r0, oa lt1] [(.int (6 : Int32)), (.ref lt1), (.int (own_ca (73 : Int32)))])) rfl (by rw [hml]; rfl) (Steps.refl _) (argsL := [(.int (6 : Int32))]) (rest := [(.int (own_ca (73 : Int32)))]) (lenOf own_pd31 rfl) rfl (Nat.le_of_eq rfl) (hb hby d42_90) (fun _ _ => ⟨rfl, e20, (by decide : 2 + 0 ≤ _), (by decide : 72 + 0 ≤ _)⟩)
  dsimp only [Pt.U, Pt.locs, Pt.cells, Pt.slots] at X21 l21 y21 z21 st21 hQ21
  subst l21 y21 z21
  obtain ⟨rfl, N21q, e21⟩ := hQ21
  have N21 := Fr.app N20 N21q
  obtain ⟨Lv21, X21, N21⟩ := own_hide X21 (Nat.le_refl 2) (Nat.le_refl 72) N21
  refine own_h T21 (mkF m 99 #[oa r0, oa lt1] [(.int (7 : Int32)), (.ref r0)]) (fun _ k => st21.trans (XS.icmpNo X21.here hx rfl (hb hby d42_93) rfl (XT.ii_ne_f (rfl : (own_ca (73 : Int32)) = (own_ca (73 : Int32)))) (XS.aloadN X21.here hx rfl (hb hby d42_96) rfl rfl (XS.bipush X21.here hx rfl (hb hby d42_97) k)))) ?_
  obtain ⟨cq22, kq22, q22a, q22b, q22c⟩ := isOf hZ1 e21 f2
  obtain ⟨_, _, ⟨T22, L22, k22, n22⟩, -, X22, ⟨Lc22, hQ22, l22, y22, z22⟩, st22⟩ := X21.virtualBack hx (y := (⟨"java/lang/String", "charAt", "(I)C"⟩ : MethodName)) (z := (⟨"java/lang/String", "charAt", "(I)C"⟩ : MethodName)) hown1 (mvT hZ1 (own_w hw 195 rfl)) (mvT hZ1 (own_w hw 196 rfl)) (notFace_of_selects (args := #[]) (mvT hZ1 (own_w hw 198 rfl))) (mvT hZ1 (own_w hw 198 rfl)) (mvT hZ1 (own_w hw 197 rfl)) (by decide) (backOf (W := 0) (rmCha l Z a0 hw [] r0 (7 : Int32) d1 kd z1 LA (110 : Int32) cs fm h1 n0 zs1 f2 f3 f4 la f6 f7 hh1 (by decide) (own_lt16 hh2 (by decide)) (by rw [hLA]; rfl) hh0) hZ1 (own_w hw 199 rfl) (own_w hw 6 rfl) (by decide) (by decide)) q22a q22c (g := (mkF m 99 #[oa r0, oa lt1] [(.int (7 : Int32)), (.ref r0)])) rfl (by rw [hml]; rfl) (Steps.refl _) (argsL := [(.int (7 : Int32))]) (rest := []) (lenOf own_pd31 rfl) rfl (Nat.le_of_eq rfl) (hb hby d42_99) (fun _ _ => ⟨rfl, e21, (by decide : 2 + 0 ≤ _), (by decide : 72 + 0 ≤ _)⟩)
  dsimp only [Pt.U, Pt.locs, Pt.cells, Pt.slots] at X22 l22 y22 z22 st22 hQ22
  subst l22 y22 z22
  obtain ⟨rfl, N22q, e22⟩ := hQ22
  have N22 := Fr.app N21 N22q
  obtain ⟨Lv22, X22, N22⟩ := own_hide X22 (Nat.le_refl 2) (Nat.le_refl 72) N22
  refine own_h T22 (mkF m 105 #[oa r0, oa lt1] [(.int (7 : Int32)), (.ref lt1), (.int (own_ca (110 : Int32)))]) (fun _ k => st22.trans (XS.aloadN X22.here hx rfl (hb hby d42_102) rfl rfl (XS.bipush X22.here hx rfl (hb hby d42_103) k))) ?_
  obtain ⟨cq23, kq23, q23a, q23b, q23c⟩ := isOf hZ1 e22 Le1
  obtain ⟨_, _, ⟨T23, L23, k23, n23⟩, -, X23, ⟨Lc23, hQ23, l23, y23, z23⟩, st23⟩ := X22.virtualBack hx (y := (⟨"java/lang/String", "charAt", "(I)C"⟩ : MethodName)) (z := (⟨"java/lang/String", "charAt", "(I)C"⟩ : MethodName)) hown1 (mvT hZ1 (own_w hw 195 rfl)) (mvT hZ1 (own_w hw 196 rfl)) (notFace_of_selects (args := #[]) (mvT hZ1 (own_w hw 198 rfl))) (mvT hZ1 (own_w hw 198 rfl)) (mvT hZ1 (own_w hw 197 rfl)) (by decide) (backOf (W := 1) (rmCha l Z a0 hw [] lt1 (7 : Int32) lb1 lk1 (17 : Int32) LB (110 : Int32) cs fm h1 n0 zs1 Le1 Lc1 Lv1 lv f6 f7 hh1 (by decide) (by decide) (by rw [hLB]; rfl) hh0) hZ1 (own_w hw 199 rfl) (own_w hw 6 rfl) (by decide) (by decide)) q23a q23c (g := (mkF m 105 #[oa r0, oa lt1] [(.int (7 : Int32)), (.ref lt1), (.int (own_ca (110 : Int32)))])) rfl (by rw [hml]; rfl) (Steps.refl _) (argsL := [(.int (7 : Int32))]) (rest := [(.int (own_ca (110 : Int32)))]) (lenOf own_pd31 rfl) rfl (Nat.le_of_eq rfl) (hb hby d42_105) (fun _ _ => ⟨rfl, e22, (by decide : 2 + 0 ≤ _), (by decide : 72 + 0 ≤ _)⟩)
  dsimp only [Pt.U, Pt.locs, Pt.cells, Pt.slots] at X23 l23 y23 z23 st23 hQ23
  subst l23 y23 z23
  obtain ⟨rfl, N23q, e23⟩ := hQ23
  have N23 := Fr.app N22 N23q
  obtain ⟨Lv23, X23, N23⟩ := own_hide X23 (Nat.le_refl 2) (Nat.le_refl 72) N23
  refine own_h T23 (mkF m 114 #[oa r0, oa lt1] [(.int (8 : Int32)), (.ref r0)]) (fun _ k => st23.trans (XS.icmpNo X23.here hx rfl (hb hby d42_108) rfl (XT.ii_ne_f (rfl : (own_ca (110 : Int32)) = (own_ca (110 : Int32)))) (XS.aloadN X23.here hx rfl (hb hby d42_111) rfl rfl (XS.bipush X23.here hx rfl (hb hby d42_112) k)))) ?_
  obtain ⟨cq24, kq24, q24a, q24b, q24c⟩ := isOf hZ1 e23 f2
  obtain ⟨_, _, ⟨T24, L24, k24, n24⟩, -, X24, ⟨Lc24, hQ24, l24, y24, z24⟩, st24⟩ := X23.virtualBack hx (y := (⟨"java/lang/String", "charAt", "(I)C"⟩ : MethodName)) (z := (⟨"java/lang/String", "charAt", "(I)C"⟩ : MethodName)) hown1 (mvT hZ1 (own_w hw 195 rfl)) (mvT hZ1 (own_w hw 196 rfl)) (notFace_of_selects (args := #[]) (mvT hZ1 (own_w hw 198 rfl))) (mvT hZ1 (own_w hw 198 rfl)) (mvT hZ1 (own_w hw 197 rfl)) (by decide) (backOf (W := 0) (rmCha l Z a0 hw [] r0 (8 : Int32) d1 kd z1 LA (118 : Int32) cs fm h1 n0 zs1 f2 f3 f4 la f6 f7 hh1 (by decide) (own_lt16 hh2 (by decide)) (by rw [hLA]; rfl) hh0) hZ1 (own_w hw 199 rfl) (own_w hw 6 rfl) (by decide) (by decide)) q24a q24c (g := (mkF m 114 #[oa r0, oa lt1] [(.int (8 : Int32)), (.ref r0)])) rfl (by rw [hml]; rfl) (Steps.refl _) (argsL := [(.int (8 : Int32))]) (rest := []) (lenOf own_pd31 rfl) rfl (Nat.le_of_eq rfl) (hb hby d42_114) (fun _ _ => ⟨rfl, e23, (by decide : 2 + 0 ≤ _), (by decide : 72 + 0 ≤ _)⟩)
  dsimp only [Pt.U, Pt.locs, Pt.cells, Pt.slots] at X24 l24 y24 z24 st24 hQ24
  subst l24 y24 z24
  obtain ⟨rfl, N24q, e24⟩ := hQ24
  have N24 := Fr.app N23 N24q
  obtain ⟨Lv24, X24, N24⟩ := own_hide X24 (Nat.le_refl 2) (Nat.le_refl 72) N24
  refine own_h T24 (mkF m 120 #[oa r0, oa lt1] [(.int (8 : Int32)), (.ref lt1), (.int (own_ca (118 : Int32)))]) (fun _ k => st24.trans (XS.aloadN X24.here hx rfl (hb hby d42_117) rfl rfl (XS.bipush X24.here hx rfl (hb hby d42_118) k))) ?_
  obtain ⟨cq25, kq25, q25a, q25b, q25c⟩ := isOf hZ1 e24 Le1
  obtain ⟨_, _, ⟨T25, L25, k25, n25⟩, -, X25, ⟨Lc25, hQ25, l25, y25, z25⟩, st25⟩ := X24.virtualBack hx (y := (⟨"java/lang/String", "charAt", "(I)C"⟩ : MethodName)) (z := (⟨"java/lang/String", "charAt", "(I)C"⟩ : MethodName)) hown1 (mvT hZ1 (own_w hw 195 rfl)) (mvT hZ1 (own_w hw 196 rfl)) (notFace_of_selects (args := #[]) (mvT hZ1 (own_w hw 198 rfl))) (mvT hZ1 (own_w hw 198 rfl)) (mvT hZ1 (own_w hw 197 rfl)) (by decide) (backOf (W := 1) (rmCha l Z a0 hw [] lt1 (8 : Int32) lb1 lk1 (17 : Int32) LB (118 : Int32) cs fm h1 n0 zs1 Le1 Lc1 Lv1 lv f6 f7 hh1 (by decide) (by decide) (by rw [hLB]; rfl) hh0) hZ1 (own_w hw 199 rfl) (own_w hw 6 rfl) (by decide) (by decide)) q25a q25c (g := (mkF m 120 #[oa r0, oa lt1] [(.int (8 : Int32)), (.ref lt1), (.int (own_ca (118 : Int32)))])) rfl (by rw [hml]; rfl) (Steps.refl _) (argsL := [(.int (8 : Int32))]) (rest := [(.int (own_ca (118 : Int32)))]) (lenOf own_pd31 rfl) rfl (Nat.le_of_eq rfl) (hb hby d42_120) (fun _ _ => ⟨rfl, e24, (by decide : 2 + 0 ≤ _), (by decide : 72 + 0 ≤ _)⟩)
  dsimp only [Pt.U, Pt.locs, Pt.cells, Pt.slots] at X25 l25 y25 z25 st25 hQ25
  subst l25 y25 z25
  obtain ⟨rfl, N25q, e25⟩ := hQ25
  have N25 := Fr.app N24 N25q
  obtain ⟨Lv25, X25, N25⟩ := own_hide X25 (Nat.le_refl 2) (Nat.le_refl 72) N25
  refine own_h T25 (mkF m 129 #[oa r0, oa lt1] [(.int (9 : Int32)), (.ref r0)]) (fun _ k => st25.trans (XS.icmpNo X25.here hx rfl (hb hby d42_123) rfl (XT.ii_ne_f (rfl : (own_ca (118 : Int32)) = (own_ca (118 : Int32)))) (XS.aloadN X25.here hx rfl (hb hby d42_126) rfl rfl (XS.bipush X25.here hx rfl (hb hby d42_127) k)))) ?_
  obtain ⟨cq26, kq26, q26a, q26b, q26c⟩ := isOf hZ1 e25 f2
  obtain ⟨_, _, ⟨T26, L26, k26, n26⟩, -, X26, ⟨Lc26, hQ26, l26, y26, z26⟩, st26⟩ := X25.virtualBack hx (y := (⟨"java/lang/String", "charAt", "(I)C"⟩ : MethodName)) (z := (⟨"java/lang/String", "charAt", "(I)C"⟩ : MethodName)) hown1 (mvT hZ1 (own_w hw 195 rfl)) (mvT hZ1 (own_w hw 196 rfl)) (notFace_of_selects (args := #[]) (mvT hZ1 (own_w hw 198 rfl))) (mvT hZ1 (own_w hw 198 rfl)) (mvT hZ1 (own_w hw 197 rfl)) (by decide) (backOf (W := 0) (rmCha l Z a0 hw [] r0 (9 : Int32) d1 kd z1 LA (101 : Int32) cs fm h1 n0 zs1 f2 f3 f4 la f6 f7 hh1 (by decide) (own_lt16 hh2 (by decide)) (by rw [hLA]; rfl) hh0) hZ1 (own_w hw 199 rfl) (own_w hw 6 rfl) (by decide) (by decide)) q26a q26c (g := (mkF m 129 #[oa r0, oa lt1] [(.int (9 : Int32)), (.ref r0)])) rfl (by rw [hml]; rfl) (Steps.refl _) (argsL := [(.int (9 : Int32))]) (rest := []) (lenOf own_pd31 rfl) rfl (Nat.le_of_eq rfl) (hb hby d42_129) (fun _ _ => ⟨rfl, e25, (by decide : 2 + 0 ≤ _), (by decide : 72 + 0 ≤ _)⟩)
  dsimp only [Pt.U, Pt.locs, Pt.cells, Pt.slots] at X26 l26 y26 z26 st26 hQ26
  subst l26 y26 z26
  obtain ⟨rfl, N26q, e26⟩ := hQ26
  have N26 := Fr.app N25 N26q
  obtain ⟨Lv26, X26, N26⟩ := own_hide X26 (Nat.le_refl 2) (Nat.le_refl 72) N26
  refine own_h T26 (mkF m 135 #[oa r0, oa lt1] [(.int (9 : Int32)), (.ref lt1), (.int (own_ca (101 : Int32)))]) (fun _ k => st26.trans (XS.aloadN X26.here hx rfl (hb hby d42_132) rfl rfl (XS.bipush X26.here hx rfl (hb hby d42_133) k))) ?_
  obtain ⟨cq27, kq27, q27a, q27b, q27c⟩ := isOf hZ1 e26 Le1
  obtain ⟨_, _, ⟨T27, L27, k27, n27⟩, -, X27, ⟨Lc27, hQ27, l27, y27, z27⟩, st27⟩ := X26.virtualBack hx (y := (⟨"java/lang/String", "charAt", "(I)C"⟩ : MethodName)) (z := (⟨"java/lang/String", "charAt", "(I)C"⟩ : MethodName)) hown1 (mvT hZ1 (own_w hw 195 rfl)) (mvT hZ1 (own_w hw 196 rfl)) (notFace_of_selects (args := #[]) (mvT hZ1 (own_w hw 198 rfl))) (mvT hZ1 (own_w hw 198 rfl)) (mvT hZ1 (own_w hw 197 rfl)) (by decide) (backOf (W := 1) (rmCha l Z a0 hw [] lt1 (9 : Int32) lb1 lk1 (17 : Int32) LB (101 : Int32) cs fm h1 n0 zs1 Le1 Lc1 Lv1 lv f6 f7 hh1 (by decide) (by decide) (by rw [hLB]; rfl) hh0) hZ1 (own_w hw 199 rfl) (own_w hw 6 rfl) (by decide) (by decide)) q27a q27c (g := (mkF m 135 #[oa r0, oa lt1] [(.int (9 : Int32)), (.ref lt1), (.int (own_ca (101 : Int32)))])) rfl (by rw [hml]; rfl) (Steps.refl _) (argsL := [(.int (9 : Int32))]) (rest := [(.int (own_ca (101 : Int32)))]) (lenOf own_pd31 rfl) rfl (Nat.le_of_eq rfl) (hb hby d42_135) (fun _ _ => ⟨rfl, e26, (by decide : 2 + 0 ≤ _), (by decide : 72 + 0 ≤ _)⟩)
  dsimp only [Pt.U, Pt.locs, Pt.cells, Pt.slots] at X27 l27 y27 z27 st27 hQ27
  subst l27 y27 z27
  obtain ⟨rfl, N27q, e27⟩ := hQ27
  have N27 := Fr.app N26 N27q
  obtain ⟨Lv27, X27, N27⟩ := own_hide X27 (Nat.le_refl 2) (Nat.le_refl 72) N27
  refine own_h T27 (mkF m 144 #[oa r0, oa lt1] [(.int (10 : Int32)), (.ref r0)]) (fun _ k => st27.trans (XS.icmpNo X27.here hx rfl (hb hby d42_138) rfl (XT.ii_ne_f (rfl : (own_ca (101 : Int32)) = (own_ca (101 : Int32)))) (XS.aloadN X27.here hx rfl (hb hby d42_141) rfl rfl (XS.bipush X27.here hx rfl (hb hby d42_142) k)))) ?_
  obtain ⟨cq28, kq28, q28a, q28b, q28c⟩ := isOf hZ1 e27 f2
  obtain ⟨_, _, ⟨T28, L28, k28, n28⟩, -, X28, ⟨Lc28, hQ28, l28, y28, z28⟩, st28⟩ := X27.virtualBack hx (y := (⟨"java/lang/String", "charAt", "(I)C"⟩ : MethodName)) (z := (⟨"java/lang/String", "charAt", "(I)C"⟩ : MethodName)) hown1 (mvT hZ1 (own_w hw 195 rfl)) (mvT hZ1 (own_w hw 196 rfl)) (notFace_of_selects (args := #[]) (mvT hZ1 (own_w hw 198 rfl))) (mvT hZ1 (own_w hw 198 rfl)) (mvT hZ1 (own_w hw 197 rfl)) (by decide) (backOf (W := 0) (rmCha l Z a0 hw [] r0 (10 : Int32) d1 kd z1 LA (114 : Int32) cs fm h1 n0 zs1 f2 f3 f4 la f6 f7 hh1 (by decide) (own_lt16 hh2 (by decide)) (by rw [hLA]; rfl) hh0) hZ1 (own_w hw 199 rfl) (own_w hw 6 rfl) (by decide) (by decide)) q28a q28c (g := (mkF m 144 #[oa r0, oa lt1] [(.int (10 : Int32)), (.ref r0)])) rfl (by rw [hml]; rfl) (Steps.refl _) (argsL := [(.int (10 : Int32))]) (rest := []) (lenOf own_pd31 rfl) rfl (Nat.le_of_eq rfl) (hb hby d42_144) (fun _ _ => ⟨rfl, e27, (by decide : 2 + 0 ≤ _), (by decide : 72 + 0 ≤ _)⟩)
  dsimp only [Pt.U, Pt.locs, Pt.cells, Pt.slots] at X28 l28 y28 z28 st28 hQ28
  subst l28 y28 z28
  obtain ⟨rfl, N28q, e28⟩ := hQ28
  have N28 := Fr.app N27 N28q
  obtain ⟨Lv28, X28, N28⟩ := own_hide X28 (Nat.le_refl 2) (Nat.le_refl 72) N28
  refine own_h T28 (mkF m 150 #[oa r0, oa lt1] [(.int (10 : Int32)), (.ref lt1), (.int (own_ca (114 : Int32)))]) (fun _ k => st28.trans (XS.aloadN X28.here hx rfl (hb hby d42_147) rfl rfl (XS.bipush X28.here hx rfl (hb hby d42_148) k))) ?_
  obtain ⟨cq29, kq29, q29a, q29b, q29c⟩ := isOf hZ1 e28 Le1
  obtain ⟨_, _, ⟨T29, L29, k29, n29⟩, -, X29, ⟨Lc29, hQ29, l29, y29, z29⟩, st29⟩ := X28.virtualBack hx (y := (⟨"java/lang/String", "charAt", "(I)C"⟩ : MethodName)) (z := (⟨"java/lang/String", "charAt", "(I)C"⟩ : MethodName)) hown1 (mvT hZ1 (own_w hw 195 rfl)) (mvT hZ1 (own_w hw 196 rfl)) (notFace_of_selects (args := #[]) (mvT hZ1 (own_w hw 198 rfl))) (mvT hZ1 (own_w hw 198 rfl)) (mvT hZ1 (own_w hw 197 rfl)) (by decide) (backOf (W := 1) (rmCha l Z a0 hw [] lt1 (10 : Int32) lb1 lk1 (17 : Int32) LB (114 : Int32) cs fm h1 n0 zs1 Le1 Lc1 Lv1 lv f6 f7 hh1 (by decide) (by decide) (by rw [hLB]; rfl) hh0) hZ1 (own_w hw 199 rfl) (own_w hw 6 rfl) (by decide) (by decide)) q29a q29c (g := (mkF m 150 #[oa r0, oa lt1] [(.int (10 : Int32)), (.ref lt1), (.int (own_ca (114 : Int32)))])) rfl (by rw [hml]; rfl) (Steps.refl _) (argsL := [(.int (10 : Int32))]) (rest := [(.int (own_ca (114 : Int32)))]) (lenOf own_pd31 rfl) rfl (Nat.le_of_eq rfl) (hb hby d42_150) (fun _ _ => ⟨rfl, e28, (by decide : 2 + 0 ≤ _), (by decide : 72 + 0 ≤ _)⟩)
  dsimp only [Pt.U, Pt.locs, Pt.cells, Pt.slots] at X29 l29 y29 z29 st29 hQ29
  subst l29 y29 z29
  obtain ⟨rfl, N29q, e29⟩ := hQ29
  have N29 := Fr.app N28 N29q
  obtain ⟨Lv29, X29, N29⟩ := own_hide X29 (Nat.le_refl 2) (Nat.le_refl 72) N29
  refine own_h T29 (mkF m 159 #[oa r0, oa lt1] [(.int (11 : Int32)), (.ref r0)]) (fun _ k => st29.trans (XS.icmpNo X29.here hx rfl (hb hby d42_153) rfl (XT.ii_ne_f (rfl : (own_ca (114 : Int32)) = (own_ca (114 : Int32)))) (XS.aloadN X29.here hx rfl (hb hby d42_156) rfl rfl (XS.bipush X29.here hx rfl (hb hby d42_157) k)))) ?_
  obtain ⟨cq30, kq30, q30a, q30b, q30c⟩ := isOf hZ1 e29 f2
  obtain ⟨_, _, ⟨T30, L30, k30, n30⟩, -, X30, ⟨Lc30, hQ30, l30, y30, z30⟩, st30⟩ := X29.virtualBack hx (y := (⟨"java/lang/String", "charAt", "(I)C"⟩ : MethodName)) (z := (⟨"java/lang/String", "charAt", "(I)C"⟩ : MethodName)) hown1 (mvT hZ1 (own_w hw 195 rfl)) (mvT hZ1 (own_w hw 196 rfl)) (notFace_of_selects (args := #[]) (mvT hZ1 (own_w hw 198 rfl))) (mvT hZ1 (own_w hw 198 rfl)) (mvT hZ1 (own_w hw 197 rfl)) (by decide) (backOf (W := 0) (rmCha l Z a0 hw [] r0 (11 : Int32) d1 kd z1 LA (115 : Int32) cs fm h1 n0 zs1 f2 f3 f4 la f6 f7 hh1 (by decide) (own_lt16 hh2 (by decide)) (by rw [hLA]; rfl) hh0) hZ1 (own_w hw 199 rfl) (own_w hw 6 rfl) (by decide) (by decide)) q30a q30c (g := (mkF m 159 #[oa r0, oa lt1] [(.int (11 : Int32)), (.ref r0)])) rfl (by rw [hml]; rfl) (Steps.refl _) (argsL := [(.int (11 : Int32))]) (rest := []) (lenOf own_pd31 rfl) rfl (Nat.le_of_eq rfl) (hb hby d42_159) (fun _ _ => ⟨rfl, e29, (by decide : 2 + 0 ≤ _), (by decide : 72 + 0 ≤ _)⟩)
  dsimp only [Pt.U, Pt.locs, Pt.cells, Pt.slots] at X30 l30 y30 z30 st30 hQ30
  subst l30 y30 z30
  obtain ⟨rfl, N30q, e30⟩ := hQ30
  have N30 := Fr.app N29 N30q
  obtain ⟨Lv30, X30, N30⟩ := own_hide X30 (Nat.le_refl 2) (Nat.le_refl 72) N30
  refine own_h T30 (mkF m 165 #[oa r0, oa lt1] [(.int (11 : Int32)), (.ref lt1), (.int (own_ca (115 : Int32)))]) (fun _ k => st30.trans (XS.aloadN X30.here hx rfl (hb hby d42_162) rfl rfl (XS.bipush X30.here hx rfl (hb hby d42_163) k))) ?_
  obtain ⟨cq31, kq31, q31a, q31b, q31c⟩ := isOf hZ1 e30 Le1
  obtain ⟨_, _, ⟨T31, L31, k31, n31⟩, -, X31, ⟨Lc31, hQ31, l31, y31, z31⟩, st31⟩ := X30.virtualBack hx (y := (⟨"java/lang/String", "charAt", "(I)C"⟩ : MethodName)) (z := (⟨"java/lang/String", "charAt", "(I)C"⟩ : MethodName)) hown1 (mvT hZ1 (own_w hw 195 rfl)) (mvT hZ1 (own_w hw 196 rfl)) (notFace_of_selects (args := #[]) (mvT hZ1 (own_w hw 198 rfl))) (mvT hZ1 (own_w hw 198 rfl)) (mvT hZ1 (own_w hw 197 rfl)) (by decide) (backOf (W := 1) (rmCha l Z a0 hw [] lt1 (11 : Int32) lb1 lk1 (17 : Int32) LB (115 : Int32) cs fm h1 n0 zs1 Le1 Lc1 Lv1 lv f6 f7 hh1 (by decide) (by decide) (by rw [hLB]; rfl) hh0) hZ1 (own_w hw 199 rfl) (own_w hw 6 rfl) (by decide) (by decide)) q31a q31c (g := (mkF m 165 #[oa r0, oa lt1] [(.int (11 : Int32)), (.ref lt1), (.int (own_ca (115 : Int32)))])) rfl (by rw [hml]; rfl) (Steps.refl _) (argsL := [(.int (11 : Int32))]) (rest := [(.int (own_ca (115 : Int32)))]) (lenOf own_pd31 rfl) rfl (Nat.le_of_eq rfl) (hb hby d42_165) (fun _ _ => ⟨rfl, e30, (by decide : 2 + 0 ≤ _), (by decide : 72 + 0 ≤ _)⟩)
  dsimp only [Pt.U, Pt.locs, Pt.cells, Pt.slots] at X31 l31 y31 z31 st31 hQ31
  subst l31 y31 z31
  obtain ⟨rfl, N31q, e31⟩ := hQ31
  have N31 := Fr.app N30 N31q
  obtain ⟨Lv31, X31, N31⟩ := own_hide X31 (Nat.le_refl 2) (Nat.le_refl 72) N31
  refine own_h T31 (mkF m 174 #[oa r0, oa lt1] [(.int (12 : Int32)), (.ref r0)]) (fun _ k => st31.trans (XS.icmpNo X31.here hx rfl (hb hby d42_168) rfl (XT.ii_ne_f (rfl : (own_ca (115 : Int32)) = (own_ca (115 : Int32)))) (XS.aloadN X31.here hx rfl (hb hby d42_171) rfl rfl (XS.bipush X31.here hx rfl (hb hby d42_172) k)))) ?_
  obtain ⟨cq32, kq32, q32a, q32b, q32c⟩ := isOf hZ1 e31 f2
  obtain ⟨_, _, ⟨T32, L32, k32, n32⟩, -, X32, ⟨Lc32, hQ32, l32, y32, z32⟩, st32⟩ := X31.virtualBack hx (y := (⟨"java/lang/String", "charAt", "(I)C"⟩ : MethodName)) (z := (⟨"java/lang/String", "charAt", "(I)C"⟩ : MethodName)) hown1 (mvT hZ1 (own_w hw 195 rfl)) (mvT hZ1 (own_w hw 196 rfl)) (notFace_of_selects (args := #[]) (mvT hZ1 (own_w hw 198 rfl))) (mvT hZ1 (own_w hw 198 rfl)) (mvT hZ1 (own_w hw 197 rfl)) (by decide) (backOf (W := 0) (rmCha l Z a0 hw [] r0 (12 : Int32) d1 kd z1 LA (101 : Int32) cs fm h1 n0 zs1 f2 f3 f4 la f6 f7 hh1 (by decide) (own_lt16 hh2 (by decide)) (by rw [hLA]; rfl) hh0) hZ1 (own_w hw 199 rfl) (own_w hw 6 rfl) (by decide) (by decide)) q32a q32c (g := (mkF m 174 #[oa r0, oa lt1] [(.int (12 : Int32)), (.ref r0)])) rfl (by rw [hml]; rfl) (Steps.refl _) (argsL := [(.int (12 : Int32))]) (rest := []) (lenOf own_pd31 rfl) rfl (Nat.le_of_eq rfl) (hb hby d42_174) (fun _ _ => ⟨rfl, e31, (by decide : 2 + 0 ≤ _), (by decide : 72 + 0 ≤ _)⟩)
  dsimp only [Pt.U, Pt.locs, Pt.cells, Pt.slots] at X32 l32 y32 z32 st32 hQ32
  subst l32 y32 z32
  obtain ⟨rfl, N32q, e32⟩ := hQ32
  have N32 := Fr.app N31 N32q
  obtain ⟨Lv32, X32, N32⟩ := own_hide X32 (Nat.le_refl 2) (Nat.le_refl 72) N32
  refine own_h T32 (mkF m 180 #[oa r0, oa lt1] [(.int (12 : Int32)), (.ref lt1), (.int (own_ca (101 : Int32)))]) (fun _ k => st32.trans (XS.aloadN X32.here hx rfl (hb hby d42_177) rfl rfl (XS.bipush X32.here hx rfl (hb hby d42_178) k))) ?_
  obtain ⟨cq33, kq33, q33a, q33b, q33c⟩ := isOf hZ1 e32 Le1
  obtain ⟨_, _, ⟨T33, L33, k33, n33⟩, -, X33, ⟨Lc33, hQ33, l33, y33, z33⟩, st33⟩ := X32.virtualBack hx (y := (⟨"java/lang/String", "charAt", "(I)C"⟩ : MethodName)) (z := (⟨"java/lang/String", "charAt", "(I)C"⟩ : MethodName)) hown1 (mvT hZ1 (own_w hw 195 rfl)) (mvT hZ1 (own_w hw 196 rfl)) (notFace_of_selects (args := #[]) (mvT hZ1 (own_w hw 198 rfl))) (mvT hZ1 (own_w hw 198 rfl)) (mvT hZ1 (own_w hw 197 rfl)) (by decide) (backOf (W := 1) (rmCha l Z a0 hw [] lt1 (12 : Int32) lb1 lk1 (17 : Int32) LB (101 : Int32) cs fm h1 n0 zs1 Le1 Lc1 Lv1 lv f6 f7 hh1 (by decide) (by decide) (by rw [hLB]; rfl) hh0) hZ1 (own_w hw 199 rfl) (own_w hw 6 rfl) (by decide) (by decide)) q33a q33c (g := (mkF m 180 #[oa r0, oa lt1] [(.int (12 : Int32)), (.ref lt1), (.int (own_ca (101 : Int32)))])) rfl (by rw [hml]; rfl) (Steps.refl _) (argsL := [(.int (12 : Int32))]) (rest := [(.int (own_ca (101 : Int32)))]) (lenOf own_pd31 rfl) rfl (Nat.le_of_eq rfl) (hb hby d42_180) (fun _ _ => ⟨rfl, e32, (by decide : 2 + 0 ≤ _), (by decide : 72 + 0 ≤ _)⟩)
  dsimp only [Pt.U, Pt.locs, Pt.cells, Pt.slots] at X33 l33 y33 z33 st33 hQ33
  subst l33 y33 z33
  obtain ⟨rfl, N33q, e33⟩ := hQ33
  have N33 := Fr.app N32 N33q
  obtain ⟨Lv33, X33, N33⟩ := own_hide X33 (Nat.le_refl 2) (Nat.le_refl 72) N33
  refine own_h T33 (mkF m 189 #[oa r0, oa lt1] [(.int (13 : Int32)), (.ref r0)]) (fun _ k => st33.trans (XS.icmpNo X33.here hx rfl (hb hby d42_183) rfl (XT.ii_ne_f (rfl : (own_ca (101 : Int32)) = (own_ca (101 : Int32)))) (XS.aloadN X33.here hx rfl (hb hby d42_186) rfl rfl (XS.bipush X33.here hx rfl (hb hby d42_187) k)))) ?_
  obtain ⟨cq34, kq34, q34a, q34b, q34c⟩ := isOf hZ1 e33 f2
  obtain ⟨_, _, ⟨T34, L34, k34, n34⟩, -, X34, ⟨Lc34, hQ34, l34, y34, z34⟩, st34⟩ := X33.virtualBack hx (y := (⟨"java/lang/String", "charAt", "(I)C"⟩ : MethodName)) (z := (⟨"java/lang/String", "charAt", "(I)C"⟩ : MethodName)) hown1 (mvT hZ1 (own_w hw 195 rfl)) (mvT hZ1 (own_w hw 196 rfl)) (notFace_of_selects (args := #[]) (mvT hZ1 (own_w hw 198 rfl))) (mvT hZ1 (own_w hw 198 rfl)) (mvT hZ1 (own_w hw 197 rfl)) (by decide) (backOf (W := 0) (rmCha l Z a0 hw [] r0 (13 : Int32) d1 kd z1 LA (79 : Int32) cs fm h1 n0 zs1 f2 f3 f4 la f6 f7 hh1 (by decide) (own_lt16 hh2 (by decide)) (by rw [hLA]; rfl) hh0) hZ1 (own_w hw 199 rfl) (own_w hw 6 rfl) (by decide) (by decide)) q34a q34c (g := (mkF m 189 #[oa r0, oa lt1] [(.int (13 : Int32)), (.ref r0)])) rfl (by rw [hml]; rfl) (Steps.refl _) (argsL := [(.int (13 : Int32))]) (rest := []) (lenOf own_pd31 rfl) rfl (Nat.le_of_eq rfl) (hb hby d42_189) (fun _ _ => ⟨rfl, e33, (by decide : 2 + 0 ≤ _), (by decide : 72 + 0 ≤ _)⟩)
  dsimp only [Pt.U, Pt.locs, Pt.cells, Pt.slots] at X34 l34 y34 z34 st34 hQ34
  subst l34 y34 z34
  obtain ⟨rfl, N34q, e34⟩ := hQ34
  have N34 := Fr.app N33 N34q
  obtain ⟨Lv34, X34, N34⟩ := own_hide X34 (Nat.le_refl 2) (Nat.le_refl 72) N34
  refine own_h T34 (mkF m 195 #[oa r0, oa lt1] [(.int (13 : Int32)), (.ref lt1), (.int (own_ca (79 : Int32)))]) (fun _ k => st34.trans (XS.aloadN X34.here hx rfl (hb hby d42_192) rfl rfl (XS.bipush X34.here hx rfl (hb hby d42_193) k))) ?_
  obtain ⟨cq35, kq35, q35a, q35b, q35c⟩ := isOf hZ1 e34 Le1
  obtain ⟨_, _, ⟨T35, L35, k35, n35⟩, -, X35, ⟨Lc35, hQ35, l35, y35, z35⟩, st35⟩ := X34.virtualBack hx (y := (⟨"java/lang/String", "charAt", "(I)C"⟩ : MethodName)) (z := (⟨"java/lang/String", "charAt", "(I)C"⟩ : MethodName)) hown1 (mvT hZ1 (own_w hw 195 rfl)) (mvT hZ1 (own_w hw 196 rfl)) (notFace_of_selects (args := #[]) (mvT hZ1 (own_w hw 198 rfl))) (mvT hZ1 (own_w hw 198 rfl)) (mvT hZ1 (own_w hw 197 rfl)) (by decide) (backOf (W := 1) (rmCha l Z a0 hw [] lt1 (13 : Int32) lb1 lk1 (17 : Int32) LB (79 : Int32) cs fm h1 n0 zs1 Le1 Lc1 Lv1 lv f6 f7 hh1 (by decide) (by decide) (by rw [hLB]; rfl) hh0) hZ1 (own_w hw 199 rfl) (own_w hw 6 rfl) (by decide) (by decide)) q35a q35c (g := (mkF m 195 #[oa r0, oa lt1] [(.int (13 : Int32)), (.ref lt1), (.int (own_ca (79 : Int32)))])) rfl (by rw [hml]; rfl) (Steps.refl _) (argsL := [(.int (13 : Int32))]) (rest := [(.int (own_ca (79 : Int32)))]) (lenOf own_pd31 rfl) rfl (Nat.le_of_eq rfl) (hb hby d42_195) (fun _ _ => ⟨rfl, e34, (by decide : 2 + 0 ≤ _), (by decide : 72 + 0 ≤ _)⟩)
  dsimp only [Pt.U, Pt.locs, Pt.cells, Pt.slots] at X35 l35 y35 z35 st35 hQ35
  subst l35 y35 z35
  obtain ⟨rfl, N35q, e35⟩ := hQ35
  have N35 := Fr.app N34 N35q
  obtain ⟨Lv35, X35, N35⟩ := own_hide X35 (Nat.le_refl 2) (Nat.le_refl 72) N35
  refine own_h T35 (mkF m 204 #[oa r0, oa lt1] [(.int (14 : Int32)), (.ref r0)]) (fun _ k => st35.trans (XS.icmpNo X35.here hx rfl (hb hby d42_198) rfl (XT.ii_ne_f (rfl : (own_ca (79 : Int32)) = (own_ca (79 : Int32)))) (XS.aloadN X35.here hx rfl (hb hby d42_201) rfl rfl (XS.bipush X35.here hx rfl (hb hby d42_202) k)))) ?_
  obtain ⟨cq36, kq36, q36a, q36b, q36c⟩ := isOf hZ1 e35 f2
  obtain ⟨_, _, ⟨T36, L36, k36, n36⟩, -, X36, ⟨Lc36, hQ36, l36, y36, z36⟩, st36⟩ := X35.virtualBack hx (y := (⟨"java/lang/String", "charAt", "(I)C"⟩ : MethodName)) (z := (⟨"java/lang/String", "charAt", "(I)C"⟩ : MethodName)) hown1 (mvT hZ1 (own_w hw 195 rfl)) (mvT hZ1 (own_w hw 196 rfl)) (notFace_of_selects (args := #[]) (mvT hZ1 (own_w hw 198 rfl))) (mvT hZ1 (own_w hw 198 rfl)) (mvT hZ1 (own_w hw 197 rfl)) (by decide) (backOf (W := 0) (rmCha l Z a0 hw [] r0 (14 : Int32) d1 kd z1 LA (102 : Int32) cs fm h1 n0 zs1 f2 f3 f4 la f6 f7 hh1 (by decide) (own_lt16 hh2 (by decide)) (by rw [hLA]; rfl) hh0) hZ1 (own_w hw 199 rfl) (own_w hw 6 rfl) (by decide) (by decide)) q36a q36c (g := (mkF m 204 #[oa r0, oa lt1] [(.int (14 : Int32)), (.ref r0)])) rfl (by rw [hml]; rfl) (Steps.refl _) (argsL := [(.int (14 : Int32))]) (rest := []) (lenOf own_pd31 rfl) rfl (Nat.le_of_eq rfl) (hb hby d42_204) (fun _ _ => ⟨rfl, e35, (by decide : 2 + 0 ≤ _), (by decide : 72 + 0 ≤ _)⟩)
  dsimp only [Pt.U, Pt.locs, Pt.cells, Pt.slots] at X36 l36 y36 z36 st36 hQ36
  subst l36 y36 z36
  obtain ⟨rfl, N36q, e36⟩ := hQ36
  have N36 := Fr.app N35 N36q
  obtain ⟨Lv36, X36, N36⟩ := own_hide X36 (Nat.le_refl 2) (Nat.le_refl 72) N36
  refine own_h T36 (mkF m 210 #[oa r0, oa lt1] [(.int (14 : Int32)), (.ref lt1), (.int (own_ca (102 : Int32)))]) (fun _ k => st36.trans (XS.aloadN X36.here hx rfl (hb hby d42_207) rfl rfl (XS.bipush X36.here hx rfl (hb hby d42_208) k))) ?_
  obtain ⟨cq37, kq37, q37a, q37b, q37c⟩ := isOf hZ1 e36 Le1
  obtain ⟨_, _, ⟨T37, L37, k37, n37⟩, -, X37, ⟨Lc37, hQ37, l37, y37, z37⟩, st37⟩ := X36.virtualBack hx (y := (⟨"java/lang/String", "charAt", "(I)C"⟩ : MethodName)) (z := (⟨"java/lang/String", "charAt", "(I)C"⟩ : MethodName)) hown1 (mvT hZ1 (own_w hw 195 rfl)) (mvT hZ1 (own_w hw 196 rfl)) (notFace_of_selects (args := #[]) (mvT hZ1 (own_w hw 198 rfl))) (mvT hZ1 (own_w hw 198 rfl)) (mvT hZ1 (own_w hw 197 rfl)) (by decide) (backOf (W := 1) (rmCha l Z a0 hw [] lt1 (14 : Int32) lb1 lk1 (17 : Int32) LB (102 : Int32) cs fm h1 n0 zs1 Le1 Lc1 Lv1 lv f6 f7 hh1 (by decide) (by decide) (by rw [hLB]; rfl) hh0) hZ1 (own_w hw 199 rfl) (own_w hw 6 rfl) (by decide) (by decide)) q37a q37c (g := (mkF m 210 #[oa r0, oa lt1] [(.int (14 : Int32)), (.ref lt1), (.int (own_ca (102 : Int32)))])) rfl (by rw [hml]; rfl) (Steps.refl _) (argsL := [(.int (14 : Int32))]) (rest := [(.int (own_ca (102 : Int32)))]) (lenOf own_pd31 rfl) rfl (Nat.le_of_eq rfl) (hb hby d42_210) (fun _ _ => ⟨rfl, e36, (by decide : 2 + 0 ≤ _), (by decide : 72 + 0 ≤ _)⟩)
  dsimp only [Pt.U, Pt.locs, Pt.cells, Pt.slots] at X37 l37 y37 z37 st37 hQ37
  subst l37 y37 z37
  obtain ⟨rfl, N37q, e37⟩ := hQ37
  have N37 := Fr.app N36 N37q
  obtain ⟨Lv37, X37, N37⟩ := own_hide X37 (Nat.le_refl 2) (Nat.le_refl 72) N37
  refine own_h T37 (mkF m 219 #[oa r0, oa lt1] [(.int (15 : Int32)), (.ref r0)]) (fun _ k => st37.trans (XS.icmpNo X37.here hx rfl (hb hby d42_213) rfl (XT.ii_ne_f (rfl : (own_ca (102 : Int32)) = (own_ca (102 : Int32)))) (XS.aloadN X37.here hx rfl (hb hby d42_216) rfl rfl (XS.bipush X37.here hx rfl (hb hby d42_217) k)))) ?_
  obtain ⟨cq38, kq38, q38a, q38b, q38c⟩ := isOf hZ1 e37 f2
  obtain ⟨_, _, ⟨T38, L38, k38, n38⟩, -, X38, ⟨Lc38, hQ38, l38, y38, z38⟩, st38⟩ := X37.virtualBack hx (y := (⟨"java/lang/String", "charAt", "(I)C"⟩ : MethodName)) (z := (⟨"java/lang/String", "charAt", "(I)C"⟩ : MethodName)) hown1 (mvT hZ1 (own_w hw 195 rfl)) (mvT hZ1 (own_w hw 196 rfl)) (notFace_of_selects (args := #[]) (mvT hZ1 (own_w hw 198 rfl))) (mvT hZ1 (own_w hw 198 rfl)) (mvT hZ1 (own_w hw 197 rfl)) (by decide) (backOf (W := 0) (rmCha l Z a0 hw [] r0 (15 : Int32) d1 kd z1 LA (40 : Int32) cs fm h1 n0 zs1 f2 f3 f4 la f6 f7 hh1 (by decide) (own_lt16 hh2 (by decide)) (by rw [hLA]; rfl) hh0) hZ1 (own_w hw 199 rfl) (own_w hw 6 rfl) (by decide) (by decide)) q38a q38c (g := (mkF m 219 #[oa r0, oa lt1] [(.int (15 : Int32)), (.ref r0)])) rfl (by rw [hml]; rfl) (Steps.refl _) (argsL := [(.int (15 : Int32))]) (rest := []) (lenOf own_pd31 rfl) rfl (Nat.le_of_eq rfl) (hb hby d42_219) (fun _ _ => ⟨rfl, e37, (by decide : 2 + 0 ≤ _), (by decide : 72 + 0 ≤ _)⟩)
  dsimp only [Pt.U, Pt.locs, Pt.cells, Pt.slots] at X38 l38 y38 z38 st38 hQ38
  subst l38 y38 z38
  obtain ⟨rfl, N38q, e38⟩ := hQ38
  have N38 := Fr.app N37 N38q
  obtain ⟨Lv38, X38, N38⟩ := own_hide X38 (Nat.le_refl 2) (Nat.le_refl 72) N38
  refine own_h T38 (mkF m 225 #[oa r0, oa lt1] [(.int (15 : Int32)), (.ref lt1), (.int (own_ca (40 : Int32)))]) (fun _ k => st38.trans (XS.aloadN X38.here hx rfl (hb hby d42_222) rfl rfl (XS.bipush X38.here hx rfl (hb hby d42_223) k))) ?_
  obtain ⟨cq39, kq39, q39a, q39b, q39c⟩ := isOf hZ1 e38 Le1
  obtain ⟨_, _, ⟨T39, L39, k39, n39⟩, -, X39, ⟨Lc39, hQ39, l39, y39, z39⟩, st39⟩ := X38.virtualBack hx (y := (⟨"java/lang/String", "charAt", "(I)C"⟩ : MethodName)) (z := (⟨"java/lang/String", "charAt", "(I)C"⟩ : MethodName)) hown1 (mvT hZ1 (own_w hw 195 rfl)) (mvT hZ1 (own_w hw 196 rfl)) (notFace_of_selects (args := #[]) (mvT hZ1 (own_w hw 198 rfl))) (mvT hZ1 (own_w hw 198 rfl)) (mvT hZ1 (own_w hw 197 rfl)) (by decide) (backOf (W := 1) (rmCha l Z a0 hw [] lt1 (15 : Int32) lb1 lk1 (17 : Int32) LB (40 : Int32) cs fm h1 n0 zs1 Le1 Lc1 Lv1 lv f6 f7 hh1 (by decide) (by decide) (by rw [hLB]; rfl) hh0) hZ1 (own_w hw 199 rfl) (own_w hw 6 rfl) (by decide) (by decide)) q39a q39c (g := (mkF m 225 #[oa r0, oa lt1] [(.int (15 : Int32)), (.ref lt1), (.int (own_ca (40 : Int32)))])) rfl (by rw [hml]; rfl) (Steps.refl _) (argsL := [(.int (15 : Int32))]) (rest := [(.int (own_ca (40 : Int32)))]) (lenOf own_pd31 rfl) rfl (Nat.le_of_eq rfl) (hb hby d42_225) (fun _ _ => ⟨rfl, e38, (by decide : 2 + 0 ≤ _), (by decide : 72 + 0 ≤ _)⟩)
  dsimp only [Pt.U, Pt.locs, Pt.cells, Pt.slots] at X39 l39 y39 z39 st39 hQ39
  subst l39 y39 z39
  obtain ⟨rfl, N39q, e39⟩ := hQ39
  have N39 := Fr.app N38 N39q
  obtain ⟨Lv39, X39, N39⟩ := own_hide X39 (Nat.le_refl 2) (Nat.le_refl 72) N39
  refine own_h T39 (mkF m 234 #[oa r0, oa lt1] [(.int (16 : Int32)), (.ref r0)]) (fun _ k => st39.trans (XS.icmpNo X39.here hx rfl (hb hby d42_228) rfl (XT.ii_ne_f (rfl : (own_ca (40 : Int32)) = (own_ca (40 : Int32)))) (XS.aloadN X39.here hx rfl (hb hby d42_231) rfl rfl (XS.bipush X39.here hx rfl (hb hby d42_232) k)))) ?_
  obtain ⟨cq40, kq40, q40a, q40b, q40c⟩ := isOf hZ1 e39 f2
  obtain ⟨_, _, ⟨T40, L40, k40, n40⟩, -, X40, ⟨Lc40, hQ40, l40, y40, z40⟩, st40⟩ := X39.virtualBack hx (y := (⟨"java/lang/String", "charAt", "(I)C"⟩ : MethodName)) (z := (⟨"java/lang/String", "charAt", "(I)C"⟩ : MethodName)) hown1 (mvT hZ1 (own_w hw 195 rfl)) (mvT hZ1 (own_w hw 196 rfl)) (notFace_of_selects (args := #[]) (mvT hZ1 (own_w hw 198 rfl))) (mvT hZ1 (own_w hw 198 rfl)) (mvT hZ1 (own_w hw 197 rfl)) (by decide) (backOf (W := 0) (rmCha l Z a0 hw [] r0 (16 : Int32) d1 kd z1 LA (60 : Int32) cs fm h1 n0 zs1 f2 f3 f4 la f6 f7 hh1 (by decide) (own_lt16 hh2 (by decide)) (by rw [hLA]; rfl) hh0) hZ1 (own_w hw 199 rfl) (own_w hw 6 rfl) (by decide) (by decide)) q40a q40c (g := (mkF m 234 #[oa r0, oa lt1] [(.int (16 : Int32)), (.ref r0)])) rfl (by rw [hml]; rfl) (Steps.refl _) (argsL := [(.int (16 : Int32))]) (rest := []) (lenOf own_pd31 rfl) rfl (Nat.le_of_eq rfl) (hb hby d42_234) (fun _ _ => ⟨rfl, e39, (by decide : 2 + 0 ≤ _), (by decide : 72 + 0 ≤ _)⟩)
  dsimp only [Pt.U, Pt.locs, Pt.cells, Pt.slots] at X40 l40 y40 z40 st40 hQ40
  subst l40 y40 z40
  obtain ⟨rfl, N40q, e40⟩ := hQ40
  have N40 := Fr.app N39 N40q
  obtain ⟨Lv40, X40, N40⟩ := own_hide X40 (Nat.le_refl 2) (Nat.le_refl 72) N40
  refine own_h T40 (mkF m 240 #[oa r0, oa lt1] [(.int (16 : Int32)), (.ref lt1), (.int (own_ca (60 : Int32)))]) (fun _ k => st40.trans (XS.aloadN X40.here hx rfl (hb hby d42_237) rfl rfl (XS.bipush X40.here hx rfl (hb hby d42_238) k))) ?_
  obtain ⟨cq41, kq41, q41a, q41b, q41c⟩ := isOf hZ1 e40 Le1
  obtain ⟨_, _, ⟨T41, L41, k41, n41⟩, -, X41, ⟨Lc41, hQ41, l41, y41, z41⟩, st41⟩ := X40.virtualBack hx (y := (⟨"java/lang/String", "charAt", "(I)C"⟩ : MethodName)) (z := (⟨"java/lang/String", "charAt", "(I)C"⟩ : MethodName)) hown1 (mvT hZ1 (own_w hw 195 rfl)) (mvT hZ1 (own_w hw 196 rfl)) (notFace_of_selects (args := #[]) (mvT hZ1 (own_w hw 198 rfl))) (mvT hZ1 (own_w hw 198 rfl)) (mvT hZ1 (own_w hw 197 rfl)) (by decide) (backOf (W := 1) (rmCha l Z a0 hw [] lt1 (16 : Int32) lb1 lk1 (17 : Int32) LB (60 : Int32) cs fm h1 n0 zs1 Le1 Lc1 Lv1 lv f6 f7 hh1 (by decide) (by decide) (by rw [hLB]; rfl) hh0) hZ1 (own_w hw 199 rfl) (own_w hw 6 rfl) (by decide) (by decide)) q41a q41c (g := (mkF m 240 #[oa r0, oa lt1] [(.int (16 : Int32)), (.ref lt1), (.int (own_ca (60 : Int32)))])) rfl (by rw [hml]; rfl) (Steps.refl _) (argsL := [(.int (16 : Int32))]) (rest := [(.int (own_ca (60 : Int32)))]) (lenOf own_pd31 rfl) rfl (Nat.le_of_eq rfl) (hb hby d42_240) (fun _ _ => ⟨rfl, e40, (by decide : 2 + 0 ≤ _), (by decide : 72 + 0 ≤ _)⟩)
  dsimp only [Pt.U, Pt.locs, Pt.cells, Pt.slots] at X41 l41 y41 z41 st41 hQ41
  subst l41 y41 z41
  obtain ⟨rfl, N41q, e41⟩ := hQ41
  have N41 := Fr.app N40 N41q
  obtain ⟨Lv41, X41, N41⟩ := own_hide X41 (Nat.le_refl 2) (Nat.le_refl 72) N41
  refine own_h T41 (mkF m 251 #[oa r0, oa lt1] [(.int (1 : Int32))]) (fun _ k => st41.trans (XS.icmpNo X41.here hx rfl (hb hby d42_243) rfl (XT.ii_ne_f (rfl : (own_ca (60 : Int32)) = (own_ca (60 : Int32)))) (XS.iconst X41.here hx rfl (hb hby d42_246) (XS.goto X41.here hx rfl (pc0 := 247) (pc' := 251) rfl (hb hby d42_247) (by decide) (by decide) k)))) ?_
  exact own_retNH X41 hS1 hx (t := .boolean) Bd.returns hlk (by simp) (hb hby d42_251) hZ1 (own_EW hw) R1 e41 hk1 ⟨rfl, N41, kk1⟩ (by decide) (by decide)
theorem d36_0 : decode method_4_code 0 = .ok (.iload_n 1, 1) := by decide +kernel
theorem d36_1 : decode method_4_code 1 = .ok (.ifCond .eq 8, 3) := by decide +kernel
theorem d36_9 : decode method_4_code 9 = .ok (.iconst 1, 1) := by decide +kernel
theorem d36_10 : decode method_4_code 10 = .ok (.istore 6, 2) := by decide +kernel
theorem d36_12 : decode method_4_code 12 = .ok (.iload_n 1, 1) := by decide +kernel
theorem d36_13 : decode method_4_code 13 = .ok (.ifCond .eq 10, 3) := by decide +kernel
theorem d36_23 : decode method_4_code 23 = .ok (.iload_n 2, 1) := by decide +kernel
theorem d36_24 : decode method_4_code 24 = .ok (.iconst 2, 1) := by decide +kernel
theorem d36_25 : decode method_4_code 25 = .ok (.iadd, 1) := by decide +kernel
theorem d36_26 : decode method_4_code 26 = .ok (.istore 7, 2) := by decide +kernel
theorem d36_28 : decode method_4_code 28 = .ok (.aload_n 0, 1) := by decide +kernel
theorem d36_29 : decode method_4_code 29 = .ok (.ifnull 12, 3) := by decide +kernel
theorem d36_32 : decode method_4_code 32 = .ok (.aload_n 0, 1) := by decide +kernel
theorem d36_33 : decode method_4_code 33 = .ok (.invokevirtual 39, 3) := by decide +kernel
theorem d36_36 : decode method_4_code 36 = .ok (.iload 7, 2) := by decide +kernel
theorem d36_38 : decode method_4_code 38 = .ok (.if_icmp .eq 5, 3) := by decide +kernel
theorem d36_43 : decode method_4_code 43 = .ok (.iload_n 1, 1) := by decide +kernel
theorem d36_44 : decode method_4_code 44 = .ok (.ifCond .eq 48, 3) := by decide +kernel
theorem d36_92 : decode method_4_code 92 = .ok (.aload_n 0, 1) := by decide +kernel
theorem d36_93 : decode method_4_code 93 = .ok (.iconst 0, 1) := by decide +kernel
theorem d36_94 : decode method_4_code 94 = .ok (.invokevirtual 47, 3) := by decide +kernel
theorem d36_97 : decode method_4_code 97 = .ok (.bipush 60, 2) := by decide +kernel
theorem d36_99 : decode method_4_code 99 = .ok (.if_icmp .ne 19, 3) := by decide +kernel
theorem d36_102 : decode method_4_code 102 = .ok (.aload_n 0, 1) := by decide +kernel
theorem d36_103 : decode method_4_code 103 = .ok (.iload_n 2, 1) := by decide +kernel
theorem d36_104 : decode method_4_code 104 = .ok (.iconst 1, 1) := by decide +kernel
theorem d36_105 : decode method_4_code 105 = .ok (.iadd, 1) := by decide +kernel
theorem d36_106 : decode method_4_code 106 = .ok (.invokevirtual 47, 3) := by decide +kernel
theorem d36_109 : decode method_4_code 109 = .ok (.bipush 62, 2) := by decide +kernel
theorem d36_111 : decode method_4_code 111 = .ok (.if_icmp .ne 7, 3) := by decide +kernel
theorem d36_114 : decode method_4_code 114 = .ok (.iconst 1, 1) := by decide +kernel
theorem d36_115 : decode method_4_code 115 = .ok (.goto 4, 3) := by decide +kernel
theorem d36_119 : decode method_4_code 119 = .ok (.istore 8, 2) := by decide +kernel
theorem d36_121 : decode method_4_code 121 = .ok (.iload_n 2, 1) := by decide +kernel
theorem d36_122 : decode method_4_code 122 = .ok (.iconst 1, 1) := by decide +kernel
theorem d36_123 : decode method_4_code 123 = .ok (.if_icmp .lt 13, 3) := by decide +kernel
theorem d36_126 : decode method_4_code 126 = .ok (.aload_n 0, 1) := by decide +kernel
theorem d36_127 : decode method_4_code 127 = .ok (.iload 6, 2) := by decide +kernel
theorem d36_129 : decode method_4_code 129 = .ok (.invokevirtual 47, 3) := by decide +kernel
theorem d36_132 : decode method_4_code 132 = .ok (.iload_n 3, 1) := by decide +kernel
theorem d36_133 : decode method_4_code 133 = .ok (.if_icmp .ne 43, 3) := by decide +kernel
theorem d36_136 : decode method_4_code 136 = .ok (.iload_n 2, 1) := by decide +kernel
theorem d36_137 : decode method_4_code 137 = .ok (.iconst 2, 1) := by decide +kernel
theorem d36_138 : decode method_4_code 138 = .ok (.if_icmp .lt 16, 3) := by decide +kernel
theorem d36_141 : decode method_4_code 141 = .ok (.aload_n 0, 1) := by decide +kernel
theorem d36_142 : decode method_4_code 142 = .ok (.iload 6, 2) := by decide +kernel
theorem d36_144 : decode method_4_code 144 = .ok (.iconst 1, 1) := by decide +kernel
theorem d36_145 : decode method_4_code 145 = .ok (.iadd, 1) := by decide +kernel
theorem d36_146 : decode method_4_code 146 = .ok (.invokevirtual 47, 3) := by decide +kernel
theorem d36_149 : decode method_4_code 149 = .ok (.iload 4, 2) := by decide +kernel
theorem d36_151 : decode method_4_code 151 = .ok (.if_icmp .ne 25, 3) := by decide +kernel
theorem d36_154 : decode method_4_code 154 = .ok (.iload_n 2, 1) := by decide +kernel
theorem d36_155 : decode method_4_code 155 = .ok (.iconst 3, 1) := by decide +kernel
theorem d36_156 : decode method_4_code 156 = .ok (.if_icmp .lt 16, 3) := by decide +kernel
theorem d36_159 : decode method_4_code 159 = .ok (.aload_n 0, 1) := by decide +kernel
theorem d36_160 : decode method_4_code 160 = .ok (.iload 6, 2) := by decide +kernel
theorem d36_162 : decode method_4_code 162 = .ok (.iconst 2, 1) := by decide +kernel
theorem d36_163 : decode method_4_code 163 = .ok (.iadd, 1) := by decide +kernel
theorem d36_164 : decode method_4_code 164 = .ok (.invokevirtual 47, 3) := by decide +kernel
theorem d36_167 : decode method_4_code 167 = .ok (.iload 5, 2) := by decide +kernel
theorem d36_169 : decode method_4_code 169 = .ok (.if_icmp .ne 7, 3) := by decide +kernel
theorem d36_172 : decode method_4_code 172 = .ok (.iconst 1, 1) := by decide +kernel
theorem d36_173 : decode method_4_code 173 = .ok (.goto 4, 3) := by decide +kernel
theorem d36_177 : decode method_4_code 177 = .ok (.istore 9, 2) := by decide +kernel
theorem d36_179 : decode method_4_code 179 = .ok (.iload 8, 2) := by decide +kernel
theorem d36_181 : decode method_4_code 181 = .ok (.ifCond .eq 12, 3) := by decide +kernel
theorem d36_184 : decode method_4_code 184 = .ok (.iload 9, 2) := by decide +kernel
theorem d36_186 : decode method_4_code 186 = .ok (.ifCond .eq 7, 3) := by decide +kernel
theorem d36_189 : decode method_4_code 189 = .ok (.iconst 1, 1) := by decide +kernel
theorem d36_190 : decode method_4_code 190 = .ok (.goto 4, 3) := by decide +kernel
theorem d36_194 : decode method_4_code 194 = .ok (.ireturn, 1) := by decide +kernel
def Q_rmCkN (Z : State) (r0 : Addr) (p2 : Int32) (p3 : Int32) (p4 : Int32) (p5 : Int32) (d1 : Addr) (kd : ClassId) (z1 : Int32) (us : List Value) (cs : Int32) (fm : Value) (h0 : Heap) (n0 : Nat) (v : Option Value) (h : Heap) (L : List Loc) : Prop := v = some (.int (1 : Int32)) ∧ Fr n0 L ∧ h = h0
theorem ef_rmCkN (m : MethodId) (x0 : Addr) (x1 : Int32) (x2 : Int32) (x3 : Int32) (x4 : Int32) (x5 : Int32) : entryFrame m #[(.ref x0), (.int x1), (.int x2), (.int x3), (.int x4), (.int x5)] 10 = mkF m 0 #[.val (.ref x0), .val (.int x1), .val (.int x2), .val (.int x3), .val (.int x4), .val (.int x5), .unset, .unset, .unset, .unset] [] := by first | (simp [entryFrame, mkF, argsToLocals, Value.category]; done) | rfl
theorem pn_rmCkN : plainName "com/example/cardinal_tableau/cardinaltableau/model/RoleToStringPinLaw" = true := by first | (simp [plainName, overriddenIn]; done) | decide +kernel
set_option maxRecDepth 65536 in
set_option maxHeartbeats 40000000 in
theorem rmCkN (l : Launch) (Z : State) (a0 : Array Value) (hw : ∀ d ∈ tables_1, d.before a0 Z = true) (ws : List Jvm.Cond) (r0 : Addr) (p2 : Int32) (p3 : Int32) (p4 : Int32) (p5 : Int32) (d1 : Addr) (kd : ClassId) (z1 : Int32) (us : List Value) (cs : Int32) (fm : Value) (h0 : Heap) (n0 : Nat) (Z0 : n0 ≤ h0.size) (hp0 : Exa Z h0 r0 "java/lang/String") (hp1 : Fld Z h0 r0 "java/lang/String" "coder" "B" (.int (0 : Int32))) (hp2 : Fld Z h0 r0 "java/lang/String" "value" "[B" (.ref d1)) (hp3 : Arv Z h0 d1 kd .byte (z1 + (2 : Int32)) ((.int (60 : Int32)) :: (us ++ [(.int (62 : Int32))]) : List Value) (.int (0 : Int32))) (hp4 : Sta Z h0 "java/lang/String" "COMPACT_STRINGS" "Z" (.int cs)) (hp5 : Sta Z h0 "jdk/internal/util/Preconditions" "SIOOBE_FORMATTER" "Ljava/util/function/BiFunction;" fm) (hh0 : ¬ cs = (0 : Int32)) (hh1 : fm.isRef = true) (hh2 : own_ok p2 p3 p4 p5 z1 us) :
    MetFree l (⟨"com/example/cardinal_tableau/cardinaltableau/model/RoleToStringPinLaw", "check", "(Ljava/lang/String;ZICCC)Z"⟩ : MethodName) (head1 (Jvm.Cond.code (⟨"com/example/cardinal_tableau/cardinaltableau/model/RoleToStringPinLaw", "check", "(Ljava/lang/String;ZICCC)Z"⟩ : MethodName) method_4_code 10 (some .boolean) :: ws) ({ frames := 4, cells := 0, slots := 0, locals := 53 } : Room)) (fun a U => a = #[(.ref r0), (.int (0 : Int32)), (.int p2), (.int p3), (.int p4), (.int p5)] ∧ Z.Warmed39 U.vm ∧ U.heap = h0) (fun _ _ _ _ _ => True) (fun _ U o U' => ∃ v L, o = .returned v ∧ Q_rmCkN Z r0 p2 p3 p4 p5 d1 kd z1 us cs fm h0 n0 v U'.heap L ∧ FrameEnd U o U' L ({ frames := 4, cells := 0, slots := 0, locals := 53 } : Room).cells ({ frames := 4, cells := 0, slots := 0, locals := 53 } : Room).slots) := by
  refine MetFree.of_bodySF (plainFor_of_name pn_rmCkN) hisR ?_
  intro p e s m args below meth c s₁ Bd hml0 hP hK
  obtain ⟨rfl, hZ, hh⟩ := hP
  have hx := Bd.exec
  have hby := Bd.bytes
  have hml : c.maxLocals = 10 := hml0
  have hown : s.vm.findClass "com/example/cardinal_tableau/cardinaltableau/model/RoleToStringPinLaw" = some m.cls := findClass_of_methodNamed Bd.named
  have hnm := (name_of_methodNamed Bd.named Bd.method).1
  have hlk : meth.locks = false := BodyLoose.notSynchronized Bd
  have X0 : Stand p l e ({ frames := 4, cells := 0, slots := 0, locals := 53 } : Room) s m #[(.ref r0), (.int (0 : Int32)), (.int p2), (.int p3), (.int p4), (.int p5)] below meth c s₁ [] 0 0 := Stand.of_body Bd
  have e0 : s₁.heap = h0 := by rw [← hh, Bd.state]; rfl
  have N0 := Fr.nil n0
  show own_W p e below s (Q_rmCkN Z r0 p2 p3 p4 p5 d1 kd z1 us cs fm h0 n0) 0 0 s₁ (entryFrame m #[(.ref r0), (.int (0 : Int32)), (.int p2), (.int p3), (.int p4), (.int p5)] 10)
  skip
  skip
  refine own_go (T' := s₁) (g' := (mkF m 0 #[oa r0, oi 0, oi p2, oi p3, oi p4, oi p5, .unset, .unset, .unset, .unset] [])) (fun _ k => castTop (ef_rmCkN m r0 (0 : Int32) p2 p3 p4 p5) k) ?_
  rcases hh2 with ⟨rfl, rfl, rfl⟩ | ⟨rfl, rfl, v0, rfl, rfl⟩ | ⟨rfl, rfl, v0, v1, rfl, rfl, rfl⟩ | ⟨rfl, rfl, v0, v1, v2, rfl, rfl, rfl, rfl⟩
  · skip
    obtain ⟨LA, hLA⟩ : ∃ l : List Value, l = [(.int (60 : Int32)), (.int (62 : Int32))] := ⟨_, rfl⟩
    have nv1 : Arv Z h0 d1 kd .byte (2 : Int32) LA (.int (0 : Int32)) := by rw [hLA]; exact hp3
    refine own_g s₁ (mkF m 25 #[oa r0, oi 0, oi 0, oi p3, oi p4, oi p5, oi 1, .unset, .unset, .unset] [(.int (2 : Int32)), (.int (0 : Int32))]) (fun _ k => XS.iloadN X0.here hx rfl (hb hby d36_0) rfl (XS.ifYes X0.here hx rfl (pc0 := 1) (pc' := 9) rfl (hb hby d36_1) rfl (XT.i0_eq_t (rfl : (0 : Int32) = (0 : Int32))) (by decide) (by decide) (XS.iconst X0.here hx rfl (hb hby d36_9) (XS.istore X0.here hx rfl (hb hby d36_10) rfl (l' := #[oa r0, oi 0, oi 0, oi p3, oi p4, oi p5, oi 1, .unset, .unset, .unset]) rfl (XS.iloadN X0.here hx rfl (hb hby d36_12) rfl (XS.ifYes X0.here hx rfl (pc0 := 13) (pc' := 23) rfl (hb hby d36_13) rfl (XT.i0_eq_t (rfl : (0 : Int32) = (0 : Int32))) (by decide) (by decide) (XS.iloadN X0.here hx rfl (hb hby d36_23) rfl (XS.iconst X0.here hx rfl (hb hby d36_24) k)))))))) ?_
    refine own_g s₁ (mkF m 33 #[oa r0, oi 0, oi 0, oi p3, oi p4, oi p5, oi 1, oi 2, .unset, .unset] [(.ref r0)]) (fun _ k => XS.iadd X0.here hx rfl (hb hby d36_25) rfl (XS.istore X0.here hx rfl (hb hby d36_26) rfl (l' := #[oa r0, oi 0, oi 0, oi p3, oi p4, oi p5, oi 1, oi 2, .unset, .unset]) rfl (XS.aloadN X0.here hx rfl (hb hby d36_28) rfl rfl (XS.ifnullNo X0.here hx rfl (hb hby d36_29) rfl (XS.aloadN X0.here hx rfl (hb hby d36_32) rfl rfl k))))) ?_
    obtain ⟨cq2, kq2, q2a, q2b, q2c⟩ := isOf hZ e0 hp0
    obtain ⟨_, _, ⟨T2, L2, k2, n2⟩, -, X2, ⟨Lc2, hQ2, l2, y2, z2⟩, st2⟩ := X0.virtualBack hx (y := (⟨"java/lang/String", "length", "()I"⟩ : MethodName)) (z := (⟨"java/lang/String", "length", "()I"⟩ : MethodName)) hown (mvT hZ (own_w hw 194 rfl)) (mvT hZ (own_w hw 85 rfl)) (notFace_of_selects (args := #[]) (mvT hZ (own_w hw 87 rfl))) (mvT hZ (own_w hw 87 rfl)) (mvT hZ (own_w hw 86 rfl)) (by decide) (backOf (W := 0) (rmLen l Z a0 hw [] r0 d1 kd (2 : Int32) LA cs h0 n0 Z0 hp0 hp1 hp2 nv1 hp4 hh0) hZ (own_w hw 88 rfl) (own_w hw 6 rfl) (by decide) (by decide)) q2a q2c (g := (mkF m 33 #[oa r0, oi 0, oi 0, oi p3, oi p4, oi p5, oi 1, oi 2, .unset, .unset] [(.ref r0)])) rfl (by rw [hml]; rfl) (Steps.refl _) (argsL := []) (rest := []) (lenOf own_pd11 rfl) rfl (Nat.le_of_eq rfl) (hb hby d36_33) (fun _ _ => ⟨rfl, e0, (by decide : 0 + 0 ≤ _), (by decide : 0 + 0 ≤ _)⟩)
    dsimp only [Pt.U, Pt.locs, Pt.cells, Pt.slots] at X2 l2 y2 z2 st2 hQ2
    subst l2 y2 z2
    obtain ⟨rfl, N2q, e2⟩ := hQ2
    have N2 := Fr.app N0 N2q
    obtain ⟨Lv2, X2, N2⟩ := own_hide X2 (Nat.le_refl 0) (Nat.le_refl 0) N2
    refine own_g T2 (mkF m 94 #[oa r0, oi 0, oi 0, oi p3, oi p4, oi p5, oi 1, oi 2, .unset, .unset] [(.int (0 : Int32)), (.ref r0)]) (fun _ k => st2.trans (XS.iload X2.here hx rfl (hb hby d36_36) rfl (XS.icmpYes X2.here hx rfl (pc0 := 38) (pc' := 43) rfl (hb hby d36_38) rfl (XT.ii_eq_t (by decide)) (by decide) (by decide) (XS.iloadN X2.here hx rfl (hb hby d36_43) rfl (XS.ifYes X2.here hx rfl (pc0 := 44) (pc' := 92) rfl (hb hby d36_44) rfl (XT.i0_eq_t (rfl : (0 : Int32) = (0 : Int32))) (by decide) (by decide) (XS.aloadN X2.here hx rfl (hb hby d36_92) rfl rfl (XS.iconst X2.here hx rfl (hb hby d36_93) k))))))) ?_
    obtain ⟨cq3, kq3, q3a, q3b, q3c⟩ := isOf hZ e2 hp0
    obtain ⟨_, _, ⟨T3, L3, k3, n3⟩, -, X3, ⟨Lc3, hQ3, l3, y3, z3⟩, st3⟩ := X2.virtualBack hx (y := (⟨"java/lang/String", "charAt", "(I)C"⟩ : MethodName)) (z := (⟨"java/lang/String", "charAt", "(I)C"⟩ : MethodName)) hown (mvT hZ (own_w hw 195 rfl)) (mvT hZ (own_w hw 196 rfl)) (notFace_of_selects (args := #[]) (mvT hZ (own_w hw 198 rfl))) (mvT hZ (own_w hw 198 rfl)) (mvT hZ (own_w hw 197 rfl)) (by decide) (backOf (W := 0) (rmCha l Z a0 hw [] r0 (0 : Int32) d1 kd (2 : Int32) LA (60 : Int32) cs fm h0 n0 Z0 hp0 hp1 hp2 nv1 hp4 hp5 hh1 (by decide) (by decide) (by rw [hLA]; rfl) hh0) hZ (own_w hw 199 rfl) (own_w hw 6 rfl) (by decide) (by decide)) q3a q3c (g := (mkF m 94 #[oa r0, oi 0, oi 0, oi p3, oi p4, oi p5, oi 1, oi 2, .unset, .unset] [(.int (0 : Int32)), (.ref r0)])) rfl (by rw [hml]; rfl) (Steps.refl _) (argsL := [(.int (0 : Int32))]) (rest := []) (lenOf own_pd31 rfl) rfl (Nat.le_of_eq rfl) (hb hby d36_94) (fun _ _ => ⟨rfl, e2, (by decide : 0 + 0 ≤ _), (by decide : 0 + 0 ≤ _)⟩)
    dsimp only [Pt.U, Pt.locs, Pt.cells, Pt.slots] at X3 l3 y3 z3 st3 hQ3
    subst l3 y3 z3
    obtain ⟨rfl, N3q, e3⟩ := hQ3
    have N3 := Fr.app N2 N3q
    obtain ⟨Lv3, X3, N3⟩ := own_hide X3 (Nat.le_refl 0) (Nat.le_refl 0) N3
    refine own_g T3 (mkF m 106 #[oa r0, oi 0, oi 0, oi p3, oi p4, oi p5, oi 1, oi 2, .unset, .unset] [(.int (1 : Int32)), (.ref r0)]) (fun _ k => st3.trans (XS.bipush X3.here hx rfl (hb hby d36_97) (XS.icmpNo X3.here hx rfl (hb hby d36_99) rfl (XT.ii_ne_f (by decide)) (XS.aloadN X3.here hx rfl (hb hby d36_102) rfl rfl (XS.iloadN X3.here hx rfl (hb hby d36_103) rfl (XS.iconst X3.here hx rfl (hb hby d36_104) (XS.iadd X3.here hx rfl (hb hby d36_105) rfl k))))))) ?_
    obtain ⟨cq4, kq4, q4a, q4b, q4c⟩ := isOf hZ e3 hp0
    obtain ⟨_, _, ⟨T4, L4, k4, n4⟩, -, X4, ⟨Lc4, hQ4, l4, y4, z4⟩, st4⟩ := X3.virtualBack hx (y := (⟨"java/lang/String", "charAt", "(I)C"⟩ : MethodName)) (z := (⟨"java/lang/String", "charAt", "(I)C"⟩ : MethodName)) hown (mvT hZ (own_w hw 195 rfl)) (mvT hZ (own_w hw 196 rfl)) (notFace_of_selects (args := #[]) (mvT hZ (own_w hw 198 rfl))) (mvT hZ (own_w hw 198 rfl)) (mvT hZ (own_w hw 197 rfl)) (by decide) (backOf (W := 0) (rmCha l Z a0 hw [] r0 (1 : Int32) d1 kd (2 : Int32) LA (62 : Int32) cs fm h0 n0 Z0 hp0 hp1 hp2 nv1 hp4 hp5 hh1 (by decide) (by decide) (by rw [hLA]; rfl) hh0) hZ (own_w hw 199 rfl) (own_w hw 6 rfl) (by decide) (by decide)) q4a q4c (g := (mkF m 106 #[oa r0, oi 0, oi 0, oi p3, oi p4, oi p5, oi 1, oi 2, .unset, .unset] [(.int (1 : Int32)), (.ref r0)])) rfl (by rw [hml]; rfl) (Steps.refl _) (argsL := [(.int (1 : Int32))]) (rest := []) (lenOf own_pd31 rfl) rfl (Nat.le_of_eq rfl) (hb hby d36_106) (fun _ _ => ⟨rfl, e3, (by decide : 0 + 0 ≤ _), (by decide : 0 + 0 ≤ _)⟩)
    dsimp only [Pt.U, Pt.locs, Pt.cells, Pt.slots] at X4 l4 y4 z4 st4 hQ4
    subst l4 y4 z4
    obtain ⟨rfl, N4q, e4⟩ := hQ4
    have N4 := Fr.app N3 N4q
    obtain ⟨Lv4, X4, N4⟩ := own_hide X4 (Nat.le_refl 0) (Nat.le_refl 0) N4
    refine own_g T4 (mkF m 123 #[oa r0, oi 0, oi 0, oi p3, oi p4, oi p5, oi 1, oi 2, oi 1, .unset] [(.int (1 : Int32)), (.int (0 : Int32))]) (fun _ k => st4.trans (XS.bipush X4.here hx rfl (hb hby d36_109) (XS.icmpNo X4.here hx rfl (hb hby d36_111) rfl (XT.ii_ne_f (by decide)) (XS.iconst X4.here hx rfl (hb hby d36_114) (XS.goto X4.here hx rfl (pc0 := 115) (pc' := 119) rfl (hb hby d36_115) (by decide) (by decide) (XS.istore X4.here hx rfl (hb hby d36_119) rfl (l' := #[oa r0, oi 0, oi 0, oi p3, oi p4, oi p5, oi 1, oi 2, oi 1, .unset]) rfl (XS.iloadN X4.here hx rfl (hb hby d36_121) rfl (XS.iconst X4.here hx rfl (hb hby d36_122) k)))))))) ?_
    refine own_g T4 (mkF m 173 #[oa r0, oi 0, oi 0, oi p3, oi p4, oi p5, oi 1, oi 2, oi 1, .unset] [(.int (1 : Int32))]) (fun _ k => XS.icmpYes X4.here hx rfl (pc0 := 123) (pc' := 136) rfl (hb hby d36_123) rfl (XT.ii_lt_t (by decide : (0 : Int32) < (1 : Int32))) (by decide) (by decide) (XS.iloadN X4.here hx rfl (hb hby d36_136) rfl (XS.iconst X4.here hx rfl (hb hby d36_137) (XS.icmpYes X4.here hx rfl (pc0 := 138) (pc' := 154) rfl (hb hby d36_138) rfl (XT.ii_lt_t (by decide : (0 : Int32) < (2 : Int32))) (by decide) (by decide) (XS.iloadN X4.here hx rfl (hb hby d36_154) rfl (XS.iconst X4.here hx rfl (hb hby d36_155) (XS.icmpYes X4.here hx rfl (pc0 := 156) (pc' := 172) rfl (hb hby d36_156) rfl (XT.ii_lt_t (by decide : (0 : Int32) < (3 : Int32))) (by decide) (by decide) (XS.iconst X4.here hx rfl (hb hby d36_172) k)))))))) ?_
    refine own_g T4 (mkF m 194 #[oa r0, oi 0, oi 0, oi p3, oi p4, oi p5, oi 1, oi 2, oi 1, oi 1] [(.int (1 : Int32))]) (fun _ k => XS.goto X4.here hx rfl (pc0 := 173) (pc' := 177) rfl (hb hby d36_173) (by decide) (by decide) (XS.istore X4.here hx rfl (hb hby d36_177) rfl (l' := #[oa r0, oi 0, oi 0, oi p3, oi p4, oi p5, oi 1, oi 2, oi 1, oi 1]) rfl (XS.iload X4.here hx rfl (hb hby d36_179) rfl (XS.ifNo X4.here hx rfl (hb hby d36_181) rfl (XT.i0_eq_f (by decide : ¬ ((1 : Int32) = (0 : Int32)))) (XS.iload X4.here hx rfl (hb hby d36_184) rfl (XS.ifNo X4.here hx rfl (hb hby d36_186) rfl (XT.i0_eq_f (by decide : ¬ ((1 : Int32) = (0 : Int32)))) (XS.iconst X4.here hx rfl (hb hby d36_189) (XS.goto X4.here hx rfl (pc0 := 190) (pc' := 194) rfl (hb hby d36_190) (by decide) (by decide) k)))))))) ?_
    exact own_retN X4 hx (t := .boolean) Bd.returns hlk (by simp) (hb hby d36_194) e4 ⟨rfl, N4, rfl⟩ (by decide) (by decide)
  · skip
    obtain ⟨LA, hLA⟩ : ∃ l : List Value, l = [(.int (60 : Int32)), (.int v0), (.int (62 : Int32))] := ⟨_, rfl⟩
    have nv5 : Arv Z h0 d1 kd .byte (3 : Int32) LA (.int (0 : Int32)) := by rw [hLA]; exact hp3
    refine own_g s₁ (mkF m 25 #[oa r0, oi 0, oi 1, .val (.int (own_ca v0)), oi p4, oi p5, oi 1, .unset, .unset, .unset] [(.int (2 : Int32)), (.int (1 : Int32))]) (fun _ k => XS.iloadN X0.here hx rfl (hb hby d36_0) rfl (XS.ifYes X0.here hx rfl (pc0 := 1) (pc' := 9) rfl (hb hby d36_1) rfl (XT.i0_eq_t (rfl : (0 : Int32) = (0 : Int32))) (by decide) (by decide) (XS.iconst X0.here hx rfl (hb hby d36_9) (XS.istore X0.here hx rfl (hb hby d36_10) rfl (l' := #[oa r0, oi 0, oi 1, .val (.int (own_ca v0)), oi p4, oi p5, oi 1, .unset, .unset, .unset]) rfl (XS.iloadN X0.here hx rfl (hb hby d36_12) rfl (XS.ifYes X0.here hx rfl (pc0 := 13) (pc' := 23) rfl (hb hby d36_13) rfl (XT.i0_eq_t (rfl : (0 : Int32) = (0 : Int32))) (by decide) (by decide) (XS.iloadN X0.here hx rfl (hb hby d36_23) rfl (XS.iconst X0.here hx rfl (hb hby d36_24) k)))))))) ?_
    refine own_g s₁ (mkF m 33 #[oa r0, oi 0, oi 1, .val (.int (own_ca v0)), oi p4, oi p5, oi 1, oi 3, .unset, .unset] [(.ref r0)]) (fun _ k => XS.iadd X0.here hx rfl (hb hby d36_25) rfl (XS.istore X0.here hx rfl (hb hby d36_26) rfl (l' := #[oa r0, oi 0, oi 1, .val (.int (own_ca v0)), oi p4, oi p5, oi 1, oi 3, .unset, .unset]) rfl (XS.aloadN X0.here hx rfl (hb hby d36_28) rfl rfl (XS.ifnullNo X0.here hx rfl (hb hby d36_29) rfl (XS.aloadN X0.here hx rfl (hb hby d36_32) rfl rfl k))))) ?_
    obtain ⟨cq6, kq6, q6a, q6b, q6c⟩ := isOf hZ e0 hp0
    obtain ⟨_, _, ⟨T6, L6, k6, n6⟩, -, X6, ⟨Lc6, hQ6, l6, y6, z6⟩, st6⟩ := X0.virtualBack hx (y := (⟨"java/lang/String", "length", "()I"⟩ : MethodName)) (z := (⟨"java/lang/String", "length", "()I"⟩ : MethodName)) hown (mvT hZ (own_w hw 194 rfl)) (mvT hZ (own_w hw 85 rfl)) (notFace_of_selects (args := #[]) (mvT hZ (own_w hw 87 rfl))) (mvT hZ (own_w hw 87 rfl)) (mvT hZ (own_w hw 86 rfl)) (by decide) (backOf (W := 0) (rmLen l Z a0 hw [] r0 d1 kd (3 : Int32) LA cs h0 n0 Z0 hp0 hp1 hp2 nv5 hp4 hh0) hZ (own_w hw 88 rfl) (own_w hw 6 rfl) (by decide) (by decide)) q6a q6c (g := (mkF m 33 #[oa r0, oi 0, oi 1, .val (.int (own_ca v0)), oi p4, oi p5, oi 1, oi 3, .unset, .unset] [(.ref r0)])) rfl (by rw [hml]; rfl) (Steps.refl _) (argsL := []) (rest := []) (lenOf own_pd11 rfl) rfl (Nat.le_of_eq rfl) (hb hby d36_33) (fun _ _ => ⟨rfl, e0, (by decide : 0 + 0 ≤ _), (by decide : 0 + 0 ≤ _)⟩)
    dsimp only [Pt.U, Pt.locs, Pt.cells, Pt.slots] at X6 l6 y6 z6 st6 hQ6
    subst l6 y6 z6
    obtain ⟨rfl, N6q, e6⟩ := hQ6
    have N6 := Fr.app N0 N6q
    obtain ⟨Lv6, X6, N6⟩ := own_hide X6 (Nat.le_refl 0) (Nat.le_refl 0) N6
    refine own_g T6 (mkF m 94 #[oa r0, oi 0, oi 1, .val (.int (own_ca v0)), oi p4, oi p5, oi 1, oi 3, .unset, .unset] [(.int (0 : Int32)), (.ref r0)]) (fun _ k => st6.trans (XS.iload X6.here hx rfl (hb hby d36_36) rfl (XS.icmpYes X6.here hx rfl (pc0 := 38) (pc' := 43) rfl (hb hby d36_38) rfl (XT.ii_eq_t (by decide)) (by decide) (by decide) (XS.iloadN X6.here hx rfl (hb hby d36_43) rfl (XS.ifYes X6.here hx rfl (pc0 := 44) (pc' := 92) rfl (hb hby d36_44) rfl (XT.i0_eq_t (rfl : (0 : Int32) = (0 : Int32))) (by decide) (by decide) (XS.aloadN X6.here hx rfl (hb hby d36_92) rfl rfl (XS.iconst X6.here hx rfl (hb hby d36_93) k))))))) ?_
    obtain ⟨cq7, kq7, q7a, q7b, q7c⟩ := isOf hZ e6 hp0
    obtain ⟨_, _, ⟨T7, L7, k7, n7⟩, -, X7, ⟨Lc7, hQ7, l7, y7, z7⟩, st7⟩ := X6.virtualBack hx (y := (⟨"java/lang/String", "charAt", "(I)C"⟩ : MethodName)) (z := (⟨"java/lang/String", "charAt", "(I)C"⟩ : MethodName)) hown (mvT hZ (own_w hw 195 rfl)) (mvT hZ (own_w hw 196 rfl)) (notFace_of_selects (args := #[]) (mvT hZ (own_w hw 198 rfl))) (mvT hZ (own_w hw 198 rfl)) (mvT hZ (own_w hw 197 rfl)) (by decide) (backOf (W := 0) (rmCha l Z a0 hw [] r0 (0 : Int32) d1 kd (3 : Int32) LA (60 : Int32) cs fm h0 n0 Z0 hp0 hp1 hp2 nv5 hp4 hp5 hh1 (by decide) (by decide) (by rw [hLA]; rfl) hh0) hZ (own_w hw 199 rfl) (own_w hw 6 rfl) (by decide) (by decide)) q7a q7c (g := (mkF m 94 #[oa r0, oi 0, oi 1, .val (.int (own_ca v0)), oi p4, oi p5, oi 1, oi 3, .unset, .unset] [(.int (0 : Int32)), (.ref r0)])) rfl (by rw [hml]; rfl) (Steps.refl _) (argsL := [(.int (0 : Int32))]) (rest := []) (lenOf own_pd31 rfl) rfl (Nat.le_of_eq rfl) (hb hby d36_94) (fun _ _ => ⟨rfl, e6, (by decide : 0 + 0 ≤ _), (by decide : 0 + 0 ≤ _)⟩)
    dsimp only [Pt.U, Pt.locs, Pt.cells, Pt.slots] at X7 l7 y7 z7 st7 hQ7
    subst l7 y7 z7
    obtain ⟨rfl, N7q, e7⟩ := hQ7
    have N7 := Fr.app N6 N7q
    obtain ⟨Lv7, X7, N7⟩ := own_hide X7 (Nat.le_refl 0) (Nat.le_refl 0) N7
    refine own_g T7 (mkF m 106 #[oa r0, oi 0, oi 1, .val (.int (own_ca v0)), oi p4, oi p5, oi 1, oi 3, .unset, .unset] [(.int (2 : Int32)), (.ref r0)]) (fun _ k => st7.trans (XS.bipush X7.here hx rfl (hb hby d36_97) (XS.icmpNo X7.here hx rfl (hb hby d36_99) rfl (XT.ii_ne_f (by decide)) (XS.aloadN X7.here hx rfl (hb hby d36_102) rfl rfl (XS.iloadN X7.here hx rfl (hb hby d36_103) rfl (XS.iconst X7.here hx rfl (hb hby d36_104) (XS.iadd X7.here hx rfl (hb hby d36_105) rfl k))))))) ?_
    obtain ⟨cq8, kq8, q8a, q8b, q8c⟩ := isOf hZ e7 hp0
    obtain ⟨_, _, ⟨T8, L8, k8, n8⟩, -, X8, ⟨Lc8, hQ8, l8, y8, z8⟩, st8⟩ := X7.virtualBack hx (y := (⟨"java/lang/String", "charAt", "(I)C"⟩ : MethodName)) (z := (⟨"java/lang/String", "charAt", "(I)C"⟩ : MethodName)) hown (mvT hZ (own_w hw 195 rfl)) (mvT hZ (own_w hw 196 rfl)) (notFace_of_selects (args := #[]) (mvT hZ (own_w hw 198 rfl))) (mvT hZ (own_w hw 198 rfl)) (mvT hZ (own_w hw 197 rfl)) (by decide) (backOf (W := 0) (rmCha l Z a0 hw [] r0 (2 : Int32) d1 kd (3 : Int32) LA (62 : Int32) cs fm h0 n0 Z0 hp0 hp1 hp2 nv5 hp4 hp5 hh1 (by decide) (by decide) (by rw [hLA]; rfl) hh0) hZ (own_w hw 199 rfl) (own_w hw 6 rfl) (by decide) (by decide)) q8a q8c (g := (mkF m 106 #[oa r0, oi 0, oi 1, .val (.int (own_ca v0)), oi p4, oi p5, oi 1, oi 3, .unset, .unset] [(.int (2 : Int32)), (.ref r0)])) rfl (by rw [hml]; rfl) (Steps.refl _) (argsL := [(.int (2 : Int32))]) (rest := []) (lenOf own_pd31 rfl) rfl (Nat.le_of_eq rfl) (hb hby d36_106) (fun _ _ => ⟨rfl, e7, (by decide : 0 + 0 ≤ _), (by decide : 0 + 0 ≤ _)⟩)
    dsimp only [Pt.U, Pt.locs, Pt.cells, Pt.slots] at X8 l8 y8 z8 st8 hQ8
    subst l8 y8 z8
    obtain ⟨rfl, N8q, e8⟩ := hQ8
    have N8 := Fr.app N7 N8q
    obtain ⟨Lv8, X8, N8⟩ := own_hide X8 (Nat.le_refl 0) (Nat.le_refl 0) N8
    refine own_g T8 (mkF m 123 #[oa r0, oi 0, oi 1, .val (.int (own_ca v0)), oi p4, oi p5, oi 1, oi 3, oi 1, .unset] [(.int (1 : Int32)), (.int (1 : Int32))]) (fun _ k => st8.trans (XS.bipush X8.here hx rfl (hb hby d36_109) (XS.icmpNo X8.here hx rfl (hb hby d36_111) rfl (XT.ii_ne_f (by decide)) (XS.iconst X8.here hx rfl (hb hby d36_114) (XS.goto X8.here hx rfl (pc0 := 115) (pc' := 119) rfl (hb hby d36_115) (by decide) (by decide) (XS.istore X8.here hx rfl (hb hby d36_119) rfl (l' := #[oa r0, oi 0, oi 1, .val (.int (own_ca v0)), oi p4, oi p5, oi 1, oi 3, oi 1, .unset]) rfl (XS.iloadN X8.here hx rfl (hb hby d36_121) rfl (XS.iconst X8.here hx rfl (hb hby d36_122) k)))))))) ?_
    refine own_g T8 (mkF m 129 #[oa r0, oi 0, oi 1, .val (.int (own_ca v0)), oi p4, oi p5, oi 1, oi 3, oi 1, .unset] [(.int (1 : Int32)), (.ref r0)]) (fun _ k => XS.icmpNo X8.here hx rfl (hb hby d36_123) rfl (XT.ii_lt_f (by decide : ¬ ((1 : Int32) < (1 : Int32)))) (XS.aloadN X8.here hx rfl (hb hby d36_126) rfl rfl (XS.iload X8.here hx rfl (hb hby d36_127) rfl k))) ?_
    obtain ⟨cq9, kq9, q9a, q9b, q9c⟩ := isOf hZ e8 hp0
    obtain ⟨_, _, ⟨T9, L9, k9, n9⟩, -, X9, ⟨Lc9, hQ9, l9, y9, z9⟩, st9⟩ := X8.virtualBack hx (y := (⟨"java/lang/String", "charAt", "(I)C"⟩ : MethodName)) (z := (⟨"java/lang/String", "charAt", "(I)C"⟩ : MethodName)) hown (mvT hZ (own_w hw 195 rfl)) (mvT hZ (own_w hw 196 rfl)) (notFace_of_selects (args := #[]) (mvT hZ (own_w hw 198 rfl))) (mvT hZ (own_w hw 198 rfl)) (mvT hZ (own_w hw 197 rfl)) (by decide) (backOf (W := 0) (rmCha l Z a0 hw [] r0 (1 : Int32) d1 kd (3 : Int32) LA v0 cs fm h0 n0 Z0 hp0 hp1 hp2 nv5 hp4 hp5 hh1 (by decide) (by decide) (by rw [hLA]; rfl) hh0) hZ (own_w hw 199 rfl) (own_w hw 6 rfl) (by decide) (by decide)) q9a q9c (g := (mkF m 129 #[oa r0, oi 0, oi 1, .val (.int (own_ca v0)), oi p4, oi p5, oi 1, oi 3, oi 1, .unset] [(.int (1 : Int32)), (.ref r0)])) rfl (by rw [hml]; rfl) (Steps.refl _) (argsL := [(.int (1 : Int32))]) (rest := []) (lenOf own_pd31 rfl) rfl (Nat.le_of_eq rfl) (hb hby d36_129) (fun _ _ => ⟨rfl, e8, (by decide : 0 + 0 ≤ _), (by decide : 0 + 0 ≤ _)⟩)
    dsimp only [Pt.U, Pt.locs, Pt.cells, Pt.slots] at X9 l9 y9 z9 st9 hQ9
    subst l9 y9 z9
    obtain ⟨rfl, N9q, e9⟩ := hQ9
    have N9 := Fr.app N8 N9q
    obtain ⟨Lv9, X9, N9⟩ := own_hide X9 (Nat.le_refl 0) (Nat.le_refl 0) N9
    refine own_g T9 (mkF m 156 #[oa r0, oi 0, oi 1, .val (.int (own_ca v0)), oi p4, oi p5, oi 1, oi 3, oi 1, .unset] [(.int (3 : Int32)), (.int (1 : Int32))]) (fun _ k => st9.trans (XS.iloadN X9.here hx rfl (hb hby d36_132) rfl (XS.icmpNo X9.here hx rfl (hb hby d36_133) rfl (XT.ii_ne_f (rfl : (own_ca v0) = (own_ca v0))) (XS.iloadN X9.here hx rfl (hb hby d36_136) rfl (XS.iconst X9.here hx rfl (hb hby d36_137) (XS.icmpYes X9.here hx rfl (pc0 := 138) (pc' := 154) rfl (hb hby d36_138) rfl (XT.ii_lt_t (by decide : (1 : Int32) < (2 : Int32))) (by decide) (by decide) (XS.iloadN X9.here hx rfl (hb hby d36_154) rfl (XS.iconst X9.here hx rfl (hb hby d36_155) k)))))))) ?_
    refine own_g T9 (mkF m 189 #[oa r0, oi 0, oi 1, .val (.int (own_ca v0)), oi p4, oi p5, oi 1, oi 3, oi 1, oi 1] []) (fun _ k => XS.icmpYes X9.here hx rfl (pc0 := 156) (pc' := 172) rfl (hb hby d36_156) rfl (XT.ii_lt_t (by decide : (1 : Int32) < (3 : Int32))) (by decide) (by decide) (XS.iconst X9.here hx rfl (hb hby d36_172) (XS.goto X9.here hx rfl (pc0 := 173) (pc' := 177) rfl (hb hby d36_173) (by decide) (by decide) (XS.istore X9.here hx rfl (hb hby d36_177) rfl (l' := #[oa r0, oi 0, oi 1, .val (.int (own_ca v0)), oi p4, oi p5, oi 1, oi 3, oi 1, oi 1]) rfl (XS.iload X9.here hx rfl (hb hby d36_179) rfl (XS.ifNo X9.here hx rfl (hb hby d36_181) rfl (XT.i0_eq_f (by decide : ¬ ((1 : Int32) = (0 : Int32)))) (XS.iload X9.here hx rfl (hb hby d36_184) rfl (XS.ifNo X9.here hx rfl (hb hby d36_186) rfl (XT.i0_eq_f (by decide : ¬ ((1 : Int32) = (0 : Int32)))) k)))))))) ?_
    refine own_g T9 (mkF m 194 #[oa r0, oi 0, oi 1, .val (.int (own_ca v0)), oi p4, oi p5, oi 1, oi 3, oi 1, oi 1] [(.int (1 : Int32))]) (fun _ k => XS.iconst X9.here hx rfl (hb hby d36_189) (XS.goto X9.here hx rfl (pc0 := 190) (pc' := 194) rfl (hb hby d36_190) (by decide) (by decide) k)) ?_
    exact own_retN X9 hx (t := .boolean) Bd.returns hlk (by simp) (hb hby d36_194) e9 ⟨rfl, N9, rfl⟩ (by decide) (by decide)
  · skip
    obtain ⟨LA, hLA⟩ : ∃ l : List Value, l = [(.int (60 : Int32)), (.int v0), (.int v1), (.int (62 : Int32))] := ⟨_, rfl⟩
    have nv10 : Arv Z h0 d1 kd .byte (4 : Int32) LA (.int (0 : Int32)) := by rw [hLA]; exact hp3
    refine own_g s₁ (mkF m 25 #[oa r0, oi 0, oi 2, .val (.int (own_ca v0)), .val (.int (own_ca v1)), oi p5, oi 1, .unset, .unset, .unset] [(.int (2 : Int32)), (.int (2 : Int32))]) (fun _ k => XS.iloadN X0.here hx rfl (hb hby d36_0) rfl (XS.ifYes X0.here hx rfl (pc0 := 1) (pc' := 9) rfl (hb hby d36_1) rfl (XT.i0_eq_t (rfl : (0 : Int32) = (0 : Int32))) (by decide) (by decide) (XS.iconst X0.here hx rfl (hb hby d36_9) (XS.istore X0.here hx rfl (hb hby d36_10) rfl (l' := #[oa r0, oi 0, oi 2, .val (.int (own_ca v0)), .val (.int (own_ca v1)), oi p5, oi 1, .unset, .unset, .unset]) rfl (XS.iloadN X0.here hx rfl (hb hby d36_12) rfl (XS.ifYes X0.here hx rfl (pc0 := 13) (pc' := 23) rfl (hb hby d36_13) rfl (XT.i0_eq_t (rfl : (0 : Int32) = (0 : Int32))) (by decide) (by decide) (XS.iloadN X0.here hx rfl (hb hby d36_23) rfl (XS.iconst X0.here hx rfl (hb hby d36_24) k)))))))) ?_
    refine own_g s₁ (mkF m 33 #[oa r0, oi 0, oi 2, .val (.int (own_ca v0)), .val (.int (own_ca v1)), oi p5, oi 1, oi 4, .unset, .unset] [(.ref r0)]) (fun _ k => XS.iadd X0.here hx rfl (hb hby d36_25) rfl (XS.istore X0.here hx rfl (hb hby d36_26) rfl (l' := #[oa r0, oi 0, oi 2, .val (.int (own_ca v0)), .val (.int (own_ca v1)), oi p5, oi 1, oi 4, .unset, .unset]) rfl (XS.aloadN X0.here hx rfl (hb hby d36_28) rfl rfl (XS.ifnullNo X0.here hx rfl (hb hby d36_29) rfl (XS.aloadN X0.here hx rfl (hb hby d36_32) rfl rfl k))))) ?_
    obtain ⟨cq11, kq11, q11a, q11b, q11c⟩ := isOf hZ e0 hp0
    obtain ⟨_, _, ⟨T11, L11, k11, n11⟩, -, X11, ⟨Lc11, hQ11, l11, y11, z11⟩, st11⟩ := X0.virtualBack hx (y := (⟨"java/lang/String", "length", "()I"⟩ : MethodName)) (z := (⟨"java/lang/String", "length", "()I"⟩ : MethodName)) hown (mvT hZ (own_w hw 194 rfl)) (mvT hZ (own_w hw 85 rfl)) (notFace_of_selects (args := #[]) (mvT hZ (own_w hw 87 rfl))) (mvT hZ (own_w hw 87 rfl)) (mvT hZ (own_w hw 86 rfl)) (by decide) (backOf (W := 0) (rmLen l Z a0 hw [] r0 d1 kd (4 : Int32) LA cs h0 n0 Z0 hp0 hp1 hp2 nv10 hp4 hh0) hZ (own_w hw 88 rfl) (own_w hw 6 rfl) (by decide) (by decide)) q11a q11c (g := (mkF m 33 #[oa r0, oi 0, oi 2, .val (.int (own_ca v0)), .val (.int (own_ca v1)), oi p5, oi 1, oi 4, .unset, .unset] [(.ref r0)])) rfl (by rw [hml]; rfl) (Steps.refl _) (argsL := []) (rest := []) (lenOf own_pd11 rfl) rfl (Nat.le_of_eq rfl) (hb hby d36_33) (fun _ _ => ⟨rfl, e0, (by decide : 0 + 0 ≤ _), (by decide : 0 + 0 ≤ _)⟩)
    dsimp only [Pt.U, Pt.locs, Pt.cells, Pt.slots] at X11 l11 y11 z11 st11 hQ11
    subst l11 y11 z11
    obtain ⟨rfl, N11q, e11⟩ := hQ11
    have N11 := Fr.app N0 N11q
    obtain ⟨Lv11, X11, N11⟩ := own_hide X11 (Nat.le_refl 0) (Nat.le_refl 0) N11
    refine own_g T11 (mkF m 94 #[oa r0, oi 0, oi 2, .val (.int (own_ca v0)), .val (.int (own_ca v1)), oi p5, oi 1, oi 4, .unset, .unset] [(.int (0 : Int32)), (.ref r0)]) (fun _ k => st11.trans (XS.iload X11.here hx rfl (hb hby d36_36) rfl (XS.icmpYes X11.here hx rfl (pc0 := 38) (pc' := 43) rfl (hb hby d36_38) rfl (XT.ii_eq_t (by decide)) (by decide) (by decide) (XS.iloadN X11.here hx rfl (hb hby d36_43) rfl (XS.ifYes X11.here hx rfl (pc0 := 44) (pc' := 92) rfl (hb hby d36_44) rfl (XT.i0_eq_t (rfl : (0 : Int32) = (0 : Int32))) (by decide) (by decide) (XS.aloadN X11.here hx rfl (hb hby d36_92) rfl rfl (XS.iconst X11.here hx rfl (hb hby d36_93) k))))))) ?_
    obtain ⟨cq12, kq12, q12a, q12b, q12c⟩ := isOf hZ e11 hp0
    obtain ⟨_, _, ⟨T12, L12, k12, n12⟩, -, X12, ⟨Lc12, hQ12, l12, y12, z12⟩, st12⟩ := X11.virtualBack hx (y := (⟨"java/lang/String", "charAt", "(I)C"⟩ : MethodName)) (z := (⟨"java/lang/String", "charAt", "(I)C"⟩ : MethodName)) hown (mvT hZ (own_w hw 195 rfl)) (mvT hZ (own_w hw 196 rfl)) (notFace_of_selects (args := #[]) (mvT hZ (own_w hw 198 rfl))) (mvT hZ (own_w hw 198 rfl)) (mvT hZ (own_w hw 197 rfl)) (by decide) (backOf (W := 0) (rmCha l Z a0 hw [] r0 (0 : Int32) d1 kd (4 : Int32) LA (60 : Int32) cs fm h0 n0 Z0 hp0 hp1 hp2 nv10 hp4 hp5 hh1 (by decide) (by decide) (by rw [hLA]; rfl) hh0) hZ (own_w hw 199 rfl) (own_w hw 6 rfl) (by decide) (by decide)) q12a q12c (g := (mkF m 94 #[oa r0, oi 0, oi 2, .val (.int (own_ca v0)), .val (.int (own_ca v1)), oi p5, oi 1, oi 4, .unset, .unset] [(.int (0 : Int32)), (.ref r0)])) rfl (by rw [hml]; rfl) (Steps.refl _) (argsL := [(.int (0 : Int32))]) (rest := []) (lenOf own_pd31 rfl) rfl (Nat.le_of_eq rfl) (hb hby d36_94) (fun _ _ => ⟨rfl, e11, (by decide : 0 + 0 ≤ _), (by decide : 0 + 0 ≤ _)⟩)
    dsimp only [Pt.U, Pt.locs, Pt.cells, Pt.slots] at X12 l12 y12 z12 st12 hQ12
    subst l12 y12 z12
    obtain ⟨rfl, N12q, e12⟩ := hQ12
    have N12 := Fr.app N11 N12q
    obtain ⟨Lv12, X12, N12⟩ := own_hide X12 (Nat.le_refl 0) (Nat.le_refl 0) N12
    refine own_g T12 (mkF m 106 #[oa r0, oi 0, oi 2, .val (.int (own_ca v0)), .val (.int (own_ca v1)), oi p5, oi 1, oi 4, .unset, .unset] [(.int (3 : Int32)), (.ref r0)]) (fun _ k => st12.trans (XS.bipush X12.here hx rfl (hb hby d36_97) (XS.icmpNo X12.here hx rfl (hb hby d36_99) rfl (XT.ii_ne_f (by decide)) (XS.aloadN X12.here hx rfl (hb hby d36_102) rfl rfl (XS.iloadN X12.here hx rfl (hb hby d36_103) rfl (XS.iconst X12.here hx rfl (hb hby d36_104) (XS.iadd X12.here hx rfl (hb hby d36_105) rfl k))))))) ?_
    obtain ⟨cq13, kq13, q13a, q13b, q13c⟩ := isOf hZ e12 hp0
    obtain ⟨_, _, ⟨T13, L13, k13, n13⟩, -, X13, ⟨Lc13, hQ13, l13, y13, z13⟩, st13⟩ := X12.virtualBack hx (y := (⟨"java/lang/String", "charAt", "(I)C"⟩ : MethodName)) (z := (⟨"java/lang/String", "charAt", "(I)C"⟩ : MethodName)) hown (mvT hZ (own_w hw 195 rfl)) (mvT hZ (own_w hw 196 rfl)) (notFace_of_selects (args := #[]) (mvT hZ (own_w hw 198 rfl))) (mvT hZ (own_w hw 198 rfl)) (mvT hZ (own_w hw 197 rfl)) (by decide) (backOf (W := 0) (rmCha l Z a0 hw [] r0 (3 : Int32) d1 kd (4 : Int32) LA (62 : Int32) cs fm h0 n0 Z0 hp0 hp1 hp2 nv10 hp4 hp5 hh1 (by decide) (by decide) (by rw [hLA]; rfl) hh0) hZ (own_w hw 199 rfl) (own_w hw 6 rfl) (by decide) (by decide)) q13a q13c (g := (mkF m 106 #[oa r0, oi 0, oi 2, .val (.int (own_ca v0)), .val (.int (own_ca v1)), oi p5, oi 1, oi 4, .unset, .unset] [(.int (3 : Int32)), (.ref r0)])) rfl (by rw [hml]; rfl) (Steps.refl _) (argsL := [(.int (3 : Int32))]) (rest := []) (lenOf own_pd31 rfl) rfl (Nat.le_of_eq rfl) (hb hby d36_106) (fun _ _ => ⟨rfl, e12, (by decide : 0 + 0 ≤ _), (by decide : 0 + 0 ≤ _)⟩)
    dsimp only [Pt.U, Pt.locs, Pt.cells, Pt.slots] at X13 l13 y13 z13 st13 hQ13
    subst l13 y13 z13
    obtain ⟨rfl, N13q, e13⟩ := hQ13
    have N13 := Fr.app N12 N13q
    obtain ⟨Lv13, X13, N13⟩ := own_hide X13 (Nat.le_refl 0) (Nat.le_refl 0) N13
    refine own_g T13 (mkF m 123 #[oa r0, oi 0, oi 2, .val (.int (own_ca v0)), .val (.int (own_ca v1)), oi p5, oi 1, oi 4, oi 1, .unset] [(.int (1 : Int32)), (.int (2 : Int32))]) (fun _ k => st13.trans (XS.bipush X13.here hx rfl (hb hby d36_109) (XS.icmpNo X13.here hx rfl (hb hby d36_111) rfl (XT.ii_ne_f (by decide)) (XS.iconst X13.here hx rfl (hb hby d36_114) (XS.goto X13.here hx rfl (pc0 := 115) (pc' := 119) rfl (hb hby d36_115) (by decide) (by decide) (XS.istore X13.here hx rfl (hb hby d36_119) rfl (l' := #[oa r0, oi 0, oi 2, .val (.int (own_ca v0)), .val (.int (own_ca v1)), oi p5, oi 1, oi 4, oi 1, .unset]) rfl (XS.iloadN X13.here hx rfl (hb hby d36_121) rfl (XS.iconst X13.here hx rfl (hb hby d36_122) k)))))))) ?_
    refine own_g T13 (mkF m 129 #[oa r0, oi 0, oi 2, .val (.int (own_ca v0)), .val (.int (own_ca v1)), oi p5, oi 1, oi 4, oi 1, .unset] [(.int (1 : Int32)), (.ref r0)]) (fun _ k => XS.icmpNo X13.here hx rfl (hb hby d36_123) rfl (XT.ii_lt_f (by decide : ¬ ((2 : Int32) < (1 : Int32)))) (XS.aloadN X13.here hx rfl (hb hby d36_126) rfl rfl (XS.iload X13.here hx rfl (hb hby d36_127) rfl k))) ?_
    obtain ⟨cq14, kq14, q14a, q14b, q14c⟩ := isOf hZ e13 hp0
    obtain ⟨_, _, ⟨T14, L14, k14, n14⟩, -, X14, ⟨Lc14, hQ14, l14, y14, z14⟩, st14⟩ := X13.virtualBack hx (y := (⟨"java/lang/String", "charAt", "(I)C"⟩ : MethodName)) (z := (⟨"java/lang/String", "charAt", "(I)C"⟩ : MethodName)) hown (mvT hZ (own_w hw 195 rfl)) (mvT hZ (own_w hw 196 rfl)) (notFace_of_selects (args := #[]) (mvT hZ (own_w hw 198 rfl))) (mvT hZ (own_w hw 198 rfl)) (mvT hZ (own_w hw 197 rfl)) (by decide) (backOf (W := 0) (rmCha l Z a0 hw [] r0 (1 : Int32) d1 kd (4 : Int32) LA v0 cs fm h0 n0 Z0 hp0 hp1 hp2 nv10 hp4 hp5 hh1 (by decide) (by decide) (by rw [hLA]; rfl) hh0) hZ (own_w hw 199 rfl) (own_w hw 6 rfl) (by decide) (by decide)) q14a q14c (g := (mkF m 129 #[oa r0, oi 0, oi 2, .val (.int (own_ca v0)), .val (.int (own_ca v1)), oi p5, oi 1, oi 4, oi 1, .unset] [(.int (1 : Int32)), (.ref r0)])) rfl (by rw [hml]; rfl) (Steps.refl _) (argsL := [(.int (1 : Int32))]) (rest := []) (lenOf own_pd31 rfl) rfl (Nat.le_of_eq rfl) (hb hby d36_129) (fun _ _ => ⟨rfl, e13, (by decide : 0 + 0 ≤ _), (by decide : 0 + 0 ≤ _)⟩)
    dsimp only [Pt.U, Pt.locs, Pt.cells, Pt.slots] at X14 l14 y14 z14 st14 hQ14
    subst l14 y14 z14
    obtain ⟨rfl, N14q, e14⟩ := hQ14
    have N14 := Fr.app N13 N14q
    obtain ⟨Lv14, X14, N14⟩ := own_hide X14 (Nat.le_refl 0) (Nat.le_refl 0) N14
    refine own_g T14 (mkF m 144 #[oa r0, oi 0, oi 2, .val (.int (own_ca v0)), .val (.int (own_ca v1)), oi p5, oi 1, oi 4, oi 1, .unset] [(.int (1 : Int32)), (.ref r0)]) (fun _ k => st14.trans (XS.iloadN X14.here hx rfl (hb hby d36_132) rfl (XS.icmpNo X14.here hx rfl (hb hby d36_133) rfl (XT.ii_ne_f (rfl : (own_ca v0) = (own_ca v0))) (XS.iloadN X14.here hx rfl (hb hby d36_136) rfl (XS.iconst X14.here hx rfl (hb hby d36_137) (XS.icmpNo X14.here hx rfl (hb hby d36_138) rfl (XT.ii_lt_f (by decide : ¬ ((2 : Int32) < (2 : Int32)))) (XS.aloadN X14.here hx rfl (hb hby d36_141) rfl rfl (XS.iload X14.here hx rfl (hb hby d36_142) rfl k)))))))) ?_
    refine own_g T14 (mkF m 146 #[oa r0, oi 0, oi 2, .val (.int (own_ca v0)), .val (.int (own_ca v1)), oi p5, oi 1, oi 4, oi 1, .unset] [(.int (2 : Int32)), (.ref r0)]) (fun _ k => XS.iconst X14.here hx rfl (hb hby d36_144) (XS.iadd X14.here hx rfl (hb hby d36_145) rfl k)) ?_
    obtain ⟨cq15, kq15, q15a, q15b, q15c⟩ := isOf hZ e14 hp0
    obtain ⟨_, _, ⟨T15, L15, k15, n15⟩, -, X15, ⟨Lc15, hQ15, l15, y15, z15⟩, st15⟩ := X14.virtualBack hx (y := (⟨"java/lang/String", "charAt", "(I)C"⟩ : MethodName)) (z := (⟨"java/lang/String", "charAt", "(I)C"⟩ : MethodName)) hown (mvT hZ (own_w hw 195 rfl)) (mvT hZ (own_w hw 196 rfl)) (notFace_of_selects (args := #[]) (mvT hZ (own_w hw 198 rfl))) (mvT hZ (own_w hw 198 rfl)) (mvT hZ (own_w hw 197 rfl)) (by decide) (backOf (W := 0) (rmCha l Z a0 hw [] r0 (2 : Int32) d1 kd (4 : Int32) LA v1 cs fm h0 n0 Z0 hp0 hp1 hp2 nv10 hp4 hp5 hh1 (by decide) (by decide) (by rw [hLA]; rfl) hh0) hZ (own_w hw 199 rfl) (own_w hw 6 rfl) (by decide) (by decide)) q15a q15c (g := (mkF m 146 #[oa r0, oi 0, oi 2, .val (.int (own_ca v0)), .val (.int (own_ca v1)), oi p5, oi 1, oi 4, oi 1, .unset] [(.int (2 : Int32)), (.ref r0)])) rfl (by rw [hml]; rfl) (Steps.refl _) (argsL := [(.int (2 : Int32))]) (rest := []) (lenOf own_pd31 rfl) rfl (Nat.le_of_eq rfl) (hb hby d36_146) (fun _ _ => ⟨rfl, e14, (by decide : 0 + 0 ≤ _), (by decide : 0 + 0 ≤ _)⟩)
    dsimp only [Pt.U, Pt.locs, Pt.cells, Pt.slots] at X15 l15 y15 z15 st15 hQ15
    subst l15 y15 z15
    obtain ⟨rfl, N15q, e15⟩ := hQ15
    have N15 := Fr.app N14 N15q
    obtain ⟨Lv15, X15, N15⟩ := own_hide X15 (Nat.le_refl 0) (Nat.le_refl 0) N15
    refine own_g T15 (mkF m 177 #[oa r0, oi 0, oi 2, .val (.int (own_ca v0)), .val (.int (own_ca v1)), oi p5, oi 1, oi 4, oi 1, .unset] [(.int (1 : Int32))]) (fun _ k => st15.trans (XS.iload X15.here hx rfl (hb hby d36_149) rfl (XS.icmpNo X15.here hx rfl (hb hby d36_151) rfl (XT.ii_ne_f (rfl : (own_ca v1) = (own_ca v1))) (XS.iloadN X15.here hx rfl (hb hby d36_154) rfl (XS.iconst X15.here hx rfl (hb hby d36_155) (XS.icmpYes X15.here hx rfl (pc0 := 156) (pc' := 172) rfl (hb hby d36_156) rfl (XT.ii_lt_t (by decide : (2 : Int32) < (3 : Int32))) (by decide) (by decide) (XS.iconst X15.here hx rfl (hb hby d36_172) (XS.goto X15.here hx rfl (pc0 := 173) (pc' := 177) rfl (hb hby d36_173) (by decide) (by decide) k)))))))) ?_
    refine own_g T15 (mkF m 194 #[oa r0, oi 0, oi 2, .val (.int (own_ca v0)), .val (.int (own_ca v1)), oi p5, oi 1, oi 4, oi 1, oi 1] [(.int (1 : Int32))]) (fun _ k => XS.istore X15.here hx rfl (hb hby d36_177) rfl (l' := #[oa r0, oi 0, oi 2, .val (.int (own_ca v0)), .val (.int (own_ca v1)), oi p5, oi 1, oi 4, oi 1, oi 1]) rfl (XS.iload X15.here hx rfl (hb hby d36_179) rfl (XS.ifNo X15.here hx rfl (hb hby d36_181) rfl (XT.i0_eq_f (by decide : ¬ ((1 : Int32) = (0 : Int32)))) (XS.iload X15.here hx rfl (hb hby d36_184) rfl (XS.ifNo X15.here hx rfl (hb hby d36_186) rfl (XT.i0_eq_f (by decide : ¬ ((1 : Int32) = (0 : Int32)))) (XS.iconst X15.here hx rfl (hb hby d36_189) (XS.goto X15.here hx rfl (pc0 := 190) (pc' := 194) rfl (hb hby d36_190) (by decide) (by decide) k))))))) ?_
    exact own_retN X15 hx (t := .boolean) Bd.returns hlk (by simp) (hb hby d36_194) e15 ⟨rfl, N15, rfl⟩ (by decide) (by decide)
  · skip
    obtain ⟨LA, hLA⟩ : ∃ l : List Value, l = [(.int (60 : Int32)), (.int v0), (.int v1), (.int v2), (.int (62 : Int32))] := ⟨_, rfl⟩
    have nv16 : Arv Z h0 d1 kd .byte (5 : Int32) LA (.int (0 : Int32)) := by rw [hLA]; exact hp3
    refine own_g s₁ (mkF m 25 #[oa r0, oi 0, oi 3, .val (.int (own_ca v0)), .val (.int (own_ca v1)), .val (.int (own_ca v2)), oi 1, .unset, .unset, .unset] [(.int (2 : Int32)), (.int (3 : Int32))]) (fun _ k => XS.iloadN X0.here hx rfl (hb hby d36_0) rfl (XS.ifYes X0.here hx rfl (pc0 := 1) (pc' := 9) rfl (hb hby d36_1) rfl (XT.i0_eq_t (rfl : (0 : Int32) = (0 : Int32))) (by decide) (by decide) (XS.iconst X0.here hx rfl (hb hby d36_9) (XS.istore X0.here hx rfl (hb hby d36_10) rfl (l' := #[oa r0, oi 0, oi 3, .val (.int (own_ca v0)), .val (.int (own_ca v1)), .val (.int (own_ca v2)), oi 1, .unset, .unset, .unset]) rfl (XS.iloadN X0.here hx rfl (hb hby d36_12) rfl (XS.ifYes X0.here hx rfl (pc0 := 13) (pc' := 23) rfl (hb hby d36_13) rfl (XT.i0_eq_t (rfl : (0 : Int32) = (0 : Int32))) (by decide) (by decide) (XS.iloadN X0.here hx rfl (hb hby d36_23) rfl (XS.iconst X0.here hx rfl (hb hby d36_24) k)))))))) ?_
    refine own_g s₁ (mkF m 33 #[oa r0, oi 0, oi 3, .val (.int (own_ca v0)), .val (.int (own_ca v1)), .val (.int (own_ca v2)), oi 1, oi 5, .unset, .unset] [(.ref r0)]) (fun _ k => XS.iadd X0.here hx rfl (hb hby d36_25) rfl (XS.istore X0.here hx rfl (hb hby d36_26) rfl (l' := #[oa r0, oi 0, oi 3, .val (.int (own_ca v0)), .val (.int (own_ca v1)), .val (.int (own_ca v2)), oi 1, oi 5, .unset, .unset]) rfl (XS.aloadN X0.here hx rfl (hb hby d36_28) rfl rfl (XS.ifnullNo X0.here hx rfl (hb hby d36_29) rfl (XS.aloadN X0.here hx rfl (hb hby d36_32) rfl rfl k))))) ?_
    obtain ⟨cq17, kq17, q17a, q17b, q17c⟩ := isOf hZ e0 hp0
    obtain ⟨_, _, ⟨T17, L17, k17, n17⟩, -, X17, ⟨Lc17, hQ17, l17, y17, z17⟩, st17⟩ := X0.virtualBack hx (y := (⟨"java/lang/String", "length", "()I"⟩ : MethodName)) (z := (⟨"java/lang/String", "length", "()I"⟩ : MethodName)) hown (mvT hZ (own_w hw 194 rfl)) (mvT hZ (own_w hw 85 rfl)) (notFace_of_selects (args := #[]) (mvT hZ (own_w hw 87 rfl))) (mvT hZ (own_w hw 87 rfl)) (mvT hZ (own_w hw 86 rfl)) (by decide) (backOf (W := 0) (rmLen l Z a0 hw [] r0 d1 kd (5 : Int32) LA cs h0 n0 Z0 hp0 hp1 hp2 nv16 hp4 hh0) hZ (own_w hw 88 rfl) (own_w hw 6 rfl) (by decide) (by decide)) q17a q17c (g := (mkF m 33 #[oa r0, oi 0, oi 3, .val (.int (own_ca v0)), .val (.int (own_ca v1)), .val (.int (own_ca v2)), oi 1, oi 5, .unset, .unset] [(.ref r0)])) rfl (by rw [hml]; rfl) (Steps.refl _) (argsL := []) (rest := []) (lenOf own_pd11 rfl) rfl (Nat.le_of_eq rfl) (hb hby d36_33) (fun _ _ => ⟨rfl, e0, (by decide : 0 + 0 ≤ _), (by decide : 0 + 0 ≤ _)⟩)
    dsimp only [Pt.U, Pt.locs, Pt.cells, Pt.slots] at X17 l17 y17 z17 st17 hQ17
    subst l17 y17 z17
    obtain ⟨rfl, N17q, e17⟩ := hQ17
    have N17 := Fr.app N0 N17q
    obtain ⟨Lv17, X17, N17⟩ := own_hide X17 (Nat.le_refl 0) (Nat.le_refl 0) N17
    refine own_g T17 (mkF m 94 #[oa r0, oi 0, oi 3, .val (.int (own_ca v0)), .val (.int (own_ca v1)), .val (.int (own_ca v2)), oi 1, oi 5, .unset, .unset] [(.int (0 : Int32)), (.ref r0)]) (fun _ k => st17.trans (XS.iload X17.here hx rfl (hb hby d36_36) rfl (XS.icmpYes X17.here hx rfl (pc0 := 38) (pc' := 43) rfl (hb hby d36_38) rfl (XT.ii_eq_t (by decide)) (by decide) (by decide) (XS.iloadN X17.here hx rfl (hb hby d36_43) rfl (XS.ifYes X17.here hx rfl (pc0 := 44) (pc' := 92) rfl (hb hby d36_44) rfl (XT.i0_eq_t (rfl : (0 : Int32) = (0 : Int32))) (by decide) (by decide) (XS.aloadN X17.here hx rfl (hb hby d36_92) rfl rfl (XS.iconst X17.here hx rfl (hb hby d36_93) k))))))) ?_
    obtain ⟨cq18, kq18, q18a, q18b, q18c⟩ := isOf hZ e17 hp0
    obtain ⟨_, _, ⟨T18, L18, k18, n18⟩, -, X18, ⟨Lc18, hQ18, l18, y18, z18⟩, st18⟩ := X17.virtualBack hx (y := (⟨"java/lang/String", "charAt", "(I)C"⟩ : MethodName)) (z := (⟨"java/lang/String", "charAt", "(I)C"⟩ : MethodName)) hown (mvT hZ (own_w hw 195 rfl)) (mvT hZ (own_w hw 196 rfl)) (notFace_of_selects (args := #[]) (mvT hZ (own_w hw 198 rfl))) (mvT hZ (own_w hw 198 rfl)) (mvT hZ (own_w hw 197 rfl)) (by decide) (backOf (W := 0) (rmCha l Z a0 hw [] r0 (0 : Int32) d1 kd (5 : Int32) LA (60 : Int32) cs fm h0 n0 Z0 hp0 hp1 hp2 nv16 hp4 hp5 hh1 (by decide) (by decide) (by rw [hLA]; rfl) hh0) hZ (own_w hw 199 rfl) (own_w hw 6 rfl) (by decide) (by decide)) q18a q18c (g := (mkF m 94 #[oa r0, oi 0, oi 3, .val (.int (own_ca v0)), .val (.int (own_ca v1)), .val (.int (own_ca v2)), oi 1, oi 5, .unset, .unset] [(.int (0 : Int32)), (.ref r0)])) rfl (by rw [hml]; rfl) (Steps.refl _) (argsL := [(.int (0 : Int32))]) (rest := []) (lenOf own_pd31 rfl) rfl (Nat.le_of_eq rfl) (hb hby d36_94) (fun _ _ => ⟨rfl, e17, (by decide : 0 + 0 ≤ _), (by decide : 0 + 0 ≤ _)⟩)
    dsimp only [Pt.U, Pt.locs, Pt.cells, Pt.slots] at X18 l18 y18 z18 st18 hQ18
    subst l18 y18 z18
    obtain ⟨rfl, N18q, e18⟩ := hQ18
    have N18 := Fr.app N17 N18q
    obtain ⟨Lv18, X18, N18⟩ := own_hide X18 (Nat.le_refl 0) (Nat.le_refl 0) N18
    refine own_g T18 (mkF m 106 #[oa r0, oi 0, oi 3, .val (.int (own_ca v0)), .val (.int (own_ca v1)), .val (.int (own_ca v2)), oi 1, oi 5, .unset, .unset] [(.int (4 : Int32)), (.ref r0)]) (fun _ k => st18.trans (XS.bipush X18.here hx rfl (hb hby d36_97) (XS.icmpNo X18.here hx rfl (hb hby d36_99) rfl (XT.ii_ne_f (by decide)) (XS.aloadN X18.here hx rfl (hb hby d36_102) rfl rfl (XS.iloadN X18.here hx rfl (hb hby d36_103) rfl (XS.iconst X18.here hx rfl (hb hby d36_104) (XS.iadd X18.here hx rfl (hb hby d36_105) rfl k))))))) ?_
    obtain ⟨cq19, kq19, q19a, q19b, q19c⟩ := isOf hZ e18 hp0
    obtain ⟨_, _, ⟨T19, L19, k19, n19⟩, -, X19, ⟨Lc19, hQ19, l19, y19, z19⟩, st19⟩ := X18.virtualBack hx (y := (⟨"java/lang/String", "charAt", "(I)C"⟩ : MethodName)) (z := (⟨"java/lang/String", "charAt", "(I)C"⟩ : MethodName)) hown (mvT hZ (own_w hw 195 rfl)) (mvT hZ (own_w hw 196 rfl)) (notFace_of_selects (args := #[]) (mvT hZ (own_w hw 198 rfl))) (mvT hZ (own_w hw 198 rfl)) (mvT hZ (own_w hw 197 rfl)) (by decide) (backOf (W := 0) (rmCha l Z a0 hw [] r0 (4 : Int32) d1 kd (5 : Int32) LA (62 : Int32) cs fm h0 n0 Z0 hp0 hp1 hp2 nv16 hp4 hp5 hh1 (by decide) (by decide) (by rw [hLA]; rfl) hh0) hZ (own_w hw 199 rfl) (own_w hw 6 rfl) (by decide) (by decide)) q19a q19c (g := (mkF m 106 #[oa r0, oi 0, oi 3, .val (.int (own_ca v0)), .val (.int (own_ca v1)), .val (.int (own_ca v2)), oi 1, oi 5, .unset, .unset] [(.int (4 : Int32)), (.ref r0)])) rfl (by rw [hml]; rfl) (Steps.refl _) (argsL := [(.int (4 : Int32))]) (rest := []) (lenOf own_pd31 rfl) rfl (Nat.le_of_eq rfl) (hb hby d36_106) (fun _ _ => ⟨rfl, e18, (by decide : 0 + 0 ≤ _), (by decide : 0 + 0 ≤ _)⟩)
    dsimp only [Pt.U, Pt.locs, Pt.cells, Pt.slots] at X19 l19 y19 z19 st19 hQ19
    subst l19 y19 z19
    obtain ⟨rfl, N19q, e19⟩ := hQ19
    have N19 := Fr.app N18 N19q
    obtain ⟨Lv19, X19, N19⟩ := own_hide X19 (Nat.le_refl 0) (Nat.le_refl 0) N19
    refine own_g T19 (mkF m 123 #[oa r0, oi 0, oi 3, .val (.int (own_ca v0)), .val (.int (own_ca v1)), .val (.int (own_ca v2)), oi 1, oi 5, oi 1, .unset] [(.int (1 : Int32)), (.int (3 : Int32))]) (fun _ k => st19.trans (XS.bipush X19.here hx rfl (hb hby d36_109) (XS.icmpNo X19.here hx rfl (hb hby d36_111) rfl (XT.ii_ne_f (by decide)) (XS.iconst X19.here hx rfl (hb hby d36_114) (XS.goto X19.here hx rfl (pc0 := 115) (pc' := 119) rfl (hb hby d36_115) (by decide) (by decide) (XS.istore X19.here hx rfl (hb hby d36_119) rfl (l' := #[oa r0, oi 0, oi 3, .val (.int (own_ca v0)), .val (.int (own_ca v1)), .val (.int (own_ca v2)), oi 1, oi 5, oi 1, .unset]) rfl (XS.iloadN X19.here hx rfl (hb hby d36_121) rfl (XS.iconst X19.here hx rfl (hb hby d36_122) k)))))))) ?_
    refine own_g T19 (mkF m 129 #[oa r0, oi 0, oi 3, .val (.int (own_ca v0)), .val (.int (own_ca v1)), .val (.int (own_ca v2)), oi 1, oi 5, oi 1, .unset] [(.int (1 : Int32)), (.ref r0)]) (fun _ k => XS.icmpNo X19.here hx rfl (hb hby d36_123) rfl (XT.ii_lt_f (by decide : ¬ ((3 : Int32) < (1 : Int32)))) (XS.aloadN X19.here hx rfl (hb hby d36_126) rfl rfl (XS.iload X19.here hx rfl (hb hby d36_127) rfl k))) ?_
    obtain ⟨cq20, kq20, q20a, q20b, q20c⟩ := isOf hZ e19 hp0
    obtain ⟨_, _, ⟨T20, L20, k20, n20⟩, -, X20, ⟨Lc20, hQ20, l20, y20, z20⟩, st20⟩ := X19.virtualBack hx (y := (⟨"java/lang/String", "charAt", "(I)C"⟩ : MethodName)) (z := (⟨"java/lang/String", "charAt", "(I)C"⟩ : MethodName)) hown (mvT hZ (own_w hw 195 rfl)) (mvT hZ (own_w hw 196 rfl)) (notFace_of_selects (args := #[]) (mvT hZ (own_w hw 198 rfl))) (mvT hZ (own_w hw 198 rfl)) (mvT hZ (own_w hw 197 rfl)) (by decide) (backOf (W := 0) (rmCha l Z a0 hw [] r0 (1 : Int32) d1 kd (5 : Int32) LA v0 cs fm h0 n0 Z0 hp0 hp1 hp2 nv16 hp4 hp5 hh1 (by decide) (by decide) (by rw [hLA]; rfl) hh0) hZ (own_w hw 199 rfl) (own_w hw 6 rfl) (by decide) (by decide)) q20a q20c (g := (mkF m 129 #[oa r0, oi 0, oi 3, .val (.int (own_ca v0)), .val (.int (own_ca v1)), .val (.int (own_ca v2)), oi 1, oi 5, oi 1, .unset] [(.int (1 : Int32)), (.ref r0)])) rfl (by rw [hml]; rfl) (Steps.refl _) (argsL := [(.int (1 : Int32))]) (rest := []) (lenOf own_pd31 rfl) rfl (Nat.le_of_eq rfl) (hb hby d36_129) (fun _ _ => ⟨rfl, e19, (by decide : 0 + 0 ≤ _), (by decide : 0 + 0 ≤ _)⟩)
    dsimp only [Pt.U, Pt.locs, Pt.cells, Pt.slots] at X20 l20 y20 z20 st20 hQ20
    subst l20 y20 z20
    obtain ⟨rfl, N20q, e20⟩ := hQ20
    have N20 := Fr.app N19 N20q
    obtain ⟨Lv20, X20, N20⟩ := own_hide X20 (Nat.le_refl 0) (Nat.le_refl 0) N20
    refine own_g T20 (mkF m 144 #[oa r0, oi 0, oi 3, .val (.int (own_ca v0)), .val (.int (own_ca v1)), .val (.int (own_ca v2)), oi 1, oi 5, oi 1, .unset] [(.int (1 : Int32)), (.ref r0)]) (fun _ k => st20.trans (XS.iloadN X20.here hx rfl (hb hby d36_132) rfl (XS.icmpNo X20.here hx rfl (hb hby d36_133) rfl (XT.ii_ne_f (rfl : (own_ca v0) = (own_ca v0))) (XS.iloadN X20.here hx rfl (hb hby d36_136) rfl (XS.iconst X20.here hx rfl (hb hby d36_137) (XS.icmpNo X20.here hx rfl (hb hby d36_138) rfl (XT.ii_lt_f (by decide : ¬ ((3 : Int32) < (2 : Int32)))) (XS.aloadN X20.here hx rfl (hb hby d36_141) rfl rfl (XS.iload X20.here hx rfl (hb hby d36_142) rfl k)))))))) ?_
    refine own_g T20 (mkF m 146 #[oa r0, oi 0, oi 3, .val (.int (own_ca v0)), .val (.int (own_ca v1)), .val (.int (own_ca v2)), oi 1, oi 5, oi 1, .unset] [(.int (2 : Int32)), (.ref r0)]) (fun _ k => XS.iconst X20.here hx rfl (hb hby d36_144) (XS.iadd X20.here hx rfl (hb hby d36_145) rfl k)) ?_
    obtain ⟨cq21, kq21, q21a, q21b, q21c⟩ := isOf hZ e20 hp0
    obtain ⟨_, _, ⟨T21, L21, k21, n21⟩, -, X21, ⟨Lc21, hQ21, l21, y21, z21⟩, st21⟩ := X20.virtualBack hx (y := (⟨"java/lang/String", "charAt", "(I)C"⟩ : MethodName)) (z := (⟨"java/lang/String", "charAt", "(I)C"⟩ : MethodName)) hown (mvT hZ (own_w hw 195 rfl)) (mvT hZ (own_w hw 196 rfl)) (notFace_of_selects (args := #[]) (mvT hZ (own_w hw 198 rfl))) (mvT hZ (own_w hw 198 rfl)) (mvT hZ (own_w hw 197 rfl)) (by decide) (backOf (W := 0) (rmCha l Z a0 hw [] r0 (2 : Int32) d1 kd (5 : Int32) LA v1 cs fm h0 n0 Z0 hp0 hp1 hp2 nv16 hp4 hp5 hh1 (by decide) (by decide) (by rw [hLA]; rfl) hh0) hZ (own_w hw 199 rfl) (own_w hw 6 rfl) (by decide) (by decide)) q21a q21c (g := (mkF m 146 #[oa r0, oi 0, oi 3, .val (.int (own_ca v0)), .val (.int (own_ca v1)), .val (.int (own_ca v2)), oi 1, oi 5, oi 1, .unset] [(.int (2 : Int32)), (.ref r0)])) rfl (by rw [hml]; rfl) (Steps.refl _) (argsL := [(.int (2 : Int32))]) (rest := []) (lenOf own_pd31 rfl) rfl (Nat.le_of_eq rfl) (hb hby d36_146) (fun _ _ => ⟨rfl, e20, (by decide : 0 + 0 ≤ _), (by decide : 0 + 0 ≤ _)⟩)
    dsimp only [Pt.U, Pt.locs, Pt.cells, Pt.slots] at X21 l21 y21 z21 st21 hQ21
    subst l21 y21 z21
    obtain ⟨rfl, N21q, e21⟩ := hQ21
    have N21 := Fr.app N20 N21q
    obtain ⟨Lv21, X21, N21⟩ := own_hide X21 (Nat.le_refl 0) (Nat.le_refl 0) N21
    refine own_g T21 (mkF m 162 #[oa r0, oi 0, oi 3, .val (.int (own_ca v0)), .val (.int (own_ca v1)), .val (.int (own_ca v2)), oi 1, oi 5, oi 1, .unset] [(.int (1 : Int32)), (.ref r0)]) (fun _ k => st21.trans (XS.iload X21.here hx rfl (hb hby d36_149) rfl (XS.icmpNo X21.here hx rfl (hb hby d36_151) rfl (XT.ii_ne_f (rfl : (own_ca v1) = (own_ca v1))) (XS.iloadN X21.here hx rfl (hb hby d36_154) rfl (XS.iconst X21.here hx rfl (hb hby d36_155) (XS.icmpNo X21.here hx rfl (hb hby d36_156) rfl (XT.ii_lt_f (by decide : ¬ ((3 : Int32) < (3 : Int32)))) (XS.aloadN X21.here hx rfl (hb hby d36_159) rfl rfl (XS.iload X21.here hx rfl (hb hby d36_160) rfl k)))))))) ?_
    refine own_g T21 (mkF m 164 #[oa r0, oi 0, oi 3, .val (.int (own_ca v0)), .val (.int (own_ca v1)), .val (.int (own_ca v2)), oi 1, oi 5, oi 1, .unset] [(.int (3 : Int32)), (.ref r0)]) (fun _ k => XS.iconst X21.here hx rfl (hb hby d36_162) (XS.iadd X21.here hx rfl (hb hby d36_163) rfl k)) ?_
    obtain ⟨cq22, kq22, q22a, q22b, q22c⟩ := isOf hZ e21 hp0
    obtain ⟨_, _, ⟨T22, L22, k22, n22⟩, -, X22, ⟨Lc22, hQ22, l22, y22, z22⟩, st22⟩ := X21.virtualBack hx (y := (⟨"java/lang/String", "charAt", "(I)C"⟩ : MethodName)) (z := (⟨"java/lang/String", "charAt", "(I)C"⟩ : MethodName)) hown (mvT hZ (own_w hw 195 rfl)) (mvT hZ (own_w hw 196 rfl)) (notFace_of_selects (args := #[]) (mvT hZ (own_w hw 198 rfl))) (mvT hZ (own_w hw 198 rfl)) (mvT hZ (own_w hw 197 rfl)) (by decide) (backOf (W := 0) (rmCha l Z a0 hw [] r0 (3 : Int32) d1 kd (5 : Int32) LA v2 cs fm h0 n0 Z0 hp0 hp1 hp2 nv16 hp4 hp5 hh1 (by decide) (by decide) (by rw [hLA]; rfl) hh0) hZ (own_w hw 199 rfl) (own_w hw 6 rfl) (by decide) (by decide)) q22a q22c (g := (mkF m 164 #[oa r0, oi 0, oi 3, .val (.int (own_ca v0)), .val (.int (own_ca v1)), .val (.int (own_ca v2)), oi 1, oi 5, oi 1, .unset] [(.int (3 : Int32)), (.ref r0)])) rfl (by rw [hml]; rfl) (Steps.refl _) (argsL := [(.int (3 : Int32))]) (rest := []) (lenOf own_pd31 rfl) rfl (Nat.le_of_eq rfl) (hb hby d36_164) (fun _ _ => ⟨rfl, e21, (by decide : 0 + 0 ≤ _), (by decide : 0 + 0 ≤ _)⟩)
    dsimp only [Pt.U, Pt.locs, Pt.cells, Pt.slots] at X22 l22 y22 z22 st22 hQ22
    subst l22 y22 z22
    obtain ⟨rfl, N22q, e22⟩ := hQ22
    have N22 := Fr.app N21 N22q
    obtain ⟨Lv22, X22, N22⟩ := own_hide X22 (Nat.le_refl 0) (Nat.le_refl 0) N22
    refine own_g T22 (mkF m 184 #[oa r0, oi 0, oi 3, .val (.int (own_ca v0)), .val (.int (own_ca v1)), .val (.int (own_ca v2)), oi 1, oi 5, oi 1, oi 1] []) (fun _ k => st22.trans (XS.iload X22.here hx rfl (hb hby d36_167) rfl (XS.icmpNo X22.here hx rfl (hb hby d36_169) rfl (XT.ii_ne_f (rfl : (own_ca v2) = (own_ca v2))) (XS.iconst X22.here hx rfl (hb hby d36_172) (XS.goto X22.here hx rfl (pc0 := 173) (pc' := 177) rfl (hb hby d36_173) (by decide) (by decide) (XS.istore X22.here hx rfl (hb hby d36_177) rfl (l' := #[oa r0, oi 0, oi 3, .val (.int (own_ca v0)), .val (.int (own_ca v1)), .val (.int (own_ca v2)), oi 1, oi 5, oi 1, oi 1]) rfl (XS.iload X22.here hx rfl (hb hby d36_179) rfl (XS.ifNo X22.here hx rfl (hb hby d36_181) rfl (XT.i0_eq_f (by decide : ¬ ((1 : Int32) = (0 : Int32)))) k)))))))) ?_
    refine own_g T22 (mkF m 194 #[oa r0, oi 0, oi 3, .val (.int (own_ca v0)), .val (.int (own_ca v1)), .val (.int (own_ca v2)), oi 1, oi 5, oi 1, oi 1] [(.int (1 : Int32))]) (fun _ k => XS.iload X22.here hx rfl (hb hby d36_184) rfl (XS.ifNo X22.here hx rfl (hb hby d36_186) rfl (XT.i0_eq_f (by decide : ¬ ((1 : Int32) = (0 : Int32)))) (XS.iconst X22.here hx rfl (hb hby d36_189) (XS.goto X22.here hx rfl (pc0 := 190) (pc' := 194) rfl (hb hby d36_190) (by decide) (by decide) k)))) ?_
    exact own_retN X22 hx (t := .boolean) Bd.returns hlk (by simp) (hb hby d36_194) e22 ⟨rfl, N22, rfl⟩ (by decide) (by decide)
theorem own_pd32 : parseMethodDescriptor "(Ljava/lang/String;)Z" = some ⟨[(.object "java/lang/String")], some .boolean⟩ := by decide +kernel
theorem d36_4 : decode method_4_code 4 = .ok (.bipush 17, 2) := by decide +kernel
theorem d36_6 : decode method_4_code 6 = .ok (.goto 4, 3) := by decide +kernel
theorem d36_16 : decode method_4_code 16 = .ok (.iload_n 2, 1) := by decide +kernel
theorem d36_17 : decode method_4_code 17 = .ok (.bipush 19, 2) := by decide +kernel
theorem d36_19 : decode method_4_code 19 = .ok (.iadd, 1) := by decide +kernel
theorem d36_20 : decode method_4_code 20 = .ok (.goto 6, 3) := by decide +kernel
theorem d36_47 : decode method_4_code 47 = .ok (.aload_n 0, 1) := by decide +kernel
theorem d36_48 : decode method_4_code 48 = .ok (.invokestatic 43, 3) := by decide +kernel
theorem d36_51 : decode method_4_code 51 = .ok (.ifCond .eq 35, 3) := by decide +kernel
theorem d36_54 : decode method_4_code 54 = .ok (.aload_n 0, 1) := by decide +kernel
theorem d36_55 : decode method_4_code 55 = .ok (.iload 6, 2) := by decide +kernel
theorem d36_57 : decode method_4_code 57 = .ok (.iload_n 2, 1) := by decide +kernel
theorem d36_58 : decode method_4_code 58 = .ok (.iadd, 1) := by decide +kernel
theorem d36_59 : decode method_4_code 59 = .ok (.invokevirtual 47, 3) := by decide +kernel
theorem d36_62 : decode method_4_code 62 = .ok (.bipush 62, 2) := by decide +kernel
theorem d36_64 : decode method_4_code 64 = .ok (.if_icmp .ne 22, 3) := by decide +kernel
theorem d36_67 : decode method_4_code 67 = .ok (.aload_n 0, 1) := by decide +kernel
theorem d36_68 : decode method_4_code 68 = .ok (.iload 6, 2) := by decide +kernel
theorem d36_70 : decode method_4_code 70 = .ok (.iload_n 2, 1) := by decide +kernel
theorem d36_71 : decode method_4_code 71 = .ok (.iadd, 1) := by decide +kernel
theorem d36_72 : decode method_4_code 72 = .ok (.iconst 1, 1) := by decide +kernel
theorem d36_73 : decode method_4_code 73 = .ok (.iadd, 1) := by decide +kernel
theorem d36_74 : decode method_4_code 74 = .ok (.invokevirtual 47, 3) := by decide +kernel
theorem d36_77 : decode method_4_code 77 = .ok (.bipush 41, 2) := by decide +kernel
theorem d36_79 : decode method_4_code 79 = .ok (.if_icmp .ne 7, 3) := by decide +kernel
theorem d36_82 : decode method_4_code 82 = .ok (.iconst 1, 1) := by decide +kernel
theorem d36_83 : decode method_4_code 83 = .ok (.goto 4, 3) := by decide +kernel
theorem d36_87 : decode method_4_code 87 = .ok (.istore 8, 2) := by decide +kernel
theorem d36_89 : decode method_4_code 89 = .ok (.goto 32, 3) := by decide +kernel
def Q_rmCkI (Z : State) (r0 : Addr) (p2 : Int32) (p3 : Int32) (p4 : Int32) (p5 : Int32) (d1 : Addr) (kd : ClassId) (z1 : Int32) (us : List Value) (cs : Int32) (fm : Value) (h0 : Heap) (n0 : Nat) (v : Option Value) (h : Heap) (L : List Loc) : Prop := v = some (.int (1 : Int32)) ∧ Fr n0 L ∧ Keep h0 h []
theorem ef_rmCkI (m : MethodId) (x0 : Addr) (x1 : Int32) (x2 : Int32) (x3 : Int32) (x4 : Int32) (x5 : Int32) : entryFrame m #[(.ref x0), (.int x1), (.int x2), (.int x3), (.int x4), (.int x5)] 10 = mkF m 0 #[.val (.ref x0), .val (.int x1), .val (.int x2), .val (.int x3), .val (.int x4), .val (.int x5), .unset, .unset, .unset, .unset] [] := by first | (simp [entryFrame, mkF, argsToLocals, Value.category]; done) | rfl
theorem pn_rmCkI : plainName "com/example/cardinal_tableau/cardinaltableau/model/RoleToStringPinLaw" = true := by first | (simp [plainName, overriddenIn]; done) | decide +kernel
set_option maxRecDepth 65536 in
set_option maxHeartbeats 40000000 in
theorem rmCkI (l : Launch) (Z : State) (a0 : Array Value) (hw : ∀ d ∈ tables_1, d.before a0 Z = true) (ws : List Jvm.Cond) (r0 : Addr) (p2 : Int32) (p3 : Int32) (p4 : Int32) (p5 : Int32) (d1 : Addr) (kd : ClassId) (z1 : Int32) (us : List Value) (cs : Int32) (fm : Value) (h0 : Heap) (n0 : Nat) (Z0 : n0 ≤ h0.size) (hp0 : Exa Z h0 r0 "java/lang/String") (hp1 : Fld Z h0 r0 "java/lang/String" "coder" "B" (.int (0 : Int32))) (hp2 : Fld Z h0 r0 "java/lang/String" "value" "[B" (.ref d1)) (hp3 : Arv Z h0 d1 kd .byte (z1 + (19 : Int32)) (own_obj ++ ((.int (60 : Int32)) :: (us ++ [(.int (62 : Int32)), (.int (41 : Int32))])) : List Value) (.int (0 : Int32))) (hp4 : Sta Z h0 "java/lang/String" "COMPACT_STRINGS" "Z" (.int cs)) (hp5 : Sta Z h0 "jdk/internal/util/Preconditions" "SIOOBE_FORMATTER" "Ljava/util/function/BiFunction;" fm) (hh0 : ¬ cs = (0 : Int32)) (hh1 : fm.isRef = true) (hh2 : own_ok p2 p3 p4 p5 z1 us) :
    MetFree l (⟨"com/example/cardinal_tableau/cardinaltableau/model/RoleToStringPinLaw", "check", "(Ljava/lang/String;ZICCC)Z"⟩ : MethodName) (head1 (Jvm.Cond.code (⟨"com/example/cardinal_tableau/cardinaltableau/model/RoleToStringPinLaw", "check", "(Ljava/lang/String;ZICCC)Z"⟩ : MethodName) method_4_code 10 (some .boolean) :: ws) ({ frames := 5, cells := 2, slots := 72, locals := 67 } : Room)) (fun a U => a = #[(.ref r0), (.int (1 : Int32)), (.int p2), (.int p3), (.int p4), (.int p5)] ∧ Z.Warmed39 U.vm ∧ U.heap = h0 ∧ CHv Z consts_1 U.vm h0) (fun _ _ _ _ _ => True) (fun _ U o U' => ∃ v L, o = .returned v ∧ Q_rmCkI Z r0 p2 p3 p4 p5 d1 kd z1 us cs fm h0 n0 v U'.heap L ∧ CHr Z consts_1 U.vm U.heap U'.vm U'.heap ∧ ReturnedEndW U o U' L ({ frames := 5, cells := 2, slots := 72, locals := 67 } : Room).cells ({ frames := 5, cells := 2, slots := 72, locals := 67 } : Room).slots) := by
  refine MetFree.of_bodySF (plainFor_of_name pn_rmCkI) hisR ?_
  intro p e s m args below meth c s₁ Bd hml0 hP hK
  obtain ⟨rfl, hZ, hh, hH0⟩ := hP
  have hx := Bd.exec
  have hby := Bd.bytes
  have hml : c.maxLocals = 10 := hml0
  have hown : s.vm.findClass "com/example/cardinal_tableau/cardinaltableau/model/RoleToStringPinLaw" = some m.cls := findClass_of_methodNamed Bd.named
  have hnm := (name_of_methodNamed Bd.named Bd.method).1
  have hlk : meth.locks = false := BodyLoose.notSynchronized Bd
  have X0 : Stand p l e ({ frames := 5, cells := 2, slots := 72, locals := 67 } : Room) (s.setVm s.vm) m #[(.ref r0), (.int (1 : Int32)), (.int p2), (.int p3), (.int p4), (.int p5)] below meth c s₁ [] 0 0 := Stand.of_body Bd
  have e0 : s₁.heap = h0 := by rw [← hh, Bd.state]; rfl
  have N0 := Fr.nil n0
  show own_WH Z consts_1 p e below s (Q_rmCkI Z r0 p2 p3 p4 p5 d1 kd z1 us cs fm h0 n0) 2 72 s₁ (entryFrame m #[(.ref r0), (.int (1 : Int32)), (.int p2), (.int p3), (.int p4), (.int p5)] 10)
  have hS0 : s.Since s.vm 0 := (State.WarmedH.refl s).since 0
  have hk0 : 0 ≤ h0.size := Nat.zero_le _
  refine own_goH (T' := s₁) (g' := (mkF m 0 #[oa r0, oi 1, oi p2, oi p3, oi p4, oi p5, .unset, .unset, .unset, .unset] [])) (fun _ k => castTop (ef_rmCkI m r0 (1 : Int32) p2 p3 p4 p5) k) ?_
  have R0 : CHr Z consts_1 s.vm s.heap s.vm h0 := by rw [hh]; exact CHr.refl hH0
  rcases hh2 with ⟨rfl, rfl, rfl⟩ | ⟨rfl, rfl, v0, rfl, rfl⟩ | ⟨rfl, rfl, v0, v1, rfl, rfl, rfl⟩ | ⟨rfl, rfl, v0, v1, v2, rfl, rfl, rfl, rfl⟩
  · skip
    obtain ⟨LA, hLA⟩ : ∃ l : List Value, l = [(.int (79 : Int32)), (.int (98 : Int32)), (.int (106 : Int32)), (.int (101 : Int32)), (.int (99 : Int32)), (.int (116 : Int32)), (.int (73 : Int32)), (.int (110 : Int32)), (.int (118 : Int32)), (.int (101 : Int32)), (.int (114 : Int32)), (.int (115 : Int32)), (.int (101 : Int32)), (.int (79 : Int32)), (.int (102 : Int32)), (.int (40 : Int32)), (.int (60 : Int32)), (.int (62 : Int32)), (.int (41 : Int32))] := ⟨_, rfl⟩
    have nv1 : Arv Z h0 d1 kd .byte (19 : Int32) LA (.int (0 : Int32)) := by rw [hLA]; exact hp3
    refine own_h s₁ (mkF m 17 #[oa r0, oi 1, oi 0, oi p3, oi p4, oi p5, oi 17, .unset, .unset, .unset] [(.int (0 : Int32))]) (fun _ k => XS.iloadN X0.here hx rfl (hb hby d36_0) rfl (XS.ifNo X0.here hx rfl (hb hby d36_1) rfl (XT.i0_eq_f (by decide : ¬ ((1 : Int32) = (0 : Int32)))) (XS.bipush X0.here hx rfl (hb hby d36_4) (XS.goto X0.here hx rfl (pc0 := 6) (pc' := 10) rfl (hb hby d36_6) (by decide) (by decide) (XS.istore X0.here hx rfl (hb hby d36_10) rfl (l' := #[oa r0, oi 1, oi 0, oi p3, oi p4, oi p5, oi 17, .unset, .unset, .unset]) rfl (XS.iloadN X0.here hx rfl (hb hby d36_12) rfl (XS.ifNo X0.here hx rfl (hb hby d36_13) rfl (XT.i0_eq_f (by decide : ¬ ((1 : Int32) = (0 : Int32)))) (XS.iloadN X0.here hx rfl (hb hby d36_16) rfl k)))))))) ?_
    refine own_h s₁ (mkF m 33 #[oa r0, oi 1, oi 0, oi p3, oi p4, oi p5, oi 17, oi 19, .unset, .unset] [(.ref r0)]) (fun _ k => XS.bipush X0.here hx rfl (hb hby d36_17) (XS.iadd X0.here hx rfl (hb hby d36_19) rfl (XS.goto X0.here hx rfl (pc0 := 20) (pc' := 26) rfl (hb hby d36_20) (by decide) (by decide) (XS.istore X0.here hx rfl (hb hby d36_26) rfl (l' := #[oa r0, oi 1, oi 0, oi p3, oi p4, oi p5, oi 17, oi 19, .unset, .unset]) rfl (XS.aloadN X0.here hx rfl (hb hby d36_28) rfl rfl (XS.ifnullNo X0.here hx rfl (hb hby d36_29) rfl (XS.aloadN X0.here hx rfl (hb hby d36_32) rfl rfl k))))))) ?_
    obtain ⟨cq2, kq2, q2a, q2b, q2c⟩ := isOf hZ e0 hp0
    obtain ⟨_, _, ⟨T2, L2, k2, n2⟩, -, X2, ⟨Lc2, hQ2, l2, y2, z2⟩, st2⟩ := X0.virtualBack hx (y := (⟨"java/lang/String", "length", "()I"⟩ : MethodName)) (z := (⟨"java/lang/String", "length", "()I"⟩ : MethodName)) hown (mvT hZ (own_w hw 194 rfl)) (mvT hZ (own_w hw 85 rfl)) (notFace_of_selects (args := #[]) (mvT hZ (own_w hw 87 rfl))) (mvT hZ (own_w hw 87 rfl)) (mvT hZ (own_w hw 86 rfl)) (by decide) (backOf (W := 0) (rmLen l Z a0 hw [] r0 d1 kd (19 : Int32) LA cs h0 n0 Z0 hp0 hp1 hp2 nv1 hp4 hh0) hZ (own_w hw 88 rfl) (own_w hw 6 rfl) (by decide) (by decide)) q2a q2c (g := (mkF m 33 #[oa r0, oi 1, oi 0, oi p3, oi p4, oi p5, oi 17, oi 19, .unset, .unset] [(.ref r0)])) rfl (by rw [hml]; rfl) (Steps.refl _) (argsL := []) (rest := []) (lenOf own_pd11 rfl) rfl (Nat.le_of_eq rfl) (hb hby d36_33) (fun _ _ => ⟨rfl, e0, (by decide : 0 + 0 ≤ _), (by decide : 0 + 0 ≤ _)⟩)
    dsimp only [Pt.U, Pt.locs, Pt.cells, Pt.slots] at X2 l2 y2 z2 st2 hQ2
    subst l2 y2 z2
    obtain ⟨rfl, N2q, e2⟩ := hQ2
    have N2 := Fr.app N0 N2q
    obtain ⟨Lv2, X2, N2⟩ := own_hide X2 (Nat.le_refl 0) (Nat.le_refl 0) N2
    refine own_h T2 (mkF m 48 #[oa r0, oi 1, oi 0, oi p3, oi p4, oi p5, oi 17, oi 19, .unset, .unset] [(.ref r0)]) (fun _ k => st2.trans (XS.iload X2.here hx rfl (hb hby d36_36) rfl (XS.icmpYes X2.here hx rfl (pc0 := 38) (pc' := 43) rfl (hb hby d36_38) rfl (XT.ii_eq_t (by decide)) (by decide) (by decide) (XS.iloadN X2.here hx rfl (hb hby d36_43) rfl (XS.ifNo X2.here hx rfl (hb hby d36_44) rfl (XT.i0_eq_f (by decide : ¬ ((1 : Int32) = (0 : Int32)))) (XS.aloadN X2.here hx rfl (hb hby d36_47) rfl rfl k)))))) ?_
    obtain ⟨_, _, ⟨T3, L3, k3, n3⟩, -, XX3, hs23, hg23, ⟨Lc3, hQ3, l3, y3, z3, ch3⟩, st3⟩ := Jvm.RoadKit.callSS X2 hx (y := (⟨"com/example/cardinal_tableau/cardinaltableau/model/RoleToStringPinLaw", "prefix", "(Ljava/lang/String;)Z"⟩ : MethodName)) hown (mvT hZ (own_w hw 216 rfl)) (mvT hZ (own_w hw 217 rfl)) (mvT hZ (own_w hw 2 rfl)) (mvT hZ (own_w hw 218 rfl)) (by decide) (backOfSH (W := 0) (rmPre l Z a0 hw [] r0 d1 kd (19 : Int32) ([(.int (62 : Int32)), (.int (41 : Int32))] : List Value) cs fm h0 n0 Z0 hp0 hp1 hp2 (hLA ▸ nv1) hp4 hp5 hh0 hh1 (by decide)) hZ (own_w hw 218 rfl) (own_w hw 2 rfl) (by decide) (by decide) (own_EW hw) R0.1) (g := (mkF m 48 #[oa r0, oi 1, oi 0, oi p3, oi p4, oi p5, oi 17, oi 19, .unset, .unset] [(.ref r0)])) rfl (by rw [hml]; rfl) (argsL := [(.ref r0)]) (rest := []) (lenOf own_pd32 rfl) rfl (Nat.le_of_eq rfl) (hb hby d36_48) (fun _ _ => ⟨rfl, e2, (by decide : 0 + 2 ≤ _), (by decide : 0 + 72 ≤ _)⟩)
    dsimp only [Pt.U, Pt.locs, Pt.cells, Pt.slots] at XX3 hs23 hg23 l3 y3 z3 st3 hQ3 ch3
    subst l3 y3 z3
    obtain ⟨X3, hS3, hZ3, hown3⟩ := rebS hS0 (n1 := T2.heap.size) (by rw [e2]; exact hk0) XX3 hs23 hg23 hZ hown
    obtain ⟨rfl, N3q, K3⟩ := hQ3
    have f4 := (hp0.keep K3)
    have f5 := (hp1.keep K3 nin0)
    have f6 := (hp2.keep K3 nin0)
    have f7 := (nv1.keep K3 nin0)
    have f8 := (own_sta_keep hp4 K3 ns0)
    have f9 := (own_sta_keep hp5 K3 ns0)
    have zs3 : n0 ≤ T3.heap.size := Nat.le_trans Z0 K3.1
    have hk3 : T3.heap.size ≤ T3.heap.size := Nat.le_refl _
    have kk3 : Keep h0 T3.heap [] := (Keep.refl h0 []).trans K3 all0
    have R3 := R0.trans ch3
    have N3 := Fr.app N2 N3q
    obtain ⟨Lv3, X3, N3⟩ := own_hide X3 (Nat.le_refl 2) (Nat.le_refl 72) N3
    refine own_h T3 (mkF m 59 #[oa r0, oi 1, oi 0, oi p3, oi p4, oi p5, oi 17, oi 19, .unset, .unset] [(.int (17 : Int32)), (.ref r0)]) (fun _ k => st3.trans (XS.ifNo X3.here hx rfl (hb hby d36_51) rfl (XT.i0_eq_f (by decide : ¬ ((1 : Int32) = (0 : Int32)))) (XS.aloadN X3.here hx rfl (hb hby d36_54) rfl rfl (XS.iload X3.here hx rfl (hb hby d36_55) rfl (XS.iloadN X3.here hx rfl (hb hby d36_57) rfl (XS.iadd X3.here hx rfl (hb hby d36_58) rfl k)))))) ?_
    obtain ⟨cq10, kq10, q10a, q10b, q10c⟩ := isOf hZ3 rfl f4
    obtain ⟨_, _, ⟨T10, L10, k10, n10⟩, -, X10, ⟨Lc10, hQ10, l10, y10, z10⟩, st10⟩ := X3.virtualBack hx (y := (⟨"java/lang/String", "charAt", "(I)C"⟩ : MethodName)) (z := (⟨"java/lang/String", "charAt", "(I)C"⟩ : MethodName)) hown3 (mvT hZ3 (own_w hw 195 rfl)) (mvT hZ3 (own_w hw 196 rfl)) (notFace_of_selects (args := #[]) (mvT hZ3 (own_w hw 198 rfl))) (mvT hZ3 (own_w hw 198 rfl)) (mvT hZ3 (own_w hw 197 rfl)) (by decide) (backOf (W := 0) (rmCha l Z a0 hw [] r0 (17 : Int32) d1 kd (19 : Int32) LA (62 : Int32) cs fm T3.heap n0 zs3 f4 f5 f6 f7 f8 f9 hh1 (by decide) (by decide) (by rw [hLA]; rfl) hh0) hZ3 (own_w hw 199 rfl) (own_w hw 6 rfl) (by decide) (by decide)) q10a q10c (g := (mkF m 59 #[oa r0, oi 1, oi 0, oi p3, oi p4, oi p5, oi 17, oi 19, .unset, .unset] [(.int (17 : Int32)), (.ref r0)])) rfl (by rw [hml]; rfl) (Steps.refl _) (argsL := [(.int (17 : Int32))]) (rest := []) (lenOf own_pd31 rfl) rfl (Nat.le_of_eq rfl) (hb hby d36_59) (fun _ _ => ⟨rfl, rfl, (by decide : 2 + 0 ≤ _), (by decide : 72 + 0 ≤ _)⟩)
    dsimp only [Pt.U, Pt.locs, Pt.cells, Pt.slots] at X10 l10 y10 z10 st10 hQ10
    subst l10 y10 z10
    obtain ⟨rfl, N10q, e10⟩ := hQ10
    have N10 := Fr.app N3 N10q
    obtain ⟨Lv10, X10, N10⟩ := own_hide X10 (Nat.le_refl 2) (Nat.le_refl 72) N10
    refine own_h T10 (mkF m 73 #[oa r0, oi 1, oi 0, oi p3, oi p4, oi p5, oi 17, oi 19, .unset, .unset] [(.int (1 : Int32)), (.int (17 : Int32)), (.ref r0)]) (fun _ k => st10.trans (XS.bipush X10.here hx rfl (hb hby d36_62) (XS.icmpNo X10.here hx rfl (hb hby d36_64) rfl (XT.ii_ne_f (by decide)) (XS.aloadN X10.here hx rfl (hb hby d36_67) rfl rfl (XS.iload X10.here hx rfl (hb hby d36_68) rfl (XS.iloadN X10.here hx rfl (hb hby d36_70) rfl (XS.iadd X10.here hx rfl (hb hby d36_71) rfl (XS.iconst X10.here hx rfl (hb hby d36_72) k)))))))) ?_
    refine own_h T10 (mkF m 74 #[oa r0, oi 1, oi 0, oi p3, oi p4, oi p5, oi 17, oi 19, .unset, .unset] [(.int (18 : Int32)), (.ref r0)]) (fun _ k => XS.iadd X10.here hx rfl (hb hby d36_73) rfl k) ?_
    obtain ⟨cq11, kq11, q11a, q11b, q11c⟩ := isOf hZ3 e10 f4
    obtain ⟨_, _, ⟨T11, L11, k11, n11⟩, -, X11, ⟨Lc11, hQ11, l11, y11, z11⟩, st11⟩ := X10.virtualBack hx (y := (⟨"java/lang/String", "charAt", "(I)C"⟩ : MethodName)) (z := (⟨"java/lang/String", "charAt", "(I)C"⟩ : MethodName)) hown3 (mvT hZ3 (own_w hw 195 rfl)) (mvT hZ3 (own_w hw 196 rfl)) (notFace_of_selects (args := #[]) (mvT hZ3 (own_w hw 198 rfl))) (mvT hZ3 (own_w hw 198 rfl)) (mvT hZ3 (own_w hw 197 rfl)) (by decide) (backOf (W := 0) (rmCha l Z a0 hw [] r0 (18 : Int32) d1 kd (19 : Int32) LA (41 : Int32) cs fm T3.heap n0 zs3 f4 f5 f6 f7 f8 f9 hh1 (by decide) (by decide) (by rw [hLA]; rfl) hh0) hZ3 (own_w hw 199 rfl) (own_w hw 6 rfl) (by decide) (by decide)) q11a q11c (g := (mkF m 74 #[oa r0, oi 1, oi 0, oi p3, oi p4, oi p5, oi 17, oi 19, .unset, .unset] [(.int (18 : Int32)), (.ref r0)])) rfl (by rw [hml]; rfl) (Steps.refl _) (argsL := [(.int (18 : Int32))]) (rest := []) (lenOf own_pd31 rfl) rfl (Nat.le_of_eq rfl) (hb hby d36_74) (fun _ _ => ⟨rfl, e10, (by decide : 2 + 0 ≤ _), (by decide : 72 + 0 ≤ _)⟩)
    dsimp only [Pt.U, Pt.locs, Pt.cells, Pt.slots] at X11 l11 y11 z11 st11 hQ11
    subst l11 y11 z11
    obtain ⟨rfl, N11q, e11⟩ := hQ11
    have N11 := Fr.app N10 N11q
    obtain ⟨Lv11, X11, N11⟩ := own_hide X11 (Nat.le_refl 2) (Nat.le_refl 72) N11
    refine own_h T11 (mkF m 122 #[oa r0, oi 1, oi 0, oi p3, oi p4, oi p5, oi 17, oi 19, oi 1, .unset] [(.int (0 : Int32))]) (fun _ k => st11.trans (XS.bipush X11.here hx rfl (hb hby d36_77) (XS.icmpNo X11.here hx rfl (hb hby d36_79) rfl (XT.ii_ne_f (by decide)) (XS.iconst X11.here hx rfl (hb hby d36_82) (XS.goto X11.here hx rfl (pc0 := 83) (pc' := 87) rfl (hb hby d36_83) (by decide) (by decide) (XS.istore X11.here hx rfl (hb hby d36_87) rfl (l' := #[oa r0, oi 1, oi 0, oi p3, oi p4, oi p5, oi 17, oi 19, oi 1, .unset]) rfl (XS.goto X11.here hx rfl (pc0 := 89) (pc' := 121) rfl (hb hby d36_89) (by decide) (by decide) (XS.iloadN X11.here hx rfl (hb hby d36_121) rfl k)))))))) ?_
    refine own_h T11 (mkF m 172 #[oa r0, oi 1, oi 0, oi p3, oi p4, oi p5, oi 17, oi 19, oi 1, .unset] []) (fun _ k => XS.iconst X11.here hx rfl (hb hby d36_122) (XS.icmpYes X11.here hx rfl (pc0 := 123) (pc' := 136) rfl (hb hby d36_123) rfl (XT.ii_lt_t (by decide : (0 : Int32) < (1 : Int32))) (by decide) (by decide) (XS.iloadN X11.here hx rfl (hb hby d36_136) rfl (XS.iconst X11.here hx rfl (hb hby d36_137) (XS.icmpYes X11.here hx rfl (pc0 := 138) (pc' := 154) rfl (hb hby d36_138) rfl (XT.ii_lt_t (by decide : (0 : Int32) < (2 : Int32))) (by decide) (by decide) (XS.iloadN X11.here hx rfl (hb hby d36_154) rfl (XS.iconst X11.here hx rfl (hb hby d36_155) (XS.icmpYes X11.here hx rfl (pc0 := 156) (pc' := 172) rfl (hb hby d36_156) rfl (XT.ii_lt_t (by decide : (0 : Int32) < (3 : Int32))) (by decide) (by decide) k)))))))) ?_
    refine own_h T11 (mkF m 190 #[oa r0, oi 1, oi 0, oi p3, oi p4, oi p5, oi 17, oi 19, oi 1, oi 1] [(.int (1 : Int32))]) (fun _ k => XS.iconst X11.here hx rfl (hb hby d36_172) (XS.goto X11.here hx rfl (pc0 := 173) (pc' := 177) rfl (hb hby d36_173) (by decide) (by decide) (XS.istore X11.here hx rfl (hb hby d36_177) rfl (l' := #[oa r0, oi 1, oi 0, oi p3, oi p4, oi p5, oi 17, oi 19, oi 1, oi 1]) rfl (XS.iload X11.here hx rfl (hb hby d36_179) rfl (XS.ifNo X11.here hx rfl (hb hby d36_181) rfl (XT.i0_eq_f (by decide : ¬ ((1 : Int32) = (0 : Int32)))) (XS.iload X11.here hx rfl (hb hby d36_184) rfl (XS.ifNo X11.here hx rfl (hb hby d36_186) rfl (XT.i0_eq_f (by decide : ¬ ((1 : Int32) = (0 : Int32)))) (XS.iconst X11.here hx rfl (hb hby d36_189) k)))))))) ?_
    refine own_h T11 (mkF m 194 #[oa r0, oi 1, oi 0, oi p3, oi p4, oi p5, oi 17, oi 19, oi 1, oi 1] [(.int (1 : Int32))]) (fun _ k => XS.goto X11.here hx rfl (pc0 := 190) (pc' := 194) rfl (hb hby d36_190) (by decide) (by decide) k) ?_
    exact own_retNH X11 hS3 hx (t := .boolean) Bd.returns hlk (by simp) (hb hby d36_194) hZ3 (own_EW hw) R3 e11 hk3 ⟨rfl, N11, kk3⟩ (by decide) (by decide)
  · skip
    obtain ⟨LA, hLA⟩ : ∃ l : List Value, l = [(.int (79 : Int32)), (.int (98 : Int32)), (.int (106 : Int32)), (.int (101 : Int32)), (.int (99 : Int32)), (.int (116 : Int32)), (.int (73 : Int32)), (.int (110 : Int32)), (.int (118 : Int32)), (.int (101 : Int32)), (.int (114 : Int32)), (.int (115 : Int32)), (.int (101 : Int32)), (.int (79 : Int32)), (.int (102 : Int32)), (.int (40 : Int32)), (.int (60 : Int32)), (.int v0), (.int (62 : Int32)), (.int (41 : Int32))] := ⟨_, rfl⟩
    have nv12 : Arv Z h0 d1 kd .byte (20 : Int32) LA (.int (0 : Int32)) := by rw [hLA]; exact hp3
    refine own_h s₁ (mkF m 17 #[oa r0, oi 1, oi 1, .val (.int (own_ca v0)), oi p4, oi p5, oi 17, .unset, .unset, .unset] [(.int (1 : Int32))]) (fun _ k => XS.iloadN X0.here hx rfl (hb hby d36_0) rfl (XS.ifNo X0.here hx rfl (hb hby d36_1) rfl (XT.i0_eq_f (by decide : ¬ ((1 : Int32) = (0 : Int32)))) (XS.bipush X0.here hx rfl (hb hby d36_4) (XS.goto X0.here hx rfl (pc0 := 6) (pc' := 10) rfl (hb hby d36_6) (by decide) (by decide) (XS.istore X0.here hx rfl (hb hby d36_10) rfl (l' := #[oa r0, oi 1, oi 1, .val (.int (own_ca v0)), oi p4, oi p5, oi 17, .unset, .unset, .unset]) rfl (XS.iloadN X0.here hx rfl (hb hby d36_12) rfl (XS.ifNo X0.here hx rfl (hb hby d36_13) rfl (XT.i0_eq_f (by decide : ¬ ((1 : Int32) = (0 : Int32)))) (XS.iloadN X0.here hx rfl (hb hby d36_16) rfl k)))))))) ?_
    refine own_h s₁ (mkF m 33 #[oa r0, oi 1, oi 1, .val (.int (own_ca v0)), oi p4, oi p5, oi 17, oi 20, .unset, .unset] [(.ref r0)]) (fun _ k => XS.bipush X0.here hx rfl (hb hby d36_17) (XS.iadd X0.here hx rfl (hb hby d36_19) rfl (XS.goto X0.here hx rfl (pc0 := 20) (pc' := 26) rfl (hb hby d36_20) (by decide) (by decide) (XS.istore X0.here hx rfl (hb hby d36_26) rfl (l' := #[oa r0, oi 1, oi 1, .val (.int (own_ca v0)), oi p4, oi p5, oi 17, oi 20, .unset, .unset]) rfl (XS.aloadN X0.here hx rfl (hb hby d36_28) rfl rfl (XS.ifnullNo X0.here hx rfl (hb hby d36_29) rfl (XS.aloadN X0.here hx rfl (hb hby d36_32) rfl rfl k))))))) ?_
    obtain ⟨cq13, kq13, q13a, q13b, q13c⟩ := isOf hZ e0 hp0
    obtain ⟨_, _, ⟨T13, L13, k13, n13⟩, -, X13, ⟨Lc13, hQ13, l13, y13, z13⟩, st13⟩ := X0.virtualBack hx (y := (⟨"java/lang/String", "length", "()I"⟩ : MethodName)) (z := (⟨"java/lang/String", "length", "()I"⟩ : MethodName)) hown (mvT hZ (own_w hw 194 rfl)) (mvT hZ (own_w hw 85 rfl)) (notFace_of_selects (args := #[]) (mvT hZ (own_w hw 87 rfl))) (mvT hZ (own_w hw 87 rfl)) (mvT hZ (own_w hw 86 rfl)) (by decide) (backOf (W := 0) (rmLen l Z a0 hw [] r0 d1 kd (20 : Int32) LA cs h0 n0 Z0 hp0 hp1 hp2 nv12 hp4 hh0) hZ (own_w hw 88 rfl) (own_w hw 6 rfl) (by decide) (by decide)) q13a q13c (g := (mkF m 33 #[oa r0, oi 1, oi 1, .val (.int (own_ca v0)), oi p4, oi p5, oi 17, oi 20, .unset, .unset] [(.ref r0)])) rfl (by rw [hml]; rfl) (Steps.refl _) (argsL := []) (rest := []) (lenOf own_pd11 rfl) rfl (Nat.le_of_eq rfl) (hb hby d36_33) (fun _ _ => ⟨rfl, e0, (by decide : 0 + 0 ≤ _), (by decide : 0 + 0 ≤ _)⟩)
    dsimp only [Pt.U, Pt.locs, Pt.cells, Pt.slots] at X13 l13 y13 z13 st13 hQ13
    subst l13 y13 z13
    obtain ⟨rfl, N13q, e13⟩ := hQ13
    have N13 := Fr.app N0 N13q
    obtain ⟨Lv13, X13, N13⟩ := own_hide X13 (Nat.le_refl 0) (Nat.le_refl 0) N13
    refine own_h T13 (mkF m 48 #[oa r0, oi 1, oi 1, .val (.int (own_ca v0)), oi p4, oi p5, oi 17, oi 20, .unset, .unset] [(.ref r0)]) (fun _ k => st13.trans (XS.iload X13.here hx rfl (hb hby d36_36) rfl (XS.icmpYes X13.here hx rfl (pc0 := 38) (pc' := 43) rfl (hb hby d36_38) rfl (XT.ii_eq_t (by decide)) (by decide) (by decide) (XS.iloadN X13.here hx rfl (hb hby d36_43) rfl (XS.ifNo X13.here hx rfl (hb hby d36_44) rfl (XT.i0_eq_f (by decide : ¬ ((1 : Int32) = (0 : Int32)))) (XS.aloadN X13.here hx rfl (hb hby d36_47) rfl rfl k)))))) ?_
    obtain ⟨_, _, ⟨T14, L14, k14, n14⟩, -, XX14, hs214, hg214, ⟨Lc14, hQ14, l14, y14, z14, ch14⟩, st14⟩ := Jvm.RoadKit.callSS X13 hx (y := (⟨"com/example/cardinal_tableau/cardinaltableau/model/RoleToStringPinLaw", "prefix", "(Ljava/lang/String;)Z"⟩ : MethodName)) hown (mvT hZ (own_w hw 216 rfl)) (mvT hZ (own_w hw 217 rfl)) (mvT hZ (own_w hw 2 rfl)) (mvT hZ (own_w hw 218 rfl)) (by decide) (backOfSH (W := 0) (rmPre l Z a0 hw [] r0 d1 kd (20 : Int32) ([(.int v0), (.int (62 : Int32)), (.int (41 : Int32))] : List Value) cs fm h0 n0 Z0 hp0 hp1 hp2 (hLA ▸ nv12) hp4 hp5 hh0 hh1 (by decide)) hZ (own_w hw 218 rfl) (own_w hw 2 rfl) (by decide) (by decide) (own_EW hw) R0.1) (g := (mkF m 48 #[oa r0, oi 1, oi 1, .val (.int (own_ca v0)), oi p4, oi p5, oi 17, oi 20, .unset, .unset] [(.ref r0)])) rfl (by rw [hml]; rfl) (argsL := [(.ref r0)]) (rest := []) (lenOf own_pd32 rfl) rfl (Nat.le_of_eq rfl) (hb hby d36_48) (fun _ _ => ⟨rfl, e13, (by decide : 0 + 2 ≤ _), (by decide : 0 + 72 ≤ _)⟩)
    dsimp only [Pt.U, Pt.locs, Pt.cells, Pt.slots] at XX14 hs214 hg214 l14 y14 z14 st14 hQ14 ch14
    subst l14 y14 z14
    obtain ⟨X14, hS14, hZ14, hown14⟩ := rebS hS0 (n1 := T13.heap.size) (by rw [e13]; exact hk0) XX14 hs214 hg214 hZ hown
    obtain ⟨rfl, N14q, K14⟩ := hQ14
    have f15 := (hp0.keep K14)
    have f16 := (hp1.keep K14 nin0)
    have f17 := (hp2.keep K14 nin0)
    have f18 := (nv12.keep K14 nin0)
    have f19 := (own_sta_keep hp4 K14 ns0)
    have f20 := (own_sta_keep hp5 K14 ns0)
    have zs14 : n0 ≤ T14.heap.size := Nat.le_trans Z0 K14.1
    have hk14 : T14.heap.size ≤ T14.heap.size := Nat.le_refl _
    have kk14 : Keep h0 T14.heap [] := (Keep.refl h0 []).trans K14 all0
    have R14 := R0.trans ch14
    have N14 := Fr.app N13 N14q
    obtain ⟨Lv14, X14, N14⟩ := own_hide X14 (Nat.le_refl 2) (Nat.le_refl 72) N14
    refine own_h T14 (mkF m 59 #[oa r0, oi 1, oi 1, .val (.int (own_ca v0)), oi p4, oi p5, oi 17, oi 20, .unset, .unset] [(.int (18 : Int32)), (.ref r0)]) (fun _ k => st14.trans (XS.ifNo X14.here hx rfl (hb hby d36_51) rfl (XT.i0_eq_f (by decide : ¬ ((1 : Int32) = (0 : Int32)))) (XS.aloadN X14.here hx rfl (hb hby d36_54) rfl rfl (XS.iload X14.here hx rfl (hb hby d36_55) rfl (XS.iloadN X14.here hx rfl (hb hby d36_57) rfl (XS.iadd X14.here hx rfl (hb hby d36_58) rfl k)))))) ?_
    obtain ⟨cq21, kq21, q21a, q21b, q21c⟩ := isOf hZ14 rfl f15
    obtain ⟨_, _, ⟨T21, L21, k21, n21⟩, -, X21, ⟨Lc21, hQ21, l21, y21, z21⟩, st21⟩ := X14.virtualBack hx (y := (⟨"java/lang/String", "charAt", "(I)C"⟩ : MethodName)) (z := (⟨"java/lang/String", "charAt", "(I)C"⟩ : MethodName)) hown14 (mvT hZ14 (own_w hw 195 rfl)) (mvT hZ14 (own_w hw 196 rfl)) (notFace_of_selects (args := #[]) (mvT hZ14 (own_w hw 198 rfl))) (mvT hZ14 (own_w hw 198 rfl)) (mvT hZ14 (own_w hw 197 rfl)) (by decide) (backOf (W := 0) (rmCha l Z a0 hw [] r0 (18 : Int32) d1 kd (20 : Int32) LA (62 : Int32) cs fm T14.heap n0 zs14 f15 f16 f17 f18 f19 f20 hh1 (by decide) (by decide) (by rw [hLA]; rfl) hh0) hZ14 (own_w hw 199 rfl) (own_w hw 6 rfl) (by decide) (by decide)) q21a q21c (g := (mkF m 59 #[oa r0, oi 1, oi 1, .val (.int (own_ca v0)), oi p4, oi p5, oi 17, oi 20, .unset, .unset] [(.int (18 : Int32)), (.ref r0)])) rfl (by rw [hml]; rfl) (Steps.refl _) (argsL := [(.int (18 : Int32))]) (rest := []) (lenOf own_pd31 rfl) rfl (Nat.le_of_eq rfl) (hb hby d36_59) (fun _ _ => ⟨rfl, rfl, (by decide : 2 + 0 ≤ _), (by decide : 72 + 0 ≤ _)⟩)
    dsimp only [Pt.U, Pt.locs, Pt.cells, Pt.slots] at X21 l21 y21 z21 st21 hQ21
    subst l21 y21 z21
    obtain ⟨rfl, N21q, e21⟩ := hQ21
    have N21 := Fr.app N14 N21q
    obtain ⟨Lv21, X21, N21⟩ := own_hide X21 (Nat.le_refl 2) (Nat.le_refl 72) N21
    refine own_h T21 (mkF m 73 #[oa r0, oi 1, oi 1, .val (.int (own_ca v0)), oi p4, oi p5, oi 17, oi 20, .unset, .unset] [(.int (1 : Int32)), (.int (18 : Int32)), (.ref r0)]) (fun _ k => st21.trans (XS.bipush X21.here hx rfl (hb hby d36_62) (XS.icmpNo X21.here hx rfl (hb hby d36_64) rfl (XT.ii_ne_f (by decide)) (XS.aloadN X21.here hx rfl (hb hby d36_67) rfl rfl (XS.iload X21.here hx rfl (hb hby d36_68) rfl (XS.iloadN X21.here hx rfl (hb hby d36_70) rfl (XS.iadd X21.here hx rfl (hb hby d36_71) rfl (XS.iconst X21.here hx rfl (hb hby d36_72) k)))))))) ?_
    refine own_h T21 (mkF m 74 #[oa r0, oi 1, oi 1, .val (.int (own_ca v0)), oi p4, oi p5, oi 17, oi 20, .unset, .unset] [(.int (19 : Int32)), (.ref r0)]) (fun _ k => XS.iadd X21.here hx rfl (hb hby d36_73) rfl k) ?_
    obtain ⟨cq22, kq22, q22a, q22b, q22c⟩ := isOf hZ14 e21 f15
    obtain ⟨_, _, ⟨T22, L22, k22, n22⟩, -, X22, ⟨Lc22, hQ22, l22, y22, z22⟩, st22⟩ := X21.virtualBack hx (y := (⟨"java/lang/String", "charAt", "(I)C"⟩ : MethodName)) (z := (⟨"java/lang/String", "charAt", "(I)C"⟩ : MethodName)) hown14 (mvT hZ14 (own_w hw 195 rfl)) (mvT hZ14 (own_w hw 196 rfl)) (notFace_of_selects (args := #[]) (mvT hZ14 (own_w hw 198 rfl))) (mvT hZ14 (own_w hw 198 rfl)) (mvT hZ14 (own_w hw 197 rfl)) (by decide) (backOf (W := 0) (rmCha l Z a0 hw [] r0 (19 : Int32) d1 kd (20 : Int32) LA (41 : Int32) cs fm T14.heap n0 zs14 f15 f16 f17 f18 f19 f20 hh1 (by decide) (by decide) (by rw [hLA]; rfl) hh0) hZ14 (own_w hw 199 rfl) (own_w hw 6 rfl) (by decide) (by decide)) q22a q22c (g := (mkF m 74 #[oa r0, oi 1, oi 1, .val (.int (own_ca v0)), oi p4, oi p5, oi 17, oi 20, .unset, .unset] [(.int (19 : Int32)), (.ref r0)])) rfl (by rw [hml]; rfl) (Steps.refl _) (argsL := [(.int (19 : Int32))]) (rest := []) (lenOf own_pd31 rfl) rfl (Nat.le_of_eq rfl) (hb hby d36_74) (fun _ _ => ⟨rfl, e21, (by decide : 2 + 0 ≤ _), (by decide : 72 + 0 ≤ _)⟩)
    dsimp only [Pt.U, Pt.locs, Pt.cells, Pt.slots] at X22 l22 y22 z22 st22 hQ22
    subst l22 y22 z22
    obtain ⟨rfl, N22q, e22⟩ := hQ22
    have N22 := Fr.app N21 N22q
    obtain ⟨Lv22, X22, N22⟩ := own_hide X22 (Nat.le_refl 2) (Nat.le_refl 72) N22
    refine own_h T22 (mkF m 122 #[oa r0, oi 1, oi 1, .val (.int (own_ca v0)), oi p4, oi p5, oi 17, oi 20, oi 1, .unset] [(.int (1 : Int32))]) (fun _ k => st22.trans (XS.bipush X22.here hx rfl (hb hby d36_77) (XS.icmpNo X22.here hx rfl (hb hby d36_79) rfl (XT.ii_ne_f (by decide)) (XS.iconst X22.here hx rfl (hb hby d36_82) (XS.goto X22.here hx rfl (pc0 := 83) (pc' := 87) rfl (hb hby d36_83) (by decide) (by decide) (XS.istore X22.here hx rfl (hb hby d36_87) rfl (l' := #[oa r0, oi 1, oi 1, .val (.int (own_ca v0)), oi p4, oi p5, oi 17, oi 20, oi 1, .unset]) rfl (XS.goto X22.here hx rfl (pc0 := 89) (pc' := 121) rfl (hb hby d36_89) (by decide) (by decide) (XS.iloadN X22.here hx rfl (hb hby d36_121) rfl k)))))))) ?_
    refine own_h T22 (mkF m 129 #[oa r0, oi 1, oi 1, .val (.int (own_ca v0)), oi p4, oi p5, oi 17, oi 20, oi 1, .unset] [(.int (17 : Int32)), (.ref r0)]) (fun _ k => XS.iconst X22.here hx rfl (hb hby d36_122) (XS.icmpNo X22.here hx rfl (hb hby d36_123) rfl (XT.ii_lt_f (by decide : ¬ ((1 : Int32) < (1 : Int32)))) (XS.aloadN X22.here hx rfl (hb hby d36_126) rfl rfl (XS.iload X22.here hx rfl (hb hby d36_127) rfl k)))) ?_
    obtain ⟨cq23, kq23, q23a, q23b, q23c⟩ := isOf hZ14 e22 f15
    obtain ⟨_, _, ⟨T23, L23, k23, n23⟩, -, X23, ⟨Lc23, hQ23, l23, y23, z23⟩, st23⟩ := X22.virtualBack hx (y := (⟨"java/lang/String", "charAt", "(I)C"⟩ : MethodName)) (z := (⟨"java/lang/String", "charAt", "(I)C"⟩ : MethodName)) hown14 (mvT hZ14 (own_w hw 195 rfl)) (mvT hZ14 (own_w hw 196 rfl)) (notFace_of_selects (args := #[]) (mvT hZ14 (own_w hw 198 rfl))) (mvT hZ14 (own_w hw 198 rfl)) (mvT hZ14 (own_w hw 197 rfl)) (by decide) (backOf (W := 0) (rmCha l Z a0 hw [] r0 (17 : Int32) d1 kd (20 : Int32) LA v0 cs fm T14.heap n0 zs14 f15 f16 f17 f18 f19 f20 hh1 (by decide) (by decide) (by rw [hLA]; rfl) hh0) hZ14 (own_w hw 199 rfl) (own_w hw 6 rfl) (by decide) (by decide)) q23a q23c (g := (mkF m 129 #[oa r0, oi 1, oi 1, .val (.int (own_ca v0)), oi p4, oi p5, oi 17, oi 20, oi 1, .unset] [(.int (17 : Int32)), (.ref r0)])) rfl (by rw [hml]; rfl) (Steps.refl _) (argsL := [(.int (17 : Int32))]) (rest := []) (lenOf own_pd31 rfl) rfl (Nat.le_of_eq rfl) (hb hby d36_129) (fun _ _ => ⟨rfl, e22, (by decide : 2 + 0 ≤ _), (by decide : 72 + 0 ≤ _)⟩)
    dsimp only [Pt.U, Pt.locs, Pt.cells, Pt.slots] at X23 l23 y23 z23 st23 hQ23
    subst l23 y23 z23
    obtain ⟨rfl, N23q, e23⟩ := hQ23
    have N23 := Fr.app N22 N23q
    obtain ⟨Lv23, X23, N23⟩ := own_hide X23 (Nat.le_refl 2) (Nat.le_refl 72) N23
    refine own_h T23 (mkF m 156 #[oa r0, oi 1, oi 1, .val (.int (own_ca v0)), oi p4, oi p5, oi 17, oi 20, oi 1, .unset] [(.int (3 : Int32)), (.int (1 : Int32))]) (fun _ k => st23.trans (XS.iloadN X23.here hx rfl (hb hby d36_132) rfl (XS.icmpNo X23.here hx rfl (hb hby d36_133) rfl (XT.ii_ne_f (rfl : (own_ca v0) = (own_ca v0))) (XS.iloadN X23.here hx rfl (hb hby d36_136) rfl (XS.iconst X23.here hx rfl (hb hby d36_137) (XS.icmpYes X23.here hx rfl (pc0 := 138) (pc' := 154) rfl (hb hby d36_138) rfl (XT.ii_lt_t (by decide : (1 : Int32) < (2 : Int32))) (by decide) (by decide) (XS.iloadN X23.here hx rfl (hb hby d36_154) rfl (XS.iconst X23.here hx rfl (hb hby d36_155) k)))))))) ?_
    refine own_h T23 (mkF m 189 #[oa r0, oi 1, oi 1, .val (.int (own_ca v0)), oi p4, oi p5, oi 17, oi 20, oi 1, oi 1] []) (fun _ k => XS.icmpYes X23.here hx rfl (pc0 := 156) (pc' := 172) rfl (hb hby d36_156) rfl (XT.ii_lt_t (by decide : (1 : Int32) < (3 : Int32))) (by decide) (by decide) (XS.iconst X23.here hx rfl (hb hby d36_172) (XS.goto X23.here hx rfl (pc0 := 173) (pc' := 177) rfl (hb hby d36_173) (by decide) (by decide) (XS.istore X23.here hx rfl (hb hby d36_177) rfl (l' := #[oa r0, oi 1, oi 1, .val (.int (own_ca v0)), oi p4, oi p5, oi 17, oi 20, oi 1, oi 1]) rfl (XS.iload X23.here hx rfl (hb hby d36_179) rfl (XS.ifNo X23.here hx rfl (hb hby d36_181) rfl (XT.i0_eq_f (by decide : ¬ ((1 : Int32) = (0 : Int32)))) (XS.iload X23.here hx rfl (hb hby d36_184) rfl (XS.ifNo X23.here hx rfl (hb hby d36_186) rfl (XT.i0_eq_f (by decide : ¬ ((1 : Int32) = (0 : Int32)))) k)))))))) ?_
    refine own_h T23 (mkF m 194 #[oa r0, oi 1, oi 1, .val (.int (own_ca v0)), oi p4, oi p5, oi 17, oi 20, oi 1, oi 1] [(.int (1 : Int32))]) (fun _ k => XS.iconst X23.here hx rfl (hb hby d36_189) (XS.goto X23.here hx rfl (pc0 := 190) (pc' := 194) rfl (hb hby d36_190) (by decide) (by decide) k)) ?_
    exact own_retNH X23 hS14 hx (t := .boolean) Bd.returns hlk (by simp) (hb hby d36_194) hZ14 (own_EW hw) R14 e23 hk14 ⟨rfl, N23, kk14⟩ (by decide) (by decide)
  · skip
    obtain ⟨LA, hLA⟩ : ∃ l : List Value, l = [(.int (79 : Int32)), (.int (98 : Int32)), (.int (106 : Int32)), (.int (101 : Int32)), (.int (99 : Int32)), (.int (116 : Int32)), (.int (73 : Int32)), (.int (110 : Int32)), (.int (118 : Int32)), (.int (101 : Int32)), (.int (114 : Int32)), (.int (115 : Int32)), (.int (101 : Int32)), (.int (79 : Int32)), (.int (102 : Int32)), (.int (40 : Int32)), (.int (60 : Int32)), (.int v0), (.int v1), (.int (62 : Int32)), (.int (41 : Int32))] := ⟨_, rfl⟩
    have nv24 : Arv Z h0 d1 kd .byte (21 : Int32) LA (.int (0 : Int32)) := by rw [hLA]; exact hp3
    refine own_h s₁ (mkF m 17 #[oa r0, oi 1, oi 2, .val (.int (own_ca v0)), .val (.int (own_ca v1)), oi p5, oi 17, .unset, .unset, .unset] [(.int (2 : Int32))]) (fun _ k => XS.iloadN X0.here hx rfl (hb hby d36_0) rfl (XS.ifNo X0.here hx rfl (hb hby d36_1) rfl (XT.i0_eq_f (by decide : ¬ ((1 : Int32) = (0 : Int32)))) (XS.bipush X0.here hx rfl (hb hby d36_4) (XS.goto X0.here hx rfl (pc0 := 6) (pc' := 10) rfl (hb hby d36_6) (by decide) (by decide) (XS.istore X0.here hx rfl (hb hby d36_10) rfl (l' := #[oa r0, oi 1, oi 2, .val (.int (own_ca v0)), .val (.int (own_ca v1)), oi p5, oi 17, .unset, .unset, .unset]) rfl (XS.iloadN X0.here hx rfl (hb hby d36_12) rfl (XS.ifNo X0.here hx rfl (hb hby d36_13) rfl (XT.i0_eq_f (by decide : ¬ ((1 : Int32) = (0 : Int32)))) (XS.iloadN X0.here hx rfl (hb hby d36_16) rfl k)))))))) ?_
    refine own_h s₁ (mkF m 33 #[oa r0, oi 1, oi 2, .val (.int (own_ca v0)), .val (.int (own_ca v1)), oi p5, oi 17, oi 21, .unset, .unset] [(.ref r0)]) (fun _ k => XS.bipush X0.here hx rfl (hb hby d36_17) (XS.iadd X0.here hx rfl (hb hby d36_19) rfl (XS.goto X0.here hx rfl (pc0 := 20) (pc' := 26) rfl (hb hby d36_20) (by decide) (by decide) (XS.istore X0.here hx rfl (hb hby d36_26) rfl (l' := #[oa r0, oi 1, oi 2, .val (.int (own_ca v0)), .val (.int (own_ca v1)), oi p5, oi 17, oi 21, .unset, .unset]) rfl (XS.aloadN X0.here hx rfl (hb hby d36_28) rfl rfl (XS.ifnullNo X0.here hx rfl (hb hby d36_29) rfl (XS.aloadN X0.here hx rfl (hb hby d36_32) rfl rfl k))))))) ?_
    obtain ⟨cq25, kq25, q25a, q25b, q25c⟩ := isOf hZ e0 hp0
    obtain ⟨_, _, ⟨T25, L25, k25, n25⟩, -, X25, ⟨Lc25, hQ25, l25, y25, z25⟩, st25⟩ := X0.virtualBack hx (y := (⟨"java/lang/String", "length", "()I"⟩ : MethodName)) (z := (⟨"java/lang/String", "length", "()I"⟩ : MethodName)) hown (mvT hZ (own_w hw 194 rfl)) (mvT hZ (own_w hw 85 rfl)) (notFace_of_selects (args := #[]) (mvT hZ (own_w hw 87 rfl))) (mvT hZ (own_w hw 87 rfl)) (mvT hZ (own_w hw 86 rfl)) (by decide) (backOf (W := 0) (rmLen l Z a0 hw [] r0 d1 kd (21 : Int32) LA cs h0 n0 Z0 hp0 hp1 hp2 nv24 hp4 hh0) hZ (own_w hw 88 rfl) (own_w hw 6 rfl) (by decide) (by decide)) q25a q25c (g := (mkF m 33 #[oa r0, oi 1, oi 2, .val (.int (own_ca v0)), .val (.int (own_ca v1)), oi p5, oi 17, oi 21, .unset, .unset] [(.ref r0)])) rfl (by rw [hml]; rfl) (Steps.refl _) (argsL := []) (rest := []) (lenOf own_pd11 rfl) rfl (Nat.le_of_eq rfl) (hb hby d36_33) (fun _ _ => ⟨rfl, e0, (by decide : 0 + 0 ≤ _), (by decide : 0 + 0 ≤ _)⟩)
    dsimp only [Pt.U, Pt.locs, Pt.cells, Pt.slots] at X25 l25 y25 z25 st25 hQ25
    subst l25 y25 z25
    obtain ⟨rfl, N25q, e25⟩ := hQ25
    have N25 := Fr.app N0 N25q
    obtain ⟨Lv25, X25, N25⟩ := own_hide X25 (Nat.le_refl 0) (Nat.le_refl 0) N25
    refine own_h T25 (mkF m 48 #[oa r0, oi 1, oi 2, .val (.int (own_ca v0)), .val (.int (own_ca v1)), oi p5, oi 17, oi 21, .unset, .unset] [(.ref r0)]) (fun _ k => st25.trans (XS.iload X25.here hx rfl (hb hby d36_36) rfl (XS.icmpYes X25.here hx rfl (pc0 := 38) (pc' := 43) rfl (hb hby d36_38) rfl (XT.ii_eq_t (by decide)) (by decide) (by decide) (XS.iloadN X25.here hx rfl (hb hby d36_43) rfl (XS.ifNo X25.here hx rfl (hb hby d36_44) rfl (XT.i0_eq_f (by decide : ¬ ((1 : Int32) = (0 : Int32)))) (XS.aloadN X25.here hx rfl (hb hby d36_47) rfl rfl k)))))) ?_
    obtain ⟨_, _, ⟨T26, L26, k26, n26⟩, -, XX26, hs226, hg226, ⟨Lc26, hQ26, l26, y26, z26, ch26⟩, st26⟩ := Jvm.RoadKit.callSS X25 hx (y := (⟨"com/example/cardinal_tableau/cardinaltableau/model/RoleToStringPinLaw", "prefix", "(Ljava/lang/String;)Z"⟩ : MethodName)) hown (mvT hZ (own_w hw 216 rfl)) (mvT hZ (own_w hw 217 rfl)) (mvT hZ (own_w hw 2 rfl)) (mvT hZ (own_w hw 218 rfl)) (by decide) (backOfSH (W := 0) (rmPre l Z a0 hw [] r0 d1 kd (21 : Int32) ([(.int v0), (.int v1), (.int (62 : Int32)), (.int (41 : Int32))] : List Value) cs fm h0 n0 Z0 hp0 hp1 hp2 (hLA ▸ nv24) hp4 hp5 hh0 hh1 (by decide)) hZ (own_w hw 218 rfl) (own_w hw 2 rfl) (by decide) (by decide) (own_EW hw) R0.1) (g := (mkF m 48 #[oa r0, oi 1, oi 2, .val (.int (own_ca v0)), .val (.int (own_ca v1)), oi p5, oi 17, oi 21, .unset, .unset] [(.ref r0)])) rfl (by rw [hml]; rfl) (argsL := [(.ref r0)]) (rest := []) (lenOf own_pd32 rfl) rfl (Nat.le_of_eq rfl) (hb hby d36_48) (fun _ _ => ⟨rfl, e25, (by decide : 0 + 2 ≤ _), (by decide : 0 + 72 ≤ _)⟩)
    dsimp only [Pt.U, Pt.locs, Pt.cells, Pt.slots] at XX26 hs226 hg226 l26 y26 z26 st26 hQ26 ch26
    subst l26 y26 z26
    obtain ⟨X26, hS26, hZ26, hown26⟩ := rebS hS0 (n1 := T25.heap.size) (by rw [e25]; exact hk0) XX26 hs226 hg226 hZ hown
    obtain ⟨rfl, N26q, K26⟩ := hQ26
    have f27 := (hp0.keep K26)
    have f28 := (hp1.keep K26 nin0)
    have f29 := (hp2.keep K26 nin0)
    have f30 := (nv24.keep K26 nin0)
    have f31 := (own_sta_keep hp4 K26 ns0)
    have f32 := (own_sta_keep hp5 K26 ns0)
    have zs26 : n0 ≤ T26.heap.size := Nat.le_trans Z0 K26.1
    have hk26 : T26.heap.size ≤ T26.heap.size := Nat.le_refl _
    have kk26 : Keep h0 T26.heap [] := (Keep.refl h0 []).trans K26 all0
    have R26 := R0.trans ch26
    have N26 := Fr.app N25 N26q
    obtain ⟨Lv26, X26, N26⟩ := own_hide X26 (Nat.le_refl 2) (Nat.le_refl 72) N26
    refine own_h T26 (mkF m 59 #[oa r0, oi 1, oi 2, .val (.int (own_ca v0)), .val (.int (own_ca v1)), oi p5, oi 17, oi 21, .unset, .unset] [(.int (19 : Int32)), (.ref r0)]) (fun _ k => st26.trans (XS.ifNo X26.here hx rfl (hb hby d36_51) rfl (XT.i0_eq_f (by decide : ¬ ((1 : Int32) = (0 : Int32)))) (XS.aloadN X26.here hx rfl (hb hby d36_54) rfl rfl (XS.iload X26.here hx rfl (hb hby d36_55) rfl (XS.iloadN X26.here hx rfl (hb hby d36_57) rfl (XS.iadd X26.here hx rfl (hb hby d36_58) rfl k)))))) ?_
    obtain ⟨cq33, kq33, q33a, q33b, q33c⟩ := isOf hZ26 rfl f27
    obtain ⟨_, _, ⟨T33, L33, k33, n33⟩, -, X33, ⟨Lc33, hQ33, l33, y33, z33⟩, st33⟩ := X26.virtualBack hx (y := (⟨"java/lang/String", "charAt", "(I)C"⟩ : MethodName)) (z := (⟨"java/lang/String", "charAt", "(I)C"⟩ : MethodName)) hown26 (mvT hZ26 (own_w hw 195 rfl)) (mvT hZ26 (own_w hw 196 rfl)) (notFace_of_selects (args := #[]) (mvT hZ26 (own_w hw 198 rfl))) (mvT hZ26 (own_w hw 198 rfl)) (mvT hZ26 (own_w hw 197 rfl)) (by decide) (backOf (W := 0) (rmCha l Z a0 hw [] r0 (19 : Int32) d1 kd (21 : Int32) LA (62 : Int32) cs fm T26.heap n0 zs26 f27 f28 f29 f30 f31 f32 hh1 (by decide) (by decide) (by rw [hLA]; rfl) hh0) hZ26 (own_w hw 199 rfl) (own_w hw 6 rfl) (by decide) (by decide)) q33a q33c (g := (mkF m 59 #[oa r0, oi 1, oi 2, .val (.int (own_ca v0)), .val (.int (own_ca v1)), oi p5, oi 17, oi 21, .unset, .unset] [(.int (19 : Int32)), (.ref r0)])) rfl (by rw [hml]; rfl) (Steps.refl _) (argsL := [(.int (19 : Int32))]) (rest := []) (lenOf own_pd31 rfl) rfl (Nat.le_of_eq rfl) (hb hby d36_59) (fun _ _ => ⟨rfl, rfl, (by decide : 2 + 0 ≤ _), (by decide : 72 + 0 ≤ _)⟩)
    dsimp only [Pt.U, Pt.locs, Pt.cells, Pt.slots] at X33 l33 y33 z33 st33 hQ33
    subst l33 y33 z33
    obtain ⟨rfl, N33q, e33⟩ := hQ33
    have N33 := Fr.app N26 N33q
    obtain ⟨Lv33, X33, N33⟩ := own_hide X33 (Nat.le_refl 2) (Nat.le_refl 72) N33
    refine own_h T33 (mkF m 73 #[oa r0, oi 1, oi 2, .val (.int (own_ca v0)), .val (.int (own_ca v1)), oi p5, oi 17, oi 21, .unset, .unset] [(.int (1 : Int32)), (.int (19 : Int32)), (.ref r0)]) (fun _ k => st33.trans (XS.bipush X33.here hx rfl (hb hby d36_62) (XS.icmpNo X33.here hx rfl (hb hby d36_64) rfl (XT.ii_ne_f (by decide)) (XS.aloadN X33.here hx rfl (hb hby d36_67) rfl rfl (XS.iload X33.here hx rfl (hb hby d36_68) rfl (XS.iloadN X33.here hx rfl (hb hby d36_70) rfl (XS.iadd X33.here hx rfl (hb hby d36_71) rfl (XS.iconst X33.here hx rfl (hb hby d36_72) k)))))))) ?_
    refine own_h T33 (mkF m 74 #[oa r0, oi 1, oi 2, .val (.int (own_ca v0)), .val (.int (own_ca v1)), oi p5, oi 17, oi 21, .unset, .unset] [(.int (20 : Int32)), (.ref r0)]) (fun _ k => XS.iadd X33.here hx rfl (hb hby d36_73) rfl k) ?_
    obtain ⟨cq34, kq34, q34a, q34b, q34c⟩ := isOf hZ26 e33 f27
    obtain ⟨_, _, ⟨T34, L34, k34, n34⟩, -, X34, ⟨Lc34, hQ34, l34, y34, z34⟩, st34⟩ := X33.virtualBack hx (y := (⟨"java/lang/String", "charAt", "(I)C"⟩ : MethodName)) (z := (⟨"java/lang/String", "charAt", "(I)C"⟩ : MethodName)) hown26 (mvT hZ26 (own_w hw 195 rfl)) (mvT hZ26 (own_w hw 196 rfl)) (notFace_of_selects (args := #[]) (mvT hZ26 (own_w hw 198 rfl))) (mvT hZ26 (own_w hw 198 rfl)) (mvT hZ26 (own_w hw 197 rfl)) (by decide) (backOf (W := 0) (rmCha l Z a0 hw [] r0 (20 : Int32) d1 kd (21 : Int32) LA (41 : Int32) cs fm T26.heap n0 zs26 f27 f28 f29 f30 f31 f32 hh1 (by decide) (by decide) (by rw [hLA]; rfl) hh0) hZ26 (own_w hw 199 rfl) (own_w hw 6 rfl) (by decide) (by decide)) q34a q34c (g := (mkF m 74 #[oa r0, oi 1, oi 2, .val (.int (own_ca v0)), .val (.int (own_ca v1)), oi p5, oi 17, oi 21, .unset, .unset] [(.int (20 : Int32)), (.ref r0)])) rfl (by rw [hml]; rfl) (Steps.refl _) (argsL := [(.int (20 : Int32))]) (rest := []) (lenOf own_pd31 rfl) rfl (Nat.le_of_eq rfl) (hb hby d36_74) (fun _ _ => ⟨rfl, e33, (by decide : 2 + 0 ≤ _), (by decide : 72 + 0 ≤ _)⟩)
    dsimp only [Pt.U, Pt.locs, Pt.cells, Pt.slots] at X34 l34 y34 z34 st34 hQ34
    subst l34 y34 z34
    obtain ⟨rfl, N34q, e34⟩ := hQ34
    have N34 := Fr.app N33 N34q
    obtain ⟨Lv34, X34, N34⟩ := own_hide X34 (Nat.le_refl 2) (Nat.le_refl 72) N34
    refine own_h T34 (mkF m 122 #[oa r0, oi 1, oi 2, .val (.int (own_ca v0)), .val (.int (own_ca v1)), oi p5, oi 17, oi 21, oi 1, .unset] [(.int (2 : Int32))]) (fun _ k => st34.trans (XS.bipush X34.here hx rfl (hb hby d36_77) (XS.icmpNo X34.here hx rfl (hb hby d36_79) rfl (XT.ii_ne_f (by decide)) (XS.iconst X34.here hx rfl (hb hby d36_82) (XS.goto X34.here hx rfl (pc0 := 83) (pc' := 87) rfl (hb hby d36_83) (by decide) (by decide) (XS.istore X34.here hx rfl (hb hby d36_87) rfl (l' := #[oa r0, oi 1, oi 2, .val (.int (own_ca v0)), .val (.int (own_ca v1)), oi p5, oi 17, oi 21, oi 1, .unset]) rfl (XS.goto X34.here hx rfl (pc0 := 89) (pc' := 121) rfl (hb hby d36_89) (by decide) (by decide) (XS.iloadN X34.here hx rfl (hb hby d36_121) rfl k)))))))) ?_
    refine own_h T34 (mkF m 129 #[oa r0, oi 1, oi 2, .val (.int (own_ca v0)), .val (.int (own_ca v1)), oi p5, oi 17, oi 21, oi 1, .unset] [(.int (17 : Int32)), (.ref r0)]) (fun _ k => XS.iconst X34.here hx rfl (hb hby d36_122) (XS.icmpNo X34.here hx rfl (hb hby d36_123) rfl (XT.ii_lt_f (by decide : ¬ ((2 : Int32) < (1 : Int32)))) (XS.aloadN X34.here hx rfl (hb hby d36_126) rfl rfl (XS.iload X34.here hx rfl (hb hby d36_127) rfl k)))) ?_
    obtain ⟨cq35, kq35, q35a, q35b, q35c⟩ := isOf hZ26 e34 f27
    obtain ⟨_, _, ⟨T35, L35, k35, n35⟩, -, X35, ⟨Lc35, hQ35, l35, y35, z35⟩, st35⟩ := X34.virtualBack hx (y := (⟨"java/lang/String", "charAt", "(I)C"⟩ : MethodName)) (z := (⟨"java/lang/String", "charAt", "(I)C"⟩ : MethodName)) hown26 (mvT hZ26 (own_w hw 195 rfl)) (mvT hZ26 (own_w hw 196 rfl)) (notFace_of_selects (args := #[]) (mvT hZ26 (own_w hw 198 rfl))) (mvT hZ26 (own_w hw 198 rfl)) (mvT hZ26 (own_w hw 197 rfl)) (by decide) (backOf (W := 0) (rmCha l Z a0 hw [] r0 (17 : Int32) d1 kd (21 : Int32) LA v0 cs fm T26.heap n0 zs26 f27 f28 f29 f30 f31 f32 hh1 (by decide) (by decide) (by rw [hLA]; rfl) hh0) hZ26 (own_w hw 199 rfl) (own_w hw 6 rfl) (by decide) (by decide)) q35a q35c (g := (mkF m 129 #[oa r0, oi 1, oi 2, .val (.int (own_ca v0)), .val (.int (own_ca v1)), oi p5, oi 17, oi 21, oi 1, .unset] [(.int (17 : Int32)), (.ref r0)])) rfl (by rw [hml]; rfl) (Steps.refl _) (argsL := [(.int (17 : Int32))]) (rest := []) (lenOf own_pd31 rfl) rfl (Nat.le_of_eq rfl) (hb hby d36_129) (fun _ _ => ⟨rfl, e34, (by decide : 2 + 0 ≤ _), (by decide : 72 + 0 ≤ _)⟩)
    dsimp only [Pt.U, Pt.locs, Pt.cells, Pt.slots] at X35 l35 y35 z35 st35 hQ35
    subst l35 y35 z35
    obtain ⟨rfl, N35q, e35⟩ := hQ35
    have N35 := Fr.app N34 N35q
    obtain ⟨Lv35, X35, N35⟩ := own_hide X35 (Nat.le_refl 2) (Nat.le_refl 72) N35
    refine own_h T35 (mkF m 144 #[oa r0, oi 1, oi 2, .val (.int (own_ca v0)), .val (.int (own_ca v1)), oi p5, oi 17, oi 21, oi 1, .unset] [(.int (17 : Int32)), (.ref r0)]) (fun _ k => st35.trans (XS.iloadN X35.here hx rfl (hb hby d36_132) rfl (XS.icmpNo X35.here hx rfl (hb hby d36_133) rfl (XT.ii_ne_f (rfl : (own_ca v0) = (own_ca v0))) (XS.iloadN X35.here hx rfl (hb hby d36_136) rfl (XS.iconst X35.here hx rfl (hb hby d36_137) (XS.icmpNo X35.here hx rfl (hb hby d36_138) rfl (XT.ii_lt_f (by decide : ¬ ((2 : Int32) < (2 : Int32)))) (XS.aloadN X35.here hx rfl (hb hby d36_141) rfl rfl (XS.iload X35.here hx rfl (hb hby d36_142) rfl k)))))))) ?_
    refine own_h T35 (mkF m 146 #[oa r0, oi 1, oi 2, .val (.int (own_ca v0)), .val (.int (own_ca v1)), oi p5, oi 17, oi 21, oi 1, .unset] [(.int (18 : Int32)), (.ref r0)]) (fun _ k => XS.iconst X35.here hx rfl (hb hby d36_144) (XS.iadd X35.here hx rfl (hb hby d36_145) rfl k)) ?_
    obtain ⟨cq36, kq36, q36a, q36b, q36c⟩ := isOf hZ26 e35 f27
    obtain ⟨_, _, ⟨T36, L36, k36, n36⟩, -, X36, ⟨Lc36, hQ36, l36, y36, z36⟩, st36⟩ := X35.virtualBack hx (y := (⟨"java/lang/String", "charAt", "(I)C"⟩ : MethodName)) (z := (⟨"java/lang/String", "charAt", "(I)C"⟩ : MethodName)) hown26 (mvT hZ26 (own_w hw 195 rfl)) (mvT hZ26 (own_w hw 196 rfl)) (notFace_of_selects (args := #[]) (mvT hZ26 (own_w hw 198 rfl))) (mvT hZ26 (own_w hw 198 rfl)) (mvT hZ26 (own_w hw 197 rfl)) (by decide) (backOf (W := 0) (rmCha l Z a0 hw [] r0 (18 : Int32) d1 kd (21 : Int32) LA v1 cs fm T26.heap n0 zs26 f27 f28 f29 f30 f31 f32 hh1 (by decide) (by decide) (by rw [hLA]; rfl) hh0) hZ26 (own_w hw 199 rfl) (own_w hw 6 rfl) (by decide) (by decide)) q36a q36c (g := (mkF m 146 #[oa r0, oi 1, oi 2, .val (.int (own_ca v0)), .val (.int (own_ca v1)), oi p5, oi 17, oi 21, oi 1, .unset] [(.int (18 : Int32)), (.ref r0)])) rfl (by rw [hml]; rfl) (Steps.refl _) (argsL := [(.int (18 : Int32))]) (rest := []) (lenOf own_pd31 rfl) rfl (Nat.le_of_eq rfl) (hb hby d36_146) (fun _ _ => ⟨rfl, e35, (by decide : 2 + 0 ≤ _), (by decide : 72 + 0 ≤ _)⟩)
    dsimp only [Pt.U, Pt.locs, Pt.cells, Pt.slots] at X36 l36 y36 z36 st36 hQ36
    subst l36 y36 z36
    obtain ⟨rfl, N36q, e36⟩ := hQ36
    have N36 := Fr.app N35 N36q
    obtain ⟨Lv36, X36, N36⟩ := own_hide X36 (Nat.le_refl 2) (Nat.le_refl 72) N36
    refine own_h T36 (mkF m 177 #[oa r0, oi 1, oi 2, .val (.int (own_ca v0)), .val (.int (own_ca v1)), oi p5, oi 17, oi 21, oi 1, .unset] [(.int (1 : Int32))]) (fun _ k => st36.trans (XS.iload X36.here hx rfl (hb hby d36_149) rfl (XS.icmpNo X36.here hx rfl (hb hby d36_151) rfl (XT.ii_ne_f (rfl : (own_ca v1) = (own_ca v1))) (XS.iloadN X36.here hx rfl (hb hby d36_154) rfl (XS.iconst X36.here hx rfl (hb hby d36_155) (XS.icmpYes X36.here hx rfl (pc0 := 156) (pc' := 172) rfl (hb hby d36_156) rfl (XT.ii_lt_t (by decide : (2 : Int32) < (3 : Int32))) (by decide) (by decide) (XS.iconst X36.here hx rfl (hb hby d36_172) (XS.goto X36.here hx rfl (pc0 := 173) (pc' := 177) rfl (hb hby d36_173) (by decide) (by decide) k)))))))) ?_
    refine own_h T36 (mkF m 194 #[oa r0, oi 1, oi 2, .val (.int (own_ca v0)), .val (.int (own_ca v1)), oi p5, oi 17, oi 21, oi 1, oi 1] [(.int (1 : Int32))]) (fun _ k => XS.istore X36.here hx rfl (hb hby d36_177) rfl (l' := #[oa r0, oi 1, oi 2, .val (.int (own_ca v0)), .val (.int (own_ca v1)), oi p5, oi 17, oi 21, oi 1, oi 1]) rfl (XS.iload X36.here hx rfl (hb hby d36_179) rfl (XS.ifNo X36.here hx rfl (hb hby d36_181) rfl (XT.i0_eq_f (by decide : ¬ ((1 : Int32) = (0 : Int32)))) (XS.iload X36.here hx rfl (hb hby d36_184) rfl (XS.ifNo X36.here hx rfl (hb hby d36_186) rfl (XT.i0_eq_f (by decide : ¬ ((1 : Int32) = (0 : Int32)))) (XS.iconst X36.here hx rfl (hb hby d36_189) (XS.goto X36.here hx rfl (pc0 := 190) (pc' := 194) rfl (hb hby d36_190) (by decide) (by decide) k))))))) ?_
    exact own_retNH X36 hS26 hx (t := .boolean) Bd.returns hlk (by simp) (hb hby d36_194) hZ26 (own_EW hw) R26 e36 hk26 ⟨rfl, N36, kk26⟩ (by decide) (by decide)
  · skip
    obtain ⟨LA, hLA⟩ : ∃ l : List Value, l = [(.int (79 : Int32)), (.int (98 : Int32)), (.int (106 : Int32)), (.int (101 : Int32)), (.int (99 : Int32)), (.int (116 : Int32)), (.int (73 : Int32)), (.int (110 : Int32)), (.int (118 : Int32)), (.int (101 : Int32)), (.int (114 : Int32)), (.int (115 : Int32)), (.int (101 : Int32)), (.int (79 : Int32)), (.int (102 : Int32)), (.int (40 : Int32)), (.int (60 : Int32)), (.int v0), (.int v1), (.int v2), (.int (62 : Int32)), (.int (41 : Int32))] := ⟨_, rfl⟩
    have nv37 : Arv Z h0 d1 kd .byte (22 : Int32) LA (.int (0 : Int32)) := by rw [hLA]; exact hp3
    refine own_h s₁ (mkF m 17 #[oa r0, oi 1, oi 3, .val (.int (own_ca v0)), .val (.int (own_ca v1)), .val (.int (own_ca v2)), oi 17, .unset, .unset, .unset] [(.int (3 : Int32))]) (fun _ k => XS.iloadN X0.here hx rfl (hb hby d36_0) rfl (XS.ifNo X0.here hx rfl (hb hby d36_1) rfl (XT.i0_eq_f (by decide : ¬ ((1 : Int32) = (0 : Int32)))) (XS.bipush X0.here hx rfl (hb hby d36_4) (XS.goto X0.here hx rfl (pc0 := 6) (pc' := 10) rfl (hb hby d36_6) (by decide) (by decide) (XS.istore X0.here hx rfl (hb hby d36_10) rfl (l' := #[oa r0, oi 1, oi 3, .val (.int (own_ca v0)), .val (.int (own_ca v1)), .val (.int (own_ca v2)), oi 17, .unset, .unset, .unset]) rfl (XS.iloadN X0.here hx rfl (hb hby d36_12) rfl (XS.ifNo X0.here hx rfl (hb hby d36_13) rfl (XT.i0_eq_f (by decide : ¬ ((1 : Int32) = (0 : Int32)))) (XS.iloadN X0.here hx rfl (hb hby d36_16) rfl k)))))))) ?_
    refine own_h s₁ (mkF m 33 #[oa r0, oi 1, oi 3, .val (.int (own_ca v0)), .val (.int (own_ca v1)), .val (.int (own_ca v2)), oi 17, oi 22, .unset, .unset] [(.ref r0)]) (fun _ k => XS.bipush X0.here hx rfl (hb hby d36_17) (XS.iadd X0.here hx rfl (hb hby d36_19) rfl (XS.goto X0.here hx rfl (pc0 := 20) (pc' := 26) rfl (hb hby d36_20) (by decide) (by decide) (XS.istore X0.here hx rfl (hb hby d36_26) rfl (l' := #[oa r0, oi 1, oi 3, .val (.int (own_ca v0)), .val (.int (own_ca v1)), .val (.int (own_ca v2)), oi 17, oi 22, .unset, .unset]) rfl (XS.aloadN X0.here hx rfl (hb hby d36_28) rfl rfl (XS.ifnullNo X0.here hx rfl (hb hby d36_29) rfl (XS.aloadN X0.here hx rfl (hb hby d36_32) rfl rfl k))))))) ?_
    obtain ⟨cq38, kq38, q38a, q38b, q38c⟩ := isOf hZ e0 hp0
    obtain ⟨_, _, ⟨T38, L38, k38, n38⟩, -, X38, ⟨Lc38, hQ38, l38, y38, z38⟩, st38⟩ := X0.virtualBack hx (y := (⟨"java/lang/String", "length", "()I"⟩ : MethodName)) (z := (⟨"java/lang/String", "length", "()I"⟩ : MethodName)) hown (mvT hZ (own_w hw 194 rfl)) (mvT hZ (own_w hw 85 rfl)) (notFace_of_selects (args := #[]) (mvT hZ (own_w hw 87 rfl))) (mvT hZ (own_w hw 87 rfl)) (mvT hZ (own_w hw 86 rfl)) (by decide) (backOf (W := 0) (rmLen l Z a0 hw [] r0 d1 kd (22 : Int32) LA cs h0 n0 Z0 hp0 hp1 hp2 nv37 hp4 hh0) hZ (own_w hw 88 rfl) (own_w hw 6 rfl) (by decide) (by decide)) q38a q38c (g := (mkF m 33 #[oa r0, oi 1, oi 3, .val (.int (own_ca v0)), .val (.int (own_ca v1)), .val (.int (own_ca v2)), oi 17, oi 22, .unset, .unset] [(.ref r0)])) rfl (by rw [hml]; rfl) (Steps.refl _) (argsL := []) (rest := []) (lenOf own_pd11 rfl) rfl (Nat.le_of_eq rfl) (hb hby d36_33) (fun _ _ => ⟨rfl, e0, (by decide : 0 + 0 ≤ _), (by decide : 0 + 0 ≤ _)⟩)
    dsimp only [Pt.U, Pt.locs, Pt.cells, Pt.slots] at X38 l38 y38 z38 st38 hQ38
    subst l38 y38 z38
    obtain ⟨rfl, N38q, e38⟩ := hQ38
    have N38 := Fr.app N0 N38q
    obtain ⟨Lv38, X38, N38⟩ := own_hide X38 (Nat.le_refl 0) (Nat.le_refl 0) N38
    refine own_h T38 (mkF m 48 #[oa r0, oi 1, oi 3, .val (.int (own_ca v0)), .val (.int (own_ca v1)), .val (.int (own_ca v2)), oi 17, oi 22, .unset, .unset] [(.ref r0)]) (fun _ k => st38.trans (XS.iload X38.here hx rfl (hb hby d36_36) rfl (XS.icmpYes X38.here hx rfl (pc0 := 38) (pc' := 43) rfl (hb hby d36_38) rfl (XT.ii_eq_t (by decide)) (by decide) (by decide) (XS.iloadN X38.here hx rfl (hb hby d36_43) rfl (XS.ifNo X38.here hx rfl (hb hby d36_44) rfl (XT.i0_eq_f (by decide : ¬ ((1 : Int32) = (0 : Int32)))) (XS.aloadN X38.here hx rfl (hb hby d36_47) rfl rfl k)))))) ?_
    obtain ⟨_, _, ⟨T39, L39, k39, n39⟩, -, XX39, hs239, hg239, ⟨Lc39, hQ39, l39, y39, z39, ch39⟩, st39⟩ := Jvm.RoadKit.callSS X38 hx (y := (⟨"com/example/cardinal_tableau/cardinaltableau/model/RoleToStringPinLaw", "prefix", "(Ljava/lang/String;)Z"⟩ : MethodName)) hown (mvT hZ (own_w hw 216 rfl)) (mvT hZ (own_w hw 217 rfl)) (mvT hZ (own_w hw 2 rfl)) (mvT hZ (own_w hw 218 rfl)) (by decide) (backOfSH (W := 0) (rmPre l Z a0 hw [] r0 d1 kd (22 : Int32) ([(.int v0), (.int v1), (.int v2), (.int (62 : Int32)), (.int (41 : Int32))] : List Value) cs fm h0 n0 Z0 hp0 hp1 hp2 (hLA ▸ nv37) hp4 hp5 hh0 hh1 (by decide)) hZ (own_w hw 218 rfl) (own_w hw 2 rfl) (by decide) (by decide) (own_EW hw) R0.1) (g := (mkF m 48 #[oa r0, oi 1, oi 3, .val (.int (own_ca v0)), .val (.int (own_ca v1)), .val (.int (own_ca v2)), oi 17, oi 22, .unset, .unset] [(.ref r0)])) rfl (by rw [hml]; rfl) (argsL := [(.ref r0)]) (rest := []) (lenOf own_pd32 rfl) rfl (Nat.le_of_eq rfl) (hb hby d36_48) (fun _ _ => ⟨rfl, e38, (by decide : 0 + 2 ≤ _), (by decide : 0 + 72 ≤ _)⟩)
    dsimp only [Pt.U, Pt.locs, Pt.cells, Pt.slots] at XX39 hs239 hg239 l39 y39 z39 st39 hQ39 ch39
    subst l39 y39 z39
    obtain ⟨X39, hS39, hZ39, hown39⟩ := rebS hS0 (n1 := T38.heap.size) (by rw [e38]; exact hk0) XX39 hs239 hg239 hZ hown
    obtain ⟨rfl, N39q, K39⟩ := hQ39
    have f40 := (hp0.keep K39)
    have f41 := (hp1.keep K39 nin0)
    have f42 := (hp2.keep K39 nin0)
    have f43 := (nv37.keep K39 nin0)
    have f44 := (own_sta_keep hp4 K39 ns0)
    have f45 := (own_sta_keep hp5 K39 ns0)
    have zs39 : n0 ≤ T39.heap.size := Nat.le_trans Z0 K39.1
    have hk39 : T39.heap.size ≤ T39.heap.size := Nat.le_refl _
    have kk39 : Keep h0 T39.heap [] := (Keep.refl h0 []).trans K39 all0
    have R39 := R0.trans ch39
    have N39 := Fr.app N38 N39q
    obtain ⟨Lv39, X39, N39⟩ := own_hide X39 (Nat.le_refl 2) (Nat.le_refl 72) N39
    refine own_h T39 (mkF m 59 #[oa r0, oi 1, oi 3, .val (.int (own_ca v0)), .val (.int (own_ca v1)), .val (.int (own_ca v2)), oi 17, oi 22, .unset, .unset] [(.int (20 : Int32)), (.ref r0)]) (fun _ k => st39.trans (XS.ifNo X39.here hx rfl (hb hby d36_51) rfl (XT.i0_eq_f (by decide : ¬ ((1 : Int32) = (0 : Int32)))) (XS.aloadN X39.here hx rfl (hb hby d36_54) rfl rfl (XS.iload X39.here hx rfl (hb hby d36_55) rfl (XS.iloadN X39.here hx rfl (hb hby d36_57) rfl (XS.iadd X39.here hx rfl (hb hby d36_58) rfl k)))))) ?_
    obtain ⟨cq46, kq46, q46a, q46b, q46c⟩ := isOf hZ39 rfl f40
    obtain ⟨_, _, ⟨T46, L46, k46, n46⟩, -, X46, ⟨Lc46, hQ46, l46, y46, z46⟩, st46⟩ := X39.virtualBack hx (y := (⟨"java/lang/String", "charAt", "(I)C"⟩ : MethodName)) (z := (⟨"java/lang/String", "charAt", "(I)C"⟩ : MethodName)) hown39 (mvT hZ39 (own_w hw 195 rfl)) (mvT hZ39 (own_w hw 196 rfl)) (notFace_of_selects (args := #[]) (mvT hZ39 (own_w hw 198 rfl))) (mvT hZ39 (own_w hw 198 rfl)) (mvT hZ39 (own_w hw 197 rfl)) (by decide) (backOf (W := 0) (rmCha l Z a0 hw [] r0 (20 : Int32) d1 kd (22 : Int32) LA (62 : Int32) cs fm T39.heap n0 zs39 f40 f41 f42 f43 f44 f45 hh1 (by decide) (by decide) (by rw [hLA]; rfl) hh0) hZ39 (own_w hw 199 rfl) (own_w hw 6 rfl) (by decide) (by decide)) q46a q46c (g := (mkF m 59 #[oa r0, oi 1, oi 3, .val (.int (own_ca v0)), .val (.int (own_ca v1)), .val (.int (own_ca v2)), oi 17, oi 22, .unset, .unset] [(.int (20 : Int32)), (.ref r0)])) rfl (by rw [hml]; rfl) (Steps.refl _) (argsL := [(.int (20 : Int32))]) (rest := []) (lenOf own_pd31 rfl) rfl (Nat.le_of_eq rfl) (hb hby d36_59) (fun _ _ => ⟨rfl, rfl, (by decide : 2 + 0 ≤ _), (by decide : 72 + 0 ≤ _)⟩)
    dsimp only [Pt.U, Pt.locs, Pt.cells, Pt.slots] at X46 l46 y46 z46 st46 hQ46
    subst l46 y46 z46
    obtain ⟨rfl, N46q, e46⟩ := hQ46
    have N46 := Fr.app N39 N46q
    obtain ⟨Lv46, X46, N46⟩ := own_hide X46 (Nat.le_refl 2) (Nat.le_refl 72) N46
    refine own_h T46 (mkF m 73 #[oa r0, oi 1, oi 3, .val (.int (own_ca v0)), .val (.int (own_ca v1)), .val (.int (own_ca v2)), oi 17, oi 22, .unset, .unset] [(.int (1 : Int32)), (.int (20 : Int32)), (.ref r0)]) (fun _ k => st46.trans (XS.bipush X46.here hx rfl (hb hby d36_62) (XS.icmpNo X46.here hx rfl (hb hby d36_64) rfl (XT.ii_ne_f (by decide)) (XS.aloadN X46.here hx rfl (hb hby d36_67) rfl rfl (XS.iload X46.here hx rfl (hb hby d36_68) rfl (XS.iloadN X46.here hx rfl (hb hby d36_70) rfl (XS.iadd X46.here hx rfl (hb hby d36_71) rfl (XS.iconst X46.here hx rfl (hb hby d36_72) k)))))))) ?_
    refine own_h T46 (mkF m 74 #[oa r0, oi 1, oi 3, .val (.int (own_ca v0)), .val (.int (own_ca v1)), .val (.int (own_ca v2)), oi 17, oi 22, .unset, .unset] [(.int (21 : Int32)), (.ref r0)]) (fun _ k => XS.iadd X46.here hx rfl (hb hby d36_73) rfl k) ?_
    obtain ⟨cq47, kq47, q47a, q47b, q47c⟩ := isOf hZ39 e46 f40
    obtain ⟨_, _, ⟨T47, L47, k47, n47⟩, -, X47, ⟨Lc47, hQ47, l47, y47, z47⟩, st47⟩ := X46.virtualBack hx (y := (⟨"java/lang/String", "charAt", "(I)C"⟩ : MethodName)) (z := (⟨"java/lang/String", "charAt", "(I)C"⟩ : MethodName)) hown39 (mvT hZ39 (own_w hw 195 rfl)) (mvT hZ39 (own_w hw 196 rfl)) (notFace_of_selects (args := #[]) (mvT hZ39 (own_w hw 198 rfl))) (mvT hZ39 (own_w hw 198 rfl)) (mvT hZ39 (own_w hw 197 rfl)) (by decide) (backOf (W := 0) (rmCha l Z a0 hw [] r0 (21 : Int32) d1 kd (22 : Int32) LA (41 : Int32) cs fm T39.heap n0 zs39 f40 f41 f42 f43 f44 f45 hh1 (by decide) (by decide) (by rw [hLA]; rfl) hh0) hZ39 (own_w hw 199 rfl) (own_w hw 6 rfl) (by decide) (by decide)) q47a q47c (g := (mkF m 74 #[oa r0, oi 1, oi 3, .val (.int (own_ca v0)), .val (.int (own_ca v1)), .val (.int (own_ca v2)), oi 17, oi 22, .unset, .unset] [(.int (21 : Int32)), (.ref r0)])) rfl (by rw [hml]; rfl) (Steps.refl _) (argsL := [(.int (21 : Int32))]) (rest := []) (lenOf own_pd31 rfl) rfl (Nat.le_of_eq rfl) (hb hby d36_74) (fun _ _ => ⟨rfl, e46, (by decide : 2 + 0 ≤ _), (by decide : 72 + 0 ≤ _)⟩)
    dsimp only [Pt.U, Pt.locs, Pt.cells, Pt.slots] at X47 l47 y47 z47 st47 hQ47
    subst l47 y47 z47
    obtain ⟨rfl, N47q, e47⟩ := hQ47
    have N47 := Fr.app N46 N47q
    obtain ⟨Lv47, X47, N47⟩ := own_hide X47 (Nat.le_refl 2) (Nat.le_refl 72) N47
    refine own_h T47 (mkF m 122 #[oa r0, oi 1, oi 3, .val (.int (own_ca v0)), .val (.int (own_ca v1)), .val (.int (own_ca v2)), oi 17, oi 22, oi 1, .unset] [(.int (3 : Int32))]) (fun _ k => st47.trans (XS.bipush X47.here hx rfl (hb hby d36_77) (XS.icmpNo X47.here hx rfl (hb hby d36_79) rfl (XT.ii_ne_f (by decide)) (XS.iconst X47.here hx rfl (hb hby d36_82) (XS.goto X47.here hx rfl (pc0 := 83) (pc' := 87) rfl (hb hby d36_83) (by decide) (by decide) (XS.istore X47.here hx rfl (hb hby d36_87) rfl (l' := #[oa r0, oi 1, oi 3, .val (.int (own_ca v0)), .val (.int (own_ca v1)), .val (.int (own_ca v2)), oi 17, oi 22, oi 1, .unset]) rfl (XS.goto X47.here hx rfl (pc0 := 89) (pc' := 121) rfl (hb hby d36_89) (by decide) (by decide) (XS.iloadN X47.here hx rfl (hb hby d36_121) rfl k)))))))) ?_
    refine own_h T47 (mkF m 129 #[oa r0, oi 1, oi 3, .val (.int (own_ca v0)), .val (.int (own_ca v1)), .val (.int (own_ca v2)), oi 17, oi 22, oi 1, .unset] [(.int (17 : Int32)), (.ref r0)]) (fun _ k => XS.iconst X47.here hx rfl (hb hby d36_122) (XS.icmpNo X47.here hx rfl (hb hby d36_123) rfl (XT.ii_lt_f (by decide : ¬ ((3 : Int32) < (1 : Int32)))) (XS.aloadN X47.here hx rfl (hb hby d36_126) rfl rfl (XS.iload X47.here hx rfl (hb hby d36_127) rfl k)))) ?_
    obtain ⟨cq48, kq48, q48a, q48b, q48c⟩ := isOf hZ39 e47 f40
    obtain ⟨_, _, ⟨T48, L48, k48, n48⟩, -, X48, ⟨Lc48, hQ48, l48, y48, z48⟩, st48⟩ := X47.virtualBack hx (y := (⟨"java/lang/String", "charAt", "(I)C"⟩ : MethodName)) (z := (⟨"java/lang/String", "charAt", "(I)C"⟩ : MethodName)) hown39 (mvT hZ39 (own_w hw 195 rfl)) (mvT hZ39 (own_w hw 196 rfl)) (notFace_of_selects (args := #[]) (mvT hZ39 (own_w hw 198 rfl))) (mvT hZ39 (own_w hw 198 rfl)) (mvT hZ39 (own_w hw 197 rfl)) (by decide) (backOf (W := 0) (rmCha l Z a0 hw [] r0 (17 : Int32) d1 kd (22 : Int32) LA v0 cs fm T39.heap n0 zs39 f40 f41 f42 f43 f44 f45 hh1 (by decide) (by decide) (by rw [hLA]; rfl) hh0) hZ39 (own_w hw 199 rfl) (own_w hw 6 rfl) (by decide) (by decide)) q48a q48c (g := (mkF m 129 #[oa r0, oi 1, oi 3, .val (.int (own_ca v0)), .val (.int (own_ca v1)), .val (.int (own_ca v2)), oi 17, oi 22, oi 1, .unset] [(.int (17 : Int32)), (.ref r0)])) rfl (by rw [hml]; rfl) (Steps.refl _) (argsL := [(.int (17 : Int32))]) (rest := []) (lenOf own_pd31 rfl) rfl (Nat.le_of_eq rfl) (hb hby d36_129) (fun _ _ => ⟨rfl, e47, (by decide : 2 + 0 ≤ _), (by decide : 72 + 0 ≤ _)⟩)
    dsimp only [Pt.U, Pt.locs, Pt.cells, Pt.slots] at X48 l48 y48 z48 st48 hQ48
    subst l48 y48 z48
    obtain ⟨rfl, N48q, e48⟩ := hQ48
    have N48 := Fr.app N47 N48q
    obtain ⟨Lv48, X48, N48⟩ := own_hide X48 (Nat.le_refl 2) (Nat.le_refl 72) N48
    refine own_h T48 (mkF m 144 #[oa r0, oi 1, oi 3, .val (.int (own_ca v0)), .val (.int (own_ca v1)), .val (.int (own_ca v2)), oi 17, oi 22, oi 1, .unset] [(.int (17 : Int32)), (.ref r0)]) (fun _ k => st48.trans (XS.iloadN X48.here hx rfl (hb hby d36_132) rfl (XS.icmpNo X48.here hx rfl (hb hby d36_133) rfl (XT.ii_ne_f (rfl : (own_ca v0) = (own_ca v0))) (XS.iloadN X48.here hx rfl (hb hby d36_136) rfl (XS.iconst X48.here hx rfl (hb hby d36_137) (XS.icmpNo X48.here hx rfl (hb hby d36_138) rfl (XT.ii_lt_f (by decide : ¬ ((3 : Int32) < (2 : Int32)))) (XS.aloadN X48.here hx rfl (hb hby d36_141) rfl rfl (XS.iload X48.here hx rfl (hb hby d36_142) rfl k)))))))) ?_
    refine own_h T48 (mkF m 146 #[oa r0, oi 1, oi 3, .val (.int (own_ca v0)), .val (.int (own_ca v1)), .val (.int (own_ca v2)), oi 17, oi 22, oi 1, .unset] [(.int (18 : Int32)), (.ref r0)]) (fun _ k => XS.iconst X48.here hx rfl (hb hby d36_144) (XS.iadd X48.here hx rfl (hb hby d36_145) rfl k)) ?_
    obtain ⟨cq49, kq49, q49a, q49b, q49c⟩ := isOf hZ39 e48 f40
    obtain ⟨_, _, ⟨T49, L49, k49, n49⟩, -, X49, ⟨Lc49, hQ49, l49, y49, z49⟩, st49⟩ := X48.virtualBack hx (y := (⟨"java/lang/String", "charAt", "(I)C"⟩ : MethodName)) (z := (⟨"java/lang/String", "charAt", "(I)C"⟩ : MethodName)) hown39 (mvT hZ39 (own_w hw 195 rfl)) (mvT hZ39 (own_w hw 196 rfl)) (notFace_of_selects (args := #[]) (mvT hZ39 (own_w hw 198 rfl))) (mvT hZ39 (own_w hw 198 rfl)) (mvT hZ39 (own_w hw 197 rfl)) (by decide) (backOf (W := 0) (rmCha l Z a0 hw [] r0 (18 : Int32) d1 kd (22 : Int32) LA v1 cs fm T39.heap n0 zs39 f40 f41 f42 f43 f44 f45 hh1 (by decide) (by decide) (by rw [hLA]; rfl) hh0) hZ39 (own_w hw 199 rfl) (own_w hw 6 rfl) (by decide) (by decide)) q49a q49c (g := (mkF m 146 #[oa r0, oi 1, oi 3, .val (.int (own_ca v0)), .val (.int (own_ca v1)), .val (.int (own_ca v2)), oi 17, oi 22, oi 1, .unset] [(.int (18 : Int32)), (.ref r0)])) rfl (by rw [hml]; rfl) (Steps.refl _) (argsL := [(.int (18 : Int32))]) (rest := []) (lenOf own_pd31 rfl) rfl (Nat.le_of_eq rfl) (hb hby d36_146) (fun _ _ => ⟨rfl, e48, (by decide : 2 + 0 ≤ _), (by decide : 72 + 0 ≤ _)⟩)
    dsimp only [Pt.U, Pt.locs, Pt.cells, Pt.slots] at X49 l49 y49 z49 st49 hQ49
    subst l49 y49 z49
    obtain ⟨rfl, N49q, e49⟩ := hQ49
    have N49 := Fr.app N48 N49q
    obtain ⟨Lv49, X49, N49⟩ := own_hide X49 (Nat.le_refl 2) (Nat.le_refl 72) N49
    refine own_h T49 (mkF m 162 #[oa r0, oi 1, oi 3, .val (.int (own_ca v0)), .val (.int (own_ca v1)), .val (.int (own_ca v2)), oi 17, oi 22, oi 1, .unset] [(.int (17 : Int32)), (.ref r0)]) (fun _ k => st49.trans (XS.iload X49.here hx rfl (hb hby d36_149) rfl (XS.icmpNo X49.here hx rfl (hb hby d36_151) rfl (XT.ii_ne_f (rfl : (own_ca v1) = (own_ca v1))) (XS.iloadN X49.here hx rfl (hb hby d36_154) rfl (XS.iconst X49.here hx rfl (hb hby d36_155) (XS.icmpNo X49.here hx rfl (hb hby d36_156) rfl (XT.ii_lt_f (by decide : ¬ ((3 : Int32) < (3 : Int32)))) (XS.aloadN X49.here hx rfl (hb hby d36_159) rfl rfl (XS.iload X49.here hx rfl (hb hby d36_160) rfl k)))))))) ?_
    refine own_h T49 (mkF m 164 #[oa r0, oi 1, oi 3, .val (.int (own_ca v0)), .val (.int (own_ca v1)), .val (.int (own_ca v2)), oi 17, oi 22, oi 1, .unset] [(.int (19 : Int32)), (.ref r0)]) (fun _ k => XS.iconst X49.here hx rfl (hb hby d36_162) (XS.iadd X49.here hx rfl (hb hby d36_163) rfl k)) ?_
    obtain ⟨cq50, kq50, q50a, q50b, q50c⟩ := isOf hZ39 e49 f40
    obtain ⟨_, _, ⟨T50, L50, k50, n50⟩, -, X50, ⟨Lc50, hQ50, l50, y50, z50⟩, st50⟩ := X49.virtualBack hx (y := (⟨"java/lang/String", "charAt", "(I)C"⟩ : MethodName)) (z := (⟨"java/lang/String", "charAt", "(I)C"⟩ : MethodName)) hown39 (mvT hZ39 (own_w hw 195 rfl)) (mvT hZ39 (own_w hw 196 rfl)) (notFace_of_selects (args := #[]) (mvT hZ39 (own_w hw 198 rfl))) (mvT hZ39 (own_w hw 198 rfl)) (mvT hZ39 (own_w hw 197 rfl)) (by decide) (backOf (W := 0) (rmCha l Z a0 hw [] r0 (19 : Int32) d1 kd (22 : Int32) LA v2 cs fm T39.heap n0 zs39 f40 f41 f42 f43 f44 f45 hh1 (by decide) (by decide) (by rw [hLA]; rfl) hh0) hZ39 (own_w hw 199 rfl) (own_w hw 6 rfl) (by decide) (by decide)) q50a q50c (g := (mkF m 164 #[oa r0, oi 1, oi 3, .val (.int (own_ca v0)), .val (.int (own_ca v1)), .val (.int (own_ca v2)), oi 17, oi 22, oi 1, .unset] [(.int (19 : Int32)), (.ref r0)])) rfl (by rw [hml]; rfl) (Steps.refl _) (argsL := [(.int (19 : Int32))]) (rest := []) (lenOf own_pd31 rfl) rfl (Nat.le_of_eq rfl) (hb hby d36_164) (fun _ _ => ⟨rfl, e49, (by decide : 2 + 0 ≤ _), (by decide : 72 + 0 ≤ _)⟩)
    dsimp only [Pt.U, Pt.locs, Pt.cells, Pt.slots] at X50 l50 y50 z50 st50 hQ50
    subst l50 y50 z50
    obtain ⟨rfl, N50q, e50⟩ := hQ50
    have N50 := Fr.app N49 N50q
    obtain ⟨Lv50, X50, N50⟩ := own_hide X50 (Nat.le_refl 2) (Nat.le_refl 72) N50
    refine own_h T50 (mkF m 184 #[oa r0, oi 1, oi 3, .val (.int (own_ca v0)), .val (.int (own_ca v1)), .val (.int (own_ca v2)), oi 17, oi 22, oi 1, oi 1] []) (fun _ k => st50.trans (XS.iload X50.here hx rfl (hb hby d36_167) rfl (XS.icmpNo X50.here hx rfl (hb hby d36_169) rfl (XT.ii_ne_f (rfl : (own_ca v2) = (own_ca v2))) (XS.iconst X50.here hx rfl (hb hby d36_172) (XS.goto X50.here hx rfl (pc0 := 173) (pc' := 177) rfl (hb hby d36_173) (by decide) (by decide) (XS.istore X50.here hx rfl (hb hby d36_177) rfl (l' := #[oa r0, oi 1, oi 3, .val (.int (own_ca v0)), .val (.int (own_ca v1)), .val (.int (own_ca v2)), oi 17, oi 22, oi 1, oi 1]) rfl (XS.iload X50.here hx rfl (hb hby d36_179) rfl (XS.ifNo X50.here hx rfl (hb hby d36_181) rfl (XT.i0_eq_f (by decide : ¬ ((1 : Int32) = (0 : Int32)))) k)))))))) ?_
    refine own_h T50 (mkF m 194 #[oa r0, oi 1, oi 3, .val (.int (own_ca v0)), .val (.int (own_ca v1)), .val (.int (own_ca v2)), oi 17, oi 22, oi 1, oi 1] [(.int (1 : Int32))]) (fun _ k => XS.iload X50.here hx rfl (hb hby d36_184) rfl (XS.ifNo X50.here hx rfl (hb hby d36_186) rfl (XT.i0_eq_f (by decide : ¬ ((1 : Int32) = (0 : Int32)))) (XS.iconst X50.here hx rfl (hb hby d36_189) (XS.goto X50.here hx rfl (pc0 := 190) (pc' := 194) rfl (hb hby d36_190) (by decide) (by decide) k)))) ?_
    exact own_retNH X50 hS39 hx (t := .boolean) Bd.returns hlk (by simp) (hb hby d36_194) hZ39 (own_EW hw) R39 e50 hk39 ⟨rfl, N50, kk39⟩ (by decide) (by decide)
theorem own_S {a : Addr} {i j : Int32} : own_isInv a a i j = 0 := by unfold own_isInv; rw [if_pos rfl]
theorem own_I0 {a b : Addr} {i j : Int32} (h : ¬ j < i) : own_isInv a b i j = 0 := by
  unfold own_isInv
  by_cases q : b = a
  · rw [if_pos q]
  · rw [if_neg q, if_neg h]
theorem own_I1 {a b : Addr} {i j : Int32} (q : ¬ b = a) (h : j < i) : ¬ own_isInv a b i j = 0 := by
  unfold own_isInv; rw [if_neg q, if_pos h]; decide
theorem own_pd33 : parseMethodDescriptor "(ICCC)Ljava/lang/String;" = some ⟨[.int, .char, .char, .char], some (.object "java/lang/String")⟩ := by decide +kernel
theorem own_pd34 : parseMethodDescriptor "(Lcom/example/cardinal_tableau/cardinaltableau/model/Role;)V" = some ⟨[(.object "com/example/cardinal_tableau/cardinaltableau/model/Role")], none⟩ := by decide +kernel
theorem own_pd35 : parseMethodDescriptor "(Ljava/lang/String;ZICCC)Z" = some ⟨[(.object "java/lang/String"), .boolean, .int, .char, .char, .char], some .boolean⟩ := by decide +kernel
def Q_rm0 (Z : State) (p0 : Int32) (p1 : Int32) (p2 : Int32) (p3 : Int32) (cs : Int32) (fm : Value) (h0 : Heap) (n0 : Nat) (v : Option Value) (h : Heap) (L : List Loc) : Prop := v = some (.int 1) ∧ Fr n0 L
theorem ef_rm0 (m : MethodId) (x0 : Int32) (x1 : Int32) (x2 : Int32) (x3 : Int32) : entryFrame m #[(.int x0), (.int x1), (.int x2), (.int x3)] maxLocals = mkF m 0 #[.val (.int x0), .val (.int x1), .val (.int x2), .val (.int x3), .unset, .unset, .unset, .unset, .unset, .unset, .unset, .unset, .unset, .unset, .unset, .unset] [] := by first | (simp [entryFrame, mkF, argsToLocals, Value.category, maxLocals]; done) | rfl
theorem pn_rm0 : plainName "com/example/cardinal_tableau/cardinaltableau/model/RoleToStringPinLaw" = true := by first | (simp [plainName, overriddenIn]; done) | decide +kernel
set_option maxRecDepth 65536 in
set_option maxHeartbeats 40000000 in
theorem rm0 (l : Launch) (Z : State) (a0 : Array Value) (hw : ∀ d ∈ tables_1, d.before a0 Z = true) (ws : List Jvm.Cond) (p0 : Int32) (p1 : Int32) (p2 : Int32) (p3 : Int32) (cs : Int32) (fm : Value) (h0 : Heap) (n0 : Nat) (Z0 : n0 ≤ h0.size) (hp0 : Sta Z h0 "java/lang/String" "COMPACT_STRINGS" "Z" (.int cs)) (hp1 : Sta Z h0 "jdk/internal/util/Preconditions" "SIOOBE_FORMATTER" "Ljava/util/function/BiFunction;" fm) (hh0 : ¬ cs = (0 : Int32)) (hh1 : fm.isRef = true) :
    MetFree l x (head1 (Jvm.Cond.code x code maxLocals ret :: ws) room_1) (fun a U => a = #[(.int p0), (.int p1), (.int p2), (.int p3)] ∧ Z.Warmed39 U.vm ∧ U.heap = h0 ∧ CHv Z consts_1 U.vm h0) (fun _ _ _ _ _ => True) (fun _ U o U' => ∃ v L, o = .returned v ∧ Q_rm0 Z p0 p1 p2 p3 cs fm h0 n0 v U'.heap L ∧ CHr Z consts_1 U.vm U.heap U'.vm U'.heap ∧ ReturnedEndW U o U' L 56 6592) := by
  refine MetFree.of_bodySF (plainFor_of_name pn_rm0) hisR ?_
  intro p e s m args below meth c s₁ Bd hml0 hP hK
  obtain ⟨rfl, hZ, hh, hH0⟩ := hP
  have hx := Bd.exec
  have hby := Bd.bytes
  have hml : c.maxLocals = 16 := hml0
  have hown : s.vm.findClass "com/example/cardinal_tableau/cardinaltableau/model/RoleToStringPinLaw" = some m.cls := findClass_of_methodNamed Bd.named
  have hnm := (name_of_methodNamed Bd.named Bd.method).1
  have hlk : meth.locks = false := BodyLoose.notSynchronized Bd
  have X0 : Stand p l e room_1 (s.setVm s.vm) m #[(.int p0), (.int p1), (.int p2), (.int p3)] below meth c s₁ [] 0 0 := Stand.of_body Bd
  have e0 : s₁.heap = h0 := by rw [← hh, Bd.state]; rfl
  have N0 := Fr.nil n0
  show own_WH Z consts_1 p e below s (Q_rm0 Z p0 p1 p2 p3 cs fm h0 n0) 56 6592 s₁ (entryFrame m #[(.int p0), (.int p1), (.int p2), (.int p3)] maxLocals)
  have hS0 : s.Since s.vm 0 := (State.WarmedH.refl s).since 0
  have hk0 : 0 ≤ h0.size := Nat.zero_le _
  refine own_goH (T' := s₁) (g' := (mkF m 0 #[oi p0, oi p1, oi p2, oi p3, .unset, .unset, .unset, .unset, .unset, .unset, .unset, .unset, .unset, .unset, .unset, .unset] [])) (fun _ k => castTop (ef_rm0 m p0 p1 p2 p3) k) ?_
  have R0 : CHr Z consts_1 s.vm s.heap s.vm h0 := by rw [hh]; exact CHr.refl hH0
  refine own_h s₁ (mkF m 12 #[oi p0, oi p1, oi p2, oi p3, .val (.int ((p2 &&& (255 : Int32)).toUInt32.toUInt16.toUInt32.toInt32)), .unset, .unset, .unset, .unset, .unset, .unset, .unset, .unset, .unset, .unset, .unset] [(.int ((p2.toUInt32 >>> ((8 : Int32) &&& 31).toUInt32).toInt32))]) (fun _ k => XS.iloadN X0.here hx rfl (hb hby at_0) rfl (XS.sipush X0.here hx rfl (hb hby at_1) (XS.iand X0.here hx rfl (hb hby at_4) rfl (XT.i2c X0.here hx rfl (hb hby at_5) rfl (XS.istore X0.here hx rfl (hb hby at_6) rfl (l' := #[oi p0, oi p1, oi p2, oi p3, .val (.int ((p2 &&& (255 : Int32)).toUInt32.toUInt16.toUInt32.toInt32)), .unset, .unset, .unset, .unset, .unset, .unset, .unset, .unset, .unset, .unset, .unset]) rfl (XS.iloadN X0.here hx rfl (hb hby at_8) rfl (XS.bipush X0.here hx rfl (hb hby at_9) (XS.iushr X0.here hx rfl (hb hby at_11) rfl k)))))))) ?_
  refine own_h s₁ (mkF m 26 #[oi p0, oi p1, oi p2, oi p3, .val (.int ((p2 &&& (255 : Int32)).toUInt32.toUInt16.toUInt32.toInt32)), .val (.int ((((p2.toUInt32 >>> ((8 : Int32) &&& 31).toUInt32).toInt32) &&& (255 : Int32)).toUInt32.toUInt16.toUInt32.toInt32)), .unset, .unset, .unset, .unset, .unset, .unset, .unset, .unset, .unset, .unset] [(.int (255 : Int32)), (.int ((p2.toUInt32 >>> ((16 : Int32) &&& 31).toUInt32).toInt32))]) (fun _ k => XS.sipush X0.here hx rfl (hb hby at_12) (XS.iand X0.here hx rfl (hb hby at_15) rfl (XT.i2c X0.here hx rfl (hb hby at_16) rfl (XS.istore X0.here hx rfl (hb hby at_17) rfl (l' := #[oi p0, oi p1, oi p2, oi p3, .val (.int ((p2 &&& (255 : Int32)).toUInt32.toUInt16.toUInt32.toInt32)), .val (.int ((((p2.toUInt32 >>> ((8 : Int32) &&& 31).toUInt32).toInt32) &&& (255 : Int32)).toUInt32.toUInt16.toUInt32.toInt32)), .unset, .unset, .unset, .unset, .unset, .unset, .unset, .unset, .unset, .unset]) rfl (XS.iloadN X0.here hx rfl (hb hby at_19) rfl (XS.bipush X0.here hx rfl (hb hby at_20) (XS.iushr X0.here hx rfl (hb hby at_22) rfl (XS.sipush X0.here hx rfl (hb hby at_23) k)))))))) ?_
  refine own_h s₁ (mkF m 35 #[oi p0, oi p1, oi p2, oi p3, .val (.int ((p2 &&& (255 : Int32)).toUInt32.toUInt16.toUInt32.toInt32)), .val (.int ((((p2.toUInt32 >>> ((8 : Int32) &&& 31).toUInt32).toInt32) &&& (255 : Int32)).toUInt32.toUInt16.toUInt32.toInt32)), .val (.int ((((p2.toUInt32 >>> ((16 : Int32) &&& 31).toUInt32).toInt32) &&& (255 : Int32)).toUInt32.toUInt16.toUInt32.toInt32)), .val (.int (p3 &&& (3 : Int32))), .unset, .unset, .unset, .unset, .unset, .unset, .unset, .unset] []) (fun _ k => XS.iand X0.here hx rfl (hb hby at_26) rfl (XT.i2c X0.here hx rfl (hb hby at_27) rfl (XS.istore X0.here hx rfl (hb hby at_28) rfl (l' := #[oi p0, oi p1, oi p2, oi p3, .val (.int ((p2 &&& (255 : Int32)).toUInt32.toUInt16.toUInt32.toInt32)), .val (.int ((((p2.toUInt32 >>> ((8 : Int32) &&& 31).toUInt32).toInt32) &&& (255 : Int32)).toUInt32.toUInt16.toUInt32.toInt32)), .val (.int ((((p2.toUInt32 >>> ((16 : Int32) &&& 31).toUInt32).toInt32) &&& (255 : Int32)).toUInt32.toUInt16.toUInt32.toInt32)), .unset, .unset, .unset, .unset, .unset, .unset, .unset, .unset, .unset]) rfl (XS.iloadN X0.here hx rfl (hb hby at_30) rfl (XS.iconst X0.here hx rfl (hb hby at_31) (XS.iand X0.here hx rfl (hb hby at_32) rfl (XS.istore X0.here hx rfl (hb hby at_33) rfl (l' := #[oi p0, oi p1, oi p2, oi p3, .val (.int ((p2 &&& (255 : Int32)).toUInt32.toUInt16.toUInt32.toInt32)), .val (.int ((((p2.toUInt32 >>> ((8 : Int32) &&& 31).toUInt32).toInt32) &&& (255 : Int32)).toUInt32.toUInt16.toUInt32.toInt32)), .val (.int ((((p2.toUInt32 >>> ((16 : Int32) &&& 31).toUInt32).toInt32) &&& (255 : Int32)).toUInt32.toUInt16.toUInt32.toInt32)), .val (.int (p3 &&& (3 : Int32))), .unset, .unset, .unset, .unset, .unset, .unset, .unset, .unset]) rfl k))))))) ?_
  have G35_1 : ∀ (wa : Int32) (hwa : wa = ((p2 &&& (255 : Int32)).toUInt32.toUInt16.toUInt32.toInt32)) (wb : Int32) (hwb : wb = ((((p2.toUInt32 >>> ((8 : Int32) &&& 31).toUInt32).toInt32) &&& (255 : Int32)).toUInt32.toUInt16.toUInt32.toInt32)) (wc : Int32) (hwc : wc = ((((p2.toUInt32 >>> ((16 : Int32) &&& 31).toUInt32).toInt32) &&& (255 : Int32)).toUInt32.toUInt16.toUInt32.toInt32)) (wn : Int32) (hwn : wn = (p3 &&& (3 : Int32))), own_WH Z consts_1 p e below s (Q_rm0 Z p0 p1 p2 p3 cs fm h0 n0) 56 6592 s₁ (mkF m 35 #[oi p0, oi p1, oi p2, oi p3, oi wa, oi wb, oi wc, oi wn, .unset, .unset, .unset, .unset, .unset, .unset, .unset, .unset] []) := by
    intro wa hwa wb hwb wc hwc wn hwn
    have Cwa : own_C wa := by rw [hwa]; exact own_C0 _
    have Cwb : own_C wb := by rw [hwb]; exact own_C0 _
    have Cwc : own_C wc := by rw [hwc]; exact own_C0 _
    have Cn : wn = 0 ∨ wn = 1 ∨ wn = 2 ∨ wn = 3 := by rw [hwn]; exact own_and3 _
    refine own_h s₁ (mkF m 40 #[oi p0, oi p1, oi p2, oi p3, oi wa, oi wb, oi wc, oi wn, .unset, .unset, .unset, .unset, .unset, .unset, .unset, .unset] [(.int (((p3.toUInt32 >>> ((2 : Int32) &&& 31).toUInt32).toInt32) &&& (1 : Int32)))]) (fun _ k => XS.iloadN X0.here hx rfl (hb hby at_35) rfl (XS.iconst X0.here hx rfl (hb hby at_36) (XS.iushr X0.here hx rfl (hb hby at_37) rfl (XS.iconst X0.here hx rfl (hb hby at_38) (XS.iand X0.here hx rfl (hb hby at_39) rfl k))))) ?_
    by_cases hc40_2 : (((p3.toUInt32 >>> ((2 : Int32) &&& 31).toUInt32).toInt32) &&& (1 : Int32)) = (0 : Int32)
    · skip
      refine own_h s₁ (mkF m 58 #[oi p0, oi p1, oi p2, oi p3, oi wa, oi wb, oi wc, oi wn, oi 0, .unset, .unset, .unset, .unset, .unset, .unset, .unset] [(.int wc), (.int wb), (.int wa), (.int wn)]) (fun _ k => XS.ifYes X0.here hx rfl (pc0 := 40) (pc' := 47) rfl (hb hby at_40) rfl (XT.i0_eq_t hc40_2) (by decide) (by decide) (XS.iconst X0.here hx rfl (hb hby at_47) (XS.istore X0.here hx rfl (hb hby at_48) rfl (l' := #[oi p0, oi p1, oi p2, oi p3, oi wa, oi wb, oi wc, oi wn, oi 0, .unset, .unset, .unset, .unset, .unset, .unset, .unset]) rfl (XS.iload X0.here hx rfl (hb hby at_50) rfl (XS.iload X0.here hx rfl (hb hby at_52) rfl (XS.iload X0.here hx rfl (hb hby at_54) rfl (XS.iload X0.here hx rfl (hb hby at_56) rfl k))))))) ?_
      obtain ⟨_, _, ⟨T3, L3, k3, n3⟩, -, XX3, hs23, hg23, ⟨Lc3, hQ3, l3, y3, z3, ch3⟩, st3⟩ := Jvm.RoadKit.callSS X0 hx (y := (⟨"com/example/cardinal_tableau/cardinaltableau/model/RoleToStringPinLaw", "mk", "(ICCC)Ljava/lang/String;"⟩ : MethodName)) hown (mvT hZ (own_w hw 0 rfl)) (mvT hZ (own_w hw 1 rfl)) (mvT hZ (own_w hw 2 rfl)) (mvT hZ (own_w hw 3 rfl)) (by decide) (backOfSH (W := 0) (rmMk l Z a0 hw [] wn wa wb wc cs h0 n0 Z0 hp0 hh0 Cn Cwa Cwb Cwc) hZ (own_w hw 3 rfl) (own_w hw 2 rfl) (by decide) (by decide) (own_EW hw) R0.1) (g := (mkF m 58 #[oi p0, oi p1, oi p2, oi p3, oi wa, oi wb, oi wc, oi wn, oi 0, .unset, .unset, .unset, .unset, .unset, .unset, .unset] [(.int wc), (.int wb), (.int wa), (.int wn)])) rfl (by rw [hml]; rfl) (argsL := [(.int wn), (.int wa), (.int wb), (.int wc)]) (rest := []) (lenOf own_pd33 rfl) rfl (Nat.le_of_eq rfl) (hb hby at_58) (fun _ _ => ⟨rfl, e0, (by decide : 0 + 6 ≤ _), (by decide : 0 + 12 ≤ _)⟩)
      dsimp only [Pt.U, Pt.locs, Pt.cells, Pt.slots] at XX3 hs23 hg23 l3 y3 z3 st3 hQ3 ch3
      subst l3 y3 z3
      obtain ⟨X3, hS3, hZ3, hown3⟩ := rebS hS0 (n1 := s₁.heap.size) (by rw [e0]; exact hk0) XX3 hs23 hg23 hZ hown
      obtain ⟨xs_3, xb_3, xk_3, xz_3, xu_3, rfl, N3q, K3, po4, po5, po6, po7, po8, po9⟩ := hQ3
      have f10 := (own_sta_keep hp0 K3 ns0)
      have f11 := (own_sta_keep hp1 K3 ns0)
      have ge12 : n0 ≤ xs_3 := Nat.le_trans Z0 po4
      have zs3 : n0 ≤ T3.heap.size := Nat.le_trans Z0 K3.1
      have hk3 : T3.heap.size ≤ T3.heap.size := Nat.le_refl _
      have R3 := R0.trans ch3
      have N3 := Fr.app N0 N3q
      obtain ⟨Lv3, X3, N3⟩ := own_hide X3 (Nat.le_refl 6) (Nat.le_refl 12) N3
      refine own_h T3 (mkF m 63 #[oi p0, oi p1, oi p2, oi p3, oi wa, oi wb, oi wc, oi wn, oi 0, oa xs_3, .unset, .unset, .unset, .unset, .unset, .unset] []) (fun _ k => st3.trans (XS.astore X3.here hx rfl (hb hby at_61) rfl rfl (l' := #[oi p0, oi p1, oi p2, oi p3, oi wa, oi wb, oi wc, oi wn, oi 0, oa xs_3, .unset, .unset, .unset, .unset, .unset, .unset]) rfl k)) ?_
      obtain ⟨T13, h13, X13, e13, E13, A13, D13, -, st13⟩ := newO X3 hx hZ3 hown3 (own_w hw 30 rfl) (own_w hw 31 rfl) (own_w hw 32 rfl) rfl (g := (mkF m 63 #[oi p0, oi p1, oi p2, oi p3, oi wa, oi wb, oi wc, oi wn, oi 0, oa xs_3, .unset, .unset, .unset, .unset, .unset, .unset] [])) rfl (hb hby at_63) (by decide) (by decide)
      obtain ⟨b13, g13⟩ : ∃ z, z = T3.heap.size := ⟨_, rfl⟩
      have ne14 : xs_3 ≠ b13 := Nat.ne_of_lt (Nat.lt_of_lt_of_le po5.lt (Nat.le_of_eq g13.symm))
      have ne15 : xb_3 ≠ b13 := Nat.ne_of_lt (Nat.lt_of_lt_of_le po8.lt (Nat.le_of_eq g13.symm))
      rw [← g13] at A13 D13 st13
      have f16 := (f10.ext E13)
      have f17 := (f11.ext E13)
      have f18 := (po5.ext E13)
      have f19 := (po6.ext E13)
      have f20 := (po7.ext E13)
      have f21 := (po8.ext E13)
      have fn22 : Fld Z h13 b13 "com/example/cardinal_tableau/cardinaltableau/model/Role" "id" "I" (.int (0 : Int32)) := D13 (Or.inr (own_w hw 38 rfl)) (ty := .int) (by decide)
      have fn23 : Fld Z h13 b13 "com/example/cardinal_tableau/cardinaltableau/model/Role" "iri" "Ljava/lang/String;" .null := D13 (Or.inr (own_w hw 40 rfl)) (ty := (.object "java/lang/String")) (by decide)
      have fn24 : Fld Z h13 b13 "com/example/cardinal_tableau/cardinaltableau/model/Role" "inverse" "Lcom/example/cardinal_tableau/cardinaltableau/model/Role;" .null := D13 (Or.inl (own_w hw 47 rfl)) (ty := (.object "com/example/cardinal_tableau/cardinaltableau/model/Role")) (by decide)
      have ge13 : n0 ≤ b13 := Nat.le_trans zs3 (Nat.le_of_eq g13.symm)
      have zs13 : n0 ≤ h13.size := Nat.le_trans zs3 E13.1
      have hk25 := Nat.le_trans hk3 (E13.1)
      have R13 := R3.trans (CHr.ext E13 R3.1)
      have sf26 := Safe.ext E13 R3.1 (Safe.new (Nat.le_of_eq g13.symm))
      refine own_h T13 (mkF m 70 #[oi p0, oi p1, oi p2, oi p3, oi wa, oi wb, oi wc, oi wn, oi 0, oa xs_3, .unset, .unset, .unset, .unset, .unset, .unset] [(.ref xs_3), (.int p0), (.ref b13), (.ref b13)]) (fun _ k => st13 _ (XS.dup X13.here hx rfl (hb hby at_66) rfl rfl (XS.iloadN X13.here hx rfl (hb hby at_67) rfl (XS.aload X13.here hx rfl (hb hby at_68) rfl rfl k)))) ?_
      obtain ⟨_, _, ⟨T27, L27, k27, n27⟩, -, X27, ⟨Lc27, hQ27, l27, y27, z27⟩, st27⟩ := X13.specialBack hx (y := (⟨"com/example/cardinal_tableau/cardinaltableau/model/Role", "<init>", "(ILjava/lang/String;)V"⟩ : MethodName)) rfl hown3 (mvT hZ3 (own_w hw 33 rfl)) (mvT hZ3 (own_w hw 34 rfl)) (mvT hZ3 (own_w hw 35 rfl)) (by decide) (backOf (W := 1) (rmRole l Z a0 hw [] b13 p0 xs_3 h13 n0 zs13 A13 ge13 fn22 fn23 fn24) hZ3 (own_w hw 35 rfl) (own_w hw 32 rfl) (by decide) (by decide)) (g := (mkF m 70 #[oi p0, oi p1, oi p2, oi p3, oi wa, oi wb, oi wc, oi wn, oi 0, oa xs_3, .unset, .unset, .unset, .unset, .unset, .unset] [(.ref xs_3), (.int p0), (.ref b13), (.ref b13)])) rfl (by rw [hml]; rfl) (Steps.refl _) (a := b13) (argsL := [(.int p0), (.ref xs_3)]) (rest := [(.ref b13)]) (lenOf own_pd13 rfl) rfl (Nat.le_of_eq rfl) (hb hby at_70) (fun _ _ => ⟨rfl, e13, (by decide : 7 + 0 ≤ _), (by decide : 15 + 0 ≤ _)⟩)
      dsimp only [Pt.U, Pt.locs, Pt.cells, Pt.slots] at X27 l27 y27 z27 st27 hQ27
      subst l27 y27 z27
      obtain ⟨rfl, N27q, K27, po28, po29, po30, po31⟩ := hQ27
      have f32 := (own_sta_keep f16 K27 (nsS A13.nostat ns0))
      have f33 := (own_sta_keep f17 K27 (nsS A13.nostat ns0))
      have f34 := (f18.keep K27)
      have f35 := (f19.keep K27 (ninS ne14 nin0))
      have f36 := (f20.keep K27 (ninS ne14 nin0))
      have f37 := (f21.keep K27 (ninS ne15 nin0))
      have f38 := (A13.keep K27)
      have zs27 : n0 ≤ T27.heap.size := Nat.le_trans zs13 K27.1
      have hk39 := Nat.le_trans hk25 (K27.1)
      have R27 := R13.trans (CHr.keep K27 (sfS (Safe.exa (EL := consts_1) (hZ3).alike A13 (by decide) (by decide)) sf0) R13.1)
      have sf40 := Safe.keep K27 (sfS (Safe.exa (EL := consts_1) (hZ3).alike A13 (by decide) (by decide)) sf0) R13.1 sf26
      have N27 := Fr.app N3 N27q
      obtain ⟨Lv27, X27, N27⟩ := own_hide X27 (Nat.le_refl 7) (Nat.le_refl 15) N27
      refine own_h T27 (mkF m 75 #[oi p0, oi p1, oi p2, oi p3, oi wa, oi wb, oi wc, oi wn, oi 0, oa xs_3, oa b13, .unset, .unset, .unset, .unset, .unset] []) (fun _ k => st27.trans (XS.astore X27.here hx rfl (hb hby at_73) rfl rfl (l' := #[oi p0, oi p1, oi p2, oi p3, oi wa, oi wb, oi wc, oi wn, oi 0, oa xs_3, oa b13, .unset, .unset, .unset, .unset, .unset]) rfl k)) ?_
      obtain ⟨T41, h41, X41, e41, E41, A41, D41, -, st41⟩ := newO X27 hx hZ3 hown3 (own_w hw 30 rfl) (own_w hw 31 rfl) (own_w hw 32 rfl) rfl (g := (mkF m 75 #[oi p0, oi p1, oi p2, oi p3, oi wa, oi wb, oi wc, oi wn, oi 0, oa xs_3, oa b13, .unset, .unset, .unset, .unset, .unset] [])) rfl (hb hby at_75) (by decide) (by decide)
      obtain ⟨b41, g41⟩ : ∃ z, z = T27.heap.size := ⟨_, rfl⟩
      have ne42 : xs_3 ≠ b41 := Nat.ne_of_lt (Nat.lt_of_lt_of_le f34.lt (Nat.le_of_eq g41.symm))
      have ne43 : xb_3 ≠ b41 := Nat.ne_of_lt (Nat.lt_of_lt_of_le f37.lt (Nat.le_of_eq g41.symm))
      have ne44 : b13 ≠ b41 := Nat.ne_of_lt (Nat.lt_of_lt_of_le po31.lt (Nat.le_of_eq g41.symm))
      rw [← g41] at A41 D41 st41
      have f45 := (f32.ext E41)
      have f46 := (f33.ext E41)
      have f47 := (f34.ext E41)
      have f48 := (f35.ext E41)
      have f49 := (f36.ext E41)
      have f50 := (f37.ext E41)
      have f51 := (po31.ext E41)
      have f52 := (po28.ext E41)
      have f53 := (po29.ext E41)
      have f54 := (po30.ext E41)
      have fn55 : Fld Z h41 b41 "com/example/cardinal_tableau/cardinaltableau/model/Role" "id" "I" (.int (0 : Int32)) := D41 (Or.inr (own_w hw 38 rfl)) (ty := .int) (by decide)
      have fn56 : Fld Z h41 b41 "com/example/cardinal_tableau/cardinaltableau/model/Role" "iri" "Ljava/lang/String;" .null := D41 (Or.inr (own_w hw 40 rfl)) (ty := (.object "java/lang/String")) (by decide)
      have fn57 : Fld Z h41 b41 "com/example/cardinal_tableau/cardinaltableau/model/Role" "inverse" "Lcom/example/cardinal_tableau/cardinaltableau/model/Role;" .null := D41 (Or.inl (own_w hw 47 rfl)) (ty := (.object "com/example/cardinal_tableau/cardinaltableau/model/Role")) (by decide)
      have ge41 : n0 ≤ b41 := Nat.le_trans zs27 (Nat.le_of_eq g41.symm)
      have zs41 : n0 ≤ h41.size := Nat.le_trans zs27 E41.1
      have hk58 := Nat.le_trans hk39 (E41.1)
      have R41 := R27.trans (CHr.ext E41 R27.1)
      have sf59 := Safe.ext E41 R27.1 sf40
      have sf60 := Safe.ext E41 R27.1 (Safe.new (Nat.le_of_eq g41.symm))
      refine own_h T41 (mkF m 82 #[oi p0, oi p1, oi p2, oi p3, oi wa, oi wb, oi wc, oi wn, oi 0, oa xs_3, oa b13, .unset, .unset, .unset, .unset, .unset] [(.ref xs_3), (.int p1), (.ref b41), (.ref b41)]) (fun _ k => st41 _ (XS.dup X41.here hx rfl (hb hby at_78) rfl rfl (XS.iloadN X41.here hx rfl (hb hby at_79) rfl (XS.aload X41.here hx rfl (hb hby at_80) rfl rfl k)))) ?_
      obtain ⟨_, _, ⟨T61, L61, k61, n61⟩, -, X61, ⟨Lc61, hQ61, l61, y61, z61⟩, st61⟩ := X41.specialBack hx (y := (⟨"com/example/cardinal_tableau/cardinaltableau/model/Role", "<init>", "(ILjava/lang/String;)V"⟩ : MethodName)) rfl hown3 (mvT hZ3 (own_w hw 33 rfl)) (mvT hZ3 (own_w hw 34 rfl)) (mvT hZ3 (own_w hw 35 rfl)) (by decide) (backOf (W := 1) (rmRole l Z a0 hw [] b41 p1 xs_3 h41 n0 zs41 A41 ge41 fn55 fn56 fn57) hZ3 (own_w hw 35 rfl) (own_w hw 32 rfl) (by decide) (by decide)) (g := (mkF m 82 #[oi p0, oi p1, oi p2, oi p3, oi wa, oi wb, oi wc, oi wn, oi 0, oa xs_3, oa b13, .unset, .unset, .unset, .unset, .unset] [(.ref xs_3), (.int p1), (.ref b41), (.ref b41)])) rfl (by rw [hml]; rfl) (Steps.refl _) (a := b41) (argsL := [(.int p1), (.ref xs_3)]) (rest := [(.ref b41)]) (lenOf own_pd13 rfl) rfl (Nat.le_of_eq rfl) (hb hby at_82) (fun _ _ => ⟨rfl, e41, (by decide : 8 + 0 ≤ _), (by decide : 18 + 0 ≤ _)⟩)
      dsimp only [Pt.U, Pt.locs, Pt.cells, Pt.slots] at X61 l61 y61 z61 st61 hQ61
      subst l61 y61 z61
      obtain ⟨rfl, N61q, K61, po62, po63, po64, po65⟩ := hQ61
      have f66 := (own_sta_keep f45 K61 (nsS A41.nostat ns0))
      have f67 := (own_sta_keep f46 K61 (nsS A41.nostat ns0))
      have f68 := (f47.keep K61)
      have f69 := (f48.keep K61 (ninS ne42 nin0))
      have f70 := (f49.keep K61 (ninS ne42 nin0))
      have f71 := (f50.keep K61 (ninS ne43 nin0))
      have f72 := (f51.keep K61)
      have f73 := (f52.keep K61 (ninS ne44 nin0))
      have f74 := (f53.keep K61 (ninS ne44 nin0))
      have f75 := (f54.keep K61 (ninS ne44 nin0))
      have f76 := (A41.keep K61)
      have zs61 : n0 ≤ T61.heap.size := Nat.le_trans zs41 K61.1
      have hk77 := Nat.le_trans hk58 (K61.1)
      have R61 := R41.trans (CHr.keep K61 (sfS (Safe.exa (EL := consts_1) (hZ3).alike A41 (by decide) (by decide)) sf0) R41.1)
      have sf78 := Safe.keep K61 (sfS (Safe.exa (EL := consts_1) (hZ3).alike A41 (by decide) (by decide)) sf0) R41.1 sf59
      have sf79 := Safe.keep K61 (sfS (Safe.exa (EL := consts_1) (hZ3).alike A41 (by decide) (by decide)) sf0) R41.1 sf60
      have N61 := Fr.app N27 N61q
      obtain ⟨Lv61, X61, N61⟩ := own_hide X61 (Nat.le_refl 8) (Nat.le_refl 18) N61
      refine own_h T61 (mkF m 113 #[oi p0, oi p1, oi p2, oi p3, oi wa, oi wb, oi wc, oi wn, oi 0, oa xs_3, oa b13, oa b41, .unset, .unset, .unset, .unset] [(.ref b41), (.ref b13)]) (fun _ k => st61.trans (XS.astore X61.here hx rfl (hb hby at_85) rfl rfl (l' := #[oi p0, oi p1, oi p2, oi p3, oi wa, oi wb, oi wc, oi wn, oi 0, oa xs_3, oa b13, oa b41, .unset, .unset, .unset, .unset]) rfl (XS.iload X61.here hx rfl (hb hby at_87) rfl (XS.ifYes X61.here hx rfl (pc0 := 89) (pc' := 109) rfl (hb hby at_89) rfl (XT.i0_eq_t (rfl : (0 : Int32) = (0 : Int32))) (by decide) (by decide) (XS.aload X61.here hx rfl (hb hby at_109) rfl rfl (XS.aload X61.here hx rfl (hb hby at_111) rfl rfl k)))))) ?_
      obtain ⟨cq80, kq80, q80a, q80b, q80c⟩ := isOf hZ3 rfl f72
      obtain ⟨_, _, ⟨T80, L80, k80, n80⟩, -, X80, ⟨Lc80, hQ80, l80, y80, z80⟩, st80⟩ := X61.virtualBack hx (y := (⟨"com/example/cardinal_tableau/cardinaltableau/model/Role", "setInverse", "(Lcom/example/cardinal_tableau/cardinaltableau/model/Role;)V"⟩ : MethodName)) (z := (⟨"com/example/cardinal_tableau/cardinaltableau/model/Role", "setInverse", "(Lcom/example/cardinal_tableau/cardinaltableau/model/Role;)V"⟩ : MethodName)) hown3 (mvT hZ3 (own_w hw 41 rfl)) (mvT hZ3 (own_w hw 42 rfl)) (notFace_of_selects (args := #[]) (mvT hZ3 (own_w hw 44 rfl))) (mvT hZ3 (own_w hw 44 rfl)) (mvT hZ3 (own_w hw 43 rfl)) (by decide) (backOf (W := 0) (rmSet l Z a0 hw [] b13 b41 .null p0 xs_3 T61.heap n0 zs61 f72 ge13 f73 f74 f75) hZ3 (own_w hw 45 rfl) (own_w hw 32 rfl) (by decide) (by decide)) q80a q80c (g := (mkF m 113 #[oi p0, oi p1, oi p2, oi p3, oi wa, oi wb, oi wc, oi wn, oi 0, oa xs_3, oa b13, oa b41, .unset, .unset, .unset, .unset] [(.ref b41), (.ref b13)])) rfl (by rw [hml]; rfl) (Steps.refl _) (argsL := [(.ref b41)]) (rest := []) (lenOf own_pd34 rfl) rfl (Nat.le_of_eq rfl) (hb hby at_113) (fun _ _ => ⟨rfl, rfl, (by decide : 8 + 0 ≤ _), (by decide : 18 + 0 ≤ _)⟩)
      dsimp only [Pt.U, Pt.locs, Pt.cells, Pt.slots] at X80 l80 y80 z80 st80 hQ80
      subst l80 y80 z80
      obtain ⟨rfl, N80q, K80, po81, po82, po83⟩ := hQ80
      have f84 := (own_sta_keep f66 K80 (nsS f72.nostat ns0))
      have f85 := (own_sta_keep f67 K80 (nsS f72.nostat ns0))
      have f86 := (f68.keep K80)
      have f87 := (f69.keep K80 (ninS ne14 nin0))
      have f88 := (f70.keep K80 (ninS ne14 nin0))
      have f89 := (f71.keep K80 (ninS ne15 nin0))
      have f90 := (f72.keep K80)
      have f91 := (po65.keep K80)
      have f92 := (po62.keep K80 (ninS (Ne.symm ne44) nin0))
      have f93 := (po63.keep K80 (ninS (Ne.symm ne44) nin0))
      have f94 := (po64.keep K80 (ninS (Ne.symm ne44) nin0))
      have zs80 : n0 ≤ T80.heap.size := Nat.le_trans zs61 K80.1
      have hk95 := Nat.le_trans hk77 (K80.1)
      have R80 := R61.trans (CHr.keep K80 (sfS (Safe.exa (EL := consts_1) (hZ3).alike f72 (by decide) (by decide)) sf0) R61.1)
      have sf96 := Safe.keep K80 (sfS (Safe.exa (EL := consts_1) (hZ3).alike f72 (by decide) (by decide)) sf0) R61.1 sf78
      have sf97 := Safe.keep K80 (sfS (Safe.exa (EL := consts_1) (hZ3).alike f72 (by decide) (by decide)) sf0) R61.1 sf79
      have N80 := Fr.app N61 N80q
      obtain ⟨Lv80, X80, N80⟩ := own_hide X80 (Nat.le_refl 8) (Nat.le_refl 18) N80
      refine own_h T80 (mkF m 120 #[oi p0, oi p1, oi p2, oi p3, oi wa, oi wb, oi wc, oi wn, oi 0, oa xs_3, oa b13, oa b41, .unset, .unset, .unset, .unset] [(.ref b13), (.ref b41)]) (fun _ k => st80.trans (XS.aload X80.here hx rfl (hb hby at_116) rfl rfl (XS.aload X80.here hx rfl (hb hby at_118) rfl rfl k))) ?_
      obtain ⟨cq98, kq98, q98a, q98b, q98c⟩ := isOf hZ3 rfl f91
      obtain ⟨_, _, ⟨T98, L98, k98, n98⟩, -, X98, ⟨Lc98, hQ98, l98, y98, z98⟩, st98⟩ := X80.virtualBack hx (y := (⟨"com/example/cardinal_tableau/cardinaltableau/model/Role", "setInverse", "(Lcom/example/cardinal_tableau/cardinaltableau/model/Role;)V"⟩ : MethodName)) (z := (⟨"com/example/cardinal_tableau/cardinaltableau/model/Role", "setInverse", "(Lcom/example/cardinal_tableau/cardinaltableau/model/Role;)V"⟩ : MethodName)) hown3 (mvT hZ3 (own_w hw 41 rfl)) (mvT hZ3 (own_w hw 42 rfl)) (notFace_of_selects (args := #[]) (mvT hZ3 (own_w hw 44 rfl))) (mvT hZ3 (own_w hw 44 rfl)) (mvT hZ3 (own_w hw 43 rfl)) (by decide) (backOf (W := 0) (rmSet l Z a0 hw [] b41 b13 .null p1 xs_3 T80.heap n0 zs80 f91 ge41 f92 f93 f94) hZ3 (own_w hw 45 rfl) (own_w hw 32 rfl) (by decide) (by decide)) q98a q98c (g := (mkF m 120 #[oi p0, oi p1, oi p2, oi p3, oi wa, oi wb, oi wc, oi wn, oi 0, oa xs_3, oa b13, oa b41, .unset, .unset, .unset, .unset] [(.ref b13), (.ref b41)])) rfl (by rw [hml]; rfl) (Steps.refl _) (argsL := [(.ref b13)]) (rest := []) (lenOf own_pd34 rfl) rfl (Nat.le_of_eq rfl) (hb hby at_120) (fun _ _ => ⟨rfl, rfl, (by decide : 8 + 0 ≤ _), (by decide : 18 + 0 ≤ _)⟩)
      dsimp only [Pt.U, Pt.locs, Pt.cells, Pt.slots] at X98 l98 y98 z98 st98 hQ98
      subst l98 y98 z98
      obtain ⟨rfl, N98q, K98, po99, po100, po101⟩ := hQ98
      have f102 := (own_sta_keep f84 K98 (nsS f91.nostat ns0))
      have f103 := (own_sta_keep f85 K98 (nsS f91.nostat ns0))
      have f104 := (f86.keep K98)
      have f105 := (f87.keep K98 (ninS ne42 nin0))
      have f106 := (f88.keep K98 (ninS ne42 nin0))
      have f107 := (f89.keep K98 (ninS ne43 nin0))
      have f108 := (f90.keep K98)
      have f109 := (f91.keep K98)
      have f110 := (po81.keep K98 (ninS ne44 nin0))
      have f111 := (po82.keep K98 (ninS ne44 nin0))
      have f112 := (po83.keep K98 (ninS ne44 nin0))
      have zs98 : n0 ≤ T98.heap.size := Nat.le_trans zs80 K98.1
      have hk113 := Nat.le_trans hk95 (K98.1)
      have R98 := R80.trans (CHr.keep K98 (sfS (Safe.exa (EL := consts_1) (hZ3).alike f91 (by decide) (by decide)) sf0) R80.1)
      have sf114 := Safe.keep K98 (sfS (Safe.exa (EL := consts_1) (hZ3).alike f91 (by decide) (by decide)) sf0) R80.1 sf96
      have sf115 := Safe.keep K98 (sfS (Safe.exa (EL := consts_1) (hZ3).alike f91 (by decide) (by decide)) sf0) R80.1 sf97
      have N98 := Fr.app N80 N98q
      obtain ⟨Lv98, X98, N98⟩ := own_hide X98 (Nat.le_refl 8) (Nat.le_refl 18) N98
      refine own_h T98 (mkF m 130 #[oi p0, oi p1, oi p2, oi p3, oi wa, oi wb, oi wc, oi wn, oi 0, oa xs_3, oa b13, oa b41, .unset, .unset, .unset, .unset] [(.int p0), (.int p1)]) (fun _ k => st98.trans (XS.iload X98.here hx rfl (hb hby at_123) rfl (XS.ifNo X98.here hx rfl (hb hby at_125) rfl (XT.i0_ne_f (rfl : (0 : Int32) = (0 : Int32))) (XS.iloadN X98.here hx rfl (hb hby at_128) rfl (XS.iloadN X98.here hx rfl (hb hby at_129) rfl k))))) ?_
      by_cases hc130_116 : p1 < p0
      · skip
        refine own_h T98 (mkF m 147 #[oi p0, oi p1, oi p2, oi p3, oi wa, oi wb, oi wc, oi wn, oi 0, oa xs_3, oa b13, oa b41, oi 1, .unset, .unset, .unset] [(.int p1), (.int p0)]) (fun _ k => XS.icmpNo X98.here hx rfl (hb hby at_130) rfl (XT.ii_ge_f hc130_116) (XS.iconst X98.here hx rfl (hb hby at_133) (XS.goto X98.here hx rfl (pc0 := 134) (pc' := 138) rfl (hb hby at_134) (by decide) (by decide) (XS.istore X98.here hx rfl (hb hby at_138) rfl (l' := #[oi p0, oi p1, oi p2, oi p3, oi wa, oi wb, oi wc, oi wn, oi 0, oa xs_3, oa b13, oa b41, oi 1, .unset, .unset, .unset]) rfl (XS.iload X98.here hx rfl (hb hby at_140) rfl (XS.ifNo X98.here hx rfl (hb hby at_142) rfl (XT.i0_ne_f (rfl : (0 : Int32) = (0 : Int32))) (XS.iloadN X98.here hx rfl (hb hby at_145) rfl (XS.iloadN X98.here hx rfl (hb hby at_146) rfl k)))))))) ?_
        refine own_h T98 (mkF m 159 #[oi p0, oi p1, oi p2, oi p3, oi wa, oi wb, oi wc, oi wn, oi 0, oa xs_3, oa b13, oa b41, oi 1, oi 0, .unset, .unset] [(.ref b13)]) (fun _ k => XS.icmpYes X98.here hx rfl (pc0 := 147) (pc' := 154) rfl (hb hby at_147) rfl (XT.ii_ge_t (own_asym hc130_116)) (by decide) (by decide) (XS.iconst X98.here hx rfl (hb hby at_154) (XS.istore X98.here hx rfl (hb hby at_155) rfl (l' := #[oi p0, oi p1, oi p2, oi p3, oi wa, oi wb, oi wc, oi wn, oi 0, oa xs_3, oa b13, oa b41, oi 1, oi 0, .unset, .unset]) rfl (XS.aload X98.here hx rfl (hb hby at_157) rfl rfl k)))) ?_
        obtain ⟨cq117, kq117, q117a, q117b, q117c⟩ := isOf hZ3 rfl f108
        obtain ⟨_, _, ⟨T117, L117, k117, n117⟩, -, XX117, hs2117, hg2117, ⟨Lc117, hQ117, l117, y117, z117, ch117⟩, st117⟩ := X98.virtualBackS hx (y := (⟨"com/example/cardinal_tableau/cardinaltableau/model/Role", "toString", "()Ljava/lang/String;"⟩ : MethodName)) (z := (⟨"com/example/cardinal_tableau/cardinaltableau/model/Role", "toString", "()Ljava/lang/String;"⟩ : MethodName)) hown3 (mvT hZ3 (own_w hw 48 rfl)) (mvT hZ3 (own_w hw 49 rfl)) (notFace_of_selects (args := #[]) (mvT hZ3 (own_w hw 51 rfl))) (mvT hZ3 (own_w hw 51 rfl)) (mvT hZ3 (own_w hw 50 rfl)) (by decide) (backOfSH (W := 0) (rmToI l Z a0 hw [] b13 xs_3 b41 p0 p1 xb_3 xk_3 xz_3 xu_3 cs T98.heap n0 zs98 f108 f112 f110 f111 f109 po100 f104 f106 f105 f107 f102 hh0 (own_I1 ((Ne.symm ne44)) hc130_116) (own_okZ po9)) hZ3 (own_w hw 52 rfl) (own_w hw 32 rfl) (by decide) (by decide) (own_EW hw) R98.1) q117a q117c (g := (mkF m 159 #[oi p0, oi p1, oi p2, oi p3, oi wa, oi wb, oi wc, oi wn, oi 0, oa xs_3, oa b13, oa b41, oi 1, oi 0, .unset, .unset] [(.ref b13)])) rfl (by rw [hml]; rfl) (Steps.refl _) (argsL := []) (rest := []) (lenOf own_pd30 rfl) rfl (Nat.le_of_eq rfl) (hb hby at_159) (fun _ _ => ⟨rfl, rfl, (by decide : 8 + 17 ≤ _), (by decide : 18 + 254 ≤ _)⟩)
        dsimp only [Pt.U, Pt.locs, Pt.cells, Pt.slots] at XX117 hs2117 hg2117 l117 y117 z117 st117 hQ117 ch117
        subst l117 y117 z117
        obtain ⟨X117, hS117, hZ117, hown117⟩ := rebS hS3 (n1 := T98.heap.size) (by exact hk113) XX117 hs2117 hg2117 hZ3 hown3
        obtain ⟨xs_117, xb_117, xk_117, rfl, N117q, K117, po118, po119, po120, po121, po122, po123⟩ := hQ117
        have f124 := (own_sta_keep f102 K117 ns0)
        have f125 := (own_sta_keep f103 K117 ns0)
        have f126 := (f104.keep K117)
        have f127 := (f105.keep K117 nin0)
        have f128 := (f106.keep K117 nin0)
        have f129 := (f107.keep K117 nin0)
        have f130 := (f108.keep K117)
        have f131 := (f109.keep K117)
        have f132 := (f110.keep K117 nin0)
        have f133 := (f111.keep K117 nin0)
        have f134 := (f112.keep K117 nin0)
        have f135 := (po99.keep K117 nin0)
        have f136 := (po100.keep K117 nin0)
        have f137 := (po101.keep K117 nin0)
        have ne138 : xs_3 ≠ xs_117 := Nat.ne_of_lt (Nat.lt_of_lt_of_le f104.lt po118)
        have ne139 : xb_3 ≠ xs_117 := Nat.ne_of_lt (Nat.lt_of_lt_of_le f107.lt po118)
        have ne140 : b13 ≠ xs_117 := Nat.ne_of_lt (Nat.lt_of_lt_of_le f108.lt po118)
        have ne141 : b41 ≠ xs_117 := Nat.ne_of_lt (Nat.lt_of_lt_of_le f109.lt po118)
        have ge142 : n0 ≤ xs_117 := Nat.le_trans zs98 po118
        have ne143 : xs_3 ≠ xb_117 := Nat.ne_of_lt (Nat.lt_of_lt_of_le f104.lt po119)
        have ne144 : xb_3 ≠ xb_117 := Nat.ne_of_lt (Nat.lt_of_lt_of_le f107.lt po119)
        have ne145 : b13 ≠ xb_117 := Nat.ne_of_lt (Nat.lt_of_lt_of_le f108.lt po119)
        have ne146 : b41 ≠ xb_117 := Nat.ne_of_lt (Nat.lt_of_lt_of_le f109.lt po119)
        have ge147 : n0 ≤ xb_117 := Nat.le_trans zs98 po119
        have zs117 : n0 ≤ T117.heap.size := Nat.le_trans zs98 K117.1
        have hk117 : T117.heap.size ≤ T117.heap.size := Nat.le_refl _
        have R117 := R98.trans ch117
        have sf148 := ch117.safe f108.lt sf114
        have sf149 := ch117.safe f109.lt sf115
        have N117 := Fr.app N98 N117q
        obtain ⟨Lv117, X117, N117⟩ := own_hide X117 (Nat.le_refl 25) (Nat.le_refl 272) N117
        refine own_h T117 (mkF m 166 #[oi p0, oi p1, oi p2, oi p3, oi wa, oi wb, oi wc, oi wn, oi 0, oa xs_3, oa b13, oa b41, oi 1, oi 0, oa xs_117, .unset] [(.ref b41)]) (fun _ k => st117.trans (XS.astore X117.here hx rfl (hb hby at_162) rfl rfl (l' := #[oi p0, oi p1, oi p2, oi p3, oi wa, oi wb, oi wc, oi wn, oi 0, oa xs_3, oa b13, oa b41, oi 1, oi 0, oa xs_117, .unset]) rfl (XS.aload X117.here hx rfl (hb hby at_164) rfl rfl k))) ?_
        obtain ⟨cq150, kq150, q150a, q150b, q150c⟩ := isOf hZ117 rfl f131
        obtain ⟨_, _, ⟨T150, L150, k150, n150⟩, -, XX150, hs2150, hg2150, ⟨Lc150, hQ150, l150, y150, z150, ch150⟩, st150⟩ := X117.virtualBackS hx (y := (⟨"com/example/cardinal_tableau/cardinaltableau/model/Role", "toString", "()Ljava/lang/String;"⟩ : MethodName)) (z := (⟨"com/example/cardinal_tableau/cardinaltableau/model/Role", "toString", "()Ljava/lang/String;"⟩ : MethodName)) hown117 (mvT hZ117 (own_w hw 48 rfl)) (mvT hZ117 (own_w hw 49 rfl)) (notFace_of_selects (args := #[]) (mvT hZ117 (own_w hw 51 rfl))) (mvT hZ117 (own_w hw 51 rfl)) (mvT hZ117 (own_w hw 50 rfl)) (by decide) (backOfSH (W := 0) (rmToN l Z a0 hw [] b41 xs_3 b13 p1 p0 xb_3 xk_3 xz_3 xu_3 cs T117.heap n0 zs117 f131 f137 f135 f136 f130 f133 f126 f128 f127 f129 f124 hh0 (own_I0 (own_asym hc130_116)) (own_okZ po9)) hZ117 (own_w hw 52 rfl) (own_w hw 32 rfl) (by decide) (by decide) (own_EW hw) R117.1) q150a q150c (g := (mkF m 166 #[oi p0, oi p1, oi p2, oi p3, oi wa, oi wb, oi wc, oi wn, oi 0, oa xs_3, oa b13, oa b41, oi 1, oi 0, oa xs_117, .unset] [(.ref b41)])) rfl (by rw [hml]; rfl) (Steps.refl _) (argsL := []) (rest := []) (lenOf own_pd30 rfl) rfl (Nat.le_of_eq rfl) (hb hby at_166) (fun _ _ => ⟨rfl, rfl, (by decide : 25 + 8 ≤ _), (by decide : 272 + 80 ≤ _)⟩)
        dsimp only [Pt.U, Pt.locs, Pt.cells, Pt.slots] at XX150 hs2150 hg2150 l150 y150 z150 st150 hQ150 ch150
        subst l150 y150 z150
        obtain ⟨X150, hS150, hZ150, hown150⟩ := rebS hS117 (n1 := T117.heap.size) (by exact hk117) XX150 hs2150 hg2150 hZ117 hown117
        obtain ⟨xs_150, xb_150, xk_150, rfl, N150q, K150, po151, po152, po153, po154, po155, po156⟩ := hQ150
        have f157 := (own_sta_keep f124 K150 ns0)
        have f158 := (own_sta_keep f125 K150 ns0)
        have f159 := (f126.keep K150)
        have f160 := (f127.keep K150 nin0)
        have f161 := (f128.keep K150 nin0)
        have f162 := (f129.keep K150 nin0)
        have f163 := (f130.keep K150)
        have f164 := (f131.keep K150)
        have f165 := (f132.keep K150 nin0)
        have f166 := (f133.keep K150 nin0)
        have f167 := (f134.keep K150 nin0)
        have f168 := (f135.keep K150 nin0)
        have f169 := (f136.keep K150 nin0)
        have f170 := (f137.keep K150 nin0)
        have f171 := (po120.keep K150)
        have f172 := (po121.keep K150 nin0)
        have f173 := (po122.keep K150 nin0)
        have f174 := (po123.keep K150 nin0)
        have ne175 : xs_3 ≠ xs_150 := Nat.ne_of_lt (Nat.lt_of_lt_of_le f126.lt po151)
        have ne176 : xb_3 ≠ xs_150 := Nat.ne_of_lt (Nat.lt_of_lt_of_le f129.lt po151)
        have ne177 : b13 ≠ xs_150 := Nat.ne_of_lt (Nat.lt_of_lt_of_le f130.lt po151)
        have ne178 : b41 ≠ xs_150 := Nat.ne_of_lt (Nat.lt_of_lt_of_le f131.lt po151)
        have ne179 : xs_117 ≠ xs_150 := Nat.ne_of_lt (Nat.lt_of_lt_of_le po120.lt po151)
        have ne180 : xb_117 ≠ xs_150 := Nat.ne_of_lt (Nat.lt_of_lt_of_le po123.lt po151)
        have ge181 : n0 ≤ xs_150 := Nat.le_trans zs117 po151
        have ne182 : xs_3 ≠ xb_150 := Nat.ne_of_lt (Nat.lt_of_lt_of_le f126.lt po152)
        have ne183 : xb_3 ≠ xb_150 := Nat.ne_of_lt (Nat.lt_of_lt_of_le f129.lt po152)
        have ne184 : b13 ≠ xb_150 := Nat.ne_of_lt (Nat.lt_of_lt_of_le f130.lt po152)
        have ne185 : b41 ≠ xb_150 := Nat.ne_of_lt (Nat.lt_of_lt_of_le f131.lt po152)
        have ne186 : xs_117 ≠ xb_150 := Nat.ne_of_lt (Nat.lt_of_lt_of_le po120.lt po152)
        have ne187 : xb_117 ≠ xb_150 := Nat.ne_of_lt (Nat.lt_of_lt_of_le po123.lt po152)
        have ge188 : n0 ≤ xb_150 := Nat.le_trans zs117 po152
        have zs150 : n0 ≤ T150.heap.size := Nat.le_trans zs117 K150.1
        have hk150 : T150.heap.size ≤ T150.heap.size := Nat.le_refl _
        have R150 := R117.trans ch150
        have sf189 := ch150.safe f130.lt sf148
        have sf190 := ch150.safe f131.lt sf149
        have N150 := Fr.app N117 N150q
        obtain ⟨Lv150, X150, N150⟩ := own_hide X150 (Nat.le_refl 33) (Nat.le_refl 352) N150
        refine own_h T150 (mkF m 183 #[oi p0, oi p1, oi p2, oi p3, oi wa, oi wb, oi wc, oi wn, oi 0, oa xs_3, oa b13, oa b41, oi 1, oi 0, oa xs_117, oa xs_150] [(.int wc), (.int wb), (.int wa), (.int wn), (.int (1 : Int32)), (.ref xs_117)]) (fun _ k => st150.trans (XS.astore X150.here hx rfl (hb hby at_169) rfl rfl (l' := #[oi p0, oi p1, oi p2, oi p3, oi wa, oi wb, oi wc, oi wn, oi 0, oa xs_3, oa b13, oa b41, oi 1, oi 0, oa xs_117, oa xs_150]) rfl (XS.aload X150.here hx rfl (hb hby at_171) rfl rfl (XS.iload X150.here hx rfl (hb hby at_173) rfl (XS.iload X150.here hx rfl (hb hby at_175) rfl (XS.iload X150.here hx rfl (hb hby at_177) rfl (XS.iload X150.here hx rfl (hb hby at_179) rfl (XS.iload X150.here hx rfl (hb hby at_181) rfl k)))))))) ?_
        obtain ⟨_, _, ⟨T191, L191, k191, n191⟩, -, XX191, hs2191, hg2191, ⟨Lc191, hQ191, l191, y191, z191, ch191⟩, st191⟩ := Jvm.RoadKit.callSS X150 hx (y := (⟨"com/example/cardinal_tableau/cardinaltableau/model/RoleToStringPinLaw", "check", "(Ljava/lang/String;ZICCC)Z"⟩ : MethodName)) hown150 (mvT hZ150 (own_w hw 191 rfl)) (mvT hZ150 (own_w hw 192 rfl)) (mvT hZ150 (own_w hw 2 rfl)) (mvT hZ150 (own_w hw 193 rfl)) (by decide) (backOfSH (W := 0) (rmCkI l Z a0 hw [] xs_117 wn wa wb wc xb_117 xk_117 xz_3 xu_3 cs fm T150.heap n0 zs150 f171 f173 f172 f174 f157 f158 hh0 hh1 po9) hZ150 (own_w hw 193 rfl) (own_w hw 2 rfl) (by decide) (by decide) (own_EW hw) R150.1) (g := (mkF m 183 #[oi p0, oi p1, oi p2, oi p3, oi wa, oi wb, oi wc, oi wn, oi 0, oa xs_3, oa b13, oa b41, oi 1, oi 0, oa xs_117, oa xs_150] [(.int wc), (.int wb), (.int wa), (.int wn), (.int (1 : Int32)), (.ref xs_117)])) rfl (by rw [hml]; rfl) (argsL := [(.ref xs_117), (.int (1 : Int32)), (.int wn), (.int wa), (.int wb), (.int wc)]) (rest := []) (lenOf own_pd35 rfl) rfl (Nat.le_of_eq rfl) (hb hby at_183) (fun _ _ => ⟨rfl, rfl, (by decide : 33 + 2 ≤ _), (by decide : 352 + 72 ≤ _)⟩)
        dsimp only [Pt.U, Pt.locs, Pt.cells, Pt.slots] at XX191 hs2191 hg2191 l191 y191 z191 st191 hQ191 ch191
        subst l191 y191 z191
        obtain ⟨X191, hS191, hZ191, hown191⟩ := rebS hS150 (n1 := T150.heap.size) (by exact hk150) XX191 hs2191 hg2191 hZ150 hown150
        obtain ⟨rfl, N191q, K191⟩ := hQ191
        have f192 := (own_sta_keep f157 K191 ns0)
        have f193 := (own_sta_keep f158 K191 ns0)
        have f194 := (f159.keep K191)
        have f195 := (f160.keep K191 nin0)
        have f196 := (f161.keep K191 nin0)
        have f197 := (f162.keep K191 nin0)
        have f198 := (f163.keep K191)
        have f199 := (f164.keep K191)
        have f200 := (f165.keep K191 nin0)
        have f201 := (f166.keep K191 nin0)
        have f202 := (f167.keep K191 nin0)
        have f203 := (f168.keep K191 nin0)
        have f204 := (f169.keep K191 nin0)
        have f205 := (f170.keep K191 nin0)
        have f206 := (f171.keep K191)
        have f207 := (f172.keep K191 nin0)
        have f208 := (f173.keep K191 nin0)
        have f209 := (f174.keep K191 nin0)
        have f210 := (po153.keep K191)
        have f211 := (po154.keep K191 nin0)
        have f212 := (po155.keep K191 nin0)
        have f213 := (po156.keep K191 nin0)
        have zs191 : n0 ≤ T191.heap.size := Nat.le_trans zs150 K191.1
        have hk191 : T191.heap.size ≤ T191.heap.size := Nat.le_refl _
        have R191 := R150.trans ch191
        have sf214 := ch191.safe f163.lt sf189
        have sf215 := ch191.safe f164.lt sf190
        have N191 := Fr.app N150 N191q
        obtain ⟨Lv191, X191, N191⟩ := own_hide X191 (Nat.le_refl 35) (Nat.le_refl 424) N191
        refine own_h T191 (mkF m 201 #[oi p0, oi p1, oi p2, oi p3, oi wa, oi wb, oi wc, oi wn, oi 0, oa xs_3, oa b13, oa b41, oi 1, oi 0, oa xs_117, oa xs_150] [(.int wc), (.int wb), (.int wa), (.int wn), (.int (0 : Int32)), (.ref xs_150)]) (fun _ k => st191.trans (XS.ifNo X191.here hx rfl (hb hby at_186) rfl (XT.i0_eq_f (by decide : ¬ ((1 : Int32) = (0 : Int32)))) (XS.aload X191.here hx rfl (hb hby at_189) rfl rfl (XS.iload X191.here hx rfl (hb hby at_191) rfl (XS.iload X191.here hx rfl (hb hby at_193) rfl (XS.iload X191.here hx rfl (hb hby at_195) rfl (XS.iload X191.here hx rfl (hb hby at_197) rfl (XS.iload X191.here hx rfl (hb hby at_199) rfl k)))))))) ?_
        obtain ⟨_, _, ⟨T216, L216, k216, n216⟩, -, X216, ⟨Lc216, hQ216, l216, y216, z216⟩, st216⟩ := Jvm.LawKit.callS X191 hx (y := (⟨"com/example/cardinal_tableau/cardinaltableau/model/RoleToStringPinLaw", "check", "(Ljava/lang/String;ZICCC)Z"⟩ : MethodName)) hown191 (mvT hZ191 (own_w hw 191 rfl)) (mvT hZ191 (own_w hw 192 rfl)) (mvT hZ191 (own_w hw 2 rfl)) (mvT hZ191 (own_w hw 193 rfl)) (by decide) (backOf (W := 0) (rmCkN l Z a0 hw [] xs_150 wn wa wb wc xb_150 xk_150 xz_3 xu_3 cs fm T191.heap n0 zs191 f210 f212 f211 f213 f192 f193 hh0 hh1 po9) hZ191 (own_w hw 193 rfl) (own_w hw 2 rfl) (by decide) (by decide)) (g := (mkF m 201 #[oi p0, oi p1, oi p2, oi p3, oi wa, oi wb, oi wc, oi wn, oi 0, oa xs_3, oa b13, oa b41, oi 1, oi 0, oa xs_117, oa xs_150] [(.int wc), (.int wb), (.int wa), (.int wn), (.int (0 : Int32)), (.ref xs_150)])) rfl (by rw [hml]; rfl) (argsL := [(.ref xs_150), (.int (0 : Int32)), (.int wn), (.int wa), (.int wb), (.int wc)]) (rest := []) (lenOf own_pd35 rfl) rfl (Nat.le_of_eq rfl) (hb hby at_201) (fun _ _ => ⟨rfl, rfl, (by decide : 35 + 0 ≤ _), (by decide : 424 + 0 ≤ _)⟩)
        dsimp only [Pt.U, Pt.locs, Pt.cells, Pt.slots] at X216 l216 y216 z216 st216 hQ216
        subst l216 y216 z216
        obtain ⟨rfl, N216q, e216⟩ := hQ216
        have N216 := Fr.app N191 N216q
        obtain ⟨Lv216, X216, N216⟩ := own_hide X216 (Nat.le_refl 35) (Nat.le_refl 424) N216
        refine own_h T216 (mkF m 212 #[oi p0, oi p1, oi p2, oi p3, oi wa, oi wb, oi wc, oi wn, oi 0, oa xs_3, oa b13, oa b41, oi 1, oi 0, oa xs_117, oa xs_150] [(.int (1 : Int32))]) (fun _ k => st216 _ (XS.ifNo X216.here hx rfl (hb hby at_204) rfl (XT.i0_eq_f (by decide : ¬ ((1 : Int32) = (0 : Int32)))) (XS.iconst X216.here hx rfl (hb hby at_207) (XS.goto X216.here hx rfl (pc0 := 208) (pc' := 212) rfl (hb hby at_208) (by decide) (by decide) k)))) ?_
        exact own_retNH X216 hS191 hx (t := .boolean) Bd.returns hlk (by simp) (hb hby at_212) hZ191 (own_EW hw) R191 e216 hk191 ⟨rfl, N216⟩ (by decide) (by decide)
      · skip
        refine own_h T98 (mkF m 147 #[oi p0, oi p1, oi p2, oi p3, oi wa, oi wb, oi wc, oi wn, oi 0, oa xs_3, oa b13, oa b41, oi 0, .unset, .unset, .unset] [(.int p1), (.int p0)]) (fun _ k => XS.icmpYes X98.here hx rfl (pc0 := 130) (pc' := 137) rfl (hb hby at_130) rfl (XT.ii_ge_t hc130_116) (by decide) (by decide) (XS.iconst X98.here hx rfl (hb hby at_137) (XS.istore X98.here hx rfl (hb hby at_138) rfl (l' := #[oi p0, oi p1, oi p2, oi p3, oi wa, oi wb, oi wc, oi wn, oi 0, oa xs_3, oa b13, oa b41, oi 0, .unset, .unset, .unset]) rfl (XS.iload X98.here hx rfl (hb hby at_140) rfl (XS.ifNo X98.here hx rfl (hb hby at_142) rfl (XT.i0_ne_f (rfl : (0 : Int32) = (0 : Int32))) (XS.iloadN X98.here hx rfl (hb hby at_145) rfl (XS.iloadN X98.here hx rfl (hb hby at_146) rfl k))))))) ?_
        by_cases hc147_217 : p0 < p1
        · skip
          refine own_h T98 (mkF m 159 #[oi p0, oi p1, oi p2, oi p3, oi wa, oi wb, oi wc, oi wn, oi 0, oa xs_3, oa b13, oa b41, oi 0, oi 1, .unset, .unset] [(.ref b13)]) (fun _ k => XS.icmpNo X98.here hx rfl (hb hby at_147) rfl (XT.ii_ge_f hc147_217) (XS.iconst X98.here hx rfl (hb hby at_150) (XS.goto X98.here hx rfl (pc0 := 151) (pc' := 155) rfl (hb hby at_151) (by decide) (by decide) (XS.istore X98.here hx rfl (hb hby at_155) rfl (l' := #[oi p0, oi p1, oi p2, oi p3, oi wa, oi wb, oi wc, oi wn, oi 0, oa xs_3, oa b13, oa b41, oi 0, oi 1, .unset, .unset]) rfl (XS.aload X98.here hx rfl (hb hby at_157) rfl rfl k))))) ?_
          obtain ⟨cq218, kq218, q218a, q218b, q218c⟩ := isOf hZ3 rfl f108
          obtain ⟨_, _, ⟨T218, L218, k218, n218⟩, -, XX218, hs2218, hg2218, ⟨Lc218, hQ218, l218, y218, z218, ch218⟩, st218⟩ := X98.virtualBackS hx (y := (⟨"com/example/cardinal_tableau/cardinaltableau/model/Role", "toString", "()Ljava/lang/String;"⟩ : MethodName)) (z := (⟨"com/example/cardinal_tableau/cardinaltableau/model/Role", "toString", "()Ljava/lang/String;"⟩ : MethodName)) hown3 (mvT hZ3 (own_w hw 48 rfl)) (mvT hZ3 (own_w hw 49 rfl)) (notFace_of_selects (args := #[]) (mvT hZ3 (own_w hw 51 rfl))) (mvT hZ3 (own_w hw 51 rfl)) (mvT hZ3 (own_w hw 50 rfl)) (by decide) (backOfSH (W := 0) (rmToN l Z a0 hw [] b13 xs_3 b41 p0 p1 xb_3 xk_3 xz_3 xu_3 cs T98.heap n0 zs98 f108 f112 f110 f111 f109 po100 f104 f106 f105 f107 f102 hh0 (own_I0 hc130_116) (own_okZ po9)) hZ3 (own_w hw 52 rfl) (own_w hw 32 rfl) (by decide) (by decide) (own_EW hw) R98.1) q218a q218c (g := (mkF m 159 #[oi p0, oi p1, oi p2, oi p3, oi wa, oi wb, oi wc, oi wn, oi 0, oa xs_3, oa b13, oa b41, oi 0, oi 1, .unset, .unset] [(.ref b13)])) rfl (by rw [hml]; rfl) (Steps.refl _) (argsL := []) (rest := []) (lenOf own_pd30 rfl) rfl (Nat.le_of_eq rfl) (hb hby at_159) (fun _ _ => ⟨rfl, rfl, (by decide : 8 + 8 ≤ _), (by decide : 18 + 80 ≤ _)⟩)
          dsimp only [Pt.U, Pt.locs, Pt.cells, Pt.slots] at XX218 hs2218 hg2218 l218 y218 z218 st218 hQ218 ch218
          subst l218 y218 z218
          obtain ⟨X218, hS218, hZ218, hown218⟩ := rebS hS3 (n1 := T98.heap.size) (by exact hk113) XX218 hs2218 hg2218 hZ3 hown3
          obtain ⟨xs_218, xb_218, xk_218, rfl, N218q, K218, po219, po220, po221, po222, po223, po224⟩ := hQ218
          have f225 := (own_sta_keep f102 K218 ns0)
          have f226 := (own_sta_keep f103 K218 ns0)
          have f227 := (f104.keep K218)
          have f228 := (f105.keep K218 nin0)
          have f229 := (f106.keep K218 nin0)
          have f230 := (f107.keep K218 nin0)
          have f231 := (f108.keep K218)
          have f232 := (f109.keep K218)
          have f233 := (f110.keep K218 nin0)
          have f234 := (f111.keep K218 nin0)
          have f235 := (f112.keep K218 nin0)
          have f236 := (po99.keep K218 nin0)
          have f237 := (po100.keep K218 nin0)
          have f238 := (po101.keep K218 nin0)
          have ne239 : xs_3 ≠ xs_218 := Nat.ne_of_lt (Nat.lt_of_lt_of_le f104.lt po219)
          have ne240 : xb_3 ≠ xs_218 := Nat.ne_of_lt (Nat.lt_of_lt_of_le f107.lt po219)
          have ne241 : b13 ≠ xs_218 := Nat.ne_of_lt (Nat.lt_of_lt_of_le f108.lt po219)
          have ne242 : b41 ≠ xs_218 := Nat.ne_of_lt (Nat.lt_of_lt_of_le f109.lt po219)
          have ge243 : n0 ≤ xs_218 := Nat.le_trans zs98 po219
          have ne244 : xs_3 ≠ xb_218 := Nat.ne_of_lt (Nat.lt_of_lt_of_le f104.lt po220)
          have ne245 : xb_3 ≠ xb_218 := Nat.ne_of_lt (Nat.lt_of_lt_of_le f107.lt po220)
          have ne246 : b13 ≠ xb_218 := Nat.ne_of_lt (Nat.lt_of_lt_of_le f108.lt po220)
          have ne247 : b41 ≠ xb_218 := Nat.ne_of_lt (Nat.lt_of_lt_of_le f109.lt po220)
          have ge248 : n0 ≤ xb_218 := Nat.le_trans zs98 po220
          have zs218 : n0 ≤ T218.heap.size := Nat.le_trans zs98 K218.1
          have hk218 : T218.heap.size ≤ T218.heap.size := Nat.le_refl _
          have R218 := R98.trans ch218
          have sf249 := ch218.safe f108.lt sf114
          have sf250 := ch218.safe f109.lt sf115
          have N218 := Fr.app N98 N218q
          obtain ⟨Lv218, X218, N218⟩ := own_hide X218 (Nat.le_refl 16) (Nat.le_refl 98) N218
          refine own_h T218 (mkF m 166 #[oi p0, oi p1, oi p2, oi p3, oi wa, oi wb, oi wc, oi wn, oi 0, oa xs_3, oa b13, oa b41, oi 0, oi 1, oa xs_218, .unset] [(.ref b41)]) (fun _ k => st218.trans (XS.astore X218.here hx rfl (hb hby at_162) rfl rfl (l' := #[oi p0, oi p1, oi p2, oi p3, oi wa, oi wb, oi wc, oi wn, oi 0, oa xs_3, oa b13, oa b41, oi 0, oi 1, oa xs_218, .unset]) rfl (XS.aload X218.here hx rfl (hb hby at_164) rfl rfl k))) ?_
          obtain ⟨cq251, kq251, q251a, q251b, q251c⟩ := isOf hZ218 rfl f232
          obtain ⟨_, _, ⟨T251, L251, k251, n251⟩, -, XX251, hs2251, hg2251, ⟨Lc251, hQ251, l251, y251, z251, ch251⟩, st251⟩ := X218.virtualBackS hx (y := (⟨"com/example/cardinal_tableau/cardinaltableau/model/Role", "toString", "()Ljava/lang/String;"⟩ : MethodName)) (z := (⟨"com/example/cardinal_tableau/cardinaltableau/model/Role", "toString", "()Ljava/lang/String;"⟩ : MethodName)) hown218 (mvT hZ218 (own_w hw 48 rfl)) (mvT hZ218 (own_w hw 49 rfl)) (notFace_of_selects (args := #[]) (mvT hZ218 (own_w hw 51 rfl))) (mvT hZ218 (own_w hw 51 rfl)) (mvT hZ218 (own_w hw 50 rfl)) (by decide) (backOfSH (W := 0) (rmToI l Z a0 hw [] b41 xs_3 b13 p1 p0 xb_3 xk_3 xz_3 xu_3 cs T218.heap n0 zs218 f232 f238 f236 f237 f231 f234 f227 f229 f228 f230 f225 hh0 (own_I1 (ne44) hc147_217) (own_okZ po9)) hZ218 (own_w hw 52 rfl) (own_w hw 32 rfl) (by decide) (by decide) (own_EW hw) R218.1) q251a q251c (g := (mkF m 166 #[oi p0, oi p1, oi p2, oi p3, oi wa, oi wb, oi wc, oi wn, oi 0, oa xs_3, oa b13, oa b41, oi 0, oi 1, oa xs_218, .unset] [(.ref b41)])) rfl (by rw [hml]; rfl) (Steps.refl _) (argsL := []) (rest := []) (lenOf own_pd30 rfl) rfl (Nat.le_of_eq rfl) (hb hby at_166) (fun _ _ => ⟨rfl, rfl, (by decide : 16 + 17 ≤ _), (by decide : 98 + 254 ≤ _)⟩)
          dsimp only [Pt.U, Pt.locs, Pt.cells, Pt.slots] at XX251 hs2251 hg2251 l251 y251 z251 st251 hQ251 ch251
          subst l251 y251 z251
          obtain ⟨X251, hS251, hZ251, hown251⟩ := rebS hS218 (n1 := T218.heap.size) (by exact hk218) XX251 hs2251 hg2251 hZ218 hown218
          obtain ⟨xs_251, xb_251, xk_251, rfl, N251q, K251, po252, po253, po254, po255, po256, po257⟩ := hQ251
          have f258 := (own_sta_keep f225 K251 ns0)
          have f259 := (own_sta_keep f226 K251 ns0)
          have f260 := (f227.keep K251)
          have f261 := (f228.keep K251 nin0)
          have f262 := (f229.keep K251 nin0)
          have f263 := (f230.keep K251 nin0)
          have f264 := (f231.keep K251)
          have f265 := (f232.keep K251)
          have f266 := (f233.keep K251 nin0)
          have f267 := (f234.keep K251 nin0)
          have f268 := (f235.keep K251 nin0)
          have f269 := (f236.keep K251 nin0)
          have f270 := (f237.keep K251 nin0)
          have f271 := (f238.keep K251 nin0)
          have f272 := (po221.keep K251)
          have f273 := (po222.keep K251 nin0)
          have f274 := (po223.keep K251 nin0)
          have f275 := (po224.keep K251 nin0)
          have ne276 : xs_3 ≠ xs_251 := Nat.ne_of_lt (Nat.lt_of_lt_of_le f227.lt po252)
          have ne277 : xb_3 ≠ xs_251 := Nat.ne_of_lt (Nat.lt_of_lt_of_le f230.lt po252)
          have ne278 : b13 ≠ xs_251 := Nat.ne_of_lt (Nat.lt_of_lt_of_le f231.lt po252)
          have ne279 : b41 ≠ xs_251 := Nat.ne_of_lt (Nat.lt_of_lt_of_le f232.lt po252)
          have ne280 : xs_218 ≠ xs_251 := Nat.ne_of_lt (Nat.lt_of_lt_of_le po221.lt po252)
          have ne281 : xb_218 ≠ xs_251 := Nat.ne_of_lt (Nat.lt_of_lt_of_le po224.lt po252)
          have ge282 : n0 ≤ xs_251 := Nat.le_trans zs218 po252
          have ne283 : xs_3 ≠ xb_251 := Nat.ne_of_lt (Nat.lt_of_lt_of_le f227.lt po253)
          have ne284 : xb_3 ≠ xb_251 := Nat.ne_of_lt (Nat.lt_of_lt_of_le f230.lt po253)
          have ne285 : b13 ≠ xb_251 := Nat.ne_of_lt (Nat.lt_of_lt_of_le f231.lt po253)
          have ne286 : b41 ≠ xb_251 := Nat.ne_of_lt (Nat.lt_of_lt_of_le f232.lt po253)
          have ne287 : xs_218 ≠ xb_251 := Nat.ne_of_lt (Nat.lt_of_lt_of_le po221.lt po253)
          have ne288 : xb_218 ≠ xb_251 := Nat.ne_of_lt (Nat.lt_of_lt_of_le po224.lt po253)
          have ge289 : n0 ≤ xb_251 := Nat.le_trans zs218 po253
          have zs251 : n0 ≤ T251.heap.size := Nat.le_trans zs218 K251.1
          have hk251 : T251.heap.size ≤ T251.heap.size := Nat.le_refl _
          have R251 := R218.trans ch251
          have sf290 := ch251.safe f231.lt sf249
          have sf291 := ch251.safe f232.lt sf250
          have N251 := Fr.app N218 N251q
          obtain ⟨Lv251, X251, N251⟩ := own_hide X251 (Nat.le_refl 33) (Nat.le_refl 352) N251
          refine own_h T251 (mkF m 183 #[oi p0, oi p1, oi p2, oi p3, oi wa, oi wb, oi wc, oi wn, oi 0, oa xs_3, oa b13, oa b41, oi 0, oi 1, oa xs_218, oa xs_251] [(.int wc), (.int wb), (.int wa), (.int wn), (.int (0 : Int32)), (.ref xs_218)]) (fun _ k => st251.trans (XS.astore X251.here hx rfl (hb hby at_169) rfl rfl (l' := #[oi p0, oi p1, oi p2, oi p3, oi wa, oi wb, oi wc, oi wn, oi 0, oa xs_3, oa b13, oa b41, oi 0, oi 1, oa xs_218, oa xs_251]) rfl (XS.aload X251.here hx rfl (hb hby at_171) rfl rfl (XS.iload X251.here hx rfl (hb hby at_173) rfl (XS.iload X251.here hx rfl (hb hby at_175) rfl (XS.iload X251.here hx rfl (hb hby at_177) rfl (XS.iload X251.here hx rfl (hb hby at_179) rfl (XS.iload X251.here hx rfl (hb hby at_181) rfl k)))))))) ?_
          obtain ⟨_, _, ⟨T292, L292, k292, n292⟩, -, X292, ⟨Lc292, hQ292, l292, y292, z292⟩, st292⟩ := Jvm.LawKit.callS X251 hx (y := (⟨"com/example/cardinal_tableau/cardinaltableau/model/RoleToStringPinLaw", "check", "(Ljava/lang/String;ZICCC)Z"⟩ : MethodName)) hown251 (mvT hZ251 (own_w hw 191 rfl)) (mvT hZ251 (own_w hw 192 rfl)) (mvT hZ251 (own_w hw 2 rfl)) (mvT hZ251 (own_w hw 193 rfl)) (by decide) (backOf (W := 0) (rmCkN l Z a0 hw [] xs_218 wn wa wb wc xb_218 xk_218 xz_3 xu_3 cs fm T251.heap n0 zs251 f272 f274 f273 f275 f258 f259 hh0 hh1 po9) hZ251 (own_w hw 193 rfl) (own_w hw 2 rfl) (by decide) (by decide)) (g := (mkF m 183 #[oi p0, oi p1, oi p2, oi p3, oi wa, oi wb, oi wc, oi wn, oi 0, oa xs_3, oa b13, oa b41, oi 0, oi 1, oa xs_218, oa xs_251] [(.int wc), (.int wb), (.int wa), (.int wn), (.int (0 : Int32)), (.ref xs_218)])) rfl (by rw [hml]; rfl) (argsL := [(.ref xs_218), (.int (0 : Int32)), (.int wn), (.int wa), (.int wb), (.int wc)]) (rest := []) (lenOf own_pd35 rfl) rfl (Nat.le_of_eq rfl) (hb hby at_183) (fun _ _ => ⟨rfl, rfl, (by decide : 33 + 0 ≤ _), (by decide : 352 + 0 ≤ _)⟩)
          dsimp only [Pt.U, Pt.locs, Pt.cells, Pt.slots] at X292 l292 y292 z292 st292 hQ292
          subst l292 y292 z292
          obtain ⟨rfl, N292q, e292⟩ := hQ292
          have N292 := Fr.app N251 N292q
          obtain ⟨Lv292, X292, N292⟩ := own_hide X292 (Nat.le_refl 33) (Nat.le_refl 352) N292
          refine own_h T292 (mkF m 201 #[oi p0, oi p1, oi p2, oi p3, oi wa, oi wb, oi wc, oi wn, oi 0, oa xs_3, oa b13, oa b41, oi 0, oi 1, oa xs_218, oa xs_251] [(.int wc), (.int wb), (.int wa), (.int wn), (.int (1 : Int32)), (.ref xs_251)]) (fun _ k => st292 _ (XS.ifNo X292.here hx rfl (hb hby at_186) rfl (XT.i0_eq_f (by decide : ¬ ((1 : Int32) = (0 : Int32)))) (XS.aload X292.here hx rfl (hb hby at_189) rfl rfl (XS.iload X292.here hx rfl (hb hby at_191) rfl (XS.iload X292.here hx rfl (hb hby at_193) rfl (XS.iload X292.here hx rfl (hb hby at_195) rfl (XS.iload X292.here hx rfl (hb hby at_197) rfl (XS.iload X292.here hx rfl (hb hby at_199) rfl k)))))))) ?_
          obtain ⟨_, _, ⟨T293, L293, k293, n293⟩, -, XX293, hs2293, hg2293, ⟨Lc293, hQ293, l293, y293, z293, ch293⟩, st293⟩ := Jvm.RoadKit.callSS X292 hx (y := (⟨"com/example/cardinal_tableau/cardinaltableau/model/RoleToStringPinLaw", "check", "(Ljava/lang/String;ZICCC)Z"⟩ : MethodName)) hown251 (mvT hZ251 (own_w hw 191 rfl)) (mvT hZ251 (own_w hw 192 rfl)) (mvT hZ251 (own_w hw 2 rfl)) (mvT hZ251 (own_w hw 193 rfl)) (by decide) (backOfSH (W := 0) (rmCkI l Z a0 hw [] xs_251 wn wa wb wc xb_251 xk_251 xz_3 xu_3 cs fm T251.heap n0 zs251 po254 po256 po255 po257 f258 f259 hh0 hh1 po9) hZ251 (own_w hw 193 rfl) (own_w hw 2 rfl) (by decide) (by decide) (own_EW hw) R251.1) (g := (mkF m 201 #[oi p0, oi p1, oi p2, oi p3, oi wa, oi wb, oi wc, oi wn, oi 0, oa xs_3, oa b13, oa b41, oi 0, oi 1, oa xs_218, oa xs_251] [(.int wc), (.int wb), (.int wa), (.int wn), (.int (1 : Int32)), (.ref xs_251)])) rfl (by rw [hml]; rfl) (argsL := [(.ref xs_251), (.int (1 : Int32)), (.int wn), (.int wa), (.int wb), (.int wc)]) (rest := []) (lenOf own_pd35 rfl) rfl (Nat.le_of_eq rfl) (hb hby at_201) (fun _ _ => ⟨rfl, e292, (by decide : 33 + 2 ≤ _), (by decide : 352 + 72 ≤ _)⟩)
          dsimp only [Pt.U, Pt.locs, Pt.cells, Pt.slots] at XX293 hs2293 hg2293 l293 y293 z293 st293 hQ293 ch293
          subst l293 y293 z293
          obtain ⟨X293, hS293, hZ293, hown293⟩ := rebS hS251 (n1 := T292.heap.size) (by rw [e292]; exact hk251) XX293 hs2293 hg2293 hZ251 hown251
          obtain ⟨rfl, N293q, K293⟩ := hQ293
          have f294 := (own_sta_keep f258 K293 ns0)
          have f295 := (own_sta_keep f259 K293 ns0)
          have f296 := (f260.keep K293)
          have f297 := (f261.keep K293 nin0)
          have f298 := (f262.keep K293 nin0)
          have f299 := (f263.keep K293 nin0)
          have f300 := (f264.keep K293)
          have f301 := (f265.keep K293)
          have f302 := (f266.keep K293 nin0)
          have f303 := (f267.keep K293 nin0)
          have f304 := (f268.keep K293 nin0)
          have f305 := (f269.keep K293 nin0)
          have f306 := (f270.keep K293 nin0)
          have f307 := (f271.keep K293 nin0)
          have f308 := (f272.keep K293)
          have f309 := (f273.keep K293 nin0)
          have f310 := (f274.keep K293 nin0)
          have f311 := (f275.keep K293 nin0)
          have f312 := (po254.keep K293)
          have f313 := (po255.keep K293 nin0)
          have f314 := (po256.keep K293 nin0)
          have f315 := (po257.keep K293 nin0)
          have zs293 : n0 ≤ T293.heap.size := Nat.le_trans zs251 K293.1
          have hk293 : T293.heap.size ≤ T293.heap.size := Nat.le_refl _
          have R293 := R251.trans ch293
          have sf316 := ch293.safe f264.lt sf290
          have sf317 := ch293.safe f265.lt sf291
          have N293 := Fr.app N292 N293q
          obtain ⟨Lv293, X293, N293⟩ := own_hide X293 (Nat.le_refl 35) (Nat.le_refl 424) N293
          refine own_h T293 (mkF m 212 #[oi p0, oi p1, oi p2, oi p3, oi wa, oi wb, oi wc, oi wn, oi 0, oa xs_3, oa b13, oa b41, oi 0, oi 1, oa xs_218, oa xs_251] [(.int (1 : Int32))]) (fun _ k => st293.trans (XS.ifNo X293.here hx rfl (hb hby at_204) rfl (XT.i0_eq_f (by decide : ¬ ((1 : Int32) = (0 : Int32)))) (XS.iconst X293.here hx rfl (hb hby at_207) (XS.goto X293.here hx rfl (pc0 := 208) (pc' := 212) rfl (hb hby at_208) (by decide) (by decide) k)))) ?_
          exact own_retNH X293 hS293 hx (t := .boolean) Bd.returns hlk (by simp) (hb hby at_212) hZ293 (own_EW hw) R293 rfl hk293 ⟨rfl, N293⟩ (by decide) (by decide)
        · skip
          refine own_h T98 (mkF m 159 #[oi p0, oi p1, oi p2, oi p3, oi wa, oi wb, oi wc, oi wn, oi 0, oa xs_3, oa b13, oa b41, oi 0, oi 0, .unset, .unset] [(.ref b13)]) (fun _ k => XS.icmpYes X98.here hx rfl (pc0 := 147) (pc' := 154) rfl (hb hby at_147) rfl (XT.ii_ge_t hc147_217) (by decide) (by decide) (XS.iconst X98.here hx rfl (hb hby at_154) (XS.istore X98.here hx rfl (hb hby at_155) rfl (l' := #[oi p0, oi p1, oi p2, oi p3, oi wa, oi wb, oi wc, oi wn, oi 0, oa xs_3, oa b13, oa b41, oi 0, oi 0, .unset, .unset]) rfl (XS.aload X98.here hx rfl (hb hby at_157) rfl rfl k)))) ?_
          obtain ⟨cq318, kq318, q318a, q318b, q318c⟩ := isOf hZ3 rfl f108
          obtain ⟨_, _, ⟨T318, L318, k318, n318⟩, -, XX318, hs2318, hg2318, ⟨Lc318, hQ318, l318, y318, z318, ch318⟩, st318⟩ := X98.virtualBackS hx (y := (⟨"com/example/cardinal_tableau/cardinaltableau/model/Role", "toString", "()Ljava/lang/String;"⟩ : MethodName)) (z := (⟨"com/example/cardinal_tableau/cardinaltableau/model/Role", "toString", "()Ljava/lang/String;"⟩ : MethodName)) hown3 (mvT hZ3 (own_w hw 48 rfl)) (mvT hZ3 (own_w hw 49 rfl)) (notFace_of_selects (args := #[]) (mvT hZ3 (own_w hw 51 rfl))) (mvT hZ3 (own_w hw 51 rfl)) (mvT hZ3 (own_w hw 50 rfl)) (by decide) (backOfSH (W := 0) (rmToN l Z a0 hw [] b13 xs_3 b41 p0 p1 xb_3 xk_3 xz_3 xu_3 cs T98.heap n0 zs98 f108 f112 f110 f111 f109 po100 f104 f106 f105 f107 f102 hh0 (own_I0 hc130_116) (own_okZ po9)) hZ3 (own_w hw 52 rfl) (own_w hw 32 rfl) (by decide) (by decide) (own_EW hw) R98.1) q318a q318c (g := (mkF m 159 #[oi p0, oi p1, oi p2, oi p3, oi wa, oi wb, oi wc, oi wn, oi 0, oa xs_3, oa b13, oa b41, oi 0, oi 0, .unset, .unset] [(.ref b13)])) rfl (by rw [hml]; rfl) (Steps.refl _) (argsL := []) (rest := []) (lenOf own_pd30 rfl) rfl (Nat.le_of_eq rfl) (hb hby at_159) (fun _ _ => ⟨rfl, rfl, (by decide : 8 + 8 ≤ _), (by decide : 18 + 80 ≤ _)⟩)
          dsimp only [Pt.U, Pt.locs, Pt.cells, Pt.slots] at XX318 hs2318 hg2318 l318 y318 z318 st318 hQ318 ch318
          subst l318 y318 z318
          obtain ⟨X318, hS318, hZ318, hown318⟩ := rebS hS3 (n1 := T98.heap.size) (by exact hk113) XX318 hs2318 hg2318 hZ3 hown3
          obtain ⟨xs_318, xb_318, xk_318, rfl, N318q, K318, po319, po320, po321, po322, po323, po324⟩ := hQ318
          have f325 := (own_sta_keep f102 K318 ns0)
          have f326 := (own_sta_keep f103 K318 ns0)
          have f327 := (f104.keep K318)
          have f328 := (f105.keep K318 nin0)
          have f329 := (f106.keep K318 nin0)
          have f330 := (f107.keep K318 nin0)
          have f331 := (f108.keep K318)
          have f332 := (f109.keep K318)
          have f333 := (f110.keep K318 nin0)
          have f334 := (f111.keep K318 nin0)
          have f335 := (f112.keep K318 nin0)
          have f336 := (po99.keep K318 nin0)
          have f337 := (po100.keep K318 nin0)
          have f338 := (po101.keep K318 nin0)
          have ne339 : xs_3 ≠ xs_318 := Nat.ne_of_lt (Nat.lt_of_lt_of_le f104.lt po319)
          have ne340 : xb_3 ≠ xs_318 := Nat.ne_of_lt (Nat.lt_of_lt_of_le f107.lt po319)
          have ne341 : b13 ≠ xs_318 := Nat.ne_of_lt (Nat.lt_of_lt_of_le f108.lt po319)
          have ne342 : b41 ≠ xs_318 := Nat.ne_of_lt (Nat.lt_of_lt_of_le f109.lt po319)
          have ge343 : n0 ≤ xs_318 := Nat.le_trans zs98 po319
          have ne344 : xs_3 ≠ xb_318 := Nat.ne_of_lt (Nat.lt_of_lt_of_le f104.lt po320)
          have ne345 : xb_3 ≠ xb_318 := Nat.ne_of_lt (Nat.lt_of_lt_of_le f107.lt po320)
          have ne346 : b13 ≠ xb_318 := Nat.ne_of_lt (Nat.lt_of_lt_of_le f108.lt po320)
          have ne347 : b41 ≠ xb_318 := Nat.ne_of_lt (Nat.lt_of_lt_of_le f109.lt po320)
          have ge348 : n0 ≤ xb_318 := Nat.le_trans zs98 po320
          have zs318 : n0 ≤ T318.heap.size := Nat.le_trans zs98 K318.1
          have hk318 : T318.heap.size ≤ T318.heap.size := Nat.le_refl _
          have R318 := R98.trans ch318
          have sf349 := ch318.safe f108.lt sf114
          have sf350 := ch318.safe f109.lt sf115
          have N318 := Fr.app N98 N318q
          obtain ⟨Lv318, X318, N318⟩ := own_hide X318 (Nat.le_refl 16) (Nat.le_refl 98) N318
          refine own_h T318 (mkF m 166 #[oi p0, oi p1, oi p2, oi p3, oi wa, oi wb, oi wc, oi wn, oi 0, oa xs_3, oa b13, oa b41, oi 0, oi 0, oa xs_318, .unset] [(.ref b41)]) (fun _ k => st318.trans (XS.astore X318.here hx rfl (hb hby at_162) rfl rfl (l' := #[oi p0, oi p1, oi p2, oi p3, oi wa, oi wb, oi wc, oi wn, oi 0, oa xs_3, oa b13, oa b41, oi 0, oi 0, oa xs_318, .unset]) rfl (XS.aload X318.here hx rfl (hb hby at_164) rfl rfl k))) ?_
          obtain ⟨cq351, kq351, q351a, q351b, q351c⟩ := isOf hZ318 rfl f332
          obtain ⟨_, _, ⟨T351, L351, k351, n351⟩, -, XX351, hs2351, hg2351, ⟨Lc351, hQ351, l351, y351, z351, ch351⟩, st351⟩ := X318.virtualBackS hx (y := (⟨"com/example/cardinal_tableau/cardinaltableau/model/Role", "toString", "()Ljava/lang/String;"⟩ : MethodName)) (z := (⟨"com/example/cardinal_tableau/cardinaltableau/model/Role", "toString", "()Ljava/lang/String;"⟩ : MethodName)) hown318 (mvT hZ318 (own_w hw 48 rfl)) (mvT hZ318 (own_w hw 49 rfl)) (notFace_of_selects (args := #[]) (mvT hZ318 (own_w hw 51 rfl))) (mvT hZ318 (own_w hw 51 rfl)) (mvT hZ318 (own_w hw 50 rfl)) (by decide) (backOfSH (W := 0) (rmToN l Z a0 hw [] b41 xs_3 b13 p1 p0 xb_3 xk_3 xz_3 xu_3 cs T318.heap n0 zs318 f332 f338 f336 f337 f331 f334 f327 f329 f328 f330 f325 hh0 (own_I0 hc147_217) (own_okZ po9)) hZ318 (own_w hw 52 rfl) (own_w hw 32 rfl) (by decide) (by decide) (own_EW hw) R318.1) q351a q351c (g := (mkF m 166 #[oi p0, oi p1, oi p2, oi p3, oi wa, oi wb, oi wc, oi wn, oi 0, oa xs_3, oa b13, oa b41, oi 0, oi 0, oa xs_318, .unset] [(.ref b41)])) rfl (by rw [hml]; rfl) (Steps.refl _) (argsL := []) (rest := []) (lenOf own_pd30 rfl) rfl (Nat.le_of_eq rfl) (hb hby at_166) (fun _ _ => ⟨rfl, rfl, (by decide : 16 + 8 ≤ _), (by decide : 98 + 80 ≤ _)⟩)
          dsimp only [Pt.U, Pt.locs, Pt.cells, Pt.slots] at XX351 hs2351 hg2351 l351 y351 z351 st351 hQ351 ch351
          subst l351 y351 z351
          obtain ⟨X351, hS351, hZ351, hown351⟩ := rebS hS318 (n1 := T318.heap.size) (by exact hk318) XX351 hs2351 hg2351 hZ318 hown318
          obtain ⟨xs_351, xb_351, xk_351, rfl, N351q, K351, po352, po353, po354, po355, po356, po357⟩ := hQ351
          have f358 := (own_sta_keep f325 K351 ns0)
          have f359 := (own_sta_keep f326 K351 ns0)
          have f360 := (f327.keep K351)
          have f361 := (f328.keep K351 nin0)
          have f362 := (f329.keep K351 nin0)
          have f363 := (f330.keep K351 nin0)
          have f364 := (f331.keep K351)
          have f365 := (f332.keep K351)
          have f366 := (f333.keep K351 nin0)
          have f367 := (f334.keep K351 nin0)
          have f368 := (f335.keep K351 nin0)
          have f369 := (f336.keep K351 nin0)
          have f370 := (f337.keep K351 nin0)
          have f371 := (f338.keep K351 nin0)
          have f372 := (po321.keep K351)
          have f373 := (po322.keep K351 nin0)
          have f374 := (po323.keep K351 nin0)
          have f375 := (po324.keep K351 nin0)
          have ne376 : xs_3 ≠ xs_351 := Nat.ne_of_lt (Nat.lt_of_lt_of_le f327.lt po352)
          have ne377 : xb_3 ≠ xs_351 := Nat.ne_of_lt (Nat.lt_of_lt_of_le f330.lt po352)
          have ne378 : b13 ≠ xs_351 := Nat.ne_of_lt (Nat.lt_of_lt_of_le f331.lt po352)
          have ne379 : b41 ≠ xs_351 := Nat.ne_of_lt (Nat.lt_of_lt_of_le f332.lt po352)
          have ne380 : xs_318 ≠ xs_351 := Nat.ne_of_lt (Nat.lt_of_lt_of_le po321.lt po352)
          have ne381 : xb_318 ≠ xs_351 := Nat.ne_of_lt (Nat.lt_of_lt_of_le po324.lt po352)
          have ge382 : n0 ≤ xs_351 := Nat.le_trans zs318 po352
          have ne383 : xs_3 ≠ xb_351 := Nat.ne_of_lt (Nat.lt_of_lt_of_le f327.lt po353)
          have ne384 : xb_3 ≠ xb_351 := Nat.ne_of_lt (Nat.lt_of_lt_of_le f330.lt po353)
          have ne385 : b13 ≠ xb_351 := Nat.ne_of_lt (Nat.lt_of_lt_of_le f331.lt po353)
          have ne386 : b41 ≠ xb_351 := Nat.ne_of_lt (Nat.lt_of_lt_of_le f332.lt po353)
          have ne387 : xs_318 ≠ xb_351 := Nat.ne_of_lt (Nat.lt_of_lt_of_le po321.lt po353)
          have ne388 : xb_318 ≠ xb_351 := Nat.ne_of_lt (Nat.lt_of_lt_of_le po324.lt po353)
          have ge389 : n0 ≤ xb_351 := Nat.le_trans zs318 po353
          have zs351 : n0 ≤ T351.heap.size := Nat.le_trans zs318 K351.1
          have hk351 : T351.heap.size ≤ T351.heap.size := Nat.le_refl _
          have R351 := R318.trans ch351
          have sf390 := ch351.safe f331.lt sf349
          have sf391 := ch351.safe f332.lt sf350
          have N351 := Fr.app N318 N351q
          obtain ⟨Lv351, X351, N351⟩ := own_hide X351 (Nat.le_refl 24) (Nat.le_refl 178) N351
          refine own_h T351 (mkF m 183 #[oi p0, oi p1, oi p2, oi p3, oi wa, oi wb, oi wc, oi wn, oi 0, oa xs_3, oa b13, oa b41, oi 0, oi 0, oa xs_318, oa xs_351] [(.int wc), (.int wb), (.int wa), (.int wn), (.int (0 : Int32)), (.ref xs_318)]) (fun _ k => st351.trans (XS.astore X351.here hx rfl (hb hby at_169) rfl rfl (l' := #[oi p0, oi p1, oi p2, oi p3, oi wa, oi wb, oi wc, oi wn, oi 0, oa xs_3, oa b13, oa b41, oi 0, oi 0, oa xs_318, oa xs_351]) rfl (XS.aload X351.here hx rfl (hb hby at_171) rfl rfl (XS.iload X351.here hx rfl (hb hby at_173) rfl (XS.iload X351.here hx rfl (hb hby at_175) rfl (XS.iload X351.here hx rfl (hb hby at_177) rfl (XS.iload X351.here hx rfl (hb hby at_179) rfl (XS.iload X351.here hx rfl (hb hby at_181) rfl k)))))))) ?_
          obtain ⟨_, _, ⟨T392, L392, k392, n392⟩, -, X392, ⟨Lc392, hQ392, l392, y392, z392⟩, st392⟩ := Jvm.LawKit.callS X351 hx (y := (⟨"com/example/cardinal_tableau/cardinaltableau/model/RoleToStringPinLaw", "check", "(Ljava/lang/String;ZICCC)Z"⟩ : MethodName)) hown351 (mvT hZ351 (own_w hw 191 rfl)) (mvT hZ351 (own_w hw 192 rfl)) (mvT hZ351 (own_w hw 2 rfl)) (mvT hZ351 (own_w hw 193 rfl)) (by decide) (backOf (W := 0) (rmCkN l Z a0 hw [] xs_318 wn wa wb wc xb_318 xk_318 xz_3 xu_3 cs fm T351.heap n0 zs351 f372 f374 f373 f375 f358 f359 hh0 hh1 po9) hZ351 (own_w hw 193 rfl) (own_w hw 2 rfl) (by decide) (by decide)) (g := (mkF m 183 #[oi p0, oi p1, oi p2, oi p3, oi wa, oi wb, oi wc, oi wn, oi 0, oa xs_3, oa b13, oa b41, oi 0, oi 0, oa xs_318, oa xs_351] [(.int wc), (.int wb), (.int wa), (.int wn), (.int (0 : Int32)), (.ref xs_318)])) rfl (by rw [hml]; rfl) (argsL := [(.ref xs_318), (.int (0 : Int32)), (.int wn), (.int wa), (.int wb), (.int wc)]) (rest := []) (lenOf own_pd35 rfl) rfl (Nat.le_of_eq rfl) (hb hby at_183) (fun _ _ => ⟨rfl, rfl, (by decide : 24 + 0 ≤ _), (by decide : 178 + 0 ≤ _)⟩)
          dsimp only [Pt.U, Pt.locs, Pt.cells, Pt.slots] at X392 l392 y392 z392 st392 hQ392
          subst l392 y392 z392
          obtain ⟨rfl, N392q, e392⟩ := hQ392
          have N392 := Fr.app N351 N392q
          obtain ⟨Lv392, X392, N392⟩ := own_hide X392 (Nat.le_refl 24) (Nat.le_refl 178) N392
          refine own_h T392 (mkF m 201 #[oi p0, oi p1, oi p2, oi p3, oi wa, oi wb, oi wc, oi wn, oi 0, oa xs_3, oa b13, oa b41, oi 0, oi 0, oa xs_318, oa xs_351] [(.int wc), (.int wb), (.int wa), (.int wn), (.int (0 : Int32)), (.ref xs_351)]) (fun _ k => st392 _ (XS.ifNo X392.here hx rfl (hb hby at_186) rfl (XT.i0_eq_f (by decide : ¬ ((1 : Int32) = (0 : Int32)))) (XS.aload X392.here hx rfl (hb hby at_189) rfl rfl (XS.iload X392.here hx rfl (hb hby at_191) rfl (XS.iload X392.here hx rfl (hb hby at_193) rfl (XS.iload X392.here hx rfl (hb hby at_195) rfl (XS.iload X392.here hx rfl (hb hby at_197) rfl (XS.iload X392.here hx rfl (hb hby at_199) rfl k)))))))) ?_
          obtain ⟨_, _, ⟨T393, L393, k393, n393⟩, -, X393, ⟨Lc393, hQ393, l393, y393, z393⟩, st393⟩ := Jvm.LawKit.callS X392 hx (y := (⟨"com/example/cardinal_tableau/cardinaltableau/model/RoleToStringPinLaw", "check", "(Ljava/lang/String;ZICCC)Z"⟩ : MethodName)) hown351 (mvT hZ351 (own_w hw 191 rfl)) (mvT hZ351 (own_w hw 192 rfl)) (mvT hZ351 (own_w hw 2 rfl)) (mvT hZ351 (own_w hw 193 rfl)) (by decide) (backOf (W := 0) (rmCkN l Z a0 hw [] xs_351 wn wa wb wc xb_351 xk_351 xz_3 xu_3 cs fm T351.heap n0 zs351 po354 po356 po355 po357 f358 f359 hh0 hh1 po9) hZ351 (own_w hw 193 rfl) (own_w hw 2 rfl) (by decide) (by decide)) (g := (mkF m 201 #[oi p0, oi p1, oi p2, oi p3, oi wa, oi wb, oi wc, oi wn, oi 0, oa xs_3, oa b13, oa b41, oi 0, oi 0, oa xs_318, oa xs_351] [(.int wc), (.int wb), (.int wa), (.int wn), (.int (0 : Int32)), (.ref xs_351)])) rfl (by rw [hml]; rfl) (argsL := [(.ref xs_351), (.int (0 : Int32)), (.int wn), (.int wa), (.int wb), (.int wc)]) (rest := []) (lenOf own_pd35 rfl) rfl (Nat.le_of_eq rfl) (hb hby at_201) (fun _ _ => ⟨rfl, e392, (by decide : 24 + 0 ≤ _), (by decide : 178 + 0 ≤ _)⟩)
          dsimp only [Pt.U, Pt.locs, Pt.cells, Pt.slots] at X393 l393 y393 z393 st393 hQ393
          subst l393 y393 z393
          obtain ⟨rfl, N393q, e393⟩ := hQ393
          have N393 := Fr.app N392 N393q
          obtain ⟨Lv393, X393, N393⟩ := own_hide X393 (Nat.le_refl 24) (Nat.le_refl 178) N393
          refine own_h T393 (mkF m 212 #[oi p0, oi p1, oi p2, oi p3, oi wa, oi wb, oi wc, oi wn, oi 0, oa xs_3, oa b13, oa b41, oi 0, oi 0, oa xs_318, oa xs_351] [(.int (1 : Int32))]) (fun _ k => st393 _ (XS.ifNo X393.here hx rfl (hb hby at_204) rfl (XT.i0_eq_f (by decide : ¬ ((1 : Int32) = (0 : Int32)))) (XS.iconst X393.here hx rfl (hb hby at_207) (XS.goto X393.here hx rfl (pc0 := 208) (pc' := 212) rfl (hb hby at_208) (by decide) (by decide) k)))) ?_
          exact own_retNH X393 hS351 hx (t := .boolean) Bd.returns hlk (by simp) (hb hby at_212) hZ351 (own_EW hw) R351 e393 hk351 ⟨rfl, N393⟩ (by decide) (by decide)
    · skip
      refine own_h s₁ (mkF m 58 #[oi p0, oi p1, oi p2, oi p3, oi wa, oi wb, oi wc, oi wn, oi 1, .unset, .unset, .unset, .unset, .unset, .unset, .unset] [(.int wc), (.int wb), (.int wa), (.int wn)]) (fun _ k => XS.ifNo X0.here hx rfl (hb hby at_40) rfl (XT.i0_eq_f hc40_2) (XS.iconst X0.here hx rfl (hb hby at_43) (XS.goto X0.here hx rfl (pc0 := 44) (pc' := 48) rfl (hb hby at_44) (by decide) (by decide) (XS.istore X0.here hx rfl (hb hby at_48) rfl (l' := #[oi p0, oi p1, oi p2, oi p3, oi wa, oi wb, oi wc, oi wn, oi 1, .unset, .unset, .unset, .unset, .unset, .unset, .unset]) rfl (XS.iload X0.here hx rfl (hb hby at_50) rfl (XS.iload X0.here hx rfl (hb hby at_52) rfl (XS.iload X0.here hx rfl (hb hby at_54) rfl (XS.iload X0.here hx rfl (hb hby at_56) rfl k)))))))) ?_
      obtain ⟨_, _, ⟨T394, L394, k394, n394⟩, -, XX394, hs2394, hg2394, ⟨Lc394, hQ394, l394, y394, z394, ch394⟩, st394⟩ := Jvm.RoadKit.callSS X0 hx (y := (⟨"com/example/cardinal_tableau/cardinaltableau/model/RoleToStringPinLaw", "mk", "(ICCC)Ljava/lang/String;"⟩ : MethodName)) hown (mvT hZ (own_w hw 0 rfl)) (mvT hZ (own_w hw 1 rfl)) (mvT hZ (own_w hw 2 rfl)) (mvT hZ (own_w hw 3 rfl)) (by decide) (backOfSH (W := 0) (rmMk l Z a0 hw [] wn wa wb wc cs h0 n0 Z0 hp0 hh0 Cn Cwa Cwb Cwc) hZ (own_w hw 3 rfl) (own_w hw 2 rfl) (by decide) (by decide) (own_EW hw) R0.1) (g := (mkF m 58 #[oi p0, oi p1, oi p2, oi p3, oi wa, oi wb, oi wc, oi wn, oi 1, .unset, .unset, .unset, .unset, .unset, .unset, .unset] [(.int wc), (.int wb), (.int wa), (.int wn)])) rfl (by rw [hml]; rfl) (argsL := [(.int wn), (.int wa), (.int wb), (.int wc)]) (rest := []) (lenOf own_pd33 rfl) rfl (Nat.le_of_eq rfl) (hb hby at_58) (fun _ _ => ⟨rfl, e0, (by decide : 0 + 6 ≤ _), (by decide : 0 + 12 ≤ _)⟩)
      dsimp only [Pt.U, Pt.locs, Pt.cells, Pt.slots] at XX394 hs2394 hg2394 l394 y394 z394 st394 hQ394 ch394
      subst l394 y394 z394
      obtain ⟨X394, hS394, hZ394, hown394⟩ := rebS hS0 (n1 := s₁.heap.size) (by rw [e0]; exact hk0) XX394 hs2394 hg2394 hZ hown
      obtain ⟨xs_394, xb_394, xk_394, xz_394, xu_394, rfl, N394q, K394, po395, po396, po397, po398, po399, po400⟩ := hQ394
      have f401 := (own_sta_keep hp0 K394 ns0)
      have f402 := (own_sta_keep hp1 K394 ns0)
      have ge403 : n0 ≤ xs_394 := Nat.le_trans Z0 po395
      have zs394 : n0 ≤ T394.heap.size := Nat.le_trans Z0 K394.1
      have hk394 : T394.heap.size ≤ T394.heap.size := Nat.le_refl _
      have R394 := R0.trans ch394
      have N394 := Fr.app N0 N394q
      obtain ⟨Lv394, X394, N394⟩ := own_hide X394 (Nat.le_refl 6) (Nat.le_refl 12) N394
      refine own_h T394 (mkF m 63 #[oi p0, oi p1, oi p2, oi p3, oi wa, oi wb, oi wc, oi wn, oi 1, oa xs_394, .unset, .unset, .unset, .unset, .unset, .unset] []) (fun _ k => st394.trans (XS.astore X394.here hx rfl (hb hby at_61) rfl rfl (l' := #[oi p0, oi p1, oi p2, oi p3, oi wa, oi wb, oi wc, oi wn, oi 1, oa xs_394, .unset, .unset, .unset, .unset, .unset, .unset]) rfl k)) ?_
      obtain ⟨T404, h404, X404, e404, E404, A404, D404, -, st404⟩ := newO X394 hx hZ394 hown394 (own_w hw 30 rfl) (own_w hw 31 rfl) (own_w hw 32 rfl) rfl (g := (mkF m 63 #[oi p0, oi p1, oi p2, oi p3, oi wa, oi wb, oi wc, oi wn, oi 1, oa xs_394, .unset, .unset, .unset, .unset, .unset, .unset] [])) rfl (hb hby at_63) (by decide) (by decide)
      obtain ⟨b404, g404⟩ : ∃ z, z = T394.heap.size := ⟨_, rfl⟩
      have ne405 : xs_394 ≠ b404 := Nat.ne_of_lt (Nat.lt_of_lt_of_le po396.lt (Nat.le_of_eq g404.symm))
      have ne406 : xb_394 ≠ b404 := Nat.ne_of_lt (Nat.lt_of_lt_of_le po399.lt (Nat.le_of_eq g404.symm))
      rw [← g404] at A404 D404 st404
      have f407 := (f401.ext E404)
      have f408 := (f402.ext E404)
      have f409 := (po396.ext E404)
      have f410 := (po397.ext E404)
      have f411 := (po398.ext E404)
      have f412 := (po399.ext E404)
      have fn413 : Fld Z h404 b404 "com/example/cardinal_tableau/cardinaltableau/model/Role" "id" "I" (.int (0 : Int32)) := D404 (Or.inr (own_w hw 38 rfl)) (ty := .int) (by decide)
      have fn414 : Fld Z h404 b404 "com/example/cardinal_tableau/cardinaltableau/model/Role" "iri" "Ljava/lang/String;" .null := D404 (Or.inr (own_w hw 40 rfl)) (ty := (.object "java/lang/String")) (by decide)
      have fn415 : Fld Z h404 b404 "com/example/cardinal_tableau/cardinaltableau/model/Role" "inverse" "Lcom/example/cardinal_tableau/cardinaltableau/model/Role;" .null := D404 (Or.inl (own_w hw 47 rfl)) (ty := (.object "com/example/cardinal_tableau/cardinaltableau/model/Role")) (by decide)
      have ge404 : n0 ≤ b404 := Nat.le_trans zs394 (Nat.le_of_eq g404.symm)
      have zs404 : n0 ≤ h404.size := Nat.le_trans zs394 E404.1
      have hk416 := Nat.le_trans hk394 (E404.1)
      have R404 := R394.trans (CHr.ext E404 R394.1)
      have sf417 := Safe.ext E404 R394.1 (Safe.new (Nat.le_of_eq g404.symm))
      refine own_h T404 (mkF m 70 #[oi p0, oi p1, oi p2, oi p3, oi wa, oi wb, oi wc, oi wn, oi 1, oa xs_394, .unset, .unset, .unset, .unset, .unset, .unset] [(.ref xs_394), (.int p0), (.ref b404), (.ref b404)]) (fun _ k => st404 _ (XS.dup X404.here hx rfl (hb hby at_66) rfl rfl (XS.iloadN X404.here hx rfl (hb hby at_67) rfl (XS.aload X404.here hx rfl (hb hby at_68) rfl rfl k)))) ?_
      obtain ⟨_, _, ⟨T418, L418, k418, n418⟩, -, X418, ⟨Lc418, hQ418, l418, y418, z418⟩, st418⟩ := X404.specialBack hx (y := (⟨"com/example/cardinal_tableau/cardinaltableau/model/Role", "<init>", "(ILjava/lang/String;)V"⟩ : MethodName)) rfl hown394 (mvT hZ394 (own_w hw 33 rfl)) (mvT hZ394 (own_w hw 34 rfl)) (mvT hZ394 (own_w hw 35 rfl)) (by decide) (backOf (W := 1) (rmRole l Z a0 hw [] b404 p0 xs_394 h404 n0 zs404 A404 ge404 fn413 fn414 fn415) hZ394 (own_w hw 35 rfl) (own_w hw 32 rfl) (by decide) (by decide)) (g := (mkF m 70 #[oi p0, oi p1, oi p2, oi p3, oi wa, oi wb, oi wc, oi wn, oi 1, oa xs_394, .unset, .unset, .unset, .unset, .unset, .unset] [(.ref xs_394), (.int p0), (.ref b404), (.ref b404)])) rfl (by rw [hml]; rfl) (Steps.refl _) (a := b404) (argsL := [(.int p0), (.ref xs_394)]) (rest := [(.ref b404)]) (lenOf own_pd13 rfl) rfl (Nat.le_of_eq rfl) (hb hby at_70) (fun _ _ => ⟨rfl, e404, (by decide : 7 + 0 ≤ _), (by decide : 15 + 0 ≤ _)⟩)
      dsimp only [Pt.U, Pt.locs, Pt.cells, Pt.slots] at X418 l418 y418 z418 st418 hQ418
      subst l418 y418 z418
      obtain ⟨rfl, N418q, K418, po419, po420, po421, po422⟩ := hQ418
      have f423 := (own_sta_keep f407 K418 (nsS A404.nostat ns0))
      have f424 := (own_sta_keep f408 K418 (nsS A404.nostat ns0))
      have f425 := (f409.keep K418)
      have f426 := (f410.keep K418 (ninS ne405 nin0))
      have f427 := (f411.keep K418 (ninS ne405 nin0))
      have f428 := (f412.keep K418 (ninS ne406 nin0))
      have f429 := (A404.keep K418)
      have zs418 : n0 ≤ T418.heap.size := Nat.le_trans zs404 K418.1
      have hk430 := Nat.le_trans hk416 (K418.1)
      have R418 := R404.trans (CHr.keep K418 (sfS (Safe.exa (EL := consts_1) (hZ394).alike A404 (by decide) (by decide)) sf0) R404.1)
      have sf431 := Safe.keep K418 (sfS (Safe.exa (EL := consts_1) (hZ394).alike A404 (by decide) (by decide)) sf0) R404.1 sf417
      have N418 := Fr.app N394 N418q
      obtain ⟨Lv418, X418, N418⟩ := own_hide X418 (Nat.le_refl 7) (Nat.le_refl 15) N418
      refine own_h T418 (mkF m 75 #[oi p0, oi p1, oi p2, oi p3, oi wa, oi wb, oi wc, oi wn, oi 1, oa xs_394, oa b404, .unset, .unset, .unset, .unset, .unset] []) (fun _ k => st418.trans (XS.astore X418.here hx rfl (hb hby at_73) rfl rfl (l' := #[oi p0, oi p1, oi p2, oi p3, oi wa, oi wb, oi wc, oi wn, oi 1, oa xs_394, oa b404, .unset, .unset, .unset, .unset, .unset]) rfl k)) ?_
      obtain ⟨T432, h432, X432, e432, E432, A432, D432, -, st432⟩ := newO X418 hx hZ394 hown394 (own_w hw 30 rfl) (own_w hw 31 rfl) (own_w hw 32 rfl) rfl (g := (mkF m 75 #[oi p0, oi p1, oi p2, oi p3, oi wa, oi wb, oi wc, oi wn, oi 1, oa xs_394, oa b404, .unset, .unset, .unset, .unset, .unset] [])) rfl (hb hby at_75) (by decide) (by decide)
      obtain ⟨b432, g432⟩ : ∃ z, z = T418.heap.size := ⟨_, rfl⟩
      have ne433 : xs_394 ≠ b432 := Nat.ne_of_lt (Nat.lt_of_lt_of_le f425.lt (Nat.le_of_eq g432.symm))
      have ne434 : xb_394 ≠ b432 := Nat.ne_of_lt (Nat.lt_of_lt_of_le f428.lt (Nat.le_of_eq g432.symm))
      have ne435 : b404 ≠ b432 := Nat.ne_of_lt (Nat.lt_of_lt_of_le po422.lt (Nat.le_of_eq g432.symm))
      rw [← g432] at A432 D432 st432
      have f436 := (f423.ext E432)
      have f437 := (f424.ext E432)
      have f438 := (f425.ext E432)
      have f439 := (f426.ext E432)
      have f440 := (f427.ext E432)
      have f441 := (f428.ext E432)
      have f442 := (po422.ext E432)
      have f443 := (po419.ext E432)
      have f444 := (po420.ext E432)
      have f445 := (po421.ext E432)
      have fn446 : Fld Z h432 b432 "com/example/cardinal_tableau/cardinaltableau/model/Role" "id" "I" (.int (0 : Int32)) := D432 (Or.inr (own_w hw 38 rfl)) (ty := .int) (by decide)
      have fn447 : Fld Z h432 b432 "com/example/cardinal_tableau/cardinaltableau/model/Role" "iri" "Ljava/lang/String;" .null := D432 (Or.inr (own_w hw 40 rfl)) (ty := (.object "java/lang/String")) (by decide)
      have fn448 : Fld Z h432 b432 "com/example/cardinal_tableau/cardinaltableau/model/Role" "inverse" "Lcom/example/cardinal_tableau/cardinaltableau/model/Role;" .null := D432 (Or.inl (own_w hw 47 rfl)) (ty := (.object "com/example/cardinal_tableau/cardinaltableau/model/Role")) (by decide)
      have ge432 : n0 ≤ b432 := Nat.le_trans zs418 (Nat.le_of_eq g432.symm)
      have zs432 : n0 ≤ h432.size := Nat.le_trans zs418 E432.1
      have hk449 := Nat.le_trans hk430 (E432.1)
      have R432 := R418.trans (CHr.ext E432 R418.1)
      have sf450 := Safe.ext E432 R418.1 sf431
      have sf451 := Safe.ext E432 R418.1 (Safe.new (Nat.le_of_eq g432.symm))
      refine own_h T432 (mkF m 82 #[oi p0, oi p1, oi p2, oi p3, oi wa, oi wb, oi wc, oi wn, oi 1, oa xs_394, oa b404, .unset, .unset, .unset, .unset, .unset] [(.ref xs_394), (.int p1), (.ref b432), (.ref b432)]) (fun _ k => st432 _ (XS.dup X432.here hx rfl (hb hby at_78) rfl rfl (XS.iloadN X432.here hx rfl (hb hby at_79) rfl (XS.aload X432.here hx rfl (hb hby at_80) rfl rfl k)))) ?_
      obtain ⟨_, _, ⟨T452, L452, k452, n452⟩, -, X452, ⟨Lc452, hQ452, l452, y452, z452⟩, st452⟩ := X432.specialBack hx (y := (⟨"com/example/cardinal_tableau/cardinaltableau/model/Role", "<init>", "(ILjava/lang/String;)V"⟩ : MethodName)) rfl hown394 (mvT hZ394 (own_w hw 33 rfl)) (mvT hZ394 (own_w hw 34 rfl)) (mvT hZ394 (own_w hw 35 rfl)) (by decide) (backOf (W := 1) (rmRole l Z a0 hw [] b432 p1 xs_394 h432 n0 zs432 A432 ge432 fn446 fn447 fn448) hZ394 (own_w hw 35 rfl) (own_w hw 32 rfl) (by decide) (by decide)) (g := (mkF m 82 #[oi p0, oi p1, oi p2, oi p3, oi wa, oi wb, oi wc, oi wn, oi 1, oa xs_394, oa b404, .unset, .unset, .unset, .unset, .unset] [(.ref xs_394), (.int p1), (.ref b432), (.ref b432)])) rfl (by rw [hml]; rfl) (Steps.refl _) (a := b432) (argsL := [(.int p1), (.ref xs_394)]) (rest := [(.ref b432)]) (lenOf own_pd13 rfl) rfl (Nat.le_of_eq rfl) (hb hby at_82) (fun _ _ => ⟨rfl, e432, (by decide : 8 + 0 ≤ _), (by decide : 18 + 0 ≤ _)⟩)
      dsimp only [Pt.U, Pt.locs, Pt.cells, Pt.slots] at X452 l452 y452 z452 st452 hQ452
      subst l452 y452 z452
      obtain ⟨rfl, N452q, K452, po453, po454, po455, po456⟩ := hQ452
      have f457 := (own_sta_keep f436 K452 (nsS A432.nostat ns0))
      have f458 := (own_sta_keep f437 K452 (nsS A432.nostat ns0))
      have f459 := (f438.keep K452)
      have f460 := (f439.keep K452 (ninS ne433 nin0))
      have f461 := (f440.keep K452 (ninS ne433 nin0))
      have f462 := (f441.keep K452 (ninS ne434 nin0))
      have f463 := (f442.keep K452)
      have f464 := (f443.keep K452 (ninS ne435 nin0))
      have f465 := (f444.keep K452 (ninS ne435 nin0))
      have f466 := (f445.keep K452 (ninS ne435 nin0))
      have f467 := (A432.keep K452)
      have zs452 : n0 ≤ T452.heap.size := Nat.le_trans zs432 K452.1
      have hk468 := Nat.le_trans hk449 (K452.1)
      have R452 := R432.trans (CHr.keep K452 (sfS (Safe.exa (EL := consts_1) (hZ394).alike A432 (by decide) (by decide)) sf0) R432.1)
      have sf469 := Safe.keep K452 (sfS (Safe.exa (EL := consts_1) (hZ394).alike A432 (by decide) (by decide)) sf0) R432.1 sf450
      have sf470 := Safe.keep K452 (sfS (Safe.exa (EL := consts_1) (hZ394).alike A432 (by decide) (by decide)) sf0) R432.1 sf451
      have N452 := Fr.app N418 N452q
      obtain ⟨Lv452, X452, N452⟩ := own_hide X452 (Nat.le_refl 8) (Nat.le_refl 18) N452
      refine own_h T452 (mkF m 96 #[oi p0, oi p1, oi p2, oi p3, oi wa, oi wb, oi wc, oi wn, oi 1, oa xs_394, oa b404, oa b432, .unset, .unset, .unset, .unset] [(.ref b404), (.ref b404)]) (fun _ k => st452.trans (XS.astore X452.here hx rfl (hb hby at_85) rfl rfl (l' := #[oi p0, oi p1, oi p2, oi p3, oi wa, oi wb, oi wc, oi wn, oi 1, oa xs_394, oa b404, oa b432, .unset, .unset, .unset, .unset]) rfl (XS.iload X452.here hx rfl (hb hby at_87) rfl (XS.ifNo X452.here hx rfl (hb hby at_89) rfl (XT.i0_eq_f (by decide : ¬ ((1 : Int32) = (0 : Int32)))) (XS.aload X452.here hx rfl (hb hby at_92) rfl rfl (XS.aload X452.here hx rfl (hb hby at_94) rfl rfl k)))))) ?_
      obtain ⟨cq471, kq471, q471a, q471b, q471c⟩ := isOf hZ394 rfl f463
      obtain ⟨_, _, ⟨T471, L471, k471, n471⟩, -, X471, ⟨Lc471, hQ471, l471, y471, z471⟩, st471⟩ := X452.virtualBack hx (y := (⟨"com/example/cardinal_tableau/cardinaltableau/model/Role", "setInverse", "(Lcom/example/cardinal_tableau/cardinaltableau/model/Role;)V"⟩ : MethodName)) (z := (⟨"com/example/cardinal_tableau/cardinaltableau/model/Role", "setInverse", "(Lcom/example/cardinal_tableau/cardinaltableau/model/Role;)V"⟩ : MethodName)) hown394 (mvT hZ394 (own_w hw 41 rfl)) (mvT hZ394 (own_w hw 42 rfl)) (notFace_of_selects (args := #[]) (mvT hZ394 (own_w hw 44 rfl))) (mvT hZ394 (own_w hw 44 rfl)) (mvT hZ394 (own_w hw 43 rfl)) (by decide) (backOf (W := 0) (rmSet l Z a0 hw [] b404 b404 .null p0 xs_394 T452.heap n0 zs452 f463 ge404 f464 f465 f466) hZ394 (own_w hw 45 rfl) (own_w hw 32 rfl) (by decide) (by decide)) q471a q471c (g := (mkF m 96 #[oi p0, oi p1, oi p2, oi p3, oi wa, oi wb, oi wc, oi wn, oi 1, oa xs_394, oa b404, oa b432, .unset, .unset, .unset, .unset] [(.ref b404), (.ref b404)])) rfl (by rw [hml]; rfl) (Steps.refl _) (argsL := [(.ref b404)]) (rest := []) (lenOf own_pd34 rfl) rfl (Nat.le_of_eq rfl) (hb hby at_96) (fun _ _ => ⟨rfl, rfl, (by decide : 8 + 0 ≤ _), (by decide : 18 + 0 ≤ _)⟩)
      dsimp only [Pt.U, Pt.locs, Pt.cells, Pt.slots] at X471 l471 y471 z471 st471 hQ471
      subst l471 y471 z471
      obtain ⟨rfl, N471q, K471, po472, po473, po474⟩ := hQ471
      have f475 := (own_sta_keep f457 K471 (nsS f463.nostat ns0))
      have f476 := (own_sta_keep f458 K471 (nsS f463.nostat ns0))
      have f477 := (f459.keep K471)
      have f478 := (f460.keep K471 (ninS ne405 nin0))
      have f479 := (f461.keep K471 (ninS ne405 nin0))
      have f480 := (f462.keep K471 (ninS ne406 nin0))
      have f481 := (f463.keep K471)
      have f482 := (po456.keep K471)
      have f483 := (po453.keep K471 (ninS (Ne.symm ne435) nin0))
      have f484 := (po454.keep K471 (ninS (Ne.symm ne435) nin0))
      have f485 := (po455.keep K471 (ninS (Ne.symm ne435) nin0))
      have zs471 : n0 ≤ T471.heap.size := Nat.le_trans zs452 K471.1
      have hk486 := Nat.le_trans hk468 (K471.1)
      have R471 := R452.trans (CHr.keep K471 (sfS (Safe.exa (EL := consts_1) (hZ394).alike f463 (by decide) (by decide)) sf0) R452.1)
      have sf487 := Safe.keep K471 (sfS (Safe.exa (EL := consts_1) (hZ394).alike f463 (by decide) (by decide)) sf0) R452.1 sf469
      have sf488 := Safe.keep K471 (sfS (Safe.exa (EL := consts_1) (hZ394).alike f463 (by decide) (by decide)) sf0) R452.1 sf470
      have N471 := Fr.app N452 N471q
      obtain ⟨Lv471, X471, N471⟩ := own_hide X471 (Nat.le_refl 8) (Nat.le_refl 18) N471
      refine own_h T471 (mkF m 103 #[oi p0, oi p1, oi p2, oi p3, oi wa, oi wb, oi wc, oi wn, oi 1, oa xs_394, oa b404, oa b432, .unset, .unset, .unset, .unset] [(.ref b432), (.ref b432)]) (fun _ k => st471.trans (XS.aload X471.here hx rfl (hb hby at_99) rfl rfl (XS.aload X471.here hx rfl (hb hby at_101) rfl rfl k))) ?_
      obtain ⟨cq489, kq489, q489a, q489b, q489c⟩ := isOf hZ394 rfl f482
      obtain ⟨_, _, ⟨T489, L489, k489, n489⟩, -, X489, ⟨Lc489, hQ489, l489, y489, z489⟩, st489⟩ := X471.virtualBack hx (y := (⟨"com/example/cardinal_tableau/cardinaltableau/model/Role", "setInverse", "(Lcom/example/cardinal_tableau/cardinaltableau/model/Role;)V"⟩ : MethodName)) (z := (⟨"com/example/cardinal_tableau/cardinaltableau/model/Role", "setInverse", "(Lcom/example/cardinal_tableau/cardinaltableau/model/Role;)V"⟩ : MethodName)) hown394 (mvT hZ394 (own_w hw 41 rfl)) (mvT hZ394 (own_w hw 42 rfl)) (notFace_of_selects (args := #[]) (mvT hZ394 (own_w hw 44 rfl))) (mvT hZ394 (own_w hw 44 rfl)) (mvT hZ394 (own_w hw 43 rfl)) (by decide) (backOf (W := 0) (rmSet l Z a0 hw [] b432 b432 .null p1 xs_394 T471.heap n0 zs471 f482 ge432 f483 f484 f485) hZ394 (own_w hw 45 rfl) (own_w hw 32 rfl) (by decide) (by decide)) q489a q489c (g := (mkF m 103 #[oi p0, oi p1, oi p2, oi p3, oi wa, oi wb, oi wc, oi wn, oi 1, oa xs_394, oa b404, oa b432, .unset, .unset, .unset, .unset] [(.ref b432), (.ref b432)])) rfl (by rw [hml]; rfl) (Steps.refl _) (argsL := [(.ref b432)]) (rest := []) (lenOf own_pd34 rfl) rfl (Nat.le_of_eq rfl) (hb hby at_103) (fun _ _ => ⟨rfl, rfl, (by decide : 8 + 0 ≤ _), (by decide : 18 + 0 ≤ _)⟩)
      dsimp only [Pt.U, Pt.locs, Pt.cells, Pt.slots] at X489 l489 y489 z489 st489 hQ489
      subst l489 y489 z489
      obtain ⟨rfl, N489q, K489, po490, po491, po492⟩ := hQ489
      have f493 := (own_sta_keep f475 K489 (nsS f482.nostat ns0))
      have f494 := (own_sta_keep f476 K489 (nsS f482.nostat ns0))
      have f495 := (f477.keep K489)
      have f496 := (f478.keep K489 (ninS ne433 nin0))
      have f497 := (f479.keep K489 (ninS ne433 nin0))
      have f498 := (f480.keep K489 (ninS ne434 nin0))
      have f499 := (f481.keep K489)
      have f500 := (f482.keep K489)
      have f501 := (po472.keep K489 (ninS ne435 nin0))
      have f502 := (po473.keep K489 (ninS ne435 nin0))
      have f503 := (po474.keep K489 (ninS ne435 nin0))
      have zs489 : n0 ≤ T489.heap.size := Nat.le_trans zs471 K489.1
      have hk504 := Nat.le_trans hk486 (K489.1)
      have R489 := R471.trans (CHr.keep K489 (sfS (Safe.exa (EL := consts_1) (hZ394).alike f482 (by decide) (by decide)) sf0) R471.1)
      have sf505 := Safe.keep K489 (sfS (Safe.exa (EL := consts_1) (hZ394).alike f482 (by decide) (by decide)) sf0) R471.1 sf487
      have sf506 := Safe.keep K489 (sfS (Safe.exa (EL := consts_1) (hZ394).alike f482 (by decide) (by decide)) sf0) R471.1 sf488
      have N489 := Fr.app N471 N489q
      obtain ⟨Lv489, X489, N489⟩ := own_hide X489 (Nat.le_refl 8) (Nat.le_refl 18) N489
      refine own_h T489 (mkF m 154 #[oi p0, oi p1, oi p2, oi p3, oi wa, oi wb, oi wc, oi wn, oi 1, oa xs_394, oa b404, oa b432, oi 0, .unset, .unset, .unset] []) (fun _ k => st489.trans (XS.goto X489.here hx rfl (pc0 := 106) (pc' := 123) rfl (hb hby at_106) (by decide) (by decide) (XS.iload X489.here hx rfl (hb hby at_123) rfl (XS.ifYes X489.here hx rfl (pc0 := 125) (pc' := 137) rfl (hb hby at_125) rfl (XT.i0_ne_t (by decide : ¬ ((1 : Int32) = (0 : Int32)))) (by decide) (by decide) (XS.iconst X489.here hx rfl (hb hby at_137) (XS.istore X489.here hx rfl (hb hby at_138) rfl (l' := #[oi p0, oi p1, oi p2, oi p3, oi wa, oi wb, oi wc, oi wn, oi 1, oa xs_394, oa b404, oa b432, oi 0, .unset, .unset, .unset]) rfl (XS.iload X489.here hx rfl (hb hby at_140) rfl (XS.ifYes X489.here hx rfl (pc0 := 142) (pc' := 154) rfl (hb hby at_142) rfl (XT.i0_ne_t (by decide : ¬ ((1 : Int32) = (0 : Int32)))) (by decide) (by decide) k)))))))) ?_
      refine own_h T489 (mkF m 159 #[oi p0, oi p1, oi p2, oi p3, oi wa, oi wb, oi wc, oi wn, oi 1, oa xs_394, oa b404, oa b432, oi 0, oi 0, .unset, .unset] [(.ref b404)]) (fun _ k => XS.iconst X489.here hx rfl (hb hby at_154) (XS.istore X489.here hx rfl (hb hby at_155) rfl (l' := #[oi p0, oi p1, oi p2, oi p3, oi wa, oi wb, oi wc, oi wn, oi 1, oa xs_394, oa b404, oa b432, oi 0, oi 0, .unset, .unset]) rfl (XS.aload X489.here hx rfl (hb hby at_157) rfl rfl k))) ?_
      obtain ⟨cq507, kq507, q507a, q507b, q507c⟩ := isOf hZ394 rfl f499
      obtain ⟨_, _, ⟨T507, L507, k507, n507⟩, -, XX507, hs2507, hg2507, ⟨Lc507, hQ507, l507, y507, z507, ch507⟩, st507⟩ := X489.virtualBackS hx (y := (⟨"com/example/cardinal_tableau/cardinaltableau/model/Role", "toString", "()Ljava/lang/String;"⟩ : MethodName)) (z := (⟨"com/example/cardinal_tableau/cardinaltableau/model/Role", "toString", "()Ljava/lang/String;"⟩ : MethodName)) hown394 (mvT hZ394 (own_w hw 48 rfl)) (mvT hZ394 (own_w hw 49 rfl)) (notFace_of_selects (args := #[]) (mvT hZ394 (own_w hw 51 rfl))) (mvT hZ394 (own_w hw 51 rfl)) (mvT hZ394 (own_w hw 50 rfl)) (by decide) (backOfSH (W := 0) (rmToN l Z a0 hw [] b404 xs_394 b404 p0 p0 xb_394 xk_394 xz_394 xu_394 cs T489.heap n0 zs489 f499 f503 f501 f502 f499 f502 f495 f497 f496 f498 f493 hh0 own_S (own_okZ po400)) hZ394 (own_w hw 52 rfl) (own_w hw 32 rfl) (by decide) (by decide) (own_EW hw) R489.1) q507a q507c (g := (mkF m 159 #[oi p0, oi p1, oi p2, oi p3, oi wa, oi wb, oi wc, oi wn, oi 1, oa xs_394, oa b404, oa b432, oi 0, oi 0, .unset, .unset] [(.ref b404)])) rfl (by rw [hml]; rfl) (Steps.refl _) (argsL := []) (rest := []) (lenOf own_pd30 rfl) rfl (Nat.le_of_eq rfl) (hb hby at_159) (fun _ _ => ⟨rfl, rfl, (by decide : 8 + 8 ≤ _), (by decide : 18 + 80 ≤ _)⟩)
      dsimp only [Pt.U, Pt.locs, Pt.cells, Pt.slots] at XX507 hs2507 hg2507 l507 y507 z507 st507 hQ507 ch507
      subst l507 y507 z507
      obtain ⟨X507, hS507, hZ507, hown507⟩ := rebS hS394 (n1 := T489.heap.size) (by exact hk504) XX507 hs2507 hg2507 hZ394 hown394
      obtain ⟨xs_507, xb_507, xk_507, rfl, N507q, K507, po508, po509, po510, po511, po512, po513⟩ := hQ507
      have f514 := (own_sta_keep f493 K507 ns0)
      have f515 := (own_sta_keep f494 K507 ns0)
      have f516 := (f495.keep K507)
      have f517 := (f496.keep K507 nin0)
      have f518 := (f497.keep K507 nin0)
      have f519 := (f498.keep K507 nin0)
      have f520 := (f499.keep K507)
      have f521 := (f500.keep K507)
      have f522 := (f501.keep K507 nin0)
      have f523 := (f502.keep K507 nin0)
      have f524 := (f503.keep K507 nin0)
      have f525 := (po490.keep K507 nin0)
      have f526 := (po491.keep K507 nin0)
      have f527 := (po492.keep K507 nin0)
      have ne528 : xs_394 ≠ xs_507 := Nat.ne_of_lt (Nat.lt_of_lt_of_le f495.lt po508)
      have ne529 : xb_394 ≠ xs_507 := Nat.ne_of_lt (Nat.lt_of_lt_of_le f498.lt po508)
      have ne530 : b404 ≠ xs_507 := Nat.ne_of_lt (Nat.lt_of_lt_of_le f499.lt po508)
      have ne531 : b432 ≠ xs_507 := Nat.ne_of_lt (Nat.lt_of_lt_of_le f500.lt po508)
      have ge532 : n0 ≤ xs_507 := Nat.le_trans zs489 po508
      have ne533 : xs_394 ≠ xb_507 := Nat.ne_of_lt (Nat.lt_of_lt_of_le f495.lt po509)
      have ne534 : xb_394 ≠ xb_507 := Nat.ne_of_lt (Nat.lt_of_lt_of_le f498.lt po509)
      have ne535 : b404 ≠ xb_507 := Nat.ne_of_lt (Nat.lt_of_lt_of_le f499.lt po509)
      have ne536 : b432 ≠ xb_507 := Nat.ne_of_lt (Nat.lt_of_lt_of_le f500.lt po509)
      have ge537 : n0 ≤ xb_507 := Nat.le_trans zs489 po509
      have zs507 : n0 ≤ T507.heap.size := Nat.le_trans zs489 K507.1
      have hk507 : T507.heap.size ≤ T507.heap.size := Nat.le_refl _
      have R507 := R489.trans ch507
      have sf538 := ch507.safe f499.lt sf505
      have sf539 := ch507.safe f500.lt sf506
      have N507 := Fr.app N489 N507q
      obtain ⟨Lv507, X507, N507⟩ := own_hide X507 (Nat.le_refl 16) (Nat.le_refl 98) N507
      refine own_h T507 (mkF m 166 #[oi p0, oi p1, oi p2, oi p3, oi wa, oi wb, oi wc, oi wn, oi 1, oa xs_394, oa b404, oa b432, oi 0, oi 0, oa xs_507, .unset] [(.ref b432)]) (fun _ k => st507.trans (XS.astore X507.here hx rfl (hb hby at_162) rfl rfl (l' := #[oi p0, oi p1, oi p2, oi p3, oi wa, oi wb, oi wc, oi wn, oi 1, oa xs_394, oa b404, oa b432, oi 0, oi 0, oa xs_507, .unset]) rfl (XS.aload X507.here hx rfl (hb hby at_164) rfl rfl k))) ?_
      obtain ⟨cq540, kq540, q540a, q540b, q540c⟩ := isOf hZ507 rfl f521
      obtain ⟨_, _, ⟨T540, L540, k540, n540⟩, -, XX540, hs2540, hg2540, ⟨Lc540, hQ540, l540, y540, z540, ch540⟩, st540⟩ := X507.virtualBackS hx (y := (⟨"com/example/cardinal_tableau/cardinaltableau/model/Role", "toString", "()Ljava/lang/String;"⟩ : MethodName)) (z := (⟨"com/example/cardinal_tableau/cardinaltableau/model/Role", "toString", "()Ljava/lang/String;"⟩ : MethodName)) hown507 (mvT hZ507 (own_w hw 48 rfl)) (mvT hZ507 (own_w hw 49 rfl)) (notFace_of_selects (args := #[]) (mvT hZ507 (own_w hw 51 rfl))) (mvT hZ507 (own_w hw 51 rfl)) (mvT hZ507 (own_w hw 50 rfl)) (by decide) (backOfSH (W := 0) (rmToN l Z a0 hw [] b432 xs_394 b432 p1 p1 xb_394 xk_394 xz_394 xu_394 cs T507.heap n0 zs507 f521 f527 f525 f526 f521 f526 f516 f518 f517 f519 f514 hh0 own_S (own_okZ po400)) hZ507 (own_w hw 52 rfl) (own_w hw 32 rfl) (by decide) (by decide) (own_EW hw) R507.1) q540a q540c (g := (mkF m 166 #[oi p0, oi p1, oi p2, oi p3, oi wa, oi wb, oi wc, oi wn, oi 1, oa xs_394, oa b404, oa b432, oi 0, oi 0, oa xs_507, .unset] [(.ref b432)])) rfl (by rw [hml]; rfl) (Steps.refl _) (argsL := []) (rest := []) (lenOf own_pd30 rfl) rfl (Nat.le_of_eq rfl) (hb hby at_166) (fun _ _ => ⟨rfl, rfl, (by decide : 16 + 8 ≤ _), (by decide : 98 + 80 ≤ _)⟩)
      dsimp only [Pt.U, Pt.locs, Pt.cells, Pt.slots] at XX540 hs2540 hg2540 l540 y540 z540 st540 hQ540 ch540
      subst l540 y540 z540
      obtain ⟨X540, hS540, hZ540, hown540⟩ := rebS hS507 (n1 := T507.heap.size) (by exact hk507) XX540 hs2540 hg2540 hZ507 hown507
      obtain ⟨xs_540, xb_540, xk_540, rfl, N540q, K540, po541, po542, po543, po544, po545, po546⟩ := hQ540
      have f547 := (own_sta_keep f514 K540 ns0)
      have f548 := (own_sta_keep f515 K540 ns0)
      have f549 := (f516.keep K540)
      have f550 := (f517.keep K540 nin0)
      have f551 := (f518.keep K540 nin0)
      have f552 := (f519.keep K540 nin0)
      have f553 := (f520.keep K540)
      have f554 := (f521.keep K540)
      have f555 := (f522.keep K540 nin0)
      have f556 := (f523.keep K540 nin0)
      have f557 := (f524.keep K540 nin0)
      have f558 := (f525.keep K540 nin0)
      have f559 := (f526.keep K540 nin0)
      have f560 := (f527.keep K540 nin0)
      have f561 := (po510.keep K540)
      have f562 := (po511.keep K540 nin0)
      have f563 := (po512.keep K540 nin0)
      have f564 := (po513.keep K540 nin0)
      have ne565 : xs_394 ≠ xs_540 := Nat.ne_of_lt (Nat.lt_of_lt_of_le f516.lt po541)
      have ne566 : xb_394 ≠ xs_540 := Nat.ne_of_lt (Nat.lt_of_lt_of_le f519.lt po541)
      have ne567 : b404 ≠ xs_540 := Nat.ne_of_lt (Nat.lt_of_lt_of_le f520.lt po541)
      have ne568 : b432 ≠ xs_540 := Nat.ne_of_lt (Nat.lt_of_lt_of_le f521.lt po541)
      have ne569 : xs_507 ≠ xs_540 := Nat.ne_of_lt (Nat.lt_of_lt_of_le po510.lt po541)
      have ne570 : xb_507 ≠ xs_540 := Nat.ne_of_lt (Nat.lt_of_lt_of_le po513.lt po541)
      have ge571 : n0 ≤ xs_540 := Nat.le_trans zs507 po541
      have ne572 : xs_394 ≠ xb_540 := Nat.ne_of_lt (Nat.lt_of_lt_of_le f516.lt po542)
      have ne573 : xb_394 ≠ xb_540 := Nat.ne_of_lt (Nat.lt_of_lt_of_le f519.lt po542)
      have ne574 : b404 ≠ xb_540 := Nat.ne_of_lt (Nat.lt_of_lt_of_le f520.lt po542)
      have ne575 : b432 ≠ xb_540 := Nat.ne_of_lt (Nat.lt_of_lt_of_le f521.lt po542)
      have ne576 : xs_507 ≠ xb_540 := Nat.ne_of_lt (Nat.lt_of_lt_of_le po510.lt po542)
      have ne577 : xb_507 ≠ xb_540 := Nat.ne_of_lt (Nat.lt_of_lt_of_le po513.lt po542)
      have ge578 : n0 ≤ xb_540 := Nat.le_trans zs507 po542
      have zs540 : n0 ≤ T540.heap.size := Nat.le_trans zs507 K540.1
      have hk540 : T540.heap.size ≤ T540.heap.size := Nat.le_refl _
      have R540 := R507.trans ch540
      have sf579 := ch540.safe f520.lt sf538
      have sf580 := ch540.safe f521.lt sf539
      have N540 := Fr.app N507 N540q
      obtain ⟨Lv540, X540, N540⟩ := own_hide X540 (Nat.le_refl 24) (Nat.le_refl 178) N540
      refine own_h T540 (mkF m 183 #[oi p0, oi p1, oi p2, oi p3, oi wa, oi wb, oi wc, oi wn, oi 1, oa xs_394, oa b404, oa b432, oi 0, oi 0, oa xs_507, oa xs_540] [(.int wc), (.int wb), (.int wa), (.int wn), (.int (0 : Int32)), (.ref xs_507)]) (fun _ k => st540.trans (XS.astore X540.here hx rfl (hb hby at_169) rfl rfl (l' := #[oi p0, oi p1, oi p2, oi p3, oi wa, oi wb, oi wc, oi wn, oi 1, oa xs_394, oa b404, oa b432, oi 0, oi 0, oa xs_507, oa xs_540]) rfl (XS.aload X540.here hx rfl (hb hby at_171) rfl rfl (XS.iload X540.here hx rfl (hb hby at_173) rfl (XS.iload X540.here hx rfl (hb hby at_175) rfl (XS.iload X540.here hx rfl (hb hby at_177) rfl (XS.iload X540.here hx rfl (hb hby at_179) rfl (XS.iload X540.here hx rfl (hb hby at_181) rfl k)))))))) ?_
      obtain ⟨_, _, ⟨T581, L581, k581, n581⟩, -, X581, ⟨Lc581, hQ581, l581, y581, z581⟩, st581⟩ := Jvm.LawKit.callS X540 hx (y := (⟨"com/example/cardinal_tableau/cardinaltableau/model/RoleToStringPinLaw", "check", "(Ljava/lang/String;ZICCC)Z"⟩ : MethodName)) hown540 (mvT hZ540 (own_w hw 191 rfl)) (mvT hZ540 (own_w hw 192 rfl)) (mvT hZ540 (own_w hw 2 rfl)) (mvT hZ540 (own_w hw 193 rfl)) (by decide) (backOf (W := 0) (rmCkN l Z a0 hw [] xs_507 wn wa wb wc xb_507 xk_507 xz_394 xu_394 cs fm T540.heap n0 zs540 f561 f563 f562 f564 f547 f548 hh0 hh1 po400) hZ540 (own_w hw 193 rfl) (own_w hw 2 rfl) (by decide) (by decide)) (g := (mkF m 183 #[oi p0, oi p1, oi p2, oi p3, oi wa, oi wb, oi wc, oi wn, oi 1, oa xs_394, oa b404, oa b432, oi 0, oi 0, oa xs_507, oa xs_540] [(.int wc), (.int wb), (.int wa), (.int wn), (.int (0 : Int32)), (.ref xs_507)])) rfl (by rw [hml]; rfl) (argsL := [(.ref xs_507), (.int (0 : Int32)), (.int wn), (.int wa), (.int wb), (.int wc)]) (rest := []) (lenOf own_pd35 rfl) rfl (Nat.le_of_eq rfl) (hb hby at_183) (fun _ _ => ⟨rfl, rfl, (by decide : 24 + 0 ≤ _), (by decide : 178 + 0 ≤ _)⟩)
      dsimp only [Pt.U, Pt.locs, Pt.cells, Pt.slots] at X581 l581 y581 z581 st581 hQ581
      subst l581 y581 z581
      obtain ⟨rfl, N581q, e581⟩ := hQ581
      have N581 := Fr.app N540 N581q
      obtain ⟨Lv581, X581, N581⟩ := own_hide X581 (Nat.le_refl 24) (Nat.le_refl 178) N581
      refine own_h T581 (mkF m 201 #[oi p0, oi p1, oi p2, oi p3, oi wa, oi wb, oi wc, oi wn, oi 1, oa xs_394, oa b404, oa b432, oi 0, oi 0, oa xs_507, oa xs_540] [(.int wc), (.int wb), (.int wa), (.int wn), (.int (0 : Int32)), (.ref xs_540)]) (fun _ k => st581 _ (XS.ifNo X581.here hx rfl (hb hby at_186) rfl (XT.i0_eq_f (by decide : ¬ ((1 : Int32) = (0 : Int32)))) (XS.aload X581.here hx rfl (hb hby at_189) rfl rfl (XS.iload X581.here hx rfl (hb hby at_191) rfl (XS.iload X581.here hx rfl (hb hby at_193) rfl (XS.iload X581.here hx rfl (hb hby at_195) rfl (XS.iload X581.here hx rfl (hb hby at_197) rfl (XS.iload X581.here hx rfl (hb hby at_199) rfl k)))))))) ?_
      obtain ⟨_, _, ⟨T582, L582, k582, n582⟩, -, X582, ⟨Lc582, hQ582, l582, y582, z582⟩, st582⟩ := Jvm.LawKit.callS X581 hx (y := (⟨"com/example/cardinal_tableau/cardinaltableau/model/RoleToStringPinLaw", "check", "(Ljava/lang/String;ZICCC)Z"⟩ : MethodName)) hown540 (mvT hZ540 (own_w hw 191 rfl)) (mvT hZ540 (own_w hw 192 rfl)) (mvT hZ540 (own_w hw 2 rfl)) (mvT hZ540 (own_w hw 193 rfl)) (by decide) (backOf (W := 0) (rmCkN l Z a0 hw [] xs_540 wn wa wb wc xb_540 xk_540 xz_394 xu_394 cs fm T540.heap n0 zs540 po543 po545 po544 po546 f547 f548 hh0 hh1 po400) hZ540 (own_w hw 193 rfl) (own_w hw 2 rfl) (by decide) (by decide)) (g := (mkF m 201 #[oi p0, oi p1, oi p2, oi p3, oi wa, oi wb, oi wc, oi wn, oi 1, oa xs_394, oa b404, oa b432, oi 0, oi 0, oa xs_507, oa xs_540] [(.int wc), (.int wb), (.int wa), (.int wn), (.int (0 : Int32)), (.ref xs_540)])) rfl (by rw [hml]; rfl) (argsL := [(.ref xs_540), (.int (0 : Int32)), (.int wn), (.int wa), (.int wb), (.int wc)]) (rest := []) (lenOf own_pd35 rfl) rfl (Nat.le_of_eq rfl) (hb hby at_201) (fun _ _ => ⟨rfl, e581, (by decide : 24 + 0 ≤ _), (by decide : 178 + 0 ≤ _)⟩)
      dsimp only [Pt.U, Pt.locs, Pt.cells, Pt.slots] at X582 l582 y582 z582 st582 hQ582
      subst l582 y582 z582
      obtain ⟨rfl, N582q, e582⟩ := hQ582
      have N582 := Fr.app N581 N582q
      obtain ⟨Lv582, X582, N582⟩ := own_hide X582 (Nat.le_refl 24) (Nat.le_refl 178) N582
      refine own_h T582 (mkF m 212 #[oi p0, oi p1, oi p2, oi p3, oi wa, oi wb, oi wc, oi wn, oi 1, oa xs_394, oa b404, oa b432, oi 0, oi 0, oa xs_507, oa xs_540] [(.int (1 : Int32))]) (fun _ k => st582 _ (XS.ifNo X582.here hx rfl (hb hby at_204) rfl (XT.i0_eq_f (by decide : ¬ ((1 : Int32) = (0 : Int32)))) (XS.iconst X582.here hx rfl (hb hby at_207) (XS.goto X582.here hx rfl (pc0 := 208) (pc' := 212) rfl (hb hby at_208) (by decide) (by decide) k)))) ?_
      exact own_retNH X582 hS540 hx (t := .boolean) Bd.returns hlk (by simp) (hb hby at_212) hZ540 (own_EW hw) R540 e582 hk540 ⟨rfl, N582⟩ (by decide) (by decide)
  exact G35_1 _ rfl _ rfl _ rfl _ rfl
set_option maxRecDepth 65536 in
set_option maxHeartbeats 40000000 in
theorem comes_1 {Post : Tables → Env → Array Value → State → Outcome → State → Prop} (hpost : ∀ tb e args s v u, (limb_1_1.after args s (.returned v) u = true ∧ limb_1_2.after args s (.returned v) u = true ∧ True) → ReturnedEndW s (.returned v) u (Jvm.fieldLocs frame_1_writes args s ++ Jvm.arrayLocs frame_1_arrays args s ++ Jvm.staticLocs frame_1_statics s) 56 6592 → Post tb e args s (.returned v) u) :
    ArmFor flags0 classFile x code maxLocals ret World_1 tables_1 room_1 Calls_1 rest_1 Pre_1 Post := by
  intro l hfl _ _ p e ha hc hk s m args below hf hA hF happ hP
  obtain ⟨hcalls, hrest, hpre⟩ := hP
  obtain ⟨-, -, -, hnamed, -, -, -, hat⟩ := (Spec.applies_iff hf).mp happ
  obtain ⟨hg, hn⟩ := and_e (Cond.before_iff.mp (show (Jvm.Cond.and given_1 narrow_1).before args s = true from hpre))
  obtain ⟨g1, g2⟩ := and_e hg
  obtain ⟨g3, g4⟩ := and_e g2
  obtain ⟨g5, g6⟩ := and_e g4
  obtain ⟨g7, g8⟩ := and_e g6
  obtain ⟨w0, w1, w2, w3, rfl⟩ : ∃ w0 w1 w2 w3 : Value, args = #[w0, w1, w2, w3] := by
    have hs : args.size = 4 := by simpa [Cond.value, given_1] using g1
    obtain ⟨L⟩ := args
    match L, hs with
    | [w0, w1, w2, w3], _ => exact ⟨w0, w1, w2, w3, rfl⟩
  have hw := fun d (hd : d ∈ tables_1) => atoms_spec (ws := Jvm.Cond.code x code maxLocals ret :: tables_1) hat d (List.mem_cons_of_mem _ hd)
  have hfit : Fit s := fun {y c} hc i hi => by
    obtain ⟨ha, rfl⟩ := Array.getElem?_eq_some_iff.mp hc
    have q := List.all_eq_true.mp ((Array.all_eq_true_iff_forall_mem.mp hF) _ (Array.getElem_mem ha)) i (List.mem_range.mpr hi)
    simpa [Array.getElem?_eq_getElem hi] using q
  obtain ⟨hsets, hown0⟩ := atoms_of _ (rest_1_c_eq ▸ (show rest_1_c.before _ s = true from hrest))
  have hr0 := Cond.before_iff.mp hown0
  obtain ⟨i0, ei0⟩ := is_v g3
  obtain rfl : w0 = (.int i0) := Option.some.inj ei0
  obtain ⟨i1, ei1⟩ := is_v g5
  obtain rfl : w1 = (.int i1) := Option.some.inj ei1
  obtain ⟨i2, ei2⟩ := is_v g7
  obtain rfl : w2 = (.int i2) := Option.some.inj ei2
  obtain ⟨i3, ei3⟩ := is_v g8
  obtain rfl : w3 = (.int i3) := Option.some.inj ei3
  obtain ⟨csv, ecs⟩ := is_v (Cond.before_iff.mp (hsets _ (List.mem_of_getElem? (i := 1) rfl)))
  have Scs : Sta s s.heap "java/lang/String" "COMPACT_STRINGS" "Z" (.int csv) := Sta.start ecs (Or.inl (hsets _ (List.mem_of_getElem? (i := 0) rfl)))
  have ncs : ¬ csv = (0 : Int32) := gotF (Cond.eq_ints ecs (Term.int_eval (0))) (not_v (Cond.before_iff.mp (hsets _ (List.mem_of_getElem? (i := 2) rfl))))
  obtain ⟨fmv, efm, rfm⟩ := isR_v (Cond.before_iff.mp (hsets _ (List.mem_of_getElem? (i := 8) rfl)))
  have Sfm : Sta s s.heap "jdk/internal/util/Preconditions" "SIOOBE_FORMATTER" "Ljava/util/function/BiFunction;" fmv := Sta.start efm (Or.inl (hsets _ (List.mem_of_getElem? (i := 7) rfl)))
  obtain ⟨n, o, h1, h2, h3, _, L, rfl, ⟨rfl, N⟩, -, hq⟩ := rm0 l s _ hw tables_1 i0 i1 i2 i3 csv fmv s.heap s.heap.size (Nat.le_refl _) Scs Sfm ncs rfm p e ha hc hk s m _ below hf ((Spec.applies_iff_loose hf).mp happ).1 ⟨rfl, State.Warmed39.refl s, rfl, CHv.start (own_EW hw) (fun q hq => hcalls.1 q hq) (hsets _ (List.mem_of_getElem? (i := 2) rfl)) (own_w hw 18 rfl) (own_w hw 14 rfl)⟩ trivial
  refine ⟨n, _, h1, h2, h3, hpost _ _ _ _ _ _ ⟨Cond.after_iff.mpr rfl, Cond.after_iff.mpr (eq_i res_at (Term.int_eval (1)) rfl), trivial⟩ ⟨hq.1, hq.2.1, hq.2.2.1, (hq.2.2.2.sift fun y hy => Or.inr (N y hy)).mono (by decide) (by decide)⟩⟩
theorem main_1_1 : Claimed_1_1 := comes_1 fun _ _ _ _ _ _ h hF => ⟨h.1, hF⟩
theorem main_1_2 : Claimed_1_2 := comes_1 fun _ _ _ _ _ _ h hF => ⟨h.2.1, hF⟩
end Jvm.Pilot.@@N@@
namespace Jvm.Pilot.@@N@@
open Jvm Jvm.ClassFile Sem Op Lib Jvm.Free Jvm.Stand Jvm.Pilot.@@N@@.Jvm.D
/-! MADE BY PROGRAM (witnessworld.py) out of the Statement's table words and the real class files: 26 classes; the members and pool entries that the words name. The judged class is class 1, her method 1. -/
namespace start1
open Jvm.ClassFile
def u (s : String) : CpInfo := .utf8 (stringToUtf16 s)
/-- a pool by its gaps: so many unusable entries, then the entry; so many at the end -/
def gap : Nat → List CpInfo → List CpInfo
  | 0, r => r
  | n + 1, r => .unusable :: gap n r
def poolList (es : List (Nat × CpInfo)) (last : Nat) : List CpInfo := es.foldr (fun e r => gap e.1 (e.2 :: r)) (gap last [])
def pool (es : List (Nat × CpInfo)) (last : Nat) : Array CpInfo := ⟨poolList es last⟩
def fileOf (pool : Array CpInfo) (this : Nat) (attrs : Array Attribute := #[]) (ms : Array MethodInfo := #[]) (fl : Nat := 33) (sup : Nat := 0) (ifs : Array Nat := #[]) (fds : Array FieldInfo := #[]) : ClassFile where
  minorVersion := 0
  majorVersion := 65
  constantPool := pool
  accessFlags := fl
  thisClass := this
  superClass := sup
  interfaces := ifs
  fields := fds
  methods := ms
  attributes := attrs
def plain (name : String) (sup : Option ClassId) : Class where
  name := name
  kind := .ordinary
  loader := none
  accessFlags := 33
  super := sup
  interfaces := #[]
  cf := none
  fields := #[]
  methods := #[]
  instanceTypes := #[]
  staticTypes := #[]
  resolved := #[]
  callSites := []
  init := .initialized
  statics := none
  mirror := none

def pool0 : Array CpInfo := pool [(5, u "<init>"), (0, u "()V"), (1, .class_ 10), (1, u "java/lang/Object")] 113

def k0c0 : Code := { maxStack := 0, maxLocals := 1, code := object_method_1_code, exceptionTable := #[], attributes := #[] }
def k0m0 : Method := { name := "<init>", desc := "()V", sig := { parameters := [], returnType := none }, accessFlags := 1, code := some k0c0 }
/-- java/lang/Object -/
def k0 : Class := { plain "java/lang/Object" none with
  accessFlags := 33
  interfaces := #[]
  cf := some (fileOf pool0 8 #[] #[{ accessFlags := 1, nameIndex := 5, descriptorIndex := 6, attributes := #[] }] 33 0 #[] #[])
  fields := #[]
  methods := #[k0m0]
  instanceTypes := #[]
  staticTypes := #[]
  resolved := Array.replicate 124 none
  statics := none }

def pool1 : Array CpInfo := pool [(2, .class_ 4), (1, u "java/lang/Object"), (0, u "<init>"), (0, u "()V"), (0, .methodref 8 9), (0, .class_ 10), (0, .nameAndType 11 12), (0, u "com/example/cardinal_tableau/cardinaltableau/model/RoleToStringPinLaw"), (0, u "mk"), (0, u "(ICCC)Ljava/lang/String;"), (0, .class_ 14), (0, u "com/example/cardinal_tableau/cardinaltableau/model/Role"), (0, .methodref 13 16), (0, .nameAndType 5 17), (0, u "(ILjava/lang/String;)V"), (0, .methodref 13 19), (0, .nameAndType 20 21), (0, u "setInverse"), (0, u "(Lcom/example/cardinal_tableau/cardinaltableau/model/Role;)V"), (0, .methodref 13 23), (0, .nameAndType 24 25), (0, u "toString"), (0, u "()Ljava/lang/String;"), (0, .methodref 8 27), (0, .nameAndType 28 29), (0, u "check"), (0, u "(Ljava/lang/String;ZICCC)Z"), (0, .class_ 31), (0, u "java/lang/String"), (0, .methodref 30 33), (0, .nameAndType 5 34), (0, u "([C)V"), (0, .methodref 30 36), (0, .nameAndType 37 38), (0, u "valueOf"), (0, u "(C)Ljava/lang/String;"), (0, .methodref 30 40), (0, .nameAndType 41 42), (0, u "length"), (0, u "()I"), (0, .methodref 8 44), (0, .nameAndType 45 46), (0, u "prefix"), (0, u "(Ljava/lang/String;)Z"), (0, .methodref 30 48), (0, .nameAndType 49 50), (0, u "charAt"), (0, u "(I)C"), (0, .string 52), (0, u "ObjectInverseOf(<"), (2, u "law"), (0, u "(IIII)Z")] 3

def k1m0 : Method := { name := "<init>", desc := "()V", sig := { parameters := [], returnType := none }, accessFlags := 1, code := none }
def k1c1 : Code := { maxStack := 6, maxLocals := 16, code := code, exceptionTable := #[], attributes := #[] }
def k1m1 : Method := { name := "law", desc := "(IIII)Z", sig := { parameters := [.int, .int, .int, .int], returnType := some .boolean }, accessFlags := 9, code := some k1c1 }
def k1c2 : Code := { maxStack := 6, maxLocals := 4, code := method_3_code, exceptionTable := #[], attributes := #[] }
def k1m2 : Method := { name := "mk", desc := "(ICCC)Ljava/lang/String;", sig := { parameters := [.int, .char, .char, .char], returnType := some (.object "java/lang/String") }, accessFlags := 10, code := some k1c2 }
def k1c3 : Code := { maxStack := 3, maxLocals := 10, code := method_4_code, exceptionTable := #[], attributes := #[] }
def k1m3 : Method := { name := "check", desc := "(Ljava/lang/String;ZICCC)Z", sig := { parameters := [(.object "java/lang/String"), .boolean, .int, .char, .char, .char], returnType := some .boolean }, accessFlags := 10, code := some k1c3 }
def k1c4 : Code := { maxStack := 3, maxLocals := 2, code := method_5_code, exceptionTable := #[], attributes := #[] }
def k1m4 : Method := { name := "prefix", desc := "(Ljava/lang/String;)Z", sig := { parameters := [(.object "java/lang/String")], returnType := some .boolean }, accessFlags := 10, code := some k1c4 }
/-- com/example/cardinal_tableau/cardinaltableau/model/RoleToStringPinLaw -/
def k1 : Class := { plain "com/example/cardinal_tableau/cardinaltableau/model/RoleToStringPinLaw" (some 0) with
  accessFlags := 49
  interfaces := #[]
  cf := some (fileOf pool1 8 #[] #[{ accessFlags := 1, nameIndex := 5, descriptorIndex := 6, attributes := #[] }, { accessFlags := 9, nameIndex := 55, descriptorIndex := 56, attributes := #[] }, { accessFlags := 10, nameIndex := 11, descriptorIndex := 12, attributes := #[] }, { accessFlags := 10, nameIndex := 28, descriptorIndex := 29, attributes := #[] }, { accessFlags := 10, nameIndex := 45, descriptorIndex := 46, attributes := #[] }] 49 2 #[] #[])
  fields := #[]
  methods := #[k1m0, k1m1, k1m2, k1m3, k1m4]
  instanceTypes := #[]
  staticTypes := #[]
  resolved := Array.replicate 60 none
  statics := none }

def pool2 : Array CpInfo := pool [(1, .class_ 2), (0, u "java/io/Serializable"), (0, .class_ 4), (0, u "java/lang/Object")] 2

/-- java/io/Serializable -/
def k2 : Class := { plain "java/io/Serializable" (some 0) with
  accessFlags := 1537
  interfaces := #[]
  cf := some (fileOf pool2 1 #[] #[] 1537 3 #[] #[])
  fields := #[]
  methods := #[]
  instanceTypes := #[]
  staticTypes := #[]
  resolved := Array.replicate 7 none
  statics := none }

def pool3 : Array CpInfo := pool [(1, .class_ 2), (0, u "java/lang/Comparable"), (0, .class_ 4), (0, u "java/lang/Object")] 7

/-- java/lang/Comparable -/
def k3 : Class := { plain "java/lang/Comparable" (some 0) with
  accessFlags := 1537
  interfaces := #[]
  cf := some (fileOf pool3 1 #[] #[] 1537 3 #[] #[])
  fields := #[]
  methods := #[]
  instanceTypes := #[]
  staticTypes := #[]
  resolved := Array.replicate 12 none
  statics := none }

def pool4 : Array CpInfo := pool [(2, .class_ 4), (1, u "java/lang/CharSequence"), (42, .class_ 48), (0, u "java/lang/CharSequence$1CodePointIterator"), (10, .class_ 60), (0, u "java/lang/CharSequence$1CharIterator"), (5, .class_ 67), (0, u "java/lang/Object")] 63

/-- java/lang/CharSequence -/
def k4 : Class := { plain "java/lang/CharSequence" (some 0) with
  accessFlags := 1537
  interfaces := #[]
  cf := some (fileOf pool4 2 #[.nestMembers #[47, 59]] #[] 1537 66 #[] #[])
  fields := #[]
  methods := #[]
  instanceTypes := #[]
  staticTypes := #[]
  resolved := Array.replicate 131 none
  statics := none }

def pool5 : Array CpInfo := pool [(1, .class_ 2), (0, u "java/lang/constant/Constable"), (0, .class_ 4), (0, u "java/lang/Object")] 6

/-- java/lang/constant/Constable -/
def k5 : Class := { plain "java/lang/constant/Constable" (some 0) with
  accessFlags := 1537
  interfaces := #[]
  cf := some (fileOf pool5 1 #[] #[] 1537 3 #[] #[])
  fields := #[]
  methods := #[]
  instanceTypes := #[]
  staticTypes := #[]
  resolved := Array.replicate 11 none
  statics := none }

def pool6 : Array CpInfo := pool [(1, .class_ 2), (0, u "java/lang/constant/ConstantDesc"), (0, .class_ 4), (0, u "java/lang/Object")] 32

/-- java/lang/constant/ConstantDesc -/
def k6 : Class := { plain "java/lang/constant/ConstantDesc" (some 0) with
  accessFlags := 1537
  interfaces := #[]
  cf := some (fileOf pool6 1 #[] #[] 1537 3 #[] #[])
  fields := #[]
  methods := #[]
  instanceTypes := #[]
  staticTypes := #[]
  resolved := Array.replicate 37 none
  statics := none }

def pool7 : Array CpInfo := pool [(1, .methodref 2 3), (0, .class_ 4), (0, .nameAndType 5 6), (0, u "java/lang/Object"), (0, u "<init>"), (0, u "()V"), (0, .string 8), (0, u ""), (0, .fieldref 10 11), (0, .class_ 12), (0, .nameAndType 13 14), (0, u "java/lang/String"), (0, u "value"), (0, u "[B"), (0, .fieldref 10 16), (0, .nameAndType 17 18), (0, u "coder"), (0, u "B"), (2, u "hash"), (0, u "I"), (2, u "hashIsZero"), (0, u "Z"), (0, .methodref 10 28), (0, .nameAndType 5 29), (0, u "([CIILjava/lang/Void;)V"), (8, .fieldref 10 39), (0, .nameAndType 40 26), (0, u "COMPACT_STRINGS"), (1, .class_ 44), (1, u "java/lang/StringUTF16"), (0, u "compress"), (1, .methodref 42 48), (0, .nameAndType 49 50), (0, u "coderFromArrayLen"), (0, u "([BI)B"), (2, u "toBytes"), (0, .methodref 55 56), (0, .class_ 57), (0, .nameAndType 58 59), (0, u "java/util/Arrays"), (0, u "copyOfRange"), (0, u "([BII)[B"), (47, .class_ 109), (1, u "java/lang/StringLatin1"), (32, u "()Z"), (34, .methodref 42 178), (0, .nameAndType 45 179), (0, u "([CII)[B"), (13, .class_ 195), (1, u "java/lang/System"), (13, .methodref 10 210), (0, .nameAndType 5 211), (0, u "([BB)V"), (0, .methodref 193 213), (0, .nameAndType 214 215), (0, u "arraycopy"), (0, u "(Ljava/lang/Object;ILjava/lang/Object;II)V"), (118, u "()I"), (0, .methodref 10 336), (0, .nameAndType 17 337), (0, u "()B"), (2, u "()[B"), (22, u "([BI)C"), (5, u "(C)Z"), (21, u "(II)V"), (35, u "(I)C"), (61, .methodref 10 490), (0, .nameAndType 5 491), (0, u "(Ljava/lang/AbstractStringBuilder;Ljava/lang/Void;)V"), (0, .methodref 10 493), (0, .nameAndType 494 142), (0, u "isLatin1"), (0, .methodref 107 496), (0, .nameAndType 497 363), (0, u "charAt"), (3, u "checkIndex"), (4, .nameAndType 507 334), (0, u "length"), (24, u "getBytes"), (16, .methodref 550 506), (0, .class_ 551), (0, u "java/lang/AbstractStringBuilder"), (0, .methodref 550 553), (0, .nameAndType 554 340), (0, u "getValue"), (20, .class_ 576), (0, u "java/lang/CharSequence"), (22, u "CASE_INSENSITIVE_ORDER"), (0, u "Ljava/util/Comparator;"), (181, u "valueOf"), (0, u "(C)Ljava/lang/String;"), (37, u "([BIB)V"), (188, u "([C)V"), (4, .methodref 107 1016), (0, .nameAndType 1017 369), (0, u "canEncode"), (0, .methodref 107 1019), (0, .nameAndType 53 1020), (0, u "(C)[B"), (26, .methodref 550 493), (5, .fieldref 1054 1055), (0, .class_ 1056), (0, .nameAndType 1057 1058), (0, u "jdk/internal/util/Preconditions"), (0, u "SIOOBE_FORMATTER"), (0, u "Ljava/util/function/BiFunction;"), (0, .methodref 1054 1060), (0, .nameAndType 501 1061), (0, u "(IILjava/util/function/BiFunction;)I"), (39, u "serialPersistentFields"), (0, u "[Ljava/io/ObjectStreamField;"), (0, .class_ 1104), (0, u "java/lang/String$CaseInsensitiveComparator"), (1, .class_ 1107), (0, u "java/io/Serializable"), (0, .class_ 1109), (0, u "java/lang/Comparable"), (0, .class_ 1111), (0, u "java/lang/constant/Constable"), (0, .class_ 1113), (0, u "java/lang/constant/ConstantDesc"), (2, u "serialVersionUID"), (0, u "J"), (3, u "REPL"), (0, u "C"), (2, u "LATIN1"), (1, u "UTF16"), (105, u "(Ljava/lang/StringBuilder;)V")] 217

def k7m0 : Method := { name := "<init>", desc := "()V", sig := { parameters := [], returnType := none }, accessFlags := 1, code := none }
def k7c1 : Code := { maxStack := 5, maxLocals := 2, code := jdk_42_method_3_code, exceptionTable := #[], attributes := #[] }
def k7m1 : Method := { name := "<init>", desc := "([C)V", sig := { parameters := [(.array .char)], returnType := none }, accessFlags := 1, code := some k7c1 }
def k7c2 : Code := { maxStack := 3, maxLocals := 2, code := jdk_42_method_53_code, exceptionTable := #[], attributes := #[] }
def k7m2 : Method := { name := "<init>", desc := "(Ljava/lang/StringBuilder;)V", sig := { parameters := [(.object "java/lang/StringBuilder")], returnType := none }, accessFlags := 1, code := some k7c2 }
def k7c3 : Code := { maxStack := 2, maxLocals := 1, code := jdk_42_method_54_code, exceptionTable := #[], attributes := #[] }
def k7m3 : Method := { name := "length", desc := "()I", sig := { parameters := [], returnType := some .int }, accessFlags := 1, code := some k7c3 }
def k7c4 : Code := { maxStack := 2, maxLocals := 2, code := jdk_42_method_56_code, exceptionTable := #[], attributes := #[] }
def k7m4 : Method := { name := "charAt", desc := "(I)C", sig := { parameters := [.int], returnType := some .char }, accessFlags := 1, code := some k7c4 }
def k7c5 : Code := { maxStack := 4, maxLocals := 1, code := jdk_42_method_139_code, exceptionTable := #[], attributes := #[] }
def k7m5 : Method := { name := "valueOf", desc := "(C)Ljava/lang/String;", sig := { parameters := [.char], returnType := some (.object "java/lang/String") }, accessFlags := 9, code := some k7c5 }
def k7c6 : Code := { maxStack := 5, maxLocals := 4, code := jdk_42_method_147_code, exceptionTable := #[], attributes := #[] }
def k7m6 : Method := { name := "getBytes", desc := "([BIB)V", sig := { parameters := [(.array .byte), .int, .byte], returnType := none }, accessFlags := 0, code := some k7c6 }
def k7c7 : Code := { maxStack := 4, maxLocals := 6, code := jdk_42_method_149_code, exceptionTable := #[], attributes := #[] }
def k7m7 : Method := { name := "<init>", desc := "([CIILjava/lang/Void;)V", sig := { parameters := [(.array .char), .int, .int, (.object "java/lang/Void")], returnType := none }, accessFlags := 2, code := some k7c7 }
def k7c8 : Code := { maxStack := 5, maxLocals := 5, code := jdk_42_method_150_code, exceptionTable := #[], attributes := #[] }
def k7m8 : Method := { name := "<init>", desc := "(Ljava/lang/AbstractStringBuilder;Ljava/lang/Void;)V", sig := { parameters := [(.object "java/lang/AbstractStringBuilder"), (.object "java/lang/Void")], returnType := none }, accessFlags := 0, code := some k7c8 }
def k7c9 : Code := { maxStack := 2, maxLocals := 3, code := jdk_42_method_151_code, exceptionTable := #[], attributes := #[] }
def k7m9 : Method := { name := "<init>", desc := "([BB)V", sig := { parameters := [(.array .byte), .byte], returnType := none }, accessFlags := 0, code := some k7c9 }
def k7c10 : Code := { maxStack := 1, maxLocals := 1, code := jdk_42_method_152_code, exceptionTable := #[], attributes := #[] }
def k7m10 : Method := { name := "coder", desc := "()B", sig := { parameters := [], returnType := some .byte }, accessFlags := 0, code := some k7c10 }
def k7c11 : Code := { maxStack := 1, maxLocals := 1, code := jdk_42_method_154_code, exceptionTable := #[], attributes := #[] }
def k7m11 : Method := { name := "isLatin1", desc := "()Z", sig := { parameters := [], returnType := some .boolean }, accessFlags := 0, code := some k7c11 }
def k7c12 : Code := { maxStack := 3, maxLocals := 2, code := jdk_42_method_155_code, exceptionTable := #[], attributes := #[] }
def k7m12 : Method := { name := "checkIndex", desc := "(II)V", sig := { parameters := [.int, .int], returnType := none }, accessFlags := 8, code := some k7c12 }
/-- java/lang/String -/
def k7 : Class := { plain "java/lang/String" (some 0) with
  accessFlags := 49
  interfaces := #[2, 3, 4, 5, 6]
  cf := some (fileOf pool7 10 #[.nestMembers #[1103]] #[{ accessFlags := 1, nameIndex := 5, descriptorIndex := 6, attributes := #[] }, { accessFlags := 1, nameIndex := 5, descriptorIndex := 1010, attributes := #[] }, { accessFlags := 1, nameIndex := 5, descriptorIndex := 1233, attributes := #[] }, { accessFlags := 1, nameIndex := 507, descriptorIndex := 334, attributes := #[] }, { accessFlags := 1, nameIndex := 497, descriptorIndex := 427, attributes := #[] }, { accessFlags := 9, nameIndex := 782, descriptorIndex := 783, attributes := #[] }, { accessFlags := 0, nameIndex := 532, descriptorIndex := 821, attributes := #[] }, { accessFlags := 2, nameIndex := 5, descriptorIndex := 29, attributes := #[] }, { accessFlags := 0, nameIndex := 5, descriptorIndex := 491, attributes := #[] }, { accessFlags := 0, nameIndex := 5, descriptorIndex := 211, attributes := #[] }, { accessFlags := 0, nameIndex := 17, descriptorIndex := 337, attributes := #[] }, { accessFlags := 0, nameIndex := 494, descriptorIndex := 142, attributes := #[] }, { accessFlags := 8, nameIndex := 501, descriptorIndex := 391, attributes := #[] }] 49 2 #[1106, 1108, 575, 1110, 1112] #[{ accessFlags := 18, nameIndex := 13, descriptorIndex := 14, attributes := #[] }, { accessFlags := 18, nameIndex := 17, descriptorIndex := 18, attributes := #[] }, { accessFlags := 2, nameIndex := 21, descriptorIndex := 22, attributes := #[] }, { accessFlags := 2, nameIndex := 25, descriptorIndex := 26, attributes := #[] }, { accessFlags := 26, nameIndex := 1116, descriptorIndex := 1117, attributes := #[] }, { accessFlags := 24, nameIndex := 40, descriptorIndex := 26, attributes := #[] }, { accessFlags := 26, nameIndex := 1101, descriptorIndex := 1102, attributes := #[] }, { accessFlags := 26, nameIndex := 1121, descriptorIndex := 1122, attributes := #[] }, { accessFlags := 25, nameIndex := 599, descriptorIndex := 600, attributes := #[] }, { accessFlags := 24, nameIndex := 1125, descriptorIndex := 18, attributes := #[] }, { accessFlags := 24, nameIndex := 1127, descriptorIndex := 18, attributes := #[] }])
  fields := #[{ name := "value", type := (.array .byte), accessFlags := 18, slot := 0, constantValue := 0 }, { name := "coder", type := .byte, accessFlags := 18, slot := 1, constantValue := 0 }, { name := "hash", type := .int, accessFlags := 2, slot := 2, constantValue := 0 }, { name := "hashIsZero", type := .boolean, accessFlags := 2, slot := 3, constantValue := 0 }, { name := "serialVersionUID", type := .long, accessFlags := 26, slot := 0, constantValue := 0 }, { name := "COMPACT_STRINGS", type := .boolean, accessFlags := 24, slot := 1, constantValue := 0 }, { name := "serialPersistentFields", type := (.array (.object "java/io/ObjectStreamField")), accessFlags := 26, slot := 2, constantValue := 0 }, { name := "REPL", type := .char, accessFlags := 26, slot := 3, constantValue := 0 }, { name := "CASE_INSENSITIVE_ORDER", type := (.object "java/util/Comparator"), accessFlags := 25, slot := 4, constantValue := 0 }, { name := "LATIN1", type := .byte, accessFlags := 24, slot := 5, constantValue := 0 }, { name := "UTF16", type := .byte, accessFlags := 24, slot := 6, constantValue := 0 }]
  methods := #[k7m0, k7m1, k7m2, k7m3, k7m4, k7m5, k7m6, k7m7, k7m8, k7m9, k7m10, k7m11, k7m12]
  instanceTypes := #[(.array .byte), .byte, .int, .boolean]
  staticTypes := #[.long, .boolean, (.array (.object "java/io/ObjectStreamField")), .char, (.object "java/util/Comparator"), .byte, .byte]
  resolved := Array.replicate 1451 none
  statics := some 0 }

def pool8 : Array CpInfo := pool [(1, .class_ 2), (0, u "java/lang/String"), (1, .class_ 6), (1, u "java/lang/Object"), (0, u "<init>"), (0, u "()V"), (0, .methodref 1 10), (0, .nameAndType 11 12), (0, u "checkIndex"), (0, u "(II)V"), (1, .class_ 16), (1, u "java/lang/StringLatin1"), (36, u "([BI)C"), (36, u "canEncode"), (14, u "(C)Z"), (15, u "$assertionsDisabled"), (0, u "Z"), (98, .class_ 223), (1, u "java/lang/StringLatin1$LinesSpliterator"), (28, u "charAt"), (127, u "toBytes"), (1, u "(C)[B"), (7, .class_ 391), (0, u "java/lang/StringLatin1$CharsSpliterator")] 3

def k8m0 : Method := { name := "<init>", desc := "()V", sig := { parameters := [], returnType := none }, accessFlags := 0, code := none }
def k8c1 : Code := { maxStack := 2, maxLocals := 2, code := jdk_43_method_2_code, exceptionTable := #[], attributes := #[] }
def k8m1 : Method := { name := "charAt", desc := "([BI)C", sig := { parameters := [(.array .byte), .int], returnType := some .char }, accessFlags := 9, code := some k8c1 }
def k8c2 : Code := { maxStack := 2, maxLocals := 1, code := jdk_43_method_3_code, exceptionTable := #[], attributes := #[] }
def k8m2 : Method := { name := "canEncode", desc := "(C)Z", sig := { parameters := [.char], returnType := some .boolean }, accessFlags := 9, code := some k8c2 }
def k8c3 : Code := { maxStack := 4, maxLocals := 1, code := jdk_43_method_46_code, exceptionTable := #[], attributes := #[] }
def k8m3 : Method := { name := "toBytes", desc := "(C)[B", sig := { parameters := [.char], returnType := some (.array .byte) }, accessFlags := 9, code := some k8c3 }
/-- java/lang/StringLatin1 -/
def k8 : Class := { plain "java/lang/StringLatin1" (some 0) with
  accessFlags := 48
  interfaces := #[]
  cf := some (fileOf pool8 14 #[.nestMembers #[390, 221]] #[{ accessFlags := 0, nameIndex := 7, descriptorIndex := 8, attributes := #[] }, { accessFlags := 9, nameIndex := 252, descriptorIndex := 53, attributes := #[] }, { accessFlags := 9, nameIndex := 90, descriptorIndex := 105, attributes := #[] }, { accessFlags := 9, nameIndex := 380, descriptorIndex := 382, attributes := #[] }] 48 4 #[] #[{ accessFlags := 4120, nameIndex := 121, descriptorIndex := 122, attributes := #[] }])
  fields := #[{ name := "$assertionsDisabled", type := .boolean, accessFlags := 4120, slot := 0, constantValue := 0 }]
  methods := #[k8m0, k8m1, k8m2, k8m3]
  instanceTypes := #[]
  staticTypes := #[.boolean]
  resolved := Array.replicate 395 none
  statics := none }

def pool9 : Array CpInfo := pool [(1, .methodref 2 3), (0, .class_ 4), (0, .nameAndType 5 6), (0, u "java/lang/Object"), (0, u "<init>"), (0, u "()V"), (0, .fieldref 8 9), (0, .class_ 10), (0, .nameAndType 11 12), (0, u "com/example/cardinal_tableau/cardinaltableau/model/Role"), (0, u "id"), (0, u "I"), (0, .fieldref 8 14), (0, .nameAndType 15 16), (0, u "iri"), (0, u "Ljava/lang/String;"), (0, .fieldref 8 18), (0, .nameAndType 19 20), (0, u "inverse"), (0, u "Lcom/example/cardinal_tableau/cardinaltableau/model/Role;"), (14, u "()Z"), (10, .class_ 47), (0, u "java/lang/StringBuilder"), (0, .methodref 46 3), (0, .string 50), (0, u "<"), (0, .methodref 46 52), (0, .nameAndType 53 54), (0, u "append"), (0, u "(Ljava/lang/String;)Ljava/lang/StringBuilder;"), (0, .string 56), (0, u ">"), (0, .methodref 46 58), (0, .nameAndType 59 60), (0, u "toString"), (0, u "()Ljava/lang/String;"), (0, .methodref 8 62), (0, .nameAndType 63 35), (0, u "isInverse"), (0, .string 65), (0, u "ObjectInverseOf("), (0, .string 67), (0, u ")"), (0, u "(ILjava/lang/String;)V"), (7, u "setInverse"), (0, u "(Lcom/example/cardinal_tableau/cardinaltableau/model/Role;)V")] 9

def k9c0 : Code := { maxStack := 2, maxLocals := 3, code := prog_21_method_1_code, exceptionTable := #[], attributes := #[] }
def k9m0 : Method := { name := "<init>", desc := "(ILjava/lang/String;)V", sig := { parameters := [.int, (.object "java/lang/String")], returnType := none }, accessFlags := 0, code := some k9c0 }
def k9c1 : Code := { maxStack := 2, maxLocals := 2, code := prog_21_method_5_code, exceptionTable := #[], attributes := #[] }
def k9m1 : Method := { name := "setInverse", desc := "(Lcom/example/cardinal_tableau/cardinaltableau/model/Role;)V", sig := { parameters := [(.object "com/example/cardinal_tableau/cardinaltableau/model/Role")], returnType := none }, accessFlags := 0, code := some k9c1 }
def k9c2 : Code := { maxStack := 2, maxLocals := 1, code := prog_21_method_7_code, exceptionTable := #[], attributes := #[] }
def k9m2 : Method := { name := "isInverse", desc := "()Z", sig := { parameters := [], returnType := some .boolean }, accessFlags := 1, code := some k9c2 }
def k9c3 : Code := { maxStack := 2, maxLocals := 2, code := prog_21_method_8_code, exceptionTable := #[], attributes := #[] }
def k9m3 : Method := { name := "toString", desc := "()Ljava/lang/String;", sig := { parameters := [], returnType := some (.object "java/lang/String") }, accessFlags := 1, code := some k9c3 }
/-- com/example/cardinal_tableau/cardinaltableau/model/Role -/
def k9 : Class := { plain "com/example/cardinal_tableau/cardinaltableau/model/Role" (some 0) with
  accessFlags := 49
  interfaces := #[]
  cf := some (fileOf pool9 8 #[] #[{ accessFlags := 0, nameIndex := 5, descriptorIndex := 68, attributes := #[] }, { accessFlags := 0, nameIndex := 76, descriptorIndex := 77, attributes := #[] }, { accessFlags := 1, nameIndex := 63, descriptorIndex := 35, attributes := #[] }, { accessFlags := 1, nameIndex := 59, descriptorIndex := 60, attributes := #[] }] 49 2 #[] #[{ accessFlags := 18, nameIndex := 11, descriptorIndex := 12, attributes := #[] }, { accessFlags := 18, nameIndex := 15, descriptorIndex := 16, attributes := #[] }, { accessFlags := 2, nameIndex := 19, descriptorIndex := 20, attributes := #[] }])
  fields := #[{ name := "id", type := .int, accessFlags := 18, slot := 0, constantValue := 0 }, { name := "iri", type := (.object "java/lang/String"), accessFlags := 18, slot := 1, constantValue := 0 }, { name := "inverse", type := (.object "com/example/cardinal_tableau/cardinaltableau/model/Role"), accessFlags := 2, slot := 2, constantValue := 0 }]
  methods := #[k9m0, k9m1, k9m2, k9m3]
  instanceTypes := #[.int, (.object "java/lang/String"), (.object "com/example/cardinal_tableau/cardinaltableau/model/Role")]
  staticTypes := #[]
  resolved := Array.replicate 87 none
  statics := none }

def pool10 : Array CpInfo := pool [(1, .class_ 2), (0, u "java/lang/Appendable"), (0, .class_ 4), (0, u "java/lang/Object")] 9

/-- java/lang/Appendable -/
def k10 : Class := { plain "java/lang/Appendable" (some 0) with
  accessFlags := 1537
  interfaces := #[]
  cf := some (fileOf pool10 1 #[] #[] 1537 3 #[] #[])
  fields := #[]
  methods := #[]
  instanceTypes := #[]
  staticTypes := #[]
  resolved := Array.replicate 14 none
  statics := none }

def pool11 : Array CpInfo := pool [(1, .class_ 2), (0, u "java/lang/String"), (0, .methodref 4 5), (0, .class_ 6), (0, .nameAndType 7 8), (0, u "java/lang/Object"), (0, u "<init>"), (0, u "()V"), (1, .class_ 12), (1, u "java/lang/AbstractStringBuilder"), (0, u "EMPTYVALUE"), (0, u "[B"), (0, .fieldref 10 16), (0, .nameAndType 17 14), (0, u "value"), (0, .fieldref 1 19), (0, .nameAndType 20 21), (0, u "COMPACT_STRINGS"), (0, u "Z"), (0, .fieldref 10 23), (0, .nameAndType 24 25), (0, u "coder"), (0, u "B"), (6, .methodref 1 33), (0, .nameAndType 34 35), (0, u "length"), (0, u "()I"), (3, .integer 2147483647), (0, .methodref 1 41), (0, .nameAndType 24 42), (0, u "()B"), (2, u "append"), (0, u "(Ljava/lang/String;)Ljava/lang/AbstractStringBuilder;"), (1, .class_ 49), (0, u "java/lang/CharSequence"), (19, u "(Ljava/lang/String;)V"), (5, u "maybeLatin1"), (3, .fieldref 10 80), (0, .nameAndType 81 82), (0, u "count"), (0, u "I"), (2, u "isLatin1"), (0, u "()Z"), (13, .methodref 10 101), (0, .nameAndType 102 103), (0, u "ensureCapacityInternal"), (0, u "(I)V"), (0, .methodref 10 105), (0, .nameAndType 106 107), (0, u "newCapacity"), (0, u "(I)I"), (0, .methodref 109 110), (0, .class_ 111), (0, .nameAndType 112 113), (0, u "java/util/Arrays"), (0, u "copyOf"), (0, u "([BI)[B"), (0, .methodref 115 116), (0, .class_ 117), (0, .nameAndType 118 119), (0, u "jdk/internal/util/ArraysSupport"), (0, u "newLength"), (0, u "(III)I"), (88, .methodref 10 209), (0, .nameAndType 210 211), (0, u "putStringAt"), (0, u "(ILjava/lang/String;)V"), (5, u "inflateIfNeededFor"), (2, .nameAndType 221 222), (0, u "getBytes"), (0, u "([BIB)V"), (174, .methodref 10 398), (0, .nameAndType 217 69), (0, .methodref 1 220), (3, u "()[B"), (40, .class_ 445), (0, u "java/lang/Appendable"), (106, u "getValue")] 56

def k11m0 : Method := { name := "<init>", desc := "()V", sig := { parameters := [], returnType := none }, accessFlags := 0, code := none }
def k11c1 : Code := { maxStack := 2, maxLocals := 2, code := jdk_68_method_2_code, exceptionTable := #[], attributes := #[] }
def k11m1 : Method := { name := "<init>", desc := "(I)V", sig := { parameters := [.int], returnType := none }, accessFlags := 0, code := some k11c1 }
def k11c2 : Code := { maxStack := 1, maxLocals := 1, code := jdk_68_method_6_code, exceptionTable := #[], attributes := #[] }
def k11m2 : Method := { name := "length", desc := "()I", sig := { parameters := [], returnType := some .int }, accessFlags := 1, code := some k11c2 }
def k11c3 : Code := { maxStack := 4, maxLocals := 3, code := jdk_68_method_9_code, exceptionTable := #[], attributes := #[] }
def k11m3 : Method := { name := "ensureCapacityInternal", desc := "(I)V", sig := { parameters := [.int], returnType := none }, accessFlags := 2, code := some k11c3 }
def k11c4 : Code := { maxStack := 5, maxLocals := 6, code := jdk_68_method_10_code, exceptionTable := #[], attributes := #[] }
def k11m4 : Method := { name := "newCapacity", desc := "(I)I", sig := { parameters := [.int], returnType := some .int }, accessFlags := 2, code := some k11c4 }
def k11c5 : Code := { maxStack := 3, maxLocals := 3, code := jdk_68_method_22_code, exceptionTable := #[], attributes := #[] }
def k11m5 : Method := { name := "append", desc := "(Ljava/lang/String;)Ljava/lang/AbstractStringBuilder;", sig := { parameters := [(.object "java/lang/String")], returnType := some (.object "java/lang/AbstractStringBuilder") }, accessFlags := 1, code := some k11c5 }
def k11c6 : Code := { maxStack := 1, maxLocals := 1, code := jdk_68_method_64_code, exceptionTable := #[], attributes := #[] }
def k11m6 : Method := { name := "getValue", desc := "()[B", sig := { parameters := [], returnType := some (.array .byte) }, accessFlags := 16, code := some k11c6 }
def k11c7 : Code := { maxStack := 1, maxLocals := 1, code := jdk_68_method_68_code, exceptionTable := #[], attributes := #[] }
def k11m7 : Method := { name := "isLatin1", desc := "()Z", sig := { parameters := [], returnType := some .boolean }, accessFlags := 16, code := some k11c7 }
def k11c8 : Code := { maxStack := 2, maxLocals := 2, code := jdk_68_method_71_code, exceptionTable := #[], attributes := #[] }
def k11m8 : Method := { name := "inflateIfNeededFor", desc := "(Ljava/lang/String;)V", sig := { parameters := [(.object "java/lang/String")], returnType := none }, accessFlags := 2, code := some k11c8 }
def k11c9 : Code := { maxStack := 4, maxLocals := 3, code := jdk_68_method_73_code, exceptionTable := #[], attributes := #[] }
def k11m9 : Method := { name := "putStringAt", desc := "(ILjava/lang/String;)V", sig := { parameters := [.int, (.object "java/lang/String")], returnType := none }, accessFlags := 2, code := some k11c9 }
/-- java/lang/AbstractStringBuilder -/
def k11 : Class := { plain "java/lang/AbstractStringBuilder" (some 0) with
  accessFlags := 1056
  interfaces := #[10, 4]
  cf := some (fileOf pool11 10 #[] #[{ accessFlags := 0, nameIndex := 7, descriptorIndex := 8, attributes := #[] }, { accessFlags := 0, nameIndex := 7, descriptorIndex := 103, attributes := #[] }, { accessFlags := 1, nameIndex := 34, descriptorIndex := 35, attributes := #[] }, { accessFlags := 2, nameIndex := 102, descriptorIndex := 103, attributes := #[] }, { accessFlags := 2, nameIndex := 106, descriptorIndex := 107, attributes := #[] }, { accessFlags := 1, nameIndex := 45, descriptorIndex := 46, attributes := #[] }, { accessFlags := 16, nameIndex := 552, descriptorIndex := 403, attributes := #[] }, { accessFlags := 16, nameIndex := 85, descriptorIndex := 86, attributes := #[] }, { accessFlags := 2, nameIndex := 217, descriptorIndex := 69, attributes := #[] }, { accessFlags := 2, nameIndex := 210, descriptorIndex := 211, attributes := #[] }] 1056 4 #[444, 48] #[{ accessFlags := 0, nameIndex := 17, descriptorIndex := 14, attributes := #[] }, { accessFlags := 0, nameIndex := 24, descriptorIndex := 25, attributes := #[] }, { accessFlags := 0, nameIndex := 75, descriptorIndex := 21, attributes := #[] }, { accessFlags := 0, nameIndex := 81, descriptorIndex := 82, attributes := #[] }, { accessFlags := 26, nameIndex := 13, descriptorIndex := 14, attributes := #[] }])
  fields := #[{ name := "value", type := (.array .byte), accessFlags := 0, slot := 0, constantValue := 0 }, { name := "coder", type := .byte, accessFlags := 0, slot := 1, constantValue := 0 }, { name := "maybeLatin1", type := .boolean, accessFlags := 0, slot := 2, constantValue := 0 }, { name := "count", type := .int, accessFlags := 0, slot := 3, constantValue := 0 }, { name := "EMPTYVALUE", type := (.array .byte), accessFlags := 26, slot := 0, constantValue := 0 }]
  methods := #[k11m0, k11m1, k11m2, k11m3, k11m4, k11m5, k11m6, k11m7, k11m8, k11m9]
  instanceTypes := #[(.array .byte), .byte, .boolean, .int]
  staticTypes := #[(.array .byte)]
  resolved := Array.replicate 609 none
  statics := none }

def pool12 : Array CpInfo := pool [(1, .methodref 2 3), (0, .class_ 4), (0, .nameAndType 5 6), (0, u "java/lang/AbstractStringBuilder"), (0, u "<init>"), (0, u "(I)V"), (11, .class_ 20), (1, u "java/lang/String"), (3, .class_ 26), (1, u "java/lang/StringBuilder"), (0, u "append"), (0, u "(Ljava/lang/String;)Ljava/lang/StringBuilder;"), (0, .methodref 2 30), (0, .nameAndType 27 31), (0, u "(Ljava/lang/String;)Ljava/lang/AbstractStringBuilder;"), (105, .methodref 18 138), (0, .nameAndType 5 139), (0, u "(Ljava/lang/StringBuilder;)V"), (5, u "()V"), (10, u "()I"), (186, .methodref 2 344), (0, .nameAndType 345 156), (0, u "length"), (3, .class_ 350), (0, u "java/lang/Appendable"), (0, .class_ 352), (0, u "java/io/Serializable"), (0, .class_ 354), (0, u "java/lang/Comparable"), (0, .class_ 356), (0, u "java/lang/CharSequence"), (0, u "serialVersionUID"), (0, u "J"), (40, u "toString"), (0, u "()Ljava/lang/String;")] 21

def k12c0 : Code := { maxStack := 2, maxLocals := 1, code := jdk_67_method_1_code, exceptionTable := #[], attributes := #[] }
def k12m0 : Method := { name := "<init>", desc := "()V", sig := { parameters := [], returnType := none }, accessFlags := 1, code := some k12c0 }
def k12c1 : Code := { maxStack := 2, maxLocals := 2, code := jdk_67_method_7_code, exceptionTable := #[], attributes := #[] }
def k12m1 : Method := { name := "append", desc := "(Ljava/lang/String;)Ljava/lang/StringBuilder;", sig := { parameters := [(.object "java/lang/String")], returnType := some (.object "java/lang/StringBuilder") }, accessFlags := 1, code := some k12c1 }
def k12c2 : Code := { maxStack := 3, maxLocals := 1, code := jdk_67_method_42_code, exceptionTable := #[], attributes := #[] }
def k12m2 : Method := { name := "toString", desc := "()Ljava/lang/String;", sig := { parameters := [], returnType := some (.object "java/lang/String") }, accessFlags := 1, code := some k12c2 }
def k12c3 : Code := { maxStack := 1, maxLocals := 1, code := jdk_67_method_93_code, exceptionTable := #[], attributes := #[] }
def k12m3 : Method := { name := "length", desc := "()I", sig := { parameters := [], returnType := some .int }, accessFlags := 4161, code := some k12c3 }
/-- java/lang/StringBuilder -/
def k12 : Class := { plain "java/lang/StringBuilder" (some 11) with
  accessFlags := 49
  interfaces := #[10, 2, 3, 4]
  cf := some (fileOf pool12 24 #[] #[{ accessFlags := 1, nameIndex := 5, descriptorIndex := 145, attributes := #[] }, { accessFlags := 1, nameIndex := 27, descriptorIndex := 28, attributes := #[] }, { accessFlags := 1, nameIndex := 399, descriptorIndex := 400, attributes := #[] }, { accessFlags := 4161, nameIndex := 345, descriptorIndex := 156, attributes := #[] }] 49 2 #[349, 351, 353, 355] #[{ accessFlags := 24, nameIndex := 357, descriptorIndex := 358, attributes := #[] }])
  fields := #[{ name := "serialVersionUID", type := .long, accessFlags := 24, slot := 0, constantValue := 0 }]
  methods := #[k12m0, k12m1, k12m2, k12m3]
  instanceTypes := #[(.array .byte), .byte, .boolean, .int]
  staticTypes := #[.long]
  resolved := Array.replicate 422 none
  statics := none }

def pool13 : Array CpInfo := pool [(2, .class_ 4), (1, u "java/lang/Object"), (0, u "<init>"), (0, u "()V"), (1, .class_ 10), (1, u "java/lang/System"), (0, u "allowSecurityManager"), (0, u "I"), (16, u "cons"), (0, u "Ljava/io/Console;"), (77, .class_ 110), (1, u "java/lang/System$CallersHolder"), (43, u "initialErrStream"), (0, u "Ljava/io/PrintStream;"), (19, u "security"), (0, u "Ljava/lang/SecurityManager;"), (31, .class_ 209), (0, u "java/lang/System$1"), (7, u "props"), (0, u "Ljava/util/Properties;"), (2, u "lineSeparator"), (0, u "Ljava/lang/String;"), (96, .class_ 321), (1, u "java/lang/System$LoggerFinder"), (5, .class_ 328), (0, u "java/lang/System$Logger"), (67, u "err"), (2, u "out"), (91, u "notSupportedJnuEncoding"), (15, u "in"), (17, u "initialIn"), (0, u "Ljava/io/InputStream;"), (35, u "bootLayer"), (0, u "Ljava/lang/ModuleLayer;"), (99, .class_ 664), (0, u "java/lang/System$2"), (9, u "NEVER"), (2, u "MAYBE"), (49, u "arraycopy"), (0, u "(Ljava/lang/Object;ILjava/lang/Object;II)V"), (72, .class_ 802), (0, u "java/lang/System$Logger$Level")] 31

def k13m0 : Method := { name := "<init>", desc := "()V", sig := { parameters := [], returnType := none }, accessFlags := 2, code := none }
def k13m1 : Method := { name := "arraycopy", desc := "(Ljava/lang/Object;ILjava/lang/Object;II)V", sig := { parameters := [(.object "java/lang/Object"), .int, (.object "java/lang/Object"), .int, .int], returnType := none }, accessFlags := 265, code := none }
/-- java/lang/System -/
def k13 : Class := { plain "java/lang/System" (some 0) with
  accessFlags := 49
  interfaces := #[]
  cf := some (fileOf pool13 8 #[.nestMembers #[319, 327, 801, 108, 663, 208]] #[{ accessFlags := 2, nameIndex := 5, descriptorIndex := 6, attributes := #[] }, { accessFlags := 265, nameIndex := 727, descriptorIndex := 728, attributes := #[] }] 49 2 #[] #[{ accessFlags := 25, nameIndex := 507, descriptorIndex := 526, attributes := #[] }, { accessFlags := 25, nameIndex := 399, descriptorIndex := 155, attributes := #[] }, { accessFlags := 25, nameIndex := 396, descriptorIndex := 155, attributes := #[] }, { accessFlags := 10, nameIndex := 525, descriptorIndex := 526, attributes := #[] }, { accessFlags := 26, nameIndex := 674, descriptorIndex := 12, attributes := #[] }, { accessFlags := 26, nameIndex := 677, descriptorIndex := 12, attributes := #[] }, { accessFlags := 10, nameIndex := 11, descriptorIndex := 12, attributes := #[] }, { accessFlags := 74, nameIndex := 175, descriptorIndex := 176, attributes := #[] }, { accessFlags := 10, nameIndex := 491, descriptorIndex := 222, attributes := #[] }, { accessFlags := 74, nameIndex := 29, descriptorIndex := 30, attributes := #[] }, { accessFlags := 74, nameIndex := 154, descriptorIndex := 155, attributes := #[] }, { accessFlags := 10, nameIndex := 217, descriptorIndex := 218, attributes := #[] }, { accessFlags := 10, nameIndex := 221, descriptorIndex := 222, attributes := #[] }, { accessFlags := 8, nameIndex := 562, descriptorIndex := 563, attributes := #[] }])
  fields := #[{ name := "in", type := (.object "java/io/InputStream"), accessFlags := 25, slot := 0, constantValue := 0 }, { name := "out", type := (.object "java/io/PrintStream"), accessFlags := 25, slot := 1, constantValue := 0 }, { name := "err", type := (.object "java/io/PrintStream"), accessFlags := 25, slot := 2, constantValue := 0 }, { name := "initialIn", type := (.object "java/io/InputStream"), accessFlags := 10, slot := 3, constantValue := 0 }, { name := "NEVER", type := .int, accessFlags := 26, slot := 4, constantValue := 0 }, { name := "MAYBE", type := .int, accessFlags := 26, slot := 5, constantValue := 0 }, { name := "allowSecurityManager", type := .int, accessFlags := 10, slot := 6, constantValue := 0 }, { name := "security", type := (.object "java/lang/SecurityManager"), accessFlags := 74, slot := 7, constantValue := 0 }, { name := "notSupportedJnuEncoding", type := (.object "java/lang/String"), accessFlags := 10, slot := 8, constantValue := 0 }, { name := "cons", type := (.object "java/io/Console"), accessFlags := 74, slot := 9, constantValue := 0 }, { name := "initialErrStream", type := (.object "java/io/PrintStream"), accessFlags := 74, slot := 10, constantValue := 0 }, { name := "props", type := (.object "java/util/Properties"), accessFlags := 10, slot := 11, constantValue := 0 }, { name := "lineSeparator", type := (.object "java/lang/String"), accessFlags := 10, slot := 12, constantValue := 0 }, { name := "bootLayer", type := (.object "java/lang/ModuleLayer"), accessFlags := 8, slot := 13, constantValue := 0 }]
  methods := #[k13m0, k13m1]
  instanceTypes := #[]
  staticTypes := #[(.object "java/io/InputStream"), (.object "java/io/PrintStream"), (.object "java/io/PrintStream"), (.object "java/io/InputStream"), .int, .int, .int, (.object "java/lang/SecurityManager"), (.object "java/lang/String"), (.object "java/io/Console"), (.object "java/io/PrintStream"), (.object "java/util/Properties"), (.object "java/lang/String"), (.object "java/lang/ModuleLayer")]
  resolved := Array.replicate 834 none
  statics := none }

def pool14 : Array CpInfo := pool [(2, .class_ 4), (1, u "java/lang/Object"), (0, u "<init>"), (0, u "()V"), (7, .class_ 16), (1, u "java/util/Arrays"), (57, .class_ 76), (1, u "java/util/Arrays$NaturalOrder"), (36, .class_ 115), (1, u "java/util/Arrays$LegacyMergeSort"), (1, u "Z"), (21, u "copyOfRange"), (10, .methodref 151 152), (0, .class_ 153), (0, .nameAndType 154 155), (0, u "java/lang/System"), (0, u "arraycopy"), (0, u "(Ljava/lang/Object;ILjava/lang/Object;II)V"), (146, u "copyOf"), (1, .methodref 305 306), (0, .class_ 307), (0, .nameAndType 308 309), (0, u "java/lang/Math"), (0, u "min"), (0, u "(II)I"), (29, .methodref 14 340), (0, .nameAndType 341 342), (0, u "copyOfRangeByte"), (0, u "([BII)[B"), (0, .methodref 14 344), (0, .nameAndType 345 346), (0, u "checkLength"), (0, u "(II)V"), (28, .class_ 376), (0, u "java/util/Arrays$ArrayList"), (68, u "$assertionsDisabled"), (269, u "MIN_ARRAY_SORT_GRAN"), (0, u "I"), (2, u "INSERTIONSORT_THRESHOLD"), (149, u "([BI)[B"), (105, .class_ 976), (0, u "java/util/Arrays$ArrayItr")] 52

def k14m0 : Method := { name := "<init>", desc := "()V", sig := { parameters := [], returnType := none }, accessFlags := 2, code := none }
def k14c1 : Code := { maxStack := 6, maxLocals := 3, code := jdk_65_method_121_code, exceptionTable := #[], attributes := #[] }
def k14m1 : Method := { name := "copyOf", desc := "([BI)[B", sig := { parameters := [(.array .byte), .int], returnType := some (.array .byte) }, accessFlags := 9, code := some k14c1 }
def k14c2 : Code := { maxStack := 4, maxLocals := 2, code := jdk_65_method_131_code, exceptionTable := #[], attributes := #[] }
def k14m2 : Method := { name := "checkLength", desc := "(II)V", sig := { parameters := [.int, .int], returnType := none }, accessFlags := 10, code := some k14c2 }
def k14c3 : Code := { maxStack := 3, maxLocals := 3, code := jdk_65_method_132_code, exceptionTable := #[], attributes := #[] }
def k14m3 : Method := { name := "copyOfRange", desc := "([BII)[B", sig := { parameters := [(.array .byte), .int, .int], returnType := some (.array .byte) }, accessFlags := 9, code := some k14c3 }
def k14c4 : Code := { maxStack := 6, maxLocals := 5, code := jdk_65_method_133_code, exceptionTable := #[], attributes := #[] }
def k14m4 : Method := { name := "copyOfRangeByte", desc := "([BII)[B", sig := { parameters := [(.array .byte), .int, .int], returnType := some (.array .byte) }, accessFlags := 10, code := some k14c4 }
/-- java/util/Arrays -/
def k14 : Class := { plain "java/util/Arrays" (some 0) with
  accessFlags := 49
  interfaces := #[]
  cf := some (fileOf pool14 14 #[.nestMembers #[975, 375, 113, 74]] #[{ accessFlags := 2, nameIndex := 5, descriptorIndex := 6, attributes := #[] }, { accessFlags := 9, nameIndex := 302, descriptorIndex := 869, attributes := #[] }, { accessFlags := 10, nameIndex := 345, descriptorIndex := 346, attributes := #[] }, { accessFlags := 9, nameIndex := 139, descriptorIndex := 342, attributes := #[] }, { accessFlags := 10, nameIndex := 341, descriptorIndex := 342, attributes := #[] }] 49 2 #[] #[{ accessFlags := 26, nameIndex := 715, descriptorIndex := 716, attributes := #[] }, { accessFlags := 26, nameIndex := 719, descriptorIndex := 716, attributes := #[] }, { accessFlags := 4120, nameIndex := 445, descriptorIndex := 117, attributes := #[] }])
  fields := #[{ name := "MIN_ARRAY_SORT_GRAN", type := .int, accessFlags := 26, slot := 0, constantValue := 0 }, { name := "INSERTIONSORT_THRESHOLD", type := .int, accessFlags := 26, slot := 1, constantValue := 0 }, { name := "$assertionsDisabled", type := .boolean, accessFlags := 4120, slot := 2, constantValue := 0 }]
  methods := #[k14m0, k14m1, k14m2, k14m3, k14m4]
  instanceTypes := #[]
  staticTypes := #[.int, .int, .boolean]
  resolved := Array.replicate 1029 none
  statics := none }

def pool15 : Array CpInfo := pool [(1, .class_ 2), (0, u "java/lang/Math"), (1, .class_ 6), (1, u "java/lang/Object"), (0, u "<init>"), (0, u "()V"), (89, .class_ 100), (1, u "java/lang/Math$RandomNumberGeneratorHolder"), (71, u "negativeZeroFloatBits"), (0, u "J"), (2, u "negativeZeroDoubleBits"), (21, u "max"), (2, u "min"), (43, u "$assertionsDisabled"), (0, u "Z"), (88, u "(II)I"), (2, u "twoToTheDoubleScaleDown"), (0, u "D"), (4, u "twoToTheDoubleScaleUp"), (9, u "E"), (3, u "PI"), (2, u "TAU"), (2, u "DEGREES_TO_RADIANS"), (0, u "RADIANS_TO_DEGREES")] 94

def k15m0 : Method := { name := "<init>", desc := "()V", sig := { parameters := [], returnType := none }, accessFlags := 2, code := none }
def k15c1 : Code := { maxStack := 2, maxLocals := 2, code := jdk_29_method_65_code, exceptionTable := #[], attributes := #[] }
def k15m1 : Method := { name := "max", desc := "(II)I", sig := { parameters := [.int, .int], returnType := some .int }, accessFlags := 9, code := some k15c1 }
def k15c2 : Code := { maxStack := 2, maxLocals := 2, code := jdk_29_method_69_code, exceptionTable := #[], attributes := #[] }
def k15m2 : Method := { name := "min", desc := "(II)I", sig := { parameters := [.int, .int], returnType := some .int }, accessFlags := 9, code := some k15c2 }
/-- java/lang/Math -/
def k15 : Class := { plain "java/lang/Math" (some 0) with
  accessFlags := 49
  interfaces := #[]
  cf := some (fileOf pool15 1 #[.nestMembers #[98]] #[{ accessFlags := 2, nameIndex := 7, descriptorIndex := 8, attributes := #[] }, { accessFlags := 9, nameIndex := 198, descriptorIndex := 335, attributes := #[] }, { accessFlags := 9, nameIndex := 201, descriptorIndex := 335, attributes := #[] }] 49 4 #[] #[{ accessFlags := 25, nameIndex := 354, descriptorIndex := 339, attributes := #[] }, { accessFlags := 25, nameIndex := 358, descriptorIndex := 339, attributes := #[] }, { accessFlags := 25, nameIndex := 361, descriptorIndex := 339, attributes := #[] }, { accessFlags := 26, nameIndex := 364, descriptorIndex := 339, attributes := #[] }, { accessFlags := 26, nameIndex := 365, descriptorIndex := 339, attributes := #[] }, { accessFlags := 26, nameIndex := 172, descriptorIndex := 173, attributes := #[] }, { accessFlags := 26, nameIndex := 176, descriptorIndex := 173, attributes := #[] }, { accessFlags := 8, nameIndex := 344, descriptorIndex := 339, attributes := #[] }, { accessFlags := 8, nameIndex := 338, descriptorIndex := 339, attributes := #[] }, { accessFlags := 4120, nameIndex := 245, descriptorIndex := 246, attributes := #[] }])
  fields := #[{ name := "E", type := .double, accessFlags := 25, slot := 0, constantValue := 0 }, { name := "PI", type := .double, accessFlags := 25, slot := 1, constantValue := 0 }, { name := "TAU", type := .double, accessFlags := 25, slot := 2, constantValue := 0 }, { name := "DEGREES_TO_RADIANS", type := .double, accessFlags := 26, slot := 3, constantValue := 0 }, { name := "RADIANS_TO_DEGREES", type := .double, accessFlags := 26, slot := 4, constantValue := 0 }, { name := "negativeZeroFloatBits", type := .long, accessFlags := 26, slot := 5, constantValue := 0 }, { name := "negativeZeroDoubleBits", type := .long, accessFlags := 26, slot := 6, constantValue := 0 }, { name := "twoToTheDoubleScaleUp", type := .double, accessFlags := 8, slot := 7, constantValue := 0 }, { name := "twoToTheDoubleScaleDown", type := .double, accessFlags := 8, slot := 8, constantValue := 0 }, { name := "$assertionsDisabled", type := .boolean, accessFlags := 4120, slot := 9, constantValue := 0 }]
  methods := #[k15m0, k15m1, k15m2]
  instanceTypes := #[]
  staticTypes := #[.double, .double, .double, .double, .double, .long, .long, .double, .double, .boolean]
  resolved := Array.replicate 460 none
  statics := none }

def pool16 : Array CpInfo := pool [(9, u "<init>"), (6, .class_ 18), (1, u "java/lang/Object"), (0, u "()V"), (1, .class_ 23), (1, u "jdk/internal/util/ArraysSupport"), (0, u "LOG2_ARRAY_LONG_INDEX_SCALE"), (0, u "I"), (2, u "U"), (0, u "Ljdk/internal/misc/Unsafe;"), (8, u "BIG_ENDIAN"), (0, u "Z"), (8, u "LOG2_BYTE_BIT_SIZE"), (4, u "LOG2_ARRAY_INT_INDEX_SCALE"), (54, u "JLA"), (0, u "Ljdk/internal/access/JavaLangAccess;"), (11, u "LOG2_ARRAY_BOOLEAN_INDEX_SCALE"), (9, u "LOG2_ARRAY_BYTE_INDEX_SCALE"), (5, u "LOG2_ARRAY_CHAR_INDEX_SCALE"), (5, u "LOG2_ARRAY_SHORT_INDEX_SCALE"), (18, u "LOG2_ARRAY_FLOAT_INDEX_SCALE"), (24, u "LOG2_ARRAY_DOUBLE_INDEX_SCALE"), (6, .methodref 195 196), (0, .class_ 197), (0, .nameAndType 198 199), (0, u "java/lang/Math"), (0, u "max"), (0, u "(II)I"), (0, .integer 2147483639), (76, u "T_BOOLEAN"), (2, u "T_CHAR"), (1, u "T_FLOAT"), (1, u "T_DOUBLE"), (1, u "T_BYTE"), (1, u "T_SHORT"), (1, u "T_INT"), (1, u "T_LONG"), (1, u "SOFT_MAX_ARRAY_LENGTH"), (56, u "newLength"), (0, u "(III)I")] 25

def k16m0 : Method := { name := "<init>", desc := "()V", sig := { parameters := [], returnType := none }, accessFlags := 2, code := none }
def k16c1 : Code := { maxStack := 3, maxLocals := 4, code := jdk_48_method_27_code, exceptionTable := #[], attributes := #[] }
def k16m1 : Method := { name := "newLength", desc := "(III)I", sig := { parameters := [.int, .int, .int], returnType := some .int }, accessFlags := 9, code := some k16c1 }
/-- jdk/internal/util/ArraysSupport -/
def k16 : Class := { plain "jdk/internal/util/ArraysSupport" (some 0) with
  accessFlags := 33
  interfaces := #[]
  cf := some (fileOf pool16 21 #[] #[{ accessFlags := 2, nameIndex := 9, descriptorIndex := 19, attributes := #[] }, { accessFlags := 9, nameIndex := 351, descriptorIndex := 352, attributes := #[] }] 33 16 #[] #[{ accessFlags := 24, nameIndex := 28, descriptorIndex := 29, attributes := #[] }, { accessFlags := 26, nameIndex := 38, descriptorIndex := 39, attributes := #[] }, { accessFlags := 25, nameIndex := 121, descriptorIndex := 25, attributes := #[] }, { accessFlags := 25, nameIndex := 131, descriptorIndex := 25, attributes := #[] }, { accessFlags := 25, nameIndex := 137, descriptorIndex := 25, attributes := #[] }, { accessFlags := 25, nameIndex := 143, descriptorIndex := 25, attributes := #[] }, { accessFlags := 25, nameIndex := 53, descriptorIndex := 25, attributes := #[] }, { accessFlags := 25, nameIndex := 24, descriptorIndex := 25, attributes := #[] }, { accessFlags := 25, nameIndex := 162, descriptorIndex := 25, attributes := #[] }, { accessFlags := 25, nameIndex := 187, descriptorIndex := 25, attributes := #[] }, { accessFlags := 26, nameIndex := 48, descriptorIndex := 25, attributes := #[] }, { accessFlags := 25, nameIndex := 277, descriptorIndex := 25, attributes := #[] }, { accessFlags := 25, nameIndex := 280, descriptorIndex := 25, attributes := #[] }, { accessFlags := 25, nameIndex := 282, descriptorIndex := 25, attributes := #[] }, { accessFlags := 25, nameIndex := 284, descriptorIndex := 25, attributes := #[] }, { accessFlags := 25, nameIndex := 286, descriptorIndex := 25, attributes := #[] }, { accessFlags := 25, nameIndex := 288, descriptorIndex := 25, attributes := #[] }, { accessFlags := 25, nameIndex := 290, descriptorIndex := 25, attributes := #[] }, { accessFlags := 25, nameIndex := 292, descriptorIndex := 25, attributes := #[] }, { accessFlags := 26, nameIndex := 108, descriptorIndex := 109, attributes := #[] }, { accessFlags := 25, nameIndex := 294, descriptorIndex := 25, attributes := #[] }])
  fields := #[{ name := "U", type := (.object "jdk/internal/misc/Unsafe"), accessFlags := 24, slot := 0, constantValue := 0 }, { name := "BIG_ENDIAN", type := .boolean, accessFlags := 26, slot := 1, constantValue := 0 }, { name := "LOG2_ARRAY_BOOLEAN_INDEX_SCALE", type := .int, accessFlags := 25, slot := 2, constantValue := 0 }, { name := "LOG2_ARRAY_BYTE_INDEX_SCALE", type := .int, accessFlags := 25, slot := 3, constantValue := 0 }, { name := "LOG2_ARRAY_CHAR_INDEX_SCALE", type := .int, accessFlags := 25, slot := 4, constantValue := 0 }, { name := "LOG2_ARRAY_SHORT_INDEX_SCALE", type := .int, accessFlags := 25, slot := 5, constantValue := 0 }, { name := "LOG2_ARRAY_INT_INDEX_SCALE", type := .int, accessFlags := 25, slot := 6, constantValue := 0 }, { name := "LOG2_ARRAY_LONG_INDEX_SCALE", type := .int, accessFlags := 25, slot := 7, constantValue := 0 }, { name := "LOG2_ARRAY_FLOAT_INDEX_SCALE", type := .int, accessFlags := 25, slot := 8, constantValue := 0 }, { name := "LOG2_ARRAY_DOUBLE_INDEX_SCALE", type := .int, accessFlags := 25, slot := 9, constantValue := 0 }, { name := "LOG2_BYTE_BIT_SIZE", type := .int, accessFlags := 26, slot := 10, constantValue := 0 }, { name := "T_BOOLEAN", type := .int, accessFlags := 25, slot := 11, constantValue := 0 }, { name := "T_CHAR", type := .int, accessFlags := 25, slot := 12, constantValue := 0 }, { name := "T_FLOAT", type := .int, accessFlags := 25, slot := 13, constantValue := 0 }, { name := "T_DOUBLE", type := .int, accessFlags := 25, slot := 14, constantValue := 0 }, { name := "T_BYTE", type := .int, accessFlags := 25, slot := 15, constantValue := 0 }, { name := "T_SHORT", type := .int, accessFlags := 25, slot := 16, constantValue := 0 }, { name := "T_INT", type := .int, accessFlags := 25, slot := 17, constantValue := 0 }, { name := "T_LONG", type := .int, accessFlags := 25, slot := 18, constantValue := 0 }, { name := "JLA", type := (.object "jdk/internal/access/JavaLangAccess"), accessFlags := 26, slot := 19, constantValue := 0 }, { name := "SOFT_MAX_ARRAY_LENGTH", type := .int, accessFlags := 25, slot := 20, constantValue := 0 }]
  methods := #[k16m0, k16m1]
  instanceTypes := #[]
  staticTypes := #[(.object "jdk/internal/misc/Unsafe"), .boolean, .int, .int, .int, .int, .int, .int, .int, .int, .int, .int, .int, .int, .int, .int, .int, .int, .int, (.object "jdk/internal/access/JavaLangAccess"), .int]
  resolved := Array.replicate 378 none
  statics := none }

def pool17 : Array CpInfo := pool [(2, .class_ 4), (1, u "java/lang/Object"), (0, u "<init>"), (0, u "()V"), (17, .class_ 26), (1, u "jdk/internal/util/Preconditions"), (6, u "checkIndex"), (21, .class_ 56), (0, u "jdk/internal/util/Preconditions$4"), (57, .class_ 115), (0, u "jdk/internal/util/Preconditions$1"), (7, u "SIOOBE_FORMATTER"), (0, u "Ljava/util/function/BiFunction;"), (0, .class_ 126), (0, u "jdk/internal/util/Preconditions$2"), (3, u "AIOOBE_FORMATTER"), (0, .class_ 132), (0, u "jdk/internal/util/Preconditions$3"), (3, u "IOOBE_FORMATTER"), (41, u "(IILjava/util/function/BiFunction;)I")] 15

def k17m0 : Method := { name := "<init>", desc := "()V", sig := { parameters := [], returnType := none }, accessFlags := 1, code := none }
def k17c1 : Code := { maxStack := 3, maxLocals := 3, code := jdk_41_method_11_code, exceptionTable := #[], attributes := #[] }
def k17m1 : Method := { name := "checkIndex", desc := "(IILjava/util/function/BiFunction;)I", sig := { parameters := [.int, .int, (.object "java/util/function/BiFunction")], returnType := some .int }, accessFlags := 9, code := some k17c1 }
/-- jdk/internal/util/Preconditions -/
def k17 : Class := { plain "jdk/internal/util/Preconditions" (some 0) with
  accessFlags := 33
  interfaces := #[]
  cf := some (fileOf pool17 24 #[.nestMembers #[55, 131, 125, 114]] #[{ accessFlags := 1, nameIndex := 5, descriptorIndex := 6, attributes := #[] }, { accessFlags := 9, nameIndex := 33, descriptorIndex := 178, attributes := #[] }] 33 2 #[] #[{ accessFlags := 25, nameIndex := 123, descriptorIndex := 124, attributes := #[] }, { accessFlags := 25, nameIndex := 130, descriptorIndex := 124, attributes := #[] }, { accessFlags := 25, nameIndex := 136, descriptorIndex := 124, attributes := #[] }])
  fields := #[{ name := "SIOOBE_FORMATTER", type := (.object "java/util/function/BiFunction"), accessFlags := 25, slot := 0, constantValue := 0 }, { name := "AIOOBE_FORMATTER", type := (.object "java/util/function/BiFunction"), accessFlags := 25, slot := 1, constantValue := 0 }, { name := "IOOBE_FORMATTER", type := (.object "java/util/function/BiFunction"), accessFlags := 25, slot := 2, constantValue := 0 }]
  methods := #[k17m0, k17m1]
  instanceTypes := #[]
  staticTypes := #[(.object "java/util/function/BiFunction"), (.object "java/util/function/BiFunction"), (.object "java/util/function/BiFunction")]
  resolved := Array.replicate 194 none
  statics := some 1 }

def pool18 : Array CpInfo := pool [(6, .class_ 8), (1, u "java/lang/Object"), (0, u "<init>"), (0, u "()V"), (1, .class_ 14), (1, u "java/lang/StringUTF16"), (31, u "$assertionsDisabled"), (0, u "Z"), (13, u "HI_BYTE_SHIFT"), (0, u "I"), (2, u "LO_BYTE_SHIFT"), (49, .methodref 12 116), (0, .nameAndType 117 118), (0, u "compress"), (0, u "([CI[BII)I"), (3, u "([CII)[B"), (138, u "coderFromArrayLen"), (0, u "([BI)B"), (106, .class_ 371), (1, u "java/lang/StringUTF16$LinesSpliterator"), (58, u "MAX_LENGTH"), (196, .class_ 628), (0, u "java/lang/StringUTF16$CodePointsSpliterator"), (0, .class_ 630), (0, u "java/lang/StringUTF16$CharsSpliterator")] 4

def k18m0 : Method := { name := "<init>", desc := "()V", sig := { parameters := [], returnType := none }, accessFlags := 0, code := none }
def k18c1 : Code := { maxStack := 2, maxLocals := 2, code := jdk_52_method_15_code, exceptionTable := #[], attributes := #[] }
def k18m1 : Method := { name := "coderFromArrayLen", desc := "([BI)B", sig := { parameters := [(.array .byte), .int], returnType := some .byte }, accessFlags := 8, code := some k18c1 }
def k18c2 : Code := { maxStack := 5, maxLocals := 6, code := jdk_52_method_16_code, exceptionTable := #[], attributes := #[] }
def k18m2 : Method := { name := "compress", desc := "([CII)[B", sig := { parameters := [(.array .char), .int, .int], returnType := some (.array .byte) }, accessFlags := 9, code := some k18c2 }
def k18c3 : Code := { maxStack := 3, maxLocals := 7, code := jdk_52_method_21_code, exceptionTable := #[], attributes := #[] }
def k18m3 : Method := { name := "compress", desc := "([CI[BII)I", sig := { parameters := [(.array .char), .int, (.array .byte), .int, .int], returnType := some .int }, accessFlags := 9, code := some k18c3 }
/-- java/lang/StringUTF16 -/
def k18 : Class := { plain "java/lang/StringUTF16" (some 0) with
  accessFlags := 48
  interfaces := #[]
  cf := some (fileOf pool18 12 #[.nestMembers #[627, 629, 369]] #[{ accessFlags := 0, nameIndex := 9, descriptorIndex := 10, attributes := #[] }, { accessFlags := 8, nameIndex := 261, descriptorIndex := 262, attributes := #[] }, { accessFlags := 9, nameIndex := 117, descriptorIndex := 122, attributes := #[] }, { accessFlags := 9, nameIndex := 117, descriptorIndex := 118, attributes := #[] }] 48 6 #[] #[{ accessFlags := 26, nameIndex := 61, descriptorIndex := 62, attributes := #[] }, { accessFlags := 26, nameIndex := 65, descriptorIndex := 62, attributes := #[] }, { accessFlags := 24, nameIndex := 430, descriptorIndex := 62, attributes := #[] }, { accessFlags := 4120, nameIndex := 46, descriptorIndex := 47, attributes := #[] }])
  fields := #[{ name := "HI_BYTE_SHIFT", type := .int, accessFlags := 26, slot := 0, constantValue := 0 }, { name := "LO_BYTE_SHIFT", type := .int, accessFlags := 26, slot := 1, constantValue := 0 }, { name := "MAX_LENGTH", type := .int, accessFlags := 24, slot := 2, constantValue := 0 }, { name := "$assertionsDisabled", type := .boolean, accessFlags := 4120, slot := 3, constantValue := 0 }]
  methods := #[k18m0, k18m1, k18m2, k18m3]
  instanceTypes := #[]
  staticTypes := #[.int, .int, .int, .boolean]
  resolved := Array.replicate 635 none
  statics := none }

def pool19 : Array CpInfo := pool [(1, u "java/lang/Cloneable"), (0, .class_ 1), (0, u "java/lang/Object"), (0, .class_ 3)] 3

/-- java/lang/Cloneable -/
def k19 : Class := { plain "java/lang/Cloneable" (some 0) with
  accessFlags := 1537
  interfaces := #[]
  cf := some (fileOf pool19 2 #[] #[] 1537 4 #[] #[])
  fields := #[]
  methods := #[]
  instanceTypes := #[]
  staticTypes := #[]
  resolved := Array.replicate 8 none
  statics := none }

/-- the primitive byte -/
def k20 : Class := { plain "byte" none with kind := .primitive 'B', accessFlags := 0x411 }
/-- [B -/
def k21 : Class := { plain "[B" (some 0) with kind := .array 20 .byte, interfaces := #[19, 2], accessFlags := 1041 }

/-- the primitive char -/
def k22 : Class := { plain "char" none with kind := .primitive 'C', accessFlags := 0x411 }
/-- [C -/
def k23 : Class := { plain "[C" (some 0) with kind := .array 22 .char, interfaces := #[19, 2], accessFlags := 1041 }

/-- the primitive int -/
def k24 : Class := { plain "int" none with kind := .primitive 'I', accessFlags := 0x411 }
/-- [I -/
def k25 : Class := { plain "[I" (some 0) with kind := .array 24 .int, interfaces := #[19, 2], accessFlags := 1041 }

def heap : Heap := #[{ cls := 7, slots := #[.long 0, .int 1, .null, .int 0, .null, .int 0, .int 0], vm := .statics 7 },
  { cls := 17, slots := #[.null, .null, .null], vm := .statics 17 }]
def classes : Array Class := #[k0, k1, k2, k3, k4, k5, k6, k7, k8, k9, k10, k11, k12, k13, k14, k15, k16, k17, k18, k19, k20, k21, k22, k23, k24, k25]
def interned : List (Array UInt16 × Addr) := []
def slotsUsed : Nat := 10
def theMethod : MethodId := ⟨1, 1⟩
def args0 : Array Value := #[.int 5, .int 3, .int 4407873, .int 3]
def aboutOver (below : List Frame) : State where
  vm := { classes := classes, interned := interned.toArray }
  heap := heap
  slotsUsed := slotsUsed
  threads := #[{ frames := .invoking theMethod args0 :: below }]
def below0 : List Frame := [.native { method := ⟨0, 0⟩, args := #[] }]
def about1 : State := aboutOver below0
def p0 : Program := .bare "" "" ""
def e0 : Env := launch0.env 0 0 0
theorem w_frames : about1.frames = Frame.invoking theMethod args0 :: below0 := rfl
set_option maxRecDepth 65536 in
theorem w_args : argsFit about1.vm theMethod args0 = true := by decide +kernel
set_option maxRecDepth 65536 in
theorem w_heap : heapFits about1 = true := by decide +kernel
set_option maxRecDepth 65536 in
theorem w_runnable : about1.curStatus? = some .runnable := by decide +kernel
set_option maxRecDepth 65536 in
theorem w_alone : about1.alone = true := by decide +kernel
set_option maxRecDepth 65536 in
theorem w_named : about1.methodNamed? x = some theMethod := by decide +kernel
set_option maxRecDepth 65536 in
theorem w_hears : about1.hears theMethod below0 = true := by decide +kernel
set_option maxRecDepth 65536 in
theorem w_ripe : about1.ripe theMethod args0 below0 = true := by decide +kernel
theorem w_running : about1.status = .running := rfl
set_option maxRecDepth 65536 in
theorem w_room : about1.hasRoom e0.platform room_1 = true :=
  launch0.hasRoom_least _ room_1 (by decide +kernel) (by decide +kernel) (by decide +kernel) (by decide +kernel) (by decide +kernel) (by decide +kernel)
theorem allAtoms_all (ts : List Jvm.Cond) (a : Array Jvm.Value) (st : Jvm.State) : (allAtoms ts).before a st = ts.all (fun c => c.before a st) := by
  induction ts with
  | nil => rfl
  | cons c t ih =>
    show (Jvm.Cond.and c (allAtoms t)).before a st = _
    rw [Jvm.Cond.before_and, ih, List.all_cons]
def words1 : List Jvm.Cond := Jvm.Cond.code x code maxLocals ret :: tables_1
/-- a 'code' word, met by the world's own term for the bytes: nothing is compared byte by byte -/
theorem code_word {y : MethodName} {bytes : ByteArray} {mx : Nat} {rt : Option FieldType} {a : Array Value} {s : State} {m : MethodId} {meth : Method} {c : Code} (h1 : s.methodNamed? y = some m) (h2 : s.vm.method? m = some meth) (h3 : meth.code = some c) (h4 : c.code = bytes)
    (h5 : (c.maxLocals == mx && c.exceptionTable.isEmpty && decide (c.maxStack ≤ mostOperands) && decide (meth.sig.returnType = rt) && !meth.locks && decide (parseMethodDescriptor y.desc = some meth.sig)) = true) : (Jvm.Cond.code y bytes mx rt).before a s = true := by
  simp only [Bool.and_eq_true, beq_iff_eq, Bool.not_eq_true', decide_eq_true_eq] at h5
  obtain ⟨⟨⟨⟨⟨g1, g2⟩, g3⟩, g4⟩, g5⟩, g6⟩ := h5
  simp [Cond.before, Cond.holds, Cond.value, h1, h2, h3, h4, g1, g2, g3, g4, g5, g6]
def isCode : Jvm.Cond → Bool
  | .code _ _ _ _ => true
  | _ => false
theorem all_split {L : List Jvm.Cond} {P : Jvm.Cond → Bool} (h1 : L.all (fun c => isCode c || P c) = true) (h2 : ∀ c ∈ L.filter isCode, P c = true) : L.all P = true := by
  refine List.all_eq_true.mpr fun c hc => ?_
  have h := List.all_eq_true.mp h1 c hc
  rcases Bool.eq_false_or_eq_true (isCode c) with hi | hi
  · exact h2 c (List.mem_filter.mpr ⟨hc, hi⟩)
  · simpa [hi] using h
set_option maxRecDepth 65536 in
theorem w_c0 : (Jvm.Cond.code x code maxLocals ret).before args0 about1 = true := code_word (m := ⟨1, 1⟩) (meth := k1m1) (c := k1c1) (by decide +kernel) rfl rfl rfl (by decide +kernel)
set_option maxRecDepth 65536 in
theorem w_c1 : (Jvm.Cond.code ({ cls := "com/example/cardinal_tableau/cardinaltableau/model/RoleToStringPinLaw", name := "mk", desc := "(ICCC)Ljava/lang/String;" } : Jvm.MethodName) method_3_code (4 : Nat) (Option.some (Jvm.ClassFile.FieldType.object "java/lang/String"))).before args0 about1 = true := code_word (m := ⟨1, 2⟩) (meth := k1m2) (c := k1c2) (by decide +kernel) rfl rfl rfl (by decide +kernel)
set_option maxRecDepth 65536 in
theorem w_c2 : (Jvm.Cond.code ({ cls := "java/lang/String", name := "valueOf", desc := "(C)Ljava/lang/String;" } : Jvm.MethodName) jdk_42_method_139_code (1 : Nat) (Option.some (Jvm.ClassFile.FieldType.object "java/lang/String"))).before args0 about1 = true := code_word (m := ⟨7, 5⟩) (meth := k7m5) (c := k7c5) (by decide +kernel) rfl rfl rfl (by decide +kernel)
set_option maxRecDepth 65536 in
theorem w_c3 : (Jvm.Cond.code ({ cls := "java/lang/StringLatin1", name := "canEncode", desc := "(C)Z" } : Jvm.MethodName) jdk_43_method_3_code (1 : Nat) (Option.some Jvm.ClassFile.FieldType.boolean)).before args0 about1 = true := code_word (m := ⟨8, 2⟩) (meth := k8m2) (c := k8c2) (by decide +kernel) rfl rfl rfl (by decide +kernel)
set_option maxRecDepth 65536 in
theorem w_c4 : (Jvm.Cond.code ({ cls := "java/lang/StringLatin1", name := "toBytes", desc := "(C)[B" } : Jvm.MethodName) jdk_43_method_46_code (1 : Nat) (Option.some (Jvm.ClassFile.FieldType.array Jvm.ClassFile.FieldType.byte))).before args0 about1 = true := code_word (m := ⟨8, 3⟩) (meth := k8m3) (c := k8c3) (by decide +kernel) rfl rfl rfl (by decide +kernel)
set_option maxRecDepth 65536 in
theorem w_c5 : (Jvm.Cond.code ({ cls := "java/lang/String", name := "<init>", desc := "([BB)V" } : Jvm.MethodName) jdk_42_method_151_code (3 : Nat) (Option.none : Option Jvm.ClassFile.FieldType)).before args0 about1 = true := code_word (m := ⟨7, 9⟩) (meth := k7m9) (c := k7c9) (by decide +kernel) rfl rfl rfl (by decide +kernel)
set_option maxRecDepth 65536 in
theorem w_c6 : (Jvm.Cond.code ({ cls := "java/lang/Object", name := "<init>", desc := "()V" } : Jvm.MethodName) object_method_1_code (1 : Nat) (Option.none : Option Jvm.ClassFile.FieldType)).before args0 about1 = true := code_word (m := ⟨0, 0⟩) (meth := k0m0) (c := k0c0) (by decide +kernel) rfl rfl rfl (by decide +kernel)
set_option maxRecDepth 65536 in
theorem w_c7 : (Jvm.Cond.code ({ cls := "com/example/cardinal_tableau/cardinaltableau/model/Role", name := "<init>", desc := "(ILjava/lang/String;)V" } : Jvm.MethodName) prog_21_method_1_code (3 : Nat) (Option.none : Option Jvm.ClassFile.FieldType)).before args0 about1 = true := code_word (m := ⟨9, 0⟩) (meth := k9m0) (c := k9c0) (by decide +kernel) rfl rfl rfl (by decide +kernel)
set_option maxRecDepth 65536 in
theorem w_c8 : (Jvm.Cond.code ({ cls := "com/example/cardinal_tableau/cardinaltableau/model/Role", name := "setInverse", desc := "(Lcom/example/cardinal_tableau/cardinaltableau/model/Role;)V" } : Jvm.MethodName) prog_21_method_5_code (2 : Nat) (Option.none : Option Jvm.ClassFile.FieldType)).before args0 about1 = true := code_word (m := ⟨9, 1⟩) (meth := k9m1) (c := k9c1) (by decide +kernel) rfl rfl rfl (by decide +kernel)
set_option maxRecDepth 65536 in
theorem w_c9 : (Jvm.Cond.code ({ cls := "com/example/cardinal_tableau/cardinaltableau/model/Role", name := "toString", desc := "()Ljava/lang/String;" } : Jvm.MethodName) prog_21_method_8_code (2 : Nat) (Option.some (Jvm.ClassFile.FieldType.object "java/lang/String"))).before args0 about1 = true := code_word (m := ⟨9, 3⟩) (meth := k9m3) (c := k9c3) (by decide +kernel) rfl rfl rfl (by decide +kernel)
set_option maxRecDepth 65536 in
theorem w_c10 : (Jvm.Cond.code ({ cls := "java/lang/StringBuilder", name := "<init>", desc := "()V" } : Jvm.MethodName) jdk_67_method_1_code (1 : Nat) (Option.none : Option Jvm.ClassFile.FieldType)).before args0 about1 = true := code_word (m := ⟨12, 0⟩) (meth := k12m0) (c := k12c0) (by decide +kernel) rfl rfl rfl (by decide +kernel)
set_option maxRecDepth 65536 in
theorem w_c11 : (Jvm.Cond.code ({ cls := "java/lang/AbstractStringBuilder", name := "<init>", desc := "(I)V" } : Jvm.MethodName) jdk_68_method_2_code (2 : Nat) (Option.none : Option Jvm.ClassFile.FieldType)).before args0 about1 = true := code_word (m := ⟨11, 1⟩) (meth := k11m1) (c := k11c1) (by decide +kernel) rfl rfl rfl (by decide +kernel)
set_option maxRecDepth 65536 in
theorem w_c12 : (Jvm.Cond.code ({ cls := "java/lang/StringBuilder", name := "append", desc := "(Ljava/lang/String;)Ljava/lang/StringBuilder;" } : Jvm.MethodName) jdk_67_method_7_code (2 : Nat) (Option.some (Jvm.ClassFile.FieldType.object "java/lang/StringBuilder"))).before args0 about1 = true := code_word (m := ⟨12, 1⟩) (meth := k12m1) (c := k12c1) (by decide +kernel) rfl rfl rfl (by decide +kernel)
set_option maxRecDepth 65536 in
theorem w_c13 : (Jvm.Cond.code ({ cls := "java/lang/AbstractStringBuilder", name := "append", desc := "(Ljava/lang/String;)Ljava/lang/AbstractStringBuilder;" } : Jvm.MethodName) jdk_68_method_22_code (3 : Nat) (Option.some (Jvm.ClassFile.FieldType.object "java/lang/AbstractStringBuilder"))).before args0 about1 = true := code_word (m := ⟨11, 5⟩) (meth := k11m5) (c := k11c5) (by decide +kernel) rfl rfl rfl (by decide +kernel)
set_option maxRecDepth 65536 in
theorem w_c14 : (Jvm.Cond.code ({ cls := "java/lang/String", name := "length", desc := "()I" } : Jvm.MethodName) jdk_42_method_54_code (1 : Nat) (Option.some Jvm.ClassFile.FieldType.int)).before args0 about1 = true := code_word (m := ⟨7, 3⟩) (meth := k7m3) (c := k7c3) (by decide +kernel) rfl rfl rfl (by decide +kernel)
set_option maxRecDepth 65536 in
theorem w_c15 : (Jvm.Cond.code ({ cls := "java/lang/String", name := "coder", desc := "()B" } : Jvm.MethodName) jdk_42_method_152_code (1 : Nat) (Option.some Jvm.ClassFile.FieldType.byte)).before args0 about1 = true := code_word (m := ⟨7, 10⟩) (meth := k7m10) (c := k7c10) (by decide +kernel) rfl rfl rfl (by decide +kernel)
set_option maxRecDepth 65536 in
theorem w_c16 : (Jvm.Cond.code ({ cls := "java/lang/AbstractStringBuilder", name := "ensureCapacityInternal", desc := "(I)V" } : Jvm.MethodName) jdk_68_method_9_code (3 : Nat) (Option.none : Option Jvm.ClassFile.FieldType)).before args0 about1 = true := code_word (m := ⟨11, 3⟩) (meth := k11m3) (c := k11c3) (by decide +kernel) rfl rfl rfl (by decide +kernel)
set_option maxRecDepth 65536 in
theorem w_c17 : (Jvm.Cond.code ({ cls := "java/lang/AbstractStringBuilder", name := "putStringAt", desc := "(ILjava/lang/String;)V" } : Jvm.MethodName) jdk_68_method_73_code (3 : Nat) (Option.none : Option Jvm.ClassFile.FieldType)).before args0 about1 = true := code_word (m := ⟨11, 9⟩) (meth := k11m9) (c := k11c9) (by decide +kernel) rfl rfl rfl (by decide +kernel)
set_option maxRecDepth 65536 in
theorem w_c18 : (Jvm.Cond.code ({ cls := "java/lang/AbstractStringBuilder", name := "inflateIfNeededFor", desc := "(Ljava/lang/String;)V" } : Jvm.MethodName) jdk_68_method_71_code (2 : Nat) (Option.none : Option Jvm.ClassFile.FieldType)).before args0 about1 = true := code_word (m := ⟨11, 8⟩) (meth := k11m8) (c := k11c8) (by decide +kernel) rfl rfl rfl (by decide +kernel)
set_option maxRecDepth 65536 in
theorem w_c19 : (Jvm.Cond.code ({ cls := "java/lang/String", name := "getBytes", desc := "([BIB)V" } : Jvm.MethodName) jdk_42_method_147_code (4 : Nat) (Option.none : Option Jvm.ClassFile.FieldType)).before args0 about1 = true := code_word (m := ⟨7, 6⟩) (meth := k7m6) (c := k7c6) (by decide +kernel) rfl rfl rfl (by decide +kernel)
set_option maxRecDepth 65536 in
theorem w_c20 : (Jvm.Cond.code ({ cls := "java/lang/StringBuilder", name := "toString", desc := "()Ljava/lang/String;" } : Jvm.MethodName) jdk_67_method_42_code (1 : Nat) (Option.some (Jvm.ClassFile.FieldType.object "java/lang/String"))).before args0 about1 = true := code_word (m := ⟨12, 2⟩) (meth := k12m2) (c := k12c2) (by decide +kernel) rfl rfl rfl (by decide +kernel)
set_option maxRecDepth 65536 in
theorem w_c21 : (Jvm.Cond.code ({ cls := "java/lang/String", name := "<init>", desc := "(Ljava/lang/StringBuilder;)V" } : Jvm.MethodName) jdk_42_method_53_code (2 : Nat) (Option.none : Option Jvm.ClassFile.FieldType)).before args0 about1 = true := code_word (m := ⟨7, 2⟩) (meth := k7m2) (c := k7c2) (by decide +kernel) rfl rfl rfl (by decide +kernel)
set_option maxRecDepth 65536 in
theorem w_c22 : (Jvm.Cond.code ({ cls := "java/lang/String", name := "<init>", desc := "(Ljava/lang/AbstractStringBuilder;Ljava/lang/Void;)V" } : Jvm.MethodName) jdk_42_method_150_code (5 : Nat) (Option.none : Option Jvm.ClassFile.FieldType)).before args0 about1 = true := code_word (m := ⟨7, 8⟩) (meth := k7m8) (c := k7c8) (by decide +kernel) rfl rfl rfl (by decide +kernel)
set_option maxRecDepth 65536 in
theorem w_c23 : (Jvm.Cond.code ({ cls := "java/lang/AbstractStringBuilder", name := "getValue", desc := "()[B" } : Jvm.MethodName) jdk_68_method_64_code (1 : Nat) (Option.some (Jvm.ClassFile.FieldType.array Jvm.ClassFile.FieldType.byte))).before args0 about1 = true := code_word (m := ⟨11, 6⟩) (meth := k11m6) (c := k11c6) (by decide +kernel) rfl rfl rfl (by decide +kernel)
set_option maxRecDepth 65536 in
theorem w_c24 : (Jvm.Cond.code ({ cls := "java/lang/StringBuilder", name := "length", desc := "()I" } : Jvm.MethodName) jdk_67_method_93_code (1 : Nat) (Option.some Jvm.ClassFile.FieldType.int)).before args0 about1 = true := code_word (m := ⟨12, 3⟩) (meth := k12m3) (c := k12c3) (by decide +kernel) rfl rfl rfl (by decide +kernel)
set_option maxRecDepth 65536 in
theorem w_c25 : (Jvm.Cond.code ({ cls := "java/lang/AbstractStringBuilder", name := "length", desc := "()I" } : Jvm.MethodName) jdk_68_method_6_code (1 : Nat) (Option.some Jvm.ClassFile.FieldType.int)).before args0 about1 = true := code_word (m := ⟨11, 2⟩) (meth := k11m2) (c := k11c2) (by decide +kernel) rfl rfl rfl (by decide +kernel)
set_option maxRecDepth 65536 in
theorem w_c26 : (Jvm.Cond.code ({ cls := "java/lang/AbstractStringBuilder", name := "isLatin1", desc := "()Z" } : Jvm.MethodName) jdk_68_method_68_code (1 : Nat) (Option.some Jvm.ClassFile.FieldType.boolean)).before args0 about1 = true := code_word (m := ⟨11, 7⟩) (meth := k11m7) (c := k11c7) (by decide +kernel) rfl rfl rfl (by decide +kernel)
set_option maxRecDepth 65536 in
theorem w_c27 : (Jvm.Cond.code ({ cls := "java/util/Arrays", name := "copyOfRange", desc := "([BII)[B" } : Jvm.MethodName) jdk_65_method_132_code (3 : Nat) (Option.some (Jvm.ClassFile.FieldType.array Jvm.ClassFile.FieldType.byte))).before args0 about1 = true := code_word (m := ⟨14, 3⟩) (meth := k14m3) (c := k14c3) (by decide +kernel) rfl rfl rfl (by decide +kernel)
set_option maxRecDepth 65536 in
theorem w_c28 : (Jvm.Cond.code ({ cls := "java/util/Arrays", name := "copyOfRangeByte", desc := "([BII)[B" } : Jvm.MethodName) jdk_65_method_133_code (5 : Nat) (Option.some (Jvm.ClassFile.FieldType.array Jvm.ClassFile.FieldType.byte))).before args0 about1 = true := code_word (m := ⟨14, 4⟩) (meth := k14m4) (c := k14c4) (by decide +kernel) rfl rfl rfl (by decide +kernel)
set_option maxRecDepth 65536 in
theorem w_c29 : (Jvm.Cond.code ({ cls := "java/util/Arrays", name := "checkLength", desc := "(II)V" } : Jvm.MethodName) jdk_65_method_131_code (2 : Nat) (Option.none : Option Jvm.ClassFile.FieldType)).before args0 about1 = true := code_word (m := ⟨14, 2⟩) (meth := k14m2) (c := k14c2) (by decide +kernel) rfl rfl rfl (by decide +kernel)
set_option maxRecDepth 65536 in
theorem w_c30 : (Jvm.Cond.code ({ cls := "java/lang/Math", name := "min", desc := "(II)I" } : Jvm.MethodName) jdk_29_method_69_code (2 : Nat) (Option.some Jvm.ClassFile.FieldType.int)).before args0 about1 = true := code_word (m := ⟨15, 2⟩) (meth := k15m2) (c := k15c2) (by decide +kernel) rfl rfl rfl (by decide +kernel)
set_option maxRecDepth 65536 in
theorem w_c31 : (Jvm.Cond.code ({ cls := "com/example/cardinal_tableau/cardinaltableau/model/Role", name := "isInverse", desc := "()Z" } : Jvm.MethodName) prog_21_method_7_code (1 : Nat) (Option.some Jvm.ClassFile.FieldType.boolean)).before args0 about1 = true := code_word (m := ⟨9, 2⟩) (meth := k9m2) (c := k9c2) (by decide +kernel) rfl rfl rfl (by decide +kernel)
set_option maxRecDepth 65536 in
theorem w_c32 : (Jvm.Cond.code ({ cls := "java/lang/AbstractStringBuilder", name := "newCapacity", desc := "(I)I" } : Jvm.MethodName) jdk_68_method_10_code (6 : Nat) (Option.some Jvm.ClassFile.FieldType.int)).before args0 about1 = true := code_word (m := ⟨11, 4⟩) (meth := k11m4) (c := k11c4) (by decide +kernel) rfl rfl rfl (by decide +kernel)
set_option maxRecDepth 65536 in
theorem w_c33 : (Jvm.Cond.code ({ cls := "jdk/internal/util/ArraysSupport", name := "newLength", desc := "(III)I" } : Jvm.MethodName) jdk_48_method_27_code (4 : Nat) (Option.some Jvm.ClassFile.FieldType.int)).before args0 about1 = true := code_word (m := ⟨16, 1⟩) (meth := k16m1) (c := k16c1) (by decide +kernel) rfl rfl rfl (by decide +kernel)
set_option maxRecDepth 65536 in
theorem w_c34 : (Jvm.Cond.code ({ cls := "java/lang/Math", name := "max", desc := "(II)I" } : Jvm.MethodName) jdk_29_method_65_code (2 : Nat) (Option.some Jvm.ClassFile.FieldType.int)).before args0 about1 = true := code_word (m := ⟨15, 1⟩) (meth := k15m1) (c := k15c1) (by decide +kernel) rfl rfl rfl (by decide +kernel)
set_option maxRecDepth 65536 in
theorem w_c35 : (Jvm.Cond.code ({ cls := "java/util/Arrays", name := "copyOf", desc := "([BI)[B" } : Jvm.MethodName) jdk_65_method_121_code (3 : Nat) (Option.some (Jvm.ClassFile.FieldType.array Jvm.ClassFile.FieldType.byte))).before args0 about1 = true := code_word (m := ⟨14, 1⟩) (meth := k14m1) (c := k14c1) (by decide +kernel) rfl rfl rfl (by decide +kernel)
set_option maxRecDepth 65536 in
theorem w_c36 : (Jvm.Cond.code ({ cls := "com/example/cardinal_tableau/cardinaltableau/model/RoleToStringPinLaw", name := "check", desc := "(Ljava/lang/String;ZICCC)Z" } : Jvm.MethodName) method_4_code (10 : Nat) (Option.some Jvm.ClassFile.FieldType.boolean)).before args0 about1 = true := code_word (m := ⟨1, 3⟩) (meth := k1m3) (c := k1c3) (by decide +kernel) rfl rfl rfl (by decide +kernel)
set_option maxRecDepth 65536 in
theorem w_c37 : (Jvm.Cond.code ({ cls := "java/lang/String", name := "charAt", desc := "(I)C" } : Jvm.MethodName) jdk_42_method_56_code (2 : Nat) (Option.some Jvm.ClassFile.FieldType.char)).before args0 about1 = true := code_word (m := ⟨7, 4⟩) (meth := k7m4) (c := k7c4) (by decide +kernel) rfl rfl rfl (by decide +kernel)
set_option maxRecDepth 65536 in
theorem w_c38 : (Jvm.Cond.code ({ cls := "java/lang/String", name := "isLatin1", desc := "()Z" } : Jvm.MethodName) jdk_42_method_154_code (1 : Nat) (Option.some Jvm.ClassFile.FieldType.boolean)).before args0 about1 = true := code_word (m := ⟨7, 11⟩) (meth := k7m11) (c := k7c11) (by decide +kernel) rfl rfl rfl (by decide +kernel)
set_option maxRecDepth 65536 in
theorem w_c39 : (Jvm.Cond.code ({ cls := "java/lang/StringLatin1", name := "charAt", desc := "([BI)C" } : Jvm.MethodName) jdk_43_method_2_code (2 : Nat) (Option.some Jvm.ClassFile.FieldType.char)).before args0 about1 = true := code_word (m := ⟨8, 1⟩) (meth := k8m1) (c := k8c1) (by decide +kernel) rfl rfl rfl (by decide +kernel)
set_option maxRecDepth 65536 in
theorem w_c40 : (Jvm.Cond.code ({ cls := "java/lang/String", name := "checkIndex", desc := "(II)V" } : Jvm.MethodName) jdk_42_method_155_code (2 : Nat) (Option.none : Option Jvm.ClassFile.FieldType)).before args0 about1 = true := code_word (m := ⟨7, 12⟩) (meth := k7m12) (c := k7c12) (by decide +kernel) rfl rfl rfl (by decide +kernel)
set_option maxRecDepth 65536 in
theorem w_c41 : (Jvm.Cond.code ({ cls := "jdk/internal/util/Preconditions", name := "checkIndex", desc := "(IILjava/util/function/BiFunction;)I" } : Jvm.MethodName) jdk_41_method_11_code (3 : Nat) (Option.some Jvm.ClassFile.FieldType.int)).before args0 about1 = true := code_word (m := ⟨17, 1⟩) (meth := k17m1) (c := k17c1) (by decide +kernel) rfl rfl rfl (by decide +kernel)
set_option maxRecDepth 65536 in
theorem w_c42 : (Jvm.Cond.code ({ cls := "com/example/cardinal_tableau/cardinaltableau/model/RoleToStringPinLaw", name := "prefix", desc := "(Ljava/lang/String;)Z" } : Jvm.MethodName) method_5_code (2 : Nat) (Option.some Jvm.ClassFile.FieldType.boolean)).before args0 about1 = true := code_word (m := ⟨1, 4⟩) (meth := k1m4) (c := k1c4) (by decide +kernel) rfl rfl rfl (by decide +kernel)
set_option maxRecDepth 65536 in
theorem w_c43 : (Jvm.Cond.code ({ cls := "java/lang/String", name := "<init>", desc := "([C)V" } : Jvm.MethodName) jdk_42_method_3_code (2 : Nat) (Option.none : Option Jvm.ClassFile.FieldType)).before args0 about1 = true := code_word (m := ⟨7, 1⟩) (meth := k7m1) (c := k7c1) (by decide +kernel) rfl rfl rfl (by decide +kernel)
set_option maxRecDepth 65536 in
theorem w_c44 : (Jvm.Cond.code ({ cls := "java/lang/String", name := "<init>", desc := "([CIILjava/lang/Void;)V" } : Jvm.MethodName) jdk_42_method_149_code (6 : Nat) (Option.none : Option Jvm.ClassFile.FieldType)).before args0 about1 = true := code_word (m := ⟨7, 7⟩) (meth := k7m7) (c := k7c7) (by decide +kernel) rfl rfl rfl (by decide +kernel)
set_option maxRecDepth 65536 in
theorem w_c45 : (Jvm.Cond.code ({ cls := "java/lang/StringUTF16", name := "compress", desc := "([CII)[B" } : Jvm.MethodName) jdk_52_method_16_code (6 : Nat) (Option.some (Jvm.ClassFile.FieldType.array Jvm.ClassFile.FieldType.byte))).before args0 about1 = true := code_word (m := ⟨18, 2⟩) (meth := k18m2) (c := k18c2) (by decide +kernel) rfl rfl rfl (by decide +kernel)
set_option maxRecDepth 65536 in
theorem w_c46 : (Jvm.Cond.code ({ cls := "java/lang/StringUTF16", name := "compress", desc := "([CI[BII)I" } : Jvm.MethodName) jdk_52_method_21_code (7 : Nat) (Option.some Jvm.ClassFile.FieldType.int)).before args0 about1 = true := code_word (m := ⟨18, 3⟩) (meth := k18m3) (c := k18c3) (by decide +kernel) rfl rfl rfl (by decide +kernel)
set_option maxRecDepth 65536 in
theorem w_c47 : (Jvm.Cond.code ({ cls := "java/lang/StringUTF16", name := "coderFromArrayLen", desc := "([BI)B" } : Jvm.MethodName) jdk_52_method_15_code (2 : Nat) (Option.some Jvm.ClassFile.FieldType.byte)).before args0 about1 = true := code_word (m := ⟨18, 1⟩) (meth := k18m1) (c := k18c1) (by decide +kernel) rfl rfl rfl (by decide +kernel)
def codes1 : List Jvm.Cond := [Jvm.Cond.code x code maxLocals ret, Jvm.Cond.code ({ cls := "com/example/cardinal_tableau/cardinaltableau/model/RoleToStringPinLaw", name := "mk", desc := "(ICCC)Ljava/lang/String;" } : Jvm.MethodName) method_3_code (4 : Nat) (Option.some (Jvm.ClassFile.FieldType.object "java/lang/String")), Jvm.Cond.code ({ cls := "java/lang/String", name := "valueOf", desc := "(C)Ljava/lang/String;" } : Jvm.MethodName) jdk_42_method_139_code (1 : Nat) (Option.some (Jvm.ClassFile.FieldType.object "java/lang/String")), Jvm.Cond.code ({ cls := "java/lang/StringLatin1", name := "canEncode", desc := "(C)Z" } : Jvm.MethodName) jdk_43_method_3_code (1 : Nat) (Option.some Jvm.ClassFile.FieldType.boolean), Jvm.Cond.code ({ cls := "java/lang/StringLatin1", name := "toBytes", desc := "(C)[B" } : Jvm.MethodName) jdk_43_method_46_code (1 : Nat) (Option.some (Jvm.ClassFile.FieldType.array Jvm.ClassFile.FieldType.byte)), Jvm.Cond.code ({ cls := "java/lang/String", name := "<init>", desc := "([BB)V" } : Jvm.MethodName) jdk_42_method_151_code (3 : Nat) (Option.none : Option Jvm.ClassFile.FieldType), Jvm.Cond.code ({ cls := "java/lang/Object", name := "<init>", desc := "()V" } : Jvm.MethodName) object_method_1_code (1 : Nat) (Option.none : Option Jvm.ClassFile.FieldType), Jvm.Cond.code ({ cls := "com/example/cardinal_tableau/cardinaltableau/model/Role", name := "<init>", desc := "(ILjava/lang/String;)V" } : Jvm.MethodName) prog_21_method_1_code (3 : Nat) (Option.none : Option Jvm.ClassFile.FieldType), Jvm.Cond.code ({ cls := "com/example/cardinal_tableau/cardinaltableau/model/Role", name := "setInverse", desc := "(Lcom/example/cardinal_tableau/cardinaltableau/model/Role;)V" } : Jvm.MethodName) prog_21_method_5_code (2 : Nat) (Option.none : Option Jvm.ClassFile.FieldType), Jvm.Cond.code ({ cls := "com/example/cardinal_tableau/cardinaltableau/model/Role", name := "toString", desc := "()Ljava/lang/String;" } : Jvm.MethodName) prog_21_method_8_code (2 : Nat) (Option.some (Jvm.ClassFile.FieldType.object "java/lang/String")), Jvm.Cond.code ({ cls := "java/lang/StringBuilder", name := "<init>", desc := "()V" } : Jvm.MethodName) jdk_67_method_1_code (1 : Nat) (Option.none : Option Jvm.ClassFile.FieldType), Jvm.Cond.code ({ cls := "java/lang/AbstractStringBuilder", name := "<init>", desc := "(I)V" } : Jvm.MethodName) jdk_68_method_2_code (2 : Nat) (Option.none : Option Jvm.ClassFile.FieldType), Jvm.Cond.code ({ cls := "java/lang/StringBuilder", name := "append", desc := "(Ljava/lang/String;)Ljava/lang/StringBuilder;" } : Jvm.MethodName) jdk_67_method_7_code (2 : Nat) (Option.some (Jvm.ClassFile.FieldType.object "java/lang/StringBuilder")), Jvm.Cond.code ({ cls := "java/lang/AbstractStringBuilder", name := "append", desc := "(Ljava/lang/String;)Ljava/lang/AbstractStringBuilder;" } : Jvm.MethodName) jdk_68_method_22_code (3 : Nat) (Option.some (Jvm.ClassFile.FieldType.object "java/lang/AbstractStringBuilder")), Jvm.Cond.code ({ cls := "java/lang/String", name := "length", desc := "()I" } : Jvm.MethodName) jdk_42_method_54_code (1 : Nat) (Option.some Jvm.ClassFile.FieldType.int), Jvm.Cond.code ({ cls := "java/lang/String", name := "coder", desc := "()B" } : Jvm.MethodName) jdk_42_method_152_code (1 : Nat) (Option.some Jvm.ClassFile.FieldType.byte), Jvm.Cond.code ({ cls := "java/lang/AbstractStringBuilder", name := "ensureCapacityInternal", desc := "(I)V" } : Jvm.MethodName) jdk_68_method_9_code (3 : Nat) (Option.none : Option Jvm.ClassFile.FieldType), Jvm.Cond.code ({ cls := "java/lang/AbstractStringBuilder", name := "putStringAt", desc := "(ILjava/lang/String;)V" } : Jvm.MethodName) jdk_68_method_73_code (3 : Nat) (Option.none : Option Jvm.ClassFile.FieldType), Jvm.Cond.code ({ cls := "java/lang/AbstractStringBuilder", name := "inflateIfNeededFor", desc := "(Ljava/lang/String;)V" } : Jvm.MethodName) jdk_68_method_71_code (2 : Nat) (Option.none : Option Jvm.ClassFile.FieldType), Jvm.Cond.code ({ cls := "java/lang/String", name := "getBytes", desc := "([BIB)V" } : Jvm.MethodName) jdk_42_method_147_code (4 : Nat) (Option.none : Option Jvm.ClassFile.FieldType), Jvm.Cond.code ({ cls := "java/lang/StringBuilder", name := "toString", desc := "()Ljava/lang/String;" } : Jvm.MethodName) jdk_67_method_42_code (1 : Nat) (Option.some (Jvm.ClassFile.FieldType.object "java/lang/String")), Jvm.Cond.code ({ cls := "java/lang/String", name := "<init>", desc := "(Ljava/lang/StringBuilder;)V" } : Jvm.MethodName) jdk_42_method_53_code (2 : Nat) (Option.none : Option Jvm.ClassFile.FieldType), Jvm.Cond.code ({ cls := "java/lang/String", name := "<init>", desc := "(Ljava/lang/AbstractStringBuilder;Ljava/lang/Void;)V" } : Jvm.MethodName) jdk_42_method_150_code (5 : Nat) (Option.none : Option Jvm.ClassFile.FieldType), Jvm.Cond.code ({ cls := "java/lang/AbstractStringBuilder", name := "getValue", desc := "()[B" } : Jvm.MethodName) jdk_68_method_64_code (1 : Nat) (Option.some (Jvm.ClassFile.FieldType.array Jvm.ClassFile.FieldType.byte)), Jvm.Cond.code ({ cls := "java/lang/StringBuilder", name := "length", desc := "()I" } : Jvm.MethodName) jdk_67_method_93_code (1 : Nat) (Option.some Jvm.ClassFile.FieldType.int), Jvm.Cond.code ({ cls := "java/lang/AbstractStringBuilder", name := "length", desc := "()I" } : Jvm.MethodName) jdk_68_method_6_code (1 : Nat) (Option.some Jvm.ClassFile.FieldType.int), Jvm.Cond.code ({ cls := "java/lang/AbstractStringBuilder", name := "isLatin1", desc := "()Z" } : Jvm.MethodName) jdk_68_method_68_code (1 : Nat) (Option.some Jvm.ClassFile.FieldType.boolean), Jvm.Cond.code ({ cls := "java/util/Arrays", name := "copyOfRange", desc := "([BII)[B" } : Jvm.MethodName) jdk_65_method_132_code (3 : Nat) (Option.some (Jvm.ClassFile.FieldType.array Jvm.ClassFile.FieldType.byte)), Jvm.Cond.code ({ cls := "java/util/Arrays", name := "copyOfRangeByte", desc := "([BII)[B" } : Jvm.MethodName) jdk_65_method_133_code (5 : Nat) (Option.some (Jvm.ClassFile.FieldType.array Jvm.ClassFile.FieldType.byte)), Jvm.Cond.code ({ cls := "java/util/Arrays", name := "checkLength", desc := "(II)V" } : Jvm.MethodName) jdk_65_method_131_code (2 : Nat) (Option.none : Option Jvm.ClassFile.FieldType), Jvm.Cond.code ({ cls := "java/lang/Math", name := "min", desc := "(II)I" } : Jvm.MethodName) jdk_29_method_69_code (2 : Nat) (Option.some Jvm.ClassFile.FieldType.int), Jvm.Cond.code ({ cls := "com/example/cardinal_tableau/cardinaltableau/model/Role", name := "isInverse", desc := "()Z" } : Jvm.MethodName) prog_21_method_7_code (1 : Nat) (Option.some Jvm.ClassFile.FieldType.boolean), Jvm.Cond.code ({ cls := "java/lang/AbstractStringBuilder", name := "newCapacity", desc := "(I)I" } : Jvm.MethodName) jdk_68_method_10_code (6 : Nat) (Option.some Jvm.ClassFile.FieldType.int), Jvm.Cond.code ({ cls := "jdk/internal/util/ArraysSupport", name := "newLength", desc := "(III)I" } : Jvm.MethodName) jdk_48_method_27_code (4 : Nat) (Option.some Jvm.ClassFile.FieldType.int), Jvm.Cond.code ({ cls := "java/lang/Math", name := "max", desc := "(II)I" } : Jvm.MethodName) jdk_29_method_65_code (2 : Nat) (Option.some Jvm.ClassFile.FieldType.int), Jvm.Cond.code ({ cls := "java/util/Arrays", name := "copyOf", desc := "([BI)[B" } : Jvm.MethodName) jdk_65_method_121_code (3 : Nat) (Option.some (Jvm.ClassFile.FieldType.array Jvm.ClassFile.FieldType.byte)), Jvm.Cond.code ({ cls := "com/example/cardinal_tableau/cardinaltableau/model/RoleToStringPinLaw", name := "check", desc := "(Ljava/lang/String;ZICCC)Z" } : Jvm.MethodName) method_4_code (10 : Nat) (Option.some Jvm.ClassFile.FieldType.boolean), Jvm.Cond.code ({ cls := "java/lang/String", name := "charAt", desc := "(I)C" } : Jvm.MethodName) jdk_42_method_56_code (2 : Nat) (Option.some Jvm.ClassFile.FieldType.char), Jvm.Cond.code ({ cls := "java/lang/String", name := "isLatin1", desc := "()Z" } : Jvm.MethodName) jdk_42_method_154_code (1 : Nat) (Option.some Jvm.ClassFile.FieldType.boolean), Jvm.Cond.code ({ cls := "java/lang/StringLatin1", name := "charAt", desc := "([BI)C" } : Jvm.MethodName) jdk_43_method_2_code (2 : Nat) (Option.some Jvm.ClassFile.FieldType.char), Jvm.Cond.code ({ cls := "java/lang/String", name := "checkIndex", desc := "(II)V" } : Jvm.MethodName) jdk_42_method_155_code (2 : Nat) (Option.none : Option Jvm.ClassFile.FieldType), Jvm.Cond.code ({ cls := "jdk/internal/util/Preconditions", name := "checkIndex", desc := "(IILjava/util/function/BiFunction;)I" } : Jvm.MethodName) jdk_41_method_11_code (3 : Nat) (Option.some Jvm.ClassFile.FieldType.int), Jvm.Cond.code ({ cls := "com/example/cardinal_tableau/cardinaltableau/model/RoleToStringPinLaw", name := "prefix", desc := "(Ljava/lang/String;)Z" } : Jvm.MethodName) method_5_code (2 : Nat) (Option.some Jvm.ClassFile.FieldType.boolean), Jvm.Cond.code ({ cls := "java/lang/String", name := "<init>", desc := "([C)V" } : Jvm.MethodName) jdk_42_method_3_code (2 : Nat) (Option.none : Option Jvm.ClassFile.FieldType), Jvm.Cond.code ({ cls := "java/lang/String", name := "<init>", desc := "([CIILjava/lang/Void;)V" } : Jvm.MethodName) jdk_42_method_149_code (6 : Nat) (Option.none : Option Jvm.ClassFile.FieldType), Jvm.Cond.code ({ cls := "java/lang/StringUTF16", name := "compress", desc := "([CII)[B" } : Jvm.MethodName) jdk_52_method_16_code (6 : Nat) (Option.some (Jvm.ClassFile.FieldType.array Jvm.ClassFile.FieldType.byte)), Jvm.Cond.code ({ cls := "java/lang/StringUTF16", name := "compress", desc := "([CI[BII)I" } : Jvm.MethodName) jdk_52_method_21_code (7 : Nat) (Option.some Jvm.ClassFile.FieldType.int), Jvm.Cond.code ({ cls := "java/lang/StringUTF16", name := "coderFromArrayLen", desc := "([BI)B" } : Jvm.MethodName) jdk_52_method_15_code (2 : Nat) (Option.some Jvm.ClassFile.FieldType.byte)]
set_option maxRecDepth 65536 in
theorem codes_eq : words1.filter isCode = codes1 := rfl
theorem w_codes : ∀ c ∈ words1.filter isCode, c.before args0 about1 = true := by
  rw [codes_eq]
  intro c hc
  simp only [codes1, List.mem_cons, List.not_mem_nil, or_false] at hc
  rcases hc with rfl | rfl | rfl | rfl | rfl | rfl | rfl | rfl | rfl | rfl | rfl | rfl | rfl | rfl | rfl | rfl | rfl | rfl | rfl | rfl | rfl | rfl | rfl | rfl | rfl | rfl | rfl | rfl | rfl | rfl | rfl | rfl | rfl | rfl | rfl | rfl | rfl | rfl | rfl | rfl | rfl | rfl | rfl | rfl | rfl | rfl | rfl | rfl
  · exact w_c0
  · exact w_c1
  · exact w_c2
  · exact w_c3
  · exact w_c4
  · exact w_c5
  · exact w_c6
  · exact w_c7
  · exact w_c8
  · exact w_c9
  · exact w_c10
  · exact w_c11
  · exact w_c12
  · exact w_c13
  · exact w_c14
  · exact w_c15
  · exact w_c16
  · exact w_c17
  · exact w_c18
  · exact w_c19
  · exact w_c20
  · exact w_c21
  · exact w_c22
  · exact w_c23
  · exact w_c24
  · exact w_c25
  · exact w_c26
  · exact w_c27
  · exact w_c28
  · exact w_c29
  · exact w_c30
  · exact w_c31
  · exact w_c32
  · exact w_c33
  · exact w_c34
  · exact w_c35
  · exact w_c36
  · exact w_c37
  · exact w_c38
  · exact w_c39
  · exact w_c40
  · exact w_c41
  · exact w_c42
  · exact w_c43
  · exact w_c44
  · exact w_c45
  · exact w_c46
  · exact w_c47
set_option maxRecDepth 65536 in
theorem w_t1 : (words1.take 24).all (fun c => isCode c || c.before args0 about1) = true := by decide +kernel
set_option maxRecDepth 65536 in
theorem w_t2 : ((words1.drop 24).take 24).all (fun c => isCode c || c.before args0 about1) = true := by decide +kernel
set_option maxRecDepth 65536 in
theorem w_t3 : (((words1.drop 24).drop 24).take 24).all (fun c => isCode c || c.before args0 about1) = true := by decide +kernel
set_option maxRecDepth 65536 in
theorem w_t4 : ((((words1.drop 24).drop 24).drop 24).take 24).all (fun c => isCode c || c.before args0 about1) = true := by decide +kernel
set_option maxRecDepth 65536 in
theorem w_t5 : (((((words1.drop 24).drop 24).drop 24).drop 24).take 24).all (fun c => isCode c || c.before args0 about1) = true := by decide +kernel
set_option maxRecDepth 65536 in
theorem w_t6 : ((((((words1.drop 24).drop 24).drop 24).drop 24).drop 24).take 24).all (fun c => isCode c || c.before args0 about1) = true := by decide +kernel
set_option maxRecDepth 65536 in
theorem w_t7 : (((((((words1.drop 24).drop 24).drop 24).drop 24).drop 24).drop 24).take 24).all (fun c => isCode c || c.before args0 about1) = true := by decide +kernel
set_option maxRecDepth 65536 in
theorem w_t8 : ((((((((words1.drop 24).drop 24).drop 24).drop 24).drop 24).drop 24).drop 24).take 24).all (fun c => isCode c || c.before args0 about1) = true := by decide +kernel
set_option maxRecDepth 65536 in
theorem w_t9 : (((((((((words1.drop 24).drop 24).drop 24).drop 24).drop 24).drop 24).drop 24).drop 24).take 24).all (fun c => isCode c || c.before args0 about1) = true := by decide +kernel
set_option maxRecDepth 65536 in
theorem w_t10 : (((((((((words1.drop 24).drop 24).drop 24).drop 24).drop 24).drop 24).drop 24).drop 24).drop 24).all (fun c => isCode c || c.before args0 about1) = true := by decide +kernel
theorem w_tables : (allAtoms (Jvm.Cond.code x code maxLocals ret :: tables_1)).before args0 about1 = true := by
  rw [allAtoms_all]
  show words1.all (fun c => c.before args0 about1) = true
  refine all_split ?_ w_codes
  rw [← List.take_append_drop 24 words1, List.all_append, w_t1, ← List.take_append_drop 24 (words1.drop 24), List.all_append, w_t2, ← List.take_append_drop 24 ((words1.drop 24).drop 24), List.all_append, w_t3, ← List.take_append_drop 24 (((words1.drop 24).drop 24).drop 24), List.all_append, w_t4, ← List.take_append_drop 24 ((((words1.drop 24).drop 24).drop 24).drop 24), List.all_append, w_t5, ← List.take_append_drop 24 (((((words1.drop 24).drop 24).drop 24).drop 24).drop 24), List.all_append, w_t6, ← List.take_append_drop 24 ((((((words1.drop 24).drop 24).drop 24).drop 24).drop 24).drop 24), List.all_append, w_t7, ← List.take_append_drop 24 (((((((words1.drop 24).drop 24).drop 24).drop 24).drop 24).drop 24).drop 24), List.all_append, w_t8, ← List.take_append_drop 24 ((((((((words1.drop 24).drop 24).drop 24).drop 24).drop 24).drop 24).drop 24).drop 24), List.all_append, w_t9, w_t10]
  rfl
set_option maxRecDepth 65536 in
theorem w_rest : rest_1_c.before args0 about1 = true := by decide +kernel
set_option maxRecDepth 65536 in
theorem w_case : (Jvm.Cond.and given_1 narrow_1).before args0 about1 = true := by decide +kernel
set_option maxRecDepth 65536 in
theorem w_consts : constsHeld consts_1 about1 := Jvm.Lit.constsHeldB_iff.mp (by decide +kernel)
theorem w_applies : (headSpec (Jvm.Cond.code x code maxLocals ret :: tables_1) room_1).applies x e0.platform about1 = true :=
  (Spec.applies_iff w_frames).mpr ⟨w_running, w_runnable, w_alone, w_named, w_hears, w_ripe, w_room, w_tables⟩
theorem atStart : AtStart classFile x code maxLocals ret World_1 tables_1 room_1 Calls_1 rest_1 Pre_1 launch0 p0 e0 about1 theMethod args0 below0 :=
  ⟨lists_1, trivial, launch0.admits_env _ _ _, launch0.least_env, fairChoices_fair.cas, fairChoices_fair.clock, w_frames, w_args, w_heap, w_applies, ⟨w_consts, trivial⟩, w_rest, w_case⟩
end start1
theorem witness_1 : WitnessClaimed_1 := ⟨start1.p0, start1.e0, start1.about1, start1.theMethod, start1.args0, start1.below0, start1.atStart⟩
end Jvm.Pilot.@@N@@
